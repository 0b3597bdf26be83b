import PyProof.Rows.All
import Wide.All
import OpenK.AllK
import Wide.FinOn
import Lean
import PySem.Challenge.RW_pw0020_02
open PySem PySem.W PyProof.Rows
set_option Elab.async false
set_option linter.all false
set_option maxRecDepth 100000
set_option maxHeartbeats 4000000
set_option genSizeOf false
set_option tactic.hygienic false
set_option genInjectivity false
namespace Mine

-- H01
section

noncomputable abbrev pw : Program := PySem.Challenge.pw_pw0020_02
noncomputable abbrev Def3 := Arguments × List Stmt × Scope
noncomputable def def3 : List Stmt → Def3
  | .FunctionDef _ a b _ _ _ sc _ _ _ :: _ => (a, b, sc)
  | _ => default
noncomputable def clsB : List Stmt → List Stmt
  | .ClassDef _ _ _ b _ _ _ _ _ _ _ :: _ => b
  | _ => []
-- the i-th statement of the top, a def
noncomputable def fI (i : Nat) : Def3 := def3 (pw.main.body.drop i)
-- the j-th statement of a class
noncomputable def mI (i j : Nat) : Def3 := def3 ((clsB (pw.main.body.drop i)).drop j)

noncomputable def fdat (nm qual : Str) (p : Def3) (df pm : Value) (c : Addr) : FuncData :=
  { name := nm, qualname := qual, params := p.1, body := .stmts p.2.1, scope := p.2.2, globals := mainGlobals, closure := [], defaults := df, kwdefaults := .none, pyModule := pm, code := .ref c, builtins := builtinsNs }
noncomputable def fobj (nm qual : Str) (p : Def3) (df pm : Value) (c : Addr) : Obj := { cls := .type "function", data := .func (fdat nm qual p df pm c) }

noncomputable def vOs : Value := .str "os.path" 196
noncomputable def vTr : Value := .str "cpy313.trace" 252
noncomputable def vTn : Value := .str "cpy313.tabnanny" 294
noncomputable def vLw : Value := .str "law_pw0020_02" 396

noncomputable def ent (P : Params) (x : Str) (t : Tok) (v : Value) : DictEntry := { hash := PyData.keyHash P x, key := .str x t, val := v }

noncomputable def KC (P : Params) : Frag := [
  (69, fobj "__init__" "_Ignore.__init__" (mI 9 0) (.ref 64) vTr 68),
  (76, fobj "names" "_Ignore.names" (mI 9 1) .none vTr 75),
  (78, { cls := .type "dict", data := .dict #[ent P "__module__" 261 vTr, ent P "__firstlineno__" 265 (.int 69 264), ent P "__init__" 271 (.ref 69), ent P "names" 282 (.ref 76), ent P "__static_attributes__" 286 (.ref 77), ent P "__dict__" 288 (.ref 80), ent P "__weakref__" 290 (.ref 81), ent P "__doc__" 291 .none] 4 }),
  (79, { cls := .type "type", data := .cls { name := "_Ignore", bases := [.type "object"], mro := [.ref 79, .type "object"], ns := 78, qualname := "_Ignore" }, slots := #[none, none, some (.str "_Ignore" 254), some (.str "_Ignore" 262), some (.builtin "object.__new__"), some (.bool true)] }),
  (100, fobj "__init__" "Whitespace.__init__" (mI 11 1) .none vTn 99),
  (107, fobj "longest_run_of_spaces" "Whitespace.longest_run_of_spaces" (mI 11 2) .none vTn 106),
  (114, fobj "indent_level" "Whitespace.indent_level" (mI 11 3) .none vTn 113),
  (135, fobj "less" "Whitespace.less" (mI 11 6) .none vTn 134),
  (144, { cls := .type "dict", data := .dict #[ent P "__module__" 303 vTn, ent P "__firstlineno__" 307 (.int 96 306), ent P "S" 311 (.str " " 309), ent P "T" 312 (.str "\t" 310), ent P "__init__" 327 (.ref 100), ent P "longest_run_of_spaces" 336 (.ref 107), ent P "indent_level" 348 (.ref 114), ent P "equal" 356 (.ref 121),
    ent P "not_equal_witness" 364 (.ref 128), ent P "less" 374 (.ref 135), ent P "not_less_witness" 382 (.ref 142), ent P "__static_attributes__" 388 (.ref 143), ent P "__dict__" 390 (.ref 146), ent P "__weakref__" 392 (.ref 147), ent P "__doc__" 393 .none] 4 }),
  (145, { cls := .type "type", data := .cls { name := "Whitespace", bases := [.type "object"], mro := [.ref 145, .type "object"], ns := 144, qualname := "Whitespace" }, slots := #[none, none, some (.str "Whitespace" 296), some (.str "Whitespace" 304), some (.builtin "object.__new__"), some (.bool true)] }),
  (64, { cls := .type "tuple", data := .seq #[.none, .none] }),
  (2, { cls := .none, data := .dict #[] })]

noncomputable def KF : Frag := [
  (28, fobj "_kind" "_kind" (fI 3) .none vOs 27),
  (35, fobj "_c_path" "_c_path" (fI 4) .none vOs 34),
  (42, fobj "_splitroot" "_splitroot" (fI 5) .none vOs 41),
  (49, fobj "_normpath" "_normpath" (fI 6) .none vOs 48),
  (56, fobj "normpath" "normpath" (fI 7) .none vOs 55),
  (156, fobj "_law_drawn" "_law_drawn" (fI 13) .none vLw 155),
  (161, fobj "_law_blocks" "_law_blocks" (fI 14) .none vLw 160),
  (166, fobj "_law_answers" "_law_answers" (fI 15) .none vLw 165),
  (171, fobj "_law_partners" "_law_partners" (fI 16) .none vLw 170),
  (176, fobj "_law_anew" "_law_anew" (fI 17) .none vLw 175),
  (183, fobj "_law_counts" "_law_counts" (fI 18) .none vLw 182),
  (190, fobj "_law_uneven" "_law_uneven" (fI 19) .none vLw 189),
  (195, fobj "_law_shared" "_law_shared" (fI 20) .none vLw 194),
  (202, fobj "_law_column" "_law_column" (fI 21) .none vLw 201),
  (207, fobj "_law_outline" "_law_outline" (fI 22) .none vLw 206),
  (212, fobj "law" "law" (fI 23) .none vLw 211)]

noncomputable def KK (P : Params) : Frag := KF ++ KC P
noncomputable def addrs : List Addr := [28, 35, 42, 49, 56, 156, 161, 166, 171, 176, 183, 190, 195, 202, 207, 212, 69, 76, 78, 79, 100, 107, 114, 135, 144, 145, 64, 2]

noncomputable def codes : List (Addr × Str) := [(27, "_kind"), (34, "_c_path"), (41, "_splitroot"), (48, "_normpath"), (55, "normpath"), (155, "_law_drawn"), (160, "_law_blocks"), (165, "_law_answers"), (170, "_law_partners"), (175, "_law_anew"), (182, "_law_counts"), (189, "_law_uneven"),
  (194, "_law_shared"), (201, "_law_column"), (206, "_law_outline"), (211, "law"), (68, "_Ignore.__init__"), (75, "_Ignore.names"), (99, "Whitespace.__init__"), (106, "Whitespace.longest_run_of_spaces"), (113, "Whitespace.indent_level"), (134, "Whitespace.less")]

noncomputable def dataFields : Data → Option (Array Value)
  | .fields vs => some vs
  | _ => none
noncomputable def valStr : Value → Option Str
  | .str q _ => some q
  | _ => none
noncomputable def codeName (o : Option Obj) : Option Str := o.bind fun o => (dataFields o.data).bind fun vs => (vs[1]?).bind valStr
theorem not_some {α : Type _} {a : α} {P : Prop} (h : none = some a) : P := nomatch h
theorem dataFields_go {d : Data} {vs : Array Value} (e : dataFields d = some vs) : d = .fields vs := by
  cases d with
  | fields us => exact congrArg _ (Option.some.inj e)
  | _ => exact not_some e
theorem valStr_go {v : Value} {q : Str} (e : valStr v = some q) : ∃ t, v = .str q t := by
  cases v with
  | str x t => exact ⟨t, congrArg (Value.str · t) (Option.some.inj e)⟩
  | _ => exact not_some e
theorem codeRec_ofName {h : Heap} {c : Addr} {q : Str} (e : codeName (h.get? c) = some q) : h.CodeRec (.ref c) q := by
  obtain ⟨o, ho, e⟩ := Option.bind_eq_some_iff.mp e
  obtain ⟨vs, hv, e⟩ := Option.bind_eq_some_iff.mp e
  obtain ⟨w, hw, e⟩ := Option.bind_eq_some_iff.mp e
  obtain ⟨t, rfl⟩ := valStr_go e
  obtain ⟨a, b, d, sl⟩ := o
  obtain rfl := dataFields_go hv
  exact ⟨c, _, vs, t, rfl, ho, rfl, hw⟩

-- the globals that the text reads
noncomputable def gnames : List (Str × Option Value) := [("_kind", some (.ref 28)), ("_c_path", some (.ref 35)), ("_splitroot", some (.ref 42)), ("_normpath", some (.ref 49)), ("normpath", some (.ref 56)), ("_law_drawn", some (.ref 156)), ("_law_blocks", some (.ref 161)), ("_law_answers", some (.ref 166)),
  ("_law_partners", some (.ref 171)), ("_law_anew", some (.ref 176)), ("_law_counts", some (.ref 183)), ("_law_uneven", some (.ref 190)), ("_law_shared", some (.ref 195)), ("_law_column", some (.ref 202)), ("_law_outline", some (.ref 207)), ("law", some (.ref 212)), ("_Ignore", some (.ref 79)), ("Whitespace", some (.ref 145)),
  ("len", none), ("max", none), ("min", none), ("sum", none), ("sorted", none), ("range", none), ("list", none), ("set", none), ("tuple", none), ("zip", none), ("type", none), ("str", none), ("sep", some (.str "/" 194))]

noncomputable def HH : Hook where
  α := List (Option Obj) × List (Option Str) × Bool
  obs s := (addrs.map s.heap.get?, codes.map fun c => codeName (s.heap.get? c.1), (s.heap.get? sysModules).isSome)
  val w := ((KK w.params).map fun p => some p.2, codes.map fun c => some c.2, true)
  says w h := (KK w.params).In h ∧ (∀ c ∈ codes, h.CodeRec (.ref c.1) c.2) ∧ ∃ o, h.get? sysModules = some o
  of := fun w s x => ⟨InK.of (K := KK) (fun _ => rfl) w s (Prod.mk.inj x).1, fun c hc => codeRec_ofName (List.map_inj_left.mp (Prod.mk.inj (Prod.mk.inj x).2).1 c hc), Option.isSome_iff_exists.mp (Prod.mk.inj (Prod.mk.inj x).2).2⟩
  keeps := fun w h h' x k => ⟨InK.keeps w h h' x.1 k, fun c hc => (x.2.1 c hc).keeps k, let ⟨o, e⟩ := x.2.2; ⟨o, k _ _ e⟩⟩

noncomputable def namesAre (mg : Str → Option Value) : Prop := ∀ x ∈ gnames, mg x.1 = x.2
noncomputable def Xt (s : Shared) : Bool := gnames.all fun x => s.heap.nsMap mainGlobals x.1 == x.2

noncomputable def vw : Program := { pw with main := { pw.main with body := pw.main.body.drop 23 } }
noncomputable def loose : List Str := ["_wall", "sep", "_kind", "_c_path", "_splitroot", "_normpath", "normpath", "_Ignore", "Whitespace", "_law_drawn", "_law_blocks", "_law_answers", "_law_partners", "_law_anew", "_law_counts", "_law_uneven", "_law_shared", "_law_column", "_law_outline"]

set_option maxHeartbeats 0 in
theorem left : LeftO pw vw loose Xt HH.obs HH.val 2726 := LeftO.of_split "special-get-raises" fun w => by kernel_rfl
end

-- H02
section
noncomputable abbrev rw0 : OpenLaw := PySem.Challenge.rw_pw0020_02

theorem said : rw0.wellSaid = true := by decide +kernel
theorem ok3 : (chainsOk vw && opensWell rw0.row.prog && (frees rw0.row.toRowW && rw0.row.within.isEmpty)) = true := by decide +kernel
noncomputable def lawD : DefRec := match vw.main.body with
  | .FunctionDef nm a b _ _ _ sc _ _ pos :: _ => ⟨nm, a, b, sc, pos⟩
  | _ => ⟨"", default, [], default, default⟩
theorem hdef0 : defOf vw rw0.row.name = some (lawD, []) := by kernel_rfl
theorem hp0 : rw0.row.prog.theDef rw0.row.name = some (lawD.params, lawD.body, lawD.scope) := by kernel_rfl
theorem hk0 : kwWritten? lawD.params.kwonlyargs lawD.params.kw_defaults = some [] := by kernel_rfl
theorem bare0 : rw0.row.prog.bare := ⟨rfl, rfl, rfl, rfl, rfl, by decide +kernel⟩
theorem prom0 : rw0.row.toRowW.promised := Exists.intro [WData.list []] ⟨by decide +kernel, by decide +kernel⟩

theorem head (call : WalkO vw loose (fun mg _ => namesAre mg) HH.says rw0.row.toRowW lawD [] fun f vs => PySem.call f vs) : rw0.Holds :=
  holds_law said fun said' => holds_open (N := 2726) (Xt := Xt) (Yf := HH.obs) (Ya := HH.val) (YP := HH.says) left HH.of HH.keeps
    (fun s e => fun x hx => by
      have := List.all_eq_true.mp e x hx
      exact beq_iff_eq.mp this) (fun _ _ _ x _ => x) hdef0 hp0 hk0 (fun s _ => recFacts_of rfl) rfl said' ok3 bare0 prom0 call
end

-- M01
section

-- taking apart with the goal told once
theorem g_a  {p0 : Prop} {p1 : Prop} {P : Prop} (h : p0 ∧ p1) (k : p0 → p1 → P) : P := k (And.left h) (And.right h)
theorem g_e {α0 : Sort _} {p0 : α0 → Prop} {P : Prop} (h : ∃ x0, p0 x0) (k : ∀ x0 : α0, p0 x0 → P) : P := Exists.elim h fun y0 h1 => k y0 h1
theorem g_aa  {p0 : Prop} {p1 : Prop} {p2 : Prop} {P : Prop} (h : p0 ∧ p1 ∧ p2) (k : p0 → p1 → p2 → P) : P := k (And.left h) (And.left (And.right h)) (And.right (And.right h))
theorem g_ae {α0 : Sort _} {p0 : Prop} {p1 : α0 → Prop} {P : Prop} (h : p0 ∧ ∃ x0, p1 x0) (k : p0 → ∀ x0 : α0, p1 x0 → P) : P := Exists.elim (And.right h) fun y1 h1 => k (And.left h) y1 h1
theorem g_ea {α0 : Sort _} {p0 : α0 → Prop} {p1 : α0 → Prop} {P : Prop} (h : ∃ x0, p0 x0 ∧ p1 x0) (k : ∀ x0 : α0, p0 x0 → p1 x0 → P) : P := Exists.elim h fun y0 h1 => k y0 (And.left h1) (And.right h1)
theorem g_ee {α0 : Sort _} {α1 : Sort _} {p0 : α0 → α1 → Prop} {P : Prop} (h : ∃ x0, ∃ x1, p0 x0 x1) (k : ∀ x0 : α0, ∀ x1 : α1, p0 x0 x1 → P) : P := Exists.elim h fun y0 h1 => Exists.elim h1 fun y1 h2 => k y0 y1 h2
theorem g_aaa  {p0 : Prop} {p1 : Prop} {p2 : Prop} {p3 : Prop} {P : Prop} (h : p0 ∧ p1 ∧ p2 ∧ p3) (k : p0 → p1 → p2 → p3 → P) : P := k (And.left h) (And.left (And.right h)) (And.left (And.right (And.right h))) (And.right (And.right (And.right h)))
theorem g_aea {α0 : Sort _} {p0 : Prop} {p1 : α0 → Prop} {p2 : α0 → Prop} {P : Prop} (h : p0 ∧ ∃ x0, p1 x0 ∧ p2 x0) (k : p0 → ∀ x0 : α0, p1 x0 → p2 x0 → P) : P := Exists.elim (And.right h) fun y1 h1 => k (And.left h) y1 (And.left h1) (And.right h1)
theorem g_eaa {α0 : Sort _} {p0 : α0 → Prop} {p1 : α0 → Prop} {p2 : α0 → Prop} {P : Prop} (h : ∃ x0, p0 x0 ∧ p1 x0 ∧ p2 x0) (k : ∀ x0 : α0, p0 x0 → p1 x0 → p2 x0 → P) : P := Exists.elim h fun y0 h1 => k y0 (And.left h1) (And.left (And.right h1)) (And.right (And.right h1))
theorem g_eae {α0 : Sort _} {α1 : Sort _} {p0 : α0 → Prop} {p1 : α0 → α1 → Prop} {P : Prop} (h : ∃ x0, p0 x0 ∧ ∃ x1, p1 x0 x1) (k : ∀ x0 : α0, p0 x0 → ∀ x1 : α1, p1 x0 x1 → P) : P := Exists.elim h fun y0 h1 => Exists.elim (And.right h1) fun y2 h2 => k y0 (And.left h1) y2 h2
theorem g_eea {α0 : Sort _} {α1 : Sort _} {p0 : α0 → α1 → Prop} {p1 : α0 → α1 → Prop} {P : Prop} (h : ∃ x0, ∃ x1, p0 x0 x1 ∧ p1 x0 x1) (k : ∀ x0 : α0, ∀ x1 : α1, p0 x0 x1 → p1 x0 x1 → P) : P := Exists.elim h fun y0 h1 => Exists.elim h1 fun y1 h2 => k y0 y1 (And.left h2) (And.right h2)
theorem g_eee {α0 : Sort _} {α1 : Sort _} {α2 : Sort _} {p0 : α0 → α1 → α2 → Prop} {P : Prop} (h : ∃ x0, ∃ x1, ∃ x2, p0 x0 x1 x2) (k : ∀ x0 : α0, ∀ x1 : α1, ∀ x2 : α2, p0 x0 x1 x2 → P) : P := Exists.elim h fun y0 h1 => Exists.elim h1 fun y1 h2 => Exists.elim h2 fun y2 h3 => k y0 y1 y2 h3
theorem g_aaaa  {p0 : Prop} {p1 : Prop} {p2 : Prop} {p3 : Prop} {p4 : Prop} {P : Prop} (h : p0 ∧ p1 ∧ p2 ∧ p3 ∧ p4) (k : p0 → p1 → p2 → p3 → p4 → P) : P := k (And.left h) (And.left (And.right h)) (And.left (And.right (And.right h))) (And.left (And.right (And.right (And.right h)))) (And.right (And.right (And.right (And.right h))))
theorem g_aeaa {α0 : Sort _} {p0 : Prop} {p1 : α0 → Prop} {p2 : α0 → Prop} {p3 : α0 → Prop} {P : Prop} (h : p0 ∧ ∃ x0, p1 x0 ∧ p2 x0 ∧ p3 x0) (k : p0 → ∀ x0 : α0, p1 x0 → p2 x0 → p3 x0 → P) : P := Exists.elim (And.right h) fun y1 h1 => k (And.left h) y1 (And.left h1) (And.left (And.right h1)) (And.right (And.right h1))
theorem g_aeea {α0 : Sort _} {α1 : Sort _} {p0 : Prop} {p1 : α0 → α1 → Prop} {p2 : α0 → α1 → Prop} {P : Prop} (h : p0 ∧ ∃ x0, ∃ x1, p1 x0 x1 ∧ p2 x0 x1) (k : p0 → ∀ x0 : α0, ∀ x1 : α1, p1 x0 x1 → p2 x0 x1 → P) : P := Exists.elim (And.right h) fun y1 h1 => Exists.elim h1 fun y2 h2 => k (And.left h) y1 y2 (And.left h2) (And.right h2)
theorem g_eaaa {α0 : Sort _} {p0 : α0 → Prop} {p1 : α0 → Prop} {p2 : α0 → Prop} {p3 : α0 → Prop} {P : Prop} (h : ∃ x0, p0 x0 ∧ p1 x0 ∧ p2 x0 ∧ p3 x0) (k : ∀ x0 : α0, p0 x0 → p1 x0 → p2 x0 → p3 x0 → P) : P := Exists.elim h fun y0 h1 => k y0 (And.left h1) (And.left (And.right h1)) (And.left (And.right (And.right h1))) (And.right (And.right (And.right h1)))
theorem g_eaae {α0 : Sort _} {α1 : Sort _} {p0 : α0 → Prop} {p1 : α0 → Prop} {p2 : α0 → α1 → Prop} {P : Prop} (h : ∃ x0, p0 x0 ∧ p1 x0 ∧ ∃ x1, p2 x0 x1) (k : ∀ x0 : α0, p0 x0 → p1 x0 → ∀ x1 : α1, p2 x0 x1 → P) : P := Exists.elim h fun y0 h1 => Exists.elim (And.right (And.right h1)) fun y3 h2 => k y0 (And.left h1) (And.left (And.right h1)) y3 h2
theorem g_eeaa {α0 : Sort _} {α1 : Sort _} {p0 : α0 → α1 → Prop} {p1 : α0 → α1 → Prop} {p2 : α0 → α1 → Prop} {P : Prop} (h : ∃ x0, ∃ x1, p0 x0 x1 ∧ p1 x0 x1 ∧ p2 x0 x1) (k : ∀ x0 : α0, ∀ x1 : α1, p0 x0 x1 → p1 x0 x1 → p2 x0 x1 → P) : P := Exists.elim h fun y0 h1 => Exists.elim h1 fun y1 h2 => k y0 y1 (And.left h2) (And.left (And.right h2)) (And.right (And.right h2))
theorem g_eeea {α0 : Sort _} {α1 : Sort _} {α2 : Sort _} {p0 : α0 → α1 → α2 → Prop} {p1 : α0 → α1 → α2 → Prop} {P : Prop} (h : ∃ x0, ∃ x1, ∃ x2, p0 x0 x1 x2 ∧ p1 x0 x1 x2) (k : ∀ x0 : α0, ∀ x1 : α1, ∀ x2 : α2, p0 x0 x1 x2 → p1 x0 x1 x2 → P) : P := Exists.elim h fun y0 h1 => Exists.elim h1 fun y1 h2 => Exists.elim h2 fun y2 h3 => k y0 y1 y2 (And.left h3) (And.right h3)
theorem g_eeee {α0 : Sort _} {α1 : Sort _} {α2 : Sort _} {α3 : Sort _} {p0 : α0 → α1 → α2 → α3 → Prop} {P : Prop} (h : ∃ x0, ∃ x1, ∃ x2, ∃ x3, p0 x0 x1 x2 x3) (k : ∀ x0 : α0, ∀ x1 : α1, ∀ x2 : α2, ∀ x3 : α3, p0 x0 x1 x2 x3 → P) : P := Exists.elim h fun y0 h1 => Exists.elim h1 fun y1 h2 => Exists.elim h2 fun y2 h3 => Exists.elim h3 fun y3 h4 => k y0 y1 y2 y3 h4
theorem g_aaaaa  {p0 : Prop} {p1 : Prop} {p2 : Prop} {p3 : Prop} {p4 : Prop} {p5 : Prop} {P : Prop} (h : p0 ∧ p1 ∧ p2 ∧ p3 ∧ p4 ∧ p5) (k : p0 → p1 → p2 → p3 → p4 → p5 → P) : P := k (And.left h) (And.left (And.right h)) (And.left (And.right (And.right h))) (And.left (And.right (And.right (And.right h)))) (And.left (And.right (And.right (And.right (And.right h))))) (And.right (And.right (And.right (And.right (And.right h)))))
theorem g_eaaaa {α0 : Sort _} {p0 : α0 → Prop} {p1 : α0 → Prop} {p2 : α0 → Prop} {p3 : α0 → Prop} {p4 : α0 → Prop} {P : Prop} (h : ∃ x0, p0 x0 ∧ p1 x0 ∧ p2 x0 ∧ p3 x0 ∧ p4 x0) (k : ∀ x0 : α0, p0 x0 → p1 x0 → p2 x0 → p3 x0 → p4 x0 → P) : P := Exists.elim h fun y0 h1 => k y0 (And.left h1) (And.left (And.right h1)) (And.left (And.right (And.right h1))) (And.left (And.right (And.right (And.right h1)))) (And.right (And.right (And.right (And.right h1))))
theorem g_eaeea {α0 : Sort _} {α1 : Sort _} {α2 : Sort _} {p0 : α0 → Prop} {p1 : α0 → α1 → α2 → Prop} {p2 : α0 → α1 → α2 → Prop} {P : Prop} (h : ∃ x0, p0 x0 ∧ ∃ x1, ∃ x2, p1 x0 x1 x2 ∧ p2 x0 x1 x2) (k : ∀ x0 : α0, p0 x0 → ∀ x1 : α1, ∀ x2 : α2, p1 x0 x1 x2 → p2 x0 x1 x2 → P) : P := Exists.elim h fun y0 h1 => Exists.elim (And.right h1) fun y2 h2 => Exists.elim h2 fun y3 h3 => k y0 (And.left h1) y2 y3 (And.left h3) (And.right h3)
theorem g_eeaaa {α0 : Sort _} {α1 : Sort _} {p0 : α0 → α1 → Prop} {p1 : α0 → α1 → Prop} {p2 : α0 → α1 → Prop} {p3 : α0 → α1 → Prop} {P : Prop} (h : ∃ x0, ∃ x1, p0 x0 x1 ∧ p1 x0 x1 ∧ p2 x0 x1 ∧ p3 x0 x1) (k : ∀ x0 : α0, ∀ x1 : α1, p0 x0 x1 → p1 x0 x1 → p2 x0 x1 → p3 x0 x1 → P) : P := Exists.elim h fun y0 h1 => Exists.elim h1 fun y1 h2 => k y0 y1 (And.left h2) (And.left (And.right h2)) (And.left (And.right (And.right h2))) (And.right (And.right (And.right h2)))
theorem g_eeaea {α0 : Sort _} {α1 : Sort _} {α2 : Sort _} {p0 : α0 → α1 → Prop} {p1 : α0 → α1 → α2 → Prop} {p2 : α0 → α1 → α2 → Prop} {P : Prop} (h : ∃ x0, ∃ x1, p0 x0 x1 ∧ ∃ x2, p1 x0 x1 x2 ∧ p2 x0 x1 x2) (k : ∀ x0 : α0, ∀ x1 : α1, p0 x0 x1 → ∀ x2 : α2, p1 x0 x1 x2 → p2 x0 x1 x2 → P) : P := Exists.elim h fun y0 h1 => Exists.elim h1 fun y1 h2 => Exists.elim (And.right h2) fun y3 h3 => k y0 y1 (And.left h2) y3 (And.left h3) (And.right h3)
theorem g_eeeaa {α0 : Sort _} {α1 : Sort _} {α2 : Sort _} {p0 : α0 → α1 → α2 → Prop} {p1 : α0 → α1 → α2 → Prop} {p2 : α0 → α1 → α2 → Prop} {P : Prop} (h : ∃ x0, ∃ x1, ∃ x2, p0 x0 x1 x2 ∧ p1 x0 x1 x2 ∧ p2 x0 x1 x2) (k : ∀ x0 : α0, ∀ x1 : α1, ∀ x2 : α2, p0 x0 x1 x2 → p1 x0 x1 x2 → p2 x0 x1 x2 → P) : P := Exists.elim h fun y0 h1 => Exists.elim h1 fun y1 h2 => Exists.elim h2 fun y2 h3 => k y0 y1 y2 (And.left h3) (And.left (And.right h3)) (And.right (And.right h3))
theorem g_eeeea {α0 : Sort _} {α1 : Sort _} {α2 : Sort _} {α3 : Sort _} {p0 : α0 → α1 → α2 → α3 → Prop} {p1 : α0 → α1 → α2 → α3 → Prop} {P : Prop} (h : ∃ x0, ∃ x1, ∃ x2, ∃ x3, p0 x0 x1 x2 x3 ∧ p1 x0 x1 x2 x3) (k : ∀ x0 : α0, ∀ x1 : α1, ∀ x2 : α2, ∀ x3 : α3, p0 x0 x1 x2 x3 → p1 x0 x1 x2 x3 → P) : P := Exists.elim h fun y0 h1 => Exists.elim h1 fun y1 h2 => Exists.elim h2 fun y2 h3 => Exists.elim h3 fun y3 h4 => k y0 y1 y2 y3 (And.left h4) (And.right h4)
theorem g_eeeee {α0 : Sort _} {α1 : Sort _} {α2 : Sort _} {α3 : Sort _} {α4 : Sort _} {p0 : α0 → α1 → α2 → α3 → α4 → Prop} {P : Prop} (h : ∃ x0, ∃ x1, ∃ x2, ∃ x3, ∃ x4, p0 x0 x1 x2 x3 x4) (k : ∀ x0 : α0, ∀ x1 : α1, ∀ x2 : α2, ∀ x3 : α3, ∀ x4 : α4, p0 x0 x1 x2 x3 x4 → P) : P := Exists.elim h fun y0 h1 => Exists.elim h1 fun y1 h2 => Exists.elim h2 fun y2 h3 => Exists.elim h3 fun y3 h4 => Exists.elim h4 fun y4 h5 => k y0 y1 y2 y3 y4 h5
theorem g_aaaaaa  {p0 : Prop} {p1 : Prop} {p2 : Prop} {p3 : Prop} {p4 : Prop} {p5 : Prop} {p6 : Prop} {P : Prop} (h : p0 ∧ p1 ∧ p2 ∧ p3 ∧ p4 ∧ p5 ∧ p6) (k : p0 → p1 → p2 → p3 → p4 → p5 → p6 → P) : P := k (And.left h) (And.left (And.right h)) (And.left (And.right (And.right h))) (And.left (And.right (And.right (And.right h)))) (And.left (And.right (And.right (And.right (And.right h))))) (And.left (And.right (And.right (And.right (And.right (And.right h)))))) (And.right (And.right (And.right (And.right (And.right (And.right h))))))
theorem g_eeaaaa {α0 : Sort _} {α1 : Sort _} {p0 : α0 → α1 → Prop} {p1 : α0 → α1 → Prop} {p2 : α0 → α1 → Prop} {p3 : α0 → α1 → Prop} {p4 : α0 → α1 → Prop} {P : Prop} (h : ∃ x0, ∃ x1, p0 x0 x1 ∧ p1 x0 x1 ∧ p2 x0 x1 ∧ p3 x0 x1 ∧ p4 x0 x1) (k : ∀ x0 : α0, ∀ x1 : α1, p0 x0 x1 → p1 x0 x1 → p2 x0 x1 → p3 x0 x1 → p4 x0 x1 → P) : P := Exists.elim h fun y0 h1 => Exists.elim h1 fun y1 h2 => k y0 y1 (And.left h2) (And.left (And.right h2)) (And.left (And.right (And.right h2))) (And.left (And.right (And.right (And.right h2)))) (And.right (And.right (And.right (And.right h2))))
theorem g_eeaeaa {α0 : Sort _} {α1 : Sort _} {α2 : Sort _} {p0 : α0 → α1 → Prop} {p1 : α0 → α1 → α2 → Prop} {p2 : α0 → α1 → α2 → Prop} {p3 : α0 → α1 → α2 → Prop} {P : Prop} (h : ∃ x0, ∃ x1, p0 x0 x1 ∧ ∃ x2, p1 x0 x1 x2 ∧ p2 x0 x1 x2 ∧ p3 x0 x1 x2) (k : ∀ x0 : α0, ∀ x1 : α1, p0 x0 x1 → ∀ x2 : α2, p1 x0 x1 x2 → p2 x0 x1 x2 → p3 x0 x1 x2 → P) : P := Exists.elim h fun y0 h1 => Exists.elim h1 fun y1 h2 => Exists.elim (And.right h2) fun y3 h3 => k y0 y1 (And.left h2) y3 (And.left h3) (And.left (And.right h3)) (And.right (And.right h3))
theorem g_eeaeea {α0 : Sort _} {α1 : Sort _} {α2 : Sort _} {α3 : Sort _} {p0 : α0 → α1 → Prop} {p1 : α0 → α1 → α2 → α3 → Prop} {p2 : α0 → α1 → α2 → α3 → Prop} {P : Prop} (h : ∃ x0, ∃ x1, p0 x0 x1 ∧ ∃ x2, ∃ x3, p1 x0 x1 x2 x3 ∧ p2 x0 x1 x2 x3) (k : ∀ x0 : α0, ∀ x1 : α1, p0 x0 x1 → ∀ x2 : α2, ∀ x3 : α3, p1 x0 x1 x2 x3 → p2 x0 x1 x2 x3 → P) : P := Exists.elim h fun y0 h1 => Exists.elim h1 fun y1 h2 => Exists.elim (And.right h2) fun y3 h3 => Exists.elim h3 fun y4 h4 => k y0 y1 (And.left h2) y3 y4 (And.left h4) (And.right h4)
theorem g_eeeaaa {α0 : Sort _} {α1 : Sort _} {α2 : Sort _} {p0 : α0 → α1 → α2 → Prop} {p1 : α0 → α1 → α2 → Prop} {p2 : α0 → α1 → α2 → Prop} {p3 : α0 → α1 → α2 → Prop} {P : Prop} (h : ∃ x0, ∃ x1, ∃ x2, p0 x0 x1 x2 ∧ p1 x0 x1 x2 ∧ p2 x0 x1 x2 ∧ p3 x0 x1 x2) (k : ∀ x0 : α0, ∀ x1 : α1, ∀ x2 : α2, p0 x0 x1 x2 → p1 x0 x1 x2 → p2 x0 x1 x2 → p3 x0 x1 x2 → P) : P := Exists.elim h fun y0 h1 => Exists.elim h1 fun y1 h2 => Exists.elim h2 fun y2 h3 => k y0 y1 y2 (And.left h3) (And.left (And.right h3)) (And.left (And.right (And.right h3))) (And.right (And.right (And.right h3)))
theorem g_aaaaaaa  {p0 : Prop} {p1 : Prop} {p2 : Prop} {p3 : Prop} {p4 : Prop} {p5 : Prop} {p6 : Prop} {p7 : Prop} {P : Prop} (h : p0 ∧ p1 ∧ p2 ∧ p3 ∧ p4 ∧ p5 ∧ p6 ∧ p7) (k : p0 → p1 → p2 → p3 → p4 → p5 → p6 → p7 → P) : P := k (And.left h) (And.left (And.right h)) (And.left (And.right (And.right h))) (And.left (And.right (And.right (And.right h)))) (And.left (And.right (And.right (And.right (And.right h))))) (And.left (And.right (And.right (And.right (And.right (And.right h)))))) (And.left (And.right (And.right (And.right (And.right (And.right (And.right h))))))) (And.right (And.right (And.right (And.right (And.right (And.right (And.right h)))))))
theorem g_eaeeeaa {α0 : Sort _} {α1 : Sort _} {α2 : Sort _} {α3 : Sort _} {p0 : α0 → Prop} {p1 : α0 → α1 → α2 → α3 → Prop} {p2 : α0 → α1 → α2 → α3 → Prop} {p3 : α0 → α1 → α2 → α3 → Prop} {P : Prop} (h : ∃ x0, p0 x0 ∧ ∃ x1, ∃ x2, ∃ x3, p1 x0 x1 x2 x3 ∧ p2 x0 x1 x2 x3 ∧ p3 x0 x1 x2 x3) (k : ∀ x0 : α0, p0 x0 → ∀ x1 : α1, ∀ x2 : α2, ∀ x3 : α3, p1 x0 x1 x2 x3 → p2 x0 x1 x2 x3 → p3 x0 x1 x2 x3 → P) : P := Exists.elim h fun y0 h1 => Exists.elim (And.right h1) fun y2 h2 => Exists.elim h2 fun y3 h3 => Exists.elim h3 fun y4 h4 => k y0 (And.left h1) y2 y3 y4 (And.left h4) (And.left (And.right h4)) (And.right (And.right h4))
theorem g_eeaeaaa {α0 : Sort _} {α1 : Sort _} {α2 : Sort _} {p0 : α0 → α1 → Prop} {p1 : α0 → α1 → α2 → Prop} {p2 : α0 → α1 → α2 → Prop} {p3 : α0 → α1 → α2 → Prop} {p4 : α0 → α1 → α2 → Prop} {P : Prop} (h : ∃ x0, ∃ x1, p0 x0 x1 ∧ ∃ x2, p1 x0 x1 x2 ∧ p2 x0 x1 x2 ∧ p3 x0 x1 x2 ∧ p4 x0 x1 x2) (k : ∀ x0 : α0, ∀ x1 : α1, p0 x0 x1 → ∀ x2 : α2, p1 x0 x1 x2 → p2 x0 x1 x2 → p3 x0 x1 x2 → p4 x0 x1 x2 → P) : P := Exists.elim h fun y0 h1 => Exists.elim h1 fun y1 h2 => Exists.elim (And.right h2) fun y3 h3 => k y0 y1 (And.left h2) y3 (And.left h3) (And.left (And.right h3)) (And.left (And.right (And.right h3))) (And.right (And.right (And.right h3)))
theorem g_eeaeaea {α0 : Sort _} {α1 : Sort _} {α2 : Sort _} {α3 : Sort _} {p0 : α0 → α1 → Prop} {p1 : α0 → α1 → α2 → Prop} {p2 : α0 → α1 → α2 → α3 → Prop} {p3 : α0 → α1 → α2 → α3 → Prop} {P : Prop} (h : ∃ x0, ∃ x1, p0 x0 x1 ∧ ∃ x2, p1 x0 x1 x2 ∧ ∃ x3, p2 x0 x1 x2 x3 ∧ p3 x0 x1 x2 x3) (k : ∀ x0 : α0, ∀ x1 : α1, p0 x0 x1 → ∀ x2 : α2, p1 x0 x1 x2 → ∀ x3 : α3, p2 x0 x1 x2 x3 → p3 x0 x1 x2 x3 → P) : P := Exists.elim h fun y0 h1 => Exists.elim h1 fun y1 h2 => Exists.elim (And.right h2) fun y3 h3 => Exists.elim (And.right h3) fun y5 h4 => k y0 y1 (And.left h2) y3 (And.left h3) y5 (And.left h4) (And.right h4)
theorem g_eeaeeaa {α0 : Sort _} {α1 : Sort _} {α2 : Sort _} {α3 : Sort _} {p0 : α0 → α1 → Prop} {p1 : α0 → α1 → α2 → α3 → Prop} {p2 : α0 → α1 → α2 → α3 → Prop} {p3 : α0 → α1 → α2 → α3 → Prop} {P : Prop} (h : ∃ x0, ∃ x1, p0 x0 x1 ∧ ∃ x2, ∃ x3, p1 x0 x1 x2 x3 ∧ p2 x0 x1 x2 x3 ∧ p3 x0 x1 x2 x3) (k : ∀ x0 : α0, ∀ x1 : α1, p0 x0 x1 → ∀ x2 : α2, ∀ x3 : α3, p1 x0 x1 x2 x3 → p2 x0 x1 x2 x3 → p3 x0 x1 x2 x3 → P) : P := Exists.elim h fun y0 h1 => Exists.elim h1 fun y1 h2 => Exists.elim (And.right h2) fun y3 h3 => Exists.elim h3 fun y4 h4 => k y0 y1 (And.left h2) y3 y4 (And.left h4) (And.left (And.right h4)) (And.right (And.right h4))
theorem g_eaaaaaaa {α0 : Sort _} {p0 : α0 → Prop} {p1 : α0 → Prop} {p2 : α0 → Prop} {p3 : α0 → Prop} {p4 : α0 → Prop} {p5 : α0 → Prop} {p6 : α0 → Prop} {p7 : α0 → Prop} {P : Prop} (h : ∃ x0, p0 x0 ∧ p1 x0 ∧ p2 x0 ∧ p3 x0 ∧ p4 x0 ∧ p5 x0 ∧ p6 x0 ∧ p7 x0) (k : ∀ x0 : α0, p0 x0 → p1 x0 → p2 x0 → p3 x0 → p4 x0 → p5 x0 → p6 x0 → p7 x0 → P) : P := Exists.elim h fun y0 h1 => k y0 (And.left h1) (And.left (And.right h1)) (And.left (And.right (And.right h1))) (And.left (And.right (And.right (And.right h1)))) (And.left (And.right (And.right (And.right (And.right h1))))) (And.left (And.right (And.right (And.right (And.right (And.right h1)))))) (And.left (And.right (And.right (And.right (And.right (And.right (And.right h1))))))) (And.right (And.right (And.right (And.right (And.right (And.right (And.right h1)))))))
theorem g_eeaeeaea {α0 : Sort _} {α1 : Sort _} {α2 : Sort _} {α3 : Sort _} {α4 : Sort _} {p0 : α0 → α1 → Prop} {p1 : α0 → α1 → α2 → α3 → Prop} {p2 : α0 → α1 → α2 → α3 → α4 → Prop} {p3 : α0 → α1 → α2 → α3 → α4 → Prop} {P : Prop} (h : ∃ x0, ∃ x1, p0 x0 x1 ∧ ∃ x2, ∃ x3, p1 x0 x1 x2 x3 ∧ ∃ x4, p2 x0 x1 x2 x3 x4 ∧ p3 x0 x1 x2 x3 x4) (k : ∀ x0 : α0, ∀ x1 : α1, p0 x0 x1 → ∀ x2 : α2, ∀ x3 : α3, p1 x0 x1 x2 x3 → ∀ x4 : α4, p2 x0 x1 x2 x3 x4 → p3 x0 x1 x2 x3 x4 → P) : P := Exists.elim h fun y0 h1 => Exists.elim h1 fun y1 h2 => Exists.elim (And.right h2) fun y3 h3 => Exists.elim h3 fun y4 h4 => Exists.elim (And.right h4) fun y6 h5 => k y0 y1 (And.left h2) y3 y4 (And.left h4) y6 (And.left h5) (And.right h5)
theorem g_eeeaaaaa {α0 : Sort _} {α1 : Sort _} {α2 : Sort _} {p0 : α0 → α1 → α2 → Prop} {p1 : α0 → α1 → α2 → Prop} {p2 : α0 → α1 → α2 → Prop} {p3 : α0 → α1 → α2 → Prop} {p4 : α0 → α1 → α2 → Prop} {p5 : α0 → α1 → α2 → Prop} {P : Prop} (h : ∃ x0, ∃ x1, ∃ x2, p0 x0 x1 x2 ∧ p1 x0 x1 x2 ∧ p2 x0 x1 x2 ∧ p3 x0 x1 x2 ∧ p4 x0 x1 x2 ∧ p5 x0 x1 x2) (k : ∀ x0 : α0, ∀ x1 : α1, ∀ x2 : α2, p0 x0 x1 x2 → p1 x0 x1 x2 → p2 x0 x1 x2 → p3 x0 x1 x2 → p4 x0 x1 x2 → p5 x0 x1 x2 → P) : P := Exists.elim h fun y0 h1 => Exists.elim h1 fun y1 h2 => Exists.elim h2 fun y2 h3 => k y0 y1 y2 (And.left h3) (And.left (And.right h3)) (And.left (And.right (And.right h3))) (And.left (And.right (And.right (And.right h3)))) (And.left (And.right (And.right (And.right (And.right h3))))) (And.right (And.right (And.right (And.right (And.right h3)))))
theorem g_eeaeeeaaa {α0 : Sort _} {α1 : Sort _} {α2 : Sort _} {α3 : Sort _} {α4 : Sort _} {p0 : α0 → α1 → Prop} {p1 : α0 → α1 → α2 → α3 → α4 → Prop} {p2 : α0 → α1 → α2 → α3 → α4 → Prop} {p3 : α0 → α1 → α2 → α3 → α4 → Prop} {p4 : α0 → α1 → α2 → α3 → α4 → Prop} {P : Prop} (h : ∃ x0, ∃ x1, p0 x0 x1 ∧ ∃ x2, ∃ x3, ∃ x4, p1 x0 x1 x2 x3 x4 ∧ p2 x0 x1 x2 x3 x4 ∧ p3 x0 x1 x2 x3 x4 ∧ p4 x0 x1 x2 x3 x4) (k : ∀ x0 : α0, ∀ x1 : α1, p0 x0 x1 → ∀ x2 : α2, ∀ x3 : α3, ∀ x4 : α4, p1 x0 x1 x2 x3 x4 → p2 x0 x1 x2 x3 x4 → p3 x0 x1 x2 x3 x4 → p4 x0 x1 x2 x3 x4 → P) : P := Exists.elim h fun y0 h1 => Exists.elim h1 fun y1 h2 => Exists.elim (And.right h2) fun y3 h3 => Exists.elim h3 fun y4 h4 => Exists.elim h4 fun y5 h5 => k y0 y1 (And.left h2) y3 y4 y5 (And.left h5) (And.left (And.right h5)) (And.left (And.right (And.right h5))) (And.right (And.right (And.right h5)))
theorem g_eeeaaeeea {α0 : Sort _} {α1 : Sort _} {α2 : Sort _} {α3 : Sort _} {α4 : Sort _} {α5 : Sort _} {p0 : α0 → α1 → α2 → Prop} {p1 : α0 → α1 → α2 → Prop} {p2 : α0 → α1 → α2 → α3 → α4 → α5 → Prop} {p3 : α0 → α1 → α2 → α3 → α4 → α5 → Prop} {P : Prop} (h : ∃ x0, ∃ x1, ∃ x2, p0 x0 x1 x2 ∧ p1 x0 x1 x2 ∧ ∃ x3, ∃ x4, ∃ x5, p2 x0 x1 x2 x3 x4 x5 ∧ p3 x0 x1 x2 x3 x4 x5) (k : ∀ x0 : α0, ∀ x1 : α1, ∀ x2 : α2, p0 x0 x1 x2 → p1 x0 x1 x2 → ∀ x3 : α3, ∀ x4 : α4, ∀ x5 : α5, p2 x0 x1 x2 x3 x4 x5 → p3 x0 x1 x2 x3 x4 x5 → P) : P := Exists.elim h fun y0 h1 => Exists.elim h1 fun y1 h2 => Exists.elim h2 fun y2 h3 => Exists.elim (And.right (And.right h3)) fun y5 h4 => Exists.elim h4 fun y6 h5 => Exists.elim h5 fun y7 h6 => k y0 y1 y2 (And.left h3) (And.left (And.right h3)) y5 y6 y7 (And.left h6) (And.right h6)
theorem g_eeeeeaaaa {α0 : Sort _} {α1 : Sort _} {α2 : Sort _} {α3 : Sort _} {α4 : Sort _} {p0 : α0 → α1 → α2 → α3 → α4 → Prop} {p1 : α0 → α1 → α2 → α3 → α4 → Prop} {p2 : α0 → α1 → α2 → α3 → α4 → Prop} {p3 : α0 → α1 → α2 → α3 → α4 → Prop} {p4 : α0 → α1 → α2 → α3 → α4 → Prop} {P : Prop} (h : ∃ x0, ∃ x1, ∃ x2, ∃ x3, ∃ x4, p0 x0 x1 x2 x3 x4 ∧ p1 x0 x1 x2 x3 x4 ∧ p2 x0 x1 x2 x3 x4 ∧ p3 x0 x1 x2 x3 x4 ∧ p4 x0 x1 x2 x3 x4) (k : ∀ x0 : α0, ∀ x1 : α1, ∀ x2 : α2, ∀ x3 : α3, ∀ x4 : α4, p0 x0 x1 x2 x3 x4 → p1 x0 x1 x2 x3 x4 → p2 x0 x1 x2 x3 x4 → p3 x0 x1 x2 x3 x4 → p4 x0 x1 x2 x3 x4 → P) : P := Exists.elim h fun y0 h1 => Exists.elim h1 fun y1 h2 => Exists.elim h2 fun y2 h3 => Exists.elim h3 fun y3 h4 => Exists.elim h4 fun y4 h5 => k y0 y1 y2 y3 y4 (And.left h5) (And.left (And.right h5)) (And.left (And.right (And.right h5))) (And.left (And.right (And.right (And.right h5)))) (And.right (And.right (And.right (And.right h5))))
theorem g_eaaaaaaaaa {α0 : Sort _} {p0 : α0 → Prop} {p1 : α0 → Prop} {p2 : α0 → Prop} {p3 : α0 → Prop} {p4 : α0 → Prop} {p5 : α0 → Prop} {p6 : α0 → Prop} {p7 : α0 → Prop} {p8 : α0 → Prop} {p9 : α0 → Prop} {P : Prop} (h : ∃ x0, p0 x0 ∧ p1 x0 ∧ p2 x0 ∧ p3 x0 ∧ p4 x0 ∧ p5 x0 ∧ p6 x0 ∧ p7 x0 ∧ p8 x0 ∧ p9 x0) (k : ∀ x0 : α0, p0 x0 → p1 x0 → p2 x0 → p3 x0 → p4 x0 → p5 x0 → p6 x0 → p7 x0 → p8 x0 → p9 x0 → P) : P := Exists.elim h fun y0 h1 => k y0 (And.left h1) (And.left (And.right h1)) (And.left (And.right (And.right h1))) (And.left (And.right (And.right (And.right h1)))) (And.left (And.right (And.right (And.right (And.right h1))))) (And.left (And.right (And.right (And.right (And.right (And.right h1)))))) (And.left (And.right (And.right (And.right (And.right (And.right (And.right h1))))))) (And.left (And.right (And.right (And.right (And.right (And.right (And.right (And.right h1)))))))) (And.left (And.right (And.right (And.right (And.right (And.right (And.right (And.right (And.right h1))))))))) (And.right (And.right (And.right (And.right (And.right (And.right (And.right (And.right (And.right h1)))))))))
theorem g_eeaeeaeaea {α0 : Sort _} {α1 : Sort _} {α2 : Sort _} {α3 : Sort _} {α4 : Sort _} {α5 : Sort _} {p0 : α0 → α1 → Prop} {p1 : α0 → α1 → α2 → α3 → Prop} {p2 : α0 → α1 → α2 → α3 → α4 → Prop} {p3 : α0 → α1 → α2 → α3 → α4 → α5 → Prop} {p4 : α0 → α1 → α2 → α3 → α4 → α5 → Prop} {P : Prop} (h : ∃ x0, ∃ x1, p0 x0 x1 ∧ ∃ x2, ∃ x3, p1 x0 x1 x2 x3 ∧ ∃ x4, p2 x0 x1 x2 x3 x4 ∧ ∃ x5, p3 x0 x1 x2 x3 x4 x5 ∧ p4 x0 x1 x2 x3 x4 x5) (k : ∀ x0 : α0, ∀ x1 : α1, p0 x0 x1 → ∀ x2 : α2, ∀ x3 : α3, p1 x0 x1 x2 x3 → ∀ x4 : α4, p2 x0 x1 x2 x3 x4 → ∀ x5 : α5, p3 x0 x1 x2 x3 x4 x5 → p4 x0 x1 x2 x3 x4 x5 → P) : P := Exists.elim h fun y0 h1 => Exists.elim h1 fun y1 h2 => Exists.elim (And.right h2) fun y3 h3 => Exists.elim h3 fun y4 h4 => Exists.elim (And.right h4) fun y6 h5 => Exists.elim (And.right h5) fun y8 h6 => k y0 y1 (And.left h2) y3 y4 (And.left h4) y6 (And.left h5) y8 (And.left h6) (And.right h6)
theorem g_eeaeeaeeaea {α0 : Sort _} {α1 : Sort _} {α2 : Sort _} {α3 : Sort _} {α4 : Sort _} {α5 : Sort _} {α6 : Sort _} {p0 : α0 → α1 → Prop} {p1 : α0 → α1 → α2 → α3 → Prop} {p2 : α0 → α1 → α2 → α3 → α4 → α5 → Prop} {p3 : α0 → α1 → α2 → α3 → α4 → α5 → α6 → Prop} {p4 : α0 → α1 → α2 → α3 → α4 → α5 → α6 → Prop} {P : Prop} (h : ∃ x0, ∃ x1, p0 x0 x1 ∧ ∃ x2, ∃ x3, p1 x0 x1 x2 x3 ∧ ∃ x4, ∃ x5, p2 x0 x1 x2 x3 x4 x5 ∧ ∃ x6, p3 x0 x1 x2 x3 x4 x5 x6 ∧ p4 x0 x1 x2 x3 x4 x5 x6) (k : ∀ x0 : α0, ∀ x1 : α1, p0 x0 x1 → ∀ x2 : α2, ∀ x3 : α3, p1 x0 x1 x2 x3 → ∀ x4 : α4, ∀ x5 : α5, p2 x0 x1 x2 x3 x4 x5 → ∀ x6 : α6, p3 x0 x1 x2 x3 x4 x5 x6 → p4 x0 x1 x2 x3 x4 x5 x6 → P) : P := Exists.elim h fun y0 h1 => Exists.elim h1 fun y1 h2 => Exists.elim (And.right h2) fun y3 h3 => Exists.elim h3 fun y4 h4 => Exists.elim (And.right h4) fun y6 h5 => Exists.elim h5 fun y7 h6 => Exists.elim (And.right h6) fun y9 h7 => k y0 y1 (And.left h2) y3 y4 (And.left h4) y6 y7 (And.left h6) y9 (And.left h7) (And.right h7)
theorem g_eeaeaaeeaeea {α0 : Sort _} {α1 : Sort _} {α2 : Sort _} {α3 : Sort _} {α4 : Sort _} {α5 : Sort _} {α6 : Sort _} {p0 : α0 → α1 → Prop} {p1 : α0 → α1 → α2 → Prop} {p2 : α0 → α1 → α2 → Prop} {p3 : α0 → α1 → α2 → α3 → α4 → Prop} {p4 : α0 → α1 → α2 → α3 → α4 → α5 → α6 → Prop} {p5 : α0 → α1 → α2 → α3 → α4 → α5 → α6 → Prop} {P : Prop} (h : ∃ x0, ∃ x1, p0 x0 x1 ∧ ∃ x2, p1 x0 x1 x2 ∧ p2 x0 x1 x2 ∧ ∃ x3, ∃ x4, p3 x0 x1 x2 x3 x4 ∧ ∃ x5, ∃ x6, p4 x0 x1 x2 x3 x4 x5 x6 ∧ p5 x0 x1 x2 x3 x4 x5 x6) (k : ∀ x0 : α0, ∀ x1 : α1, p0 x0 x1 → ∀ x2 : α2, p1 x0 x1 x2 → p2 x0 x1 x2 → ∀ x3 : α3, ∀ x4 : α4, p3 x0 x1 x2 x3 x4 → ∀ x5 : α5, ∀ x6 : α6, p4 x0 x1 x2 x3 x4 x5 x6 → p5 x0 x1 x2 x3 x4 x5 x6 → P) : P := Exists.elim h fun y0 h1 => Exists.elim h1 fun y1 h2 => Exists.elim (And.right h2) fun y3 h3 => Exists.elim (And.right (And.right h3)) fun y6 h4 => Exists.elim h4 fun y7 h5 => Exists.elim (And.right h5) fun y9 h6 => Exists.elim h6 fun y10 h7 => k y0 y1 (And.left h2) y3 (And.left h3) (And.left (And.right h3)) y6 y7 (And.left h5) y9 y10 (And.left h7) (And.right h7)
theorem none_ne {α : Type _} {a : α} {P : Prop} (h : none = some a) : P := nomatch h
@[elab_as_elim] theorem some1 {α : Type _} {a b : α} {P : α → Prop} (h : some a = some b) (k : P a) : P b := Option.some.inj h ▸ k
@[elab_as_elim] theorem some2 {α β : Type _} {a a' : α} {b b' : β} {P : α → β → Prop} (h : some (a, b) = some (a', b')) (k : P a b) : P a' b' := by cases h; exact k
@[elab_as_elim] theorem some3 {α β γ : Type _} {a a' : α} {b b' : β} {c c' : γ} {P : α → β → γ → Prop} (h : some (a, b, c) = some (a', b', c')) (k : P a b c) : P a' b' c' := by cases h; exact k

theorem bind_go {α β : Type _} {o : Option α} {f : α → Option β} {b : β} {P : Prop} (e : o.bind f = some b) (k : ∀ a, o = some a → f a = some b → P) : P := by
  cases o with
  | none => exact none_ne e
  | some a => exact k a rfl e
theorem bind_go2 {α β γ : Type _} {o : Option (α × β)} {f : α × β → Option γ} {c : γ} {P : Prop} (e : o.bind f = some c) (k : ∀ a b, o = some (a, b) → f (a, b) = some c → P) : P := bind_go e fun p => k p.1 p.2
theorem ite_t {c : Prop} [Decidable c] {a b : Prop} (h : c) (k : a) : if c then a else b := by rw [if_pos h]; exact k
theorem ite_f {c : Prop} [Decidable c] {a b : Prop} (h : ¬ c) (k : b) : if c then a else b := by rw [if_neg h]; exact k
theorem bind_eq {α β : Type _} {o : Option α} {f : α → Option β} {a : α} {b : Option β} (e : o = some a) (k : f a = b) : o.bind f = b := by rw [e]; exact k
@[elab_as_elim] theorem map_go {α β : Type _} {o : Option α} {f : α → β} {b : β} {P : β → Prop} (e : o.map f = some b) (k : ∀ a, o = some a → P (f a)) : P b := by
  cases o with
  | none => exact none_ne e
  | some a => exact some1 e (k a rfl)

set_option genInjectivity true in
-- plain data
inductive Dat where
  | none
  | bool (b : Bool)
  | int (i : Int)
  | str (s : Str)
  | list (xs : List Dat)
  | tup (xs : List Dat)
  | idict (kvs : List (Int × Int))
  | sset (xs : List Str)
  | obj (cls : Nat) (attrs : List (Str × Dat))
  | pobj (x : Nat) (cls : Nat) (attrs : List (Str × Dat))
  | mdict (id : Nat)
  | ty (name : String)

set_option genInjectivity true in
-- a name's state
inductive Ent where
  | unb
  | frz (d : Dat)
  | own (d : Dat)

noncomputable abbrev Sto := String → Ent
noncomputable abbrev MSt := List (List (Str × Int))

noncomputable def Sto.set (σ : Sto) (x : String) (v : Ent) : Sto := fun y => if y = x then v else σ y

structure View where
  F : Addr → Prop
  J : List Addr

structure Cx where
  prog : Program
  w : World
  base : Heap
  mg : Str → Option Value
  mb : Str → Option Value
  g : base.Ns mainGlobals mg
  b : base.Ns builtinsNs mb
  lim : base.NoLimit

noncomputable def Vals {K : Type} : List (K × Value) → List (K × Int) → Prop
  | [], [] => True
  | p :: l, q :: r => (p.1 = q.1 ∧ ∃ t, p.2 = .int q.2 t) ∧ Vals l r
  | _, _ => False

noncomputable def PlainTup (h : Heap) (a : Addr) (vs : Array Value) : Prop := ∃ n, h.get? a = some { cls := .type "tuple", data := .seq vs n }

noncomputable def set0 (led : Bool) : Obj := { cls := .type "set", dict := none, data := .set #[] 0 (.fresh 0 0 led) }
noncomputable def set1 (h : Int) (x : Str) (t : Tok) (led : Bool) : Obj := { cls := .type "set", dict := none, data := .set #[(h, .str x t)] 1 { mask := 7, place := #[SetTable.bits h % 8], dummies := #[], finger := 0, led := led, moves := 0, plain := false } }
-- a set of at most one text
inductive SetIs (G : Cx) : Obj → List Str → Prop
  | nil (led : Bool) : SetIs G (set0 led) []
  | one (x : Str) (t : Tok) : SetIs G (set1 ((strKind G.prog G.w).hash x) x t (!G.w.params.followText "set-order")) [x]

mutual
inductive Rep (G : Cx) (V : View) (h : Heap) : Value → Dat → Prop
  | none : Rep G V h .none .none
  | bool (b : Bool) : Rep G V h (.bool b) (.bool b)
  | int (i : Int) (t : Tok) : Rep G V h (.int i t) (.int i)
  | str (s : Str) (t : Tok) : Rep G V h (.str s t) (.str s)
  | list {a : Addr} {vs : Array Value} {xs : List Dat} (hF : V.F a) (hl : h.PlainList a vs) (hs : Reps G V h vs.toList xs) : Rep G V h (.ref a) (.list xs)
  | tup {a : Addr} {vs : Array Value} {xs : List Dat} (hF : V.F a) (hl : PlainTup h a vs) (hs : Reps G V h vs.toList xs) : Rep G V h (.ref a) (.tup xs)
  | idict {a : Addr} {vs : List (Int × Value)} {kvs : List (Int × Int)} (hF : V.F a) (hl : h.DictOf (intKind G.prog G.w) a vs) (hn : a ≠ sysModules) (hs : Vals vs kvs) : Rep G V h (.ref a) (.idict kvs)
  | sset {a : Addr} {o : Obj} {xs : List Str} (hF : V.F a) (hl : h.get? a = some o) (hs : SetIs G o xs) : Rep G V h (.ref a) (.sset xs)
  | obj {x dx C : Addr} {es : List DictEntry} {n : Nat} {attrs : List (Str × Dat)} (hF : V.F x) (hFd : V.F dx) (ho : h.get? x = some (instObj C dx)) (hd : h.get? dx = some (dictOf es n)) (hs : RepsE G V h es attrs) : Rep G V h (.ref x) (.obj C attrs)
  | pobj {x dx C : Addr} {es : List DictEntry} {n : Nat} {attrs : List (Str × Dat)} (hF : V.F x) (hFd : V.F dx) (ho : h.get? x = some (instObj C dx)) (hd : h.get? dx = some (dictOf es n)) (hs : RepsE G V h es attrs) : Rep G V h (.ref x) (.pobj x C attrs)
  | mdict {a : Addr} {i : Nat} (hJ : V.J[i]? = some a) : Rep G V h (.ref a) (.mdict i)
  | ty (x : String) : Rep G V h (.type x) (.ty x)
inductive Reps (G : Cx) (V : View) (h : Heap) : List Value → List Dat → Prop
  | nil : Reps G V h [] []
  | cons {v : Value} {d : Dat} {vs : List Value} {ds : List Dat} : Rep G V h v d → Reps G V h vs ds → Reps G V h (v :: vs) (d :: ds)
inductive RepsE (G : Cx) (V : View) (h : Heap) : List DictEntry → List (Str × Dat) → Prop
  | nil : RepsE G V h [] []
  | cons {e : DictEntry} {x : Str} {t : Tok} {d : Dat} {es : List DictEntry} {ds : List (Str × Dat)} : e.key = .str x t → e.hash = PyData.keyHash G.w.params x → Rep G V h e.val d → RepsE G V h es ds → RepsE G V h (e :: es) ((x, d) :: ds)
end
@[elab_as_elim] theorem ite_go {c : Prop} [Decidable c] {α : Type _} {a b : α} {P : α → Prop} (e : (if c then some a else none) = some b) (k : c → P a) : P b := by
  by_cases h : c
  · exact some1 ((if_pos h).symm.trans e) (k h)
  · exact none_ne ((if_neg h).symm.trans e)
theorem ite_gn {c : Prop} [Decidable c] {α : Type _} {o : Option α} {b : α} {P : Prop} (e : (if c then o else none) = some b) (k : c → o = some b → P) : P := by
  by_cases h : c
  · exact k h ((if_pos h).symm.trans e)
  · exact none_ne ((if_neg h).symm.trans e)
noncomputable def datInt : Dat → Option Int
  | .int i => some i
  | _ => none
theorem datInt_go {d : Dat} {i : Int} (e : datInt d = some i) : d = .int i := by
  cases d with
  | int j => exact congrArg _ (Option.some.inj e)
  | _ => exact none_ne e
noncomputable def datStr : Dat → Option Str
  | .str i => some i
  | _ => none
theorem datStr_go {d : Dat} {i : Str} (e : datStr d = some i) : d = .str i := by
  cases d with
  | str j => exact congrArg _ (Option.some.inj e)
  | _ => exact none_ne e
noncomputable def datLst : Dat → Option (List Dat)
  | .list i => some i
  | _ => none
theorem datLst_go {d : Dat} {i : (List Dat)} (e : datLst d = some i) : d = .list i := by
  cases d with
  | list j => exact congrArg _ (Option.some.inj e)
  | _ => exact none_ne e
noncomputable def datTup : Dat → Option (List Dat)
  | .tup i => some i
  | _ => none
theorem datTup_go {d : Dat} {i : (List Dat)} (e : datTup d = some i) : d = .tup i := by
  cases d with
  | tup j => exact congrArg _ (Option.some.inj e)
  | _ => exact none_ne e
noncomputable def datMdi : Dat → Option Nat
  | .mdict i => some i
  | _ => none
theorem datMdi_go {d : Dat} {i : Nat} (e : datMdi d = some i) : d = .mdict i := by
  cases d with
  | mdict j => exact congrArg _ (Option.some.inj e)
  | _ => exact none_ne e
noncomputable def datSst : Dat → Option (List Str)
  | .sset i => some i
  | _ => none
theorem datSst_go {d : Dat} {i : (List Str)} (e : datSst d = some i) : d = .sset i := by
  cases d with
  | sset j => exact congrArg _ (Option.some.inj e)
  | _ => exact none_ne e
noncomputable def datObj : Dat → Option (Addr × List (Str × Dat))
  | .obj C a => some (C, a)
  | _ => none
theorem datObj_go {d : Dat} {C : Addr} {a : List (Str × Dat)} (e : datObj d = some (C, a)) : d = .obj C a := by
  cases d with
  | obj D b => exact some2 e rfl
  | _ => exact none_ne e
noncomputable def entFrz : Ent → Option Dat
  | .frz d => some d
  | _ => none
theorem entFrz_go {e : Ent} {d : Dat} (h : entFrz e = some d) : e = .frz d := by
  cases e with
  | frz c => exact congrArg _ (Option.some.inj h)
  | _ => exact none_ne h
noncomputable def entOwn : Ent → Option Dat
  | .own d => some d
  | _ => none
theorem entOwn_go {e : Ent} {d : Dat} (h : entOwn e = some d) : e = .own d := by
  cases e with
  | own c => exact congrArg _ (Option.some.inj h)
  | _ => exact none_ne h
section
variable {G : Cx} {V : View} {h : Heap}
@[elab_as_elim] theorem Reps.ind {P : List Value → List Dat → Prop} {vs : List Value} {ds : List Dat} (r : Reps G V h vs ds) (nil : P [] []) (cons : ∀ v d vs ds, Rep G V h v d → Reps G V h vs ds → P vs ds → P (v :: vs) (d :: ds)) : P vs ds :=
  Reps.rec (motive_1 := fun _ _ _ => True) (motive_2 := fun vs ds _ => P vs ds) (motive_3 := fun _ _ _ => True) trivial (fun _ => trivial) (fun _ _ => trivial) (fun _ _ => trivial) (fun _ _ _ _ => trivial) (fun _ _ _ _ => trivial) (fun _ _ _ _ => trivial) (fun _ _ _ => trivial)
    (fun _ _ _ _ _ _ => trivial) (fun _ _ _ _ _ _ => trivial) (fun _ => trivial) (fun _ => trivial) nil (fun a b _ ih => cons _ _ _ _ a b ih) trivial (fun _ _ _ _ _ _ => trivial) r
@[elab_as_elim] theorem RepsE.ind {P : List DictEntry → List (Str × Dat) → Prop} {es : List DictEntry} {ds : List (Str × Dat)} (r : RepsE G V h es ds) (nil : P [] [])
    (cons : ∀ e x t d es ds, e.key = .str x t → e.hash = PyData.keyHash G.w.params x → Rep G V h e.val d → RepsE G V h es ds → P es ds → P (e :: es) ((x, d) :: ds)) : P es ds :=
  RepsE.rec (motive_1 := fun _ _ _ => True) (motive_2 := fun _ _ _ => True) (motive_3 := fun es ds _ => P es ds) trivial (fun _ => trivial) (fun _ _ => trivial) (fun _ _ => trivial) (fun _ _ _ _ => trivial) (fun _ _ _ _ => trivial) (fun _ _ _ _ => trivial) (fun _ _ _ => trivial)
    (fun _ _ _ _ _ _ => trivial) (fun _ _ _ _ _ _ => trivial) (fun _ => trivial) (fun _ => trivial) trivial (fun _ _ _ _ => trivial) nil (fun a b c r _ ih => cons _ _ _ _ _ _ a b c r ih) r
@[elab_as_elim] theorem Vals.ind {K : Type} {P : List (K × Value) → List (K × Int) → Prop} : ∀ {vs : List (K × Value)} {kvs : List (K × Int)}, Vals vs kvs → P [] [] → (∀ k i t vs kvs, Vals vs kvs → P vs kvs → P ((k, .int i t) :: vs) ((k, i) :: kvs)) → P vs kvs := by
  intro vs
  induction vs with
  | nil => intro kvs h n c; cases kvs with
    | nil => exact n
    | cons _ _ => exact h.elim
  | cons p vs ih => intro kvs h n c; cases kvs with
    | nil => exact h.elim
    | cons q kvs =>
      obtain ⟨k, v⟩ := p
      obtain ⟨k', i⟩ := q
      refine g_a h fun q0ₜ hr => ?_
      refine g_ae q0ₜ fun h1 t h2 => ?_
      exact (show k = k' from h1) ▸ (show v = .int i t from h2) ▸ c k i t vs kvs hr (ih hr n c)
end

noncomputable def KeepF (V : View) (h h' : Heap) : Prop := ∀ b o, V.F b → h.get? b = some o → h'.get? b = some o

section
variable {G : Cx} {V V' : View} {h h' : Heap} (hF : ∀ b, V.F b → V'.F b) (hJ : ∀ (i : Nat) (a : Addr), V.J[i]? = some a → V'.J[i]? = some a) (hk : KeepF V h h')
include hF hJ hk
theorem Rep.mono {v : Value} {d : Dat} (r : Rep G V h v d) : Rep G V' h' v d :=
  Rep.rec (motive_1 := fun v d _ => Rep G V' h' v d) (motive_2 := fun vs ds _ => Reps G V' h' vs ds) (motive_3 := fun es ds _ => RepsE G V' h' es ds)
    .none .bool .int .str (fun a l _ s => .list (hF _ a) (let ⟨n, ho⟩ := l; ⟨n, hk _ _ a ho⟩) s) (fun a l _ s => .tup (hF _ a) (let ⟨n, ho⟩ := l; ⟨n, hk _ _ a ho⟩) s)
    (fun a l n s => .idict (hF _ a) (let ⟨o, es, ep, ho, r⟩ := l; ⟨o, es, ep, hk _ o a ho, r⟩) n s) (fun a l s => .sset (hF _ a) (hk _ _ a l) s)
    (fun a b ho hd _ s => .obj (hF _ a) (hF _ b) (hk _ _ a ho) (hk _ _ b hd) s) (fun a b ho hd _ s => .pobj (hF _ a) (hF _ b) (hk _ _ a ho) (hk _ _ b hd) s) (fun j => .mdict (hJ _ _ j)) .ty
    .nil (fun _ _ a b => .cons a b) .nil (fun a b _ _ c r => .cons a b c r) r
theorem Reps.mono {vs : List Value} {ds : List Dat} (r : Reps G V h vs ds) : Reps G V' h' vs ds := by
  induction vs generalizing ds with
  | nil => cases r; exact .nil
  | cons v vs ih => cases r with | cons a b => exact .cons (a.mono hF hJ hk) (ih b)
theorem RepsE.mono {es : List DictEntry} {ds : List (Str × Dat)} (r : RepsE G V h es ds) : RepsE G V' h' es ds := by
  induction es generalizing ds with
  | nil => cases r; exact .nil
  | cons v vs ih => cases r with | cons a b c r => exact .cons a b (c.mono hF hJ hk) (ih r)
end

-- the footprint of a mutable thing
noncomputable def foot (h : Heap) : Value → List Addr
  | .ref a => a :: (match h.get? a with | some o => o.dict.toList | none => [])
  | _ => []

inductive Own (G : Cx) (V : View) (h : Heap) : Value → Dat → Prop
  | list {a : Addr} {vs : Array Value} {xs : List Dat} (hl : h.PlainList a vs) (hs : Reps G V h vs.toList xs) : Own G V h (.ref a) (.list xs)
  | idict {a : Addr} {vs : List (Int × Value)} {kvs : List (Int × Int)} (hl : h.DictOf (intKind G.prog G.w) a vs) (hn : a ≠ sysModules) (hs : Vals vs kvs) : Own G V h (.ref a) (.idict kvs)
  | obj {x dx C : Addr} {es : List DictEntry} {n : Nat} {attrs : List (Str × Dat)} (ho : h.get? x = some (instObj C dx)) (hd : h.get? dx = some (dictOf es n)) (hs : RepsE G V h es attrs) : Own G V h (.ref x) (.obj C attrs)
  | pobj {x dx C : Addr} {es : List DictEntry} {n : Nat} {attrs : List (Str × Dat)} (ho : h.get? x = some (instObj C dx)) (hd : h.get? dx = some (dictOf es n)) (hs : RepsE G V h es attrs) : Own G V h (.ref x) (.pobj x C attrs)

-- a name's value in a block
noncomputable def At (h : Heap) (env : Env) (x : Str) (ov : Option Value) : Prop :=
  (env.kindOf x = some .local ∧ ∃ m, h.Ns env.locals m ∧ m x = ov) ∨ ((env.kindOf x = some .cell ∨ env.kindOf x = some .free) ∧ ∃ c, env.cells.lookup x = some c ∧ h.IsCell c ov)

theorem Ns.unique {h : Heap} {a : Addr} {m m' : Str → Option Value} (x : h.Ns a m) (y : h.Ns a m') : m = m' := by
  refine g_eeeaaa x fun o es ep ho hd _ e => ?_
  refine g_eeeaaa y fun o' es' ep' ho' hd' _ e' => ?_
  rw [ho] at ho'; cases ho'
  rw [hd] at hd'; cases hd'
  funext n; rw [← e, ← e']

theorem At.unique {h : Heap} {env : Env} {x : Str} {v v' : Option Value} (a : At h env x v) (b : At h env x v') : v = v' := by
  rcases a with ⟨k, m, n, e⟩ | ⟨k, c, hc, o, ho, hd⟩
  · rcases b with ⟨k', m', n', e'⟩ | ⟨k', _⟩
    · rw [← e, ← e', Ns.unique n n']
    · rw [k] at k'; rcases k' with k' | k' <;> cases k'
  · rcases b with ⟨k', _⟩ | ⟨k', c', hc', o', ho', hd'⟩
    · rw [k'] at k; rcases k with k | k <;> cases k
    · rw [hc] at hc'; cases hc'
      rw [ho] at ho'; cases ho'
      rw [hd] at hd'; cases hd'; rfl

structure Free (V : View) (env : Env) (a : Addr) : Prop where
  F : ¬ V.F a
  J : a ∉ V.J
  loc : a ≠ env.locals
  cel : ∀ y, env.cells.lookup y ≠ some a

structure EnvOk (G : Cx) (V : View) (h : Heap) (env : Env) (σ : Sto) : Prop where
  kind : env.scope.kind = .function
  glob : env.globals = mainGlobals
  bui : env.builtins = builtinsNs
  loc : ∃ m, h.Ns env.locals m
  locF : ¬ V.F env.locals
  locJ : env.locals ∉ V.J
  cel : ∀ x : Str, (env.kindOf x = some .cell ∨ env.kindOf x = some .free) → ∃ c ov, env.cells.lookup x = some c ∧ h.IsCell c ov ∧ ¬ V.F c ∧ c ∉ V.J ∧ c ≠ env.locals
  cex : ∀ y c, env.cells.lookup y = some c → (∃ o, h.get? c = some o) ∧ ¬ V.F c ∧ c ∉ V.J
  inj : ∀ x y c, env.cells.lookup x = some c → env.cells.lookup y = some c → x = y
  frz : ∀ (x : String) d, σ x = .frz d → ∃ v, At h env (Str.ofString x) (some v) ∧ Rep G V h v d
  own : ∀ (x : String) d, σ x = .own d → ∃ v, At h env (Str.ofString x) (some v) ∧ Own G V h v d ∧ ∀ a ∈ foot h v, Free V env a
  dis : ∀ (x y : String) d d' v u, x ≠ y → σ x = .own d → σ y = .own d' → At h env (Str.ofString x) (some v) → At h env (Str.ofString y) (some u) → ∀ a ∈ foot h v, a ∉ foot h u

-- the store of the mutable dicts
structure Stores (G : Cx) (V : View) (h : Heap) (I : MSt) : Prop where
  len : V.J.length = I.length
  nodup : V.J.Nodup
  apart : ∀ b ∈ V.J, ¬ V.F b
  at_ : ∀ (i : Nat) (a : Addr) kvs, V.J[i]? = some a → I[i]? = some kvs → ∃ vs, h.DictOf (strKind G.prog G.w) a vs ∧ a ≠ sysModules ∧ Vals vs kvs

structure Good (G : Cx) (V : View) (s : Shared) (I : MSt) : Prop where
  base : ∀ b o, G.base.get? b = some o → V.F b ∧ s.heap.get? b = some o
  st : Stores G V s.heap I
  ex : ∀ b, V.F b → ∃ o, s.heap.get? b = some o

structure Step (V : View) (s : Shared) (V' : View) (s' : Shared) : Prop where
  gens : s'.gens = s.gens
  os : s'.os = s.os
  keep : ∀ b o, s.heap.get? b = some o → b ∉ V.J → s'.heap.get? b = some o
  ex : ∀ b o, s.heap.get? b = some o → ∃ o', s'.heap.get? b = some o'
  fr : ∀ b, V.F b → V'.F b
  fnew : ∀ b, V'.F b → V.F b ∨ s.heap.get? b = none
  jp : ∀ (i : Nat) (a : Addr), V.J[i]? = some a → V'.J[i]? = some a
  jnew : ∀ b ∈ V'.J, b ∈ V.J ∨ s.heap.get? b = none

structure Room (A : Around) (n : Nat) : Prop where
  handled : A.handled = none
  depth : A.depth + n < recursionLimit
  units : A.units + 20 * n + 100 < cLine

theorem Step.refl (V : View) (s : Shared) : Step V s V s := ⟨rfl, rfl, fun _ _ e _ => e, fun _ o e => ⟨o, e⟩, fun _ e => e, fun _ e => .inl e, fun _ _ e => e, fun _ e => .inl e⟩

theorem Step.trans {V V₁ V₂ : View} {s s₁ s₂ : Shared} (a : Step V s V₁ s₁) (b : Step V₁ s₁ V₂ s₂) : Step V s V₂ s₂ where
  gens := b.gens.trans a.gens
  os := b.os.trans a.os
  keep := fun x o e hJ => b.keep x o (a.keep x o e hJ) fun q => by
    rcases a.jnew x q with q | q
    · exact hJ q
    · rw [e] at q; cases q
  ex := fun x o e => let ⟨o', e'⟩ := a.ex x o e; b.ex x o' e'
  fr := fun x e => b.fr x (a.fr x e)
  fnew := fun x e => by
    rcases b.fnew x e with q | q
    · exact a.fnew x q
    · right
      cases r : s.heap.get? x with
      | none => rfl
      | some o => obtain ⟨o', e'⟩ := a.ex x o r; exact none_ne ((q).symm.trans e')
  jp := fun i x e => b.jp i x (a.jp i x e)
  jnew := fun x e => by
    rcases b.jnew x e with q | q
    · exact a.jnew x q
    · right
      cases r : s.heap.get? x with
      | none => rfl
      | some o => obtain ⟨o', e'⟩ := a.ex x o r; exact none_ne ((q).symm.trans e')

theorem Step.keepF {G : Cx} {V V' : View} {s s' : Shared} {I : MSt} (a : Step V s V' s') (g : Good G V s I) : KeepF V s.heap s'.heap :=
  fun b o hF e => a.keep b o e fun hJ => g.st.apart b hJ hF

theorem Rep.step {G : Cx} {V V' : View} {s s' : Shared} {I : MSt} {v : Value} {d : Dat} (r : Rep G V s.heap v d) (a : Step V s V' s') (g : Good G V s I) : Rep G V' s'.heap v d :=
  r.mono a.fr a.jp (a.keepF g)
theorem Reps.step {G : Cx} {V V' : View} {s s' : Shared} {I : MSt} {v : List Value} {d : List Dat} (r : Reps G V s.heap v d) (a : Step V s V' s') (g : Good G V s I) : Reps G V' s'.heap v d :=
  r.mono a.fr a.jp (a.keepF g)
theorem RepsE.step {G : Cx} {V V' : View} {s s' : Shared} {I : MSt} {v : List DictEntry} {d : List (Str × Dat)} (r : RepsE G V s.heap v d) (a : Step V s V' s') (g : Good G V s I) : RepsE G V' s'.heap v d :=
  r.mono a.fr a.jp (a.keepF g)

theorem At.keep {h h' : Heap} {env : Env} {x : Str} {ov : Option Value} (a : At h env x ov) (hl : ∀ o, h.get? env.locals = some o → h'.get? env.locals = some o)
    (hc : ∀ c o, env.cells.lookup x = some c → h.get? c = some o → h'.get? c = some o) : At h' env x ov := by
  rcases a with ⟨k, m, ⟨o, es, ep, ho, r⟩, e⟩ | ⟨k, c, hcc, o, ho, hd⟩
  · exact .inl ⟨k, m, ⟨o, es, ep, hl o ho, r⟩, e⟩
  · exact .inr ⟨k, c, hcc, o, hc c o hcc ho, hd⟩

set_option tactic.hygienic true in
theorem foot_keep {h h' : Heap} {v : Value} (hk : ∀ a o, v = .ref a → h.get? a = some o → h'.get? a = some o) (hx : ∀ a, v = .ref a → ∃ o, h.get? a = some o) : foot h' v = foot h v := by
  cases v <;> try rfl
  rename_i a
  refine g_e (hx a rfl) fun o ho => ?_
  simp only [foot, ho, hk a o rfl ho]

theorem Own.ref {G : Cx} {V : View} {h : Heap} {v : Value} {d : Dat} (w : Own G V h v d) : ∃ a o, v = .ref a ∧ h.get? a = some o := by
  cases w with
  | list hl hs => obtain ⟨n, e⟩ := hl; exact ⟨_, _, rfl, e⟩
  | idict hl hn hs => obtain ⟨o, _, _, e, _⟩ := hl; exact ⟨_, _, rfl, e⟩
  | obj ho hd hs => exact ⟨_, _, rfl, ho⟩
  | pobj ho hd hs => exact ⟨_, _, rfl, ho⟩

theorem Own.foot_ex {G : Cx} {V : View} {h : Heap} {v : Value} {d : Dat} (w : Own G V h v d) : ∀ a ∈ foot h v, ∃ o, h.get? a = some o := by
  cases w with
  | list hl hs =>
    refine g_e hl fun n e => ?_
    intro b hb
    simp only [foot, e, Option.toList, List.mem_cons, List.not_mem_nil, or_false] at hb
    exact ⟨_, hb ▸ e⟩
  | idict hl hn hs =>
    refine g_eeeaa hl fun o _ _ e hx _ => ?_
    intro b hb
    simp only [foot, e, hx.2.1, Option.toList, List.mem_cons, List.not_mem_nil, or_false] at hb
    exact ⟨_, hb ▸ e⟩
  | obj ho hd hs =>
    intro b hb
    simp only [foot, ho, Option.toList, List.mem_cons, List.not_mem_nil, or_false] at hb
    rcases hb with rfl | rfl
    · exact ⟨_, ho⟩
    · exact ⟨_, hd⟩
  | pobj ho hd hs =>
    intro b hb
    simp only [foot, ho, Option.toList, List.mem_cons, List.not_mem_nil, or_false] at hb
    rcases hb with rfl | rfl
    · exact ⟨_, ho⟩
    · exact ⟨_, hd⟩

-- a mutable thing stays where its footprint is kept
theorem Own.keep {G : Cx} {V V' : View} {h h' : Heap} {v : Value} {d : Dat} (w : Own G V h v d) (hF : ∀ b, V.F b → V'.F b) (hJ : ∀ (i : Nat) (a : Addr), V.J[i]? = some a → V'.J[i]? = some a) (hk : KeepF V h h')
    (hf : ∀ a ∈ foot h v, ∀ o, h.get? a = some o → h'.get? a = some o) : Own G V' h' v d := by
  cases w with
  | list hl hs =>
    refine g_e hl fun n e => ?_
    exact .list ⟨n, hf _ (by simp [foot]) _ e⟩ (hs.mono hF hJ hk)
  | idict hl hn hs =>
    refine g_eeea hl fun o es ep e r => ?_
    exact .idict ⟨o, es, ep, hf _ (by simp [foot]) _ e, r⟩ hn hs
  | obj ho hd hs =>
    exact .obj (hf _ (by simp [foot]) _ ho) (hf _ (by simp [foot, ho]) _ hd) (hs.mono hF hJ hk)
  | pobj ho hd hs =>
    exact .pobj (hf _ (by simp [foot]) _ ho) (hf _ (by simp [foot, ho]) _ hd) (hs.mono hF hJ hk)

theorem Own.foot_keep {G : Cx} {V : View} {h h' : Heap} {v : Value} {d : Dat} (w : Own G V h v d) (hf : ∀ a ∈ foot h v, ∀ o, h.get? a = some o → h'.get? a = some o) : foot h' v = foot h v := by
  refine g_eea w.ref fun a o q2ₑ ho => ?_
  subst q2ₑ
  refine Mine.foot_keep (fun b ob e q => ?_) fun b e => ?_
  · cases e; exact hf a (by simp [foot]) ob q
  · cases e; exact ⟨o, ho⟩

theorem EnvOk.locEx {G : Cx} {V : View} {h : Heap} {env : Env} {σ : Sto} (w : EnvOk G V h env σ) : ∃ o, h.get? env.locals = some o :=
  let ⟨_, o, _, _, ho, _⟩ := w.loc; ⟨o, ho⟩

theorem EnvOk.step {G : Cx} {V V' : View} {s s' : Shared} {I : MSt} {env : Env} {σ : Sto} (w : EnvOk G V s.heap env σ) (a : Step V s V' s') (g : Good G V s I) : EnvOk G V' s'.heap env σ := by
  have kl : ∀ o, s.heap.get? env.locals = some o → s'.heap.get? env.locals = some o := fun o e => a.keep _ o e w.locJ
  have kc : ∀ x : Str, (env.kindOf x = some .cell ∨ env.kindOf x = some .free) → ∀ c o, env.cells.lookup x = some c → s.heap.get? c = some o → s'.heap.get? c = some o := fun x hx c o hc e => by
    refine g_eeaaaa (w.cel x hx) fun c' ov hc' _ _ hJ _ => ?_
    rw [hc] at hc'; cases hc'
    exact a.keep _ o e hJ
  have ka : ∀ {x : Str} {ov : Option Value}, At s.heap env x ov → At s'.heap env x ov := fun {x ov} r => by
    rcases id r with ⟨k, m, ⟨o, es, ep, ho, q⟩, e⟩ | ⟨k, c, hcc, o, ho, hd⟩
    · exact .inl ⟨k, m, ⟨o, es, ep, kl o ho, q⟩, e⟩
    · exact .inr ⟨k, c, hcc, o, kc x k c o hcc ho, hd⟩
  have fresh : ∀ b o, s.heap.get? b = some o → ¬ V.F b → ¬ V'.F b := fun b o e n q => by
    rcases a.fnew b q with q | q
    · exact n q
    · rw [e] at q; cases q
  have freshJ : ∀ b o, s.heap.get? b = some o → b ∉ V.J → b ∉ V'.J := fun b o e n q => by
    rcases a.jnew b q with q | q
    · exact n q
    · rw [e] at q; cases q
  have ko : ∀ {x : String} {d : Dat}, σ x = .own d → ∀ v, At s.heap env (Str.ofString x) (some v) → Own G V s.heap v d ∧ (∀ b ∈ foot s.heap v, Free V env b) ∧ (∀ b ∈ foot s.heap v, ∀ o, s.heap.get? b = some o → s'.heap.get? b = some o) ∧ foot s'.heap v = foot s.heap v := by
    intro x d e v hv
    refine g_eaa (w.own x d e) fun u hu ho hf => ?_
    obtain rfl := Option.some.inj (At.unique hv hu)
    have hk : ∀ b ∈ foot s.heap v, ∀ o, s.heap.get? b = some o → s'.heap.get? b = some o := fun b hb o e => a.keep b o e (hf b hb).J
    exact ⟨ho, hf, hk, ho.foot_keep hk⟩
  have back : ∀ {x : Str} {v : Value}, At s'.heap env x (some v) → (∃ u, At s.heap env x (some u)) → At s.heap env x (some v) := fun {x v} r ⟨u, hu⟩ => by
    have := At.unique r (ka hu); cases this; exact hu
  refine ⟨w.kind, w.glob, w.bui, ?_, ?_, ?_, ?_, fun y c q => let ⟨⟨o, e⟩, hF, hJ⟩ := w.cex y c q; ⟨a.ex c o e, fresh c o e hF, freshJ c o e hJ⟩, w.inj, ?_, ?_, ?_⟩
  · obtain ⟨m, o, es, ep, ho, r⟩ := w.loc; exact ⟨m, o, es, ep, kl o ho, r⟩
  · obtain ⟨o, ho⟩ := w.locEx; exact fresh _ o ho w.locF
  · obtain ⟨o, ho⟩ := w.locEx; exact freshJ _ o ho w.locJ
  · intro x hx
    refine g_eeaaaa (w.cel x hx) fun c ov hc q3ₜ hF hJ hl => ?_
    refine g_ea q3ₜ fun o ho hd => ?_
    exact ⟨c, ov, hc, ⟨o, kc x hx c o hc ho, hd⟩, fresh _ o ho hF, freshJ _ o ho hJ, hl⟩
  · intro x d e
    refine g_ea (w.frz x d e) fun v hv r => ?_
    exact ⟨v, ka hv, r.step a g⟩
  · intro x d e
    refine g_eaa (w.own x d e) fun v hv ho hf => ?_
    refine g_aaa (ko e v hv) fun _ _ hk hfe => ?_
    refine ⟨v, ka hv, ho.keep a.fr a.jp (a.keepF g) hk, fun b hb => ?_⟩
    rw [hfe] at hb
    refine g_e (ho.foot_ex b hb) fun o hob => ?_
    exact ⟨fresh b o hob (hf b hb).F, freshJ b o hob (hf b hb).J, (hf b hb).loc, (hf b hb).cel⟩
  · intro x y d d' v u hxy ex ey hv hu b hb hb'
    refine g_ea (w.own x d ex) fun v₀ hv₀ _ => ?_
    refine g_ea (w.own y d' ey) fun u₀ hu₀ _ => ?_
    have hv := back hv ⟨_, hv₀⟩
    have hu := back hu ⟨_, hu₀⟩
    rw [(ko ex v hv).2.2.2] at hb
    rw [(ko ey u hu).2.2.2] at hb'
    exact w.dis x y d d' v u hxy ex ey hv hu b hb hb'

theorem Room.le {A : Around} {n m : Nat} (r : Room A n) (h : m ≤ n) : Room A m := ⟨r.handled, by have := r.depth; lia, by have := r.units; lia⟩
theorem Room.in1 {A : Around} {n : Nat} (r : Room A (n + 1)) : Room A.in1 n := ⟨r.handled, by have := r.depth; show A.depth + n < _; lia, by have := r.units; show A.units + 1 + 20 * n + 100 < _; lia⟩
theorem Room.deeper {A : Around} {n : Nat} {env : Env} (r : Room A (n + 1)) : Room (A.deeper env) n := ⟨r.handled, by have := r.depth; show A.depth + 1 + n < _; lia, by have := r.units; show A.units + 3 + 20 * n + 100 < _; lia⟩
end

-- M02
section

noncomputable abbrev Md (G : Cx) : Model := model G.prog G.w
noncomputable abbrev Ev := Sto → MSt → Option (Dat × MSt)
noncomputable abbrev Bv := Sto → MSt → Option (Bool × MSt)
noncomputable abbrev No : Value → Shared → Prop := fun _ _ => False

noncomputable def View.add (V : View) (a : Addr) : View := ⟨fun b => V.F b ∨ b = a, V.J⟩

-- the state behind an evaluation
inductive PE (G : Cx) (V : View) (s : Shared) (I : MSt) (R : View → Heap → Value → Prop) (v : Value) (s' : Shared) : Prop
  | mk (V' : View) (st : Step V s V' s') (g : Good G V' s' I) (r : R V' s'.heap v)
inductive PT (G : Cx) (V : View) (s : Shared) (I : MSt) (d b : Bool) (s' : Shared) : Prop
  | mk (e : b = d) (V' : View) (st : Step V s V' s') (g : Good G V' s' I)

-- a value that may be looked at: frozen, or a mutable one of this block's
noncomputable def Rep1 (G : Cx) (V : View) (h : Heap) (v : Value) (d : Dat) : Prop := Rep G V h v d ∨ (Own G V h v d ∧ ∀ a ∈ foot h v, a ∉ V.J)

structure SoundE (G : Cx) (n : Nat) (sc : Scope) (e : Expr) (f : Ev) : Prop where
  run :
  ∀ (A : Around) (env : Env) (V : View) (σ : Sto) (I : MSt) (s : Shared) (d : Dat) (I' : MSt),
    env.scope = sc → Room A n → Good G V s I → EnvOk G V s.heap env σ → f σ I = some (d, I') →
    wpAny (Md G) A (eval e env) (PE G V s I' fun V' h v => Rep G V' h v d) No s

structure SoundB (G : Cx) (n : Nat) (sc : Scope) (e : Expr) (f : Ev) : Prop where
  run :
  ∀ (A : Around) (env : Env) (V : View) (σ : Sto) (I : MSt) (s : Shared) (d : Dat) (I' : MSt),
    env.scope = sc → Room A n → Good G V s I → EnvOk G V s.heap env σ → f σ I = some (d, I') →
    wpAny (Md G) A (eval e env) (PE G V s I' fun V' h v => Rep1 G V' h v d) No s

-- a fresh mutable thing
structure SoundO (G : Cx) (n : Nat) (sc : Scope) (e : Expr) (f : Ev) : Prop where
  run :
  ∀ (A : Around) (env : Env) (V : View) (σ : Sto) (I : MSt) (s : Shared) (d : Dat) (I' : MSt),
    env.scope = sc → Room A n → Good G V s I → EnvOk G V s.heap env σ → f σ I = some (d, I') →
    wpAny (Md G) A (eval e env) (PE G V s I' fun V' h v => Own G V' h v d ∧ ∀ a ∈ foot h v, s.heap.get? a = none ∧ ¬ V'.F a ∧ a ∉ V'.J) No s

structure SoundT (G : Cx) (n : Nat) (sc : Scope) (e : Expr) (f : Bv) : Prop where
  run :
  ∀ (A : Around) (env : Env) (V : View) (σ : Sto) (I : MSt) (s : Shared) (d : Bool) (I' : MSt),
    env.scope = sc → Room A n → Good G V s I → EnvOk G V s.heap env σ → f σ I = some (d, I') →
    wpAny (Md G) A (isTrue e env (eval e env)) (PT G V s I' d) No s

theorem get_size (h : Heap) : h.get? h.objs.size = none := by
  cases e : h.get? h.objs.size with
  | none => rfl
  | some o => exact absurd (Heap.lt_size e) (Nat.lt_irrefl _)

theorem Step.toks (V : View) (s : Shared) (k : Nat) : Step V s V { s with toks := k } :=
  ⟨rfl, rfl, fun _ _ e _ => e, fun _ o e => ⟨o, e⟩, fun _ e => e, fun _ e => .inl e, fun _ _ e => e, fun _ e => .inl e⟩
theorem Step.push (V : View) (s : Shared) (o : Obj) (k : Nat) : Step V s V { s with heap := s.heap.push o, toks := k } :=
  ⟨rfl, rfl, fun _ _ e _ => Heap.get?_push_of_some _ e, fun _ o e => ⟨o, Heap.get?_push_of_some _ e⟩, fun _ e => e, fun _ e => .inl e, fun _ _ e => e, fun _ e => .inl e⟩
-- a new object that is frozen at once
theorem Step.add {V : View} {s s' : Shared} {a : Addr} (h : Step V s V s') (ha : s.heap.get? a = none) : Step V s (V.add a) s' :=
  ⟨h.gens, h.os, h.keep, h.ex, fun _ e => .inl e, fun b e => by
    rcases e with e | rfl
    · exact .inl e
    · exact .inr ha, fun _ _ e => e, fun _ e => .inl e⟩

theorem Stores.keeps {G : Cx} {V : View} {h h' : Heap} {I : MSt} (x : Stores G V h I) (hk : ∀ b ∈ V.J, ∀ o, h.get? b = some o → h'.get? b = some o) : Stores G V h' I :=
  ⟨x.len, x.nodup, x.apart, fun i a kvs e q => by
    refine g_ea (x.at_ i a kvs e q) fun vs q1ₜ sv => ?_
    obtain ⟨o, es, ep, ho, r⟩ := q1ₜ
    exact ⟨vs, ⟨o, es, ep, hk a (List.mem_of_getElem? e) o ho, r⟩, sv⟩⟩
theorem Stores.add {G : Cx} {V : View} {h : Heap} {I : MSt} {a : Addr} (x : Stores G V h I) (ha : a ∉ V.J) : Stores G (V.add a) h I :=
  ⟨x.len, x.nodup, fun b hb q => by
    rcases q with q | rfl
    · exact x.apart b hb q
    · exact ha hb, x.at_⟩

theorem Stores.exists {G : Cx} {V : View} {h : Heap} {I : MSt} (x : Stores G V h I) {b : Addr} (hb : b ∈ V.J) : ∃ o, h.get? b = some o := by
  obtain ⟨i, hi, rfl⟩ := List.mem_iff_getElem.mp hb
  have hi' : i < I.length := x.len ▸ hi
  refine g_ea (x.at_ i V.J[i] I[i] (by simp) (by simp [hi'])) fun vs q1ₜ _ => ?_
  obtain ⟨o, es, ep, ho, r⟩ := q1ₜ
  exact ⟨o, ho⟩

theorem Good.keeps {G : Cx} {V : View} {s s' : Shared} {I : MSt} (x : Good G V s I) (hk : ∀ b o, s.heap.get? b = some o → s'.heap.get? b = some o) : Good G V s' I :=
  ⟨fun b o e => ⟨(x.base b o e).1, hk b o (x.base b o e).2⟩, x.st.keeps fun b _ o e => hk b o e, fun b e => let ⟨o, q⟩ := x.ex b e; ⟨o, hk b o q⟩⟩
theorem Good.add {G : Cx} {V : View} {s : Shared} {I : MSt} {a : Addr} (x : Good G V s I) (ha : a ∉ V.J) (he : ∃ o, s.heap.get? a = some o) : Good G (V.add a) s I :=
  ⟨fun b o e => ⟨.inl (x.base b o e).1, (x.base b o e).2⟩, x.st.add ha, fun b e => by
    rcases e with e | rfl
    · exact x.ex b e
    · exact he⟩
theorem Good.toks {G : Cx} {V : View} {s : Shared} {I : MSt} (x : Good G V s I) (k : Nat) : Good G V { s with toks := k } I := x.keeps fun _ _ e => e
theorem Good.push {G : Cx} {V : View} {s : Shared} {I : MSt} (x : Good G V s I) (o : Obj) (k : Nat) : Good G V { s with heap := s.heap.push o, toks := k } I := x.keeps fun _ _ e => Heap.get?_push_of_some _ e
theorem Good.notJ {G : Cx} {V : View} {s : Shared} {I : MSt} (x : Good G V s I) {a : Addr} (h : s.heap.get? a = none) : a ∉ V.J := fun q => by
  obtain ⟨o, e⟩ := x.st.exists q; rw [h] at e; cases e

theorem PE.trans {G : Cx} {V V₁ : View} {s s₁ s₂ : Shared} {I : MSt} {R : View → Heap → Value → Prop} {v : Value} (a : Step V s V₁ s₁) (b : PE G V₁ s₁ I R v s₂) : PE G V s I R v s₂ := by
  obtain ⟨V', st, g, r⟩ := b
  exact ⟨V', a.trans st, g, r⟩
-- nothing has changed but the marks
theorem PE.same {G : Cx} {V : View} {s : Shared} {I : MSt} {R : View → Heap → Value → Prop} {v : Value} (g : Good G V s I) (k : Nat) (h : R V s.heap v) : PE G V s I R v { s with toks := k } :=
  ⟨V, Step.toks V s k, g.toks k, h⟩
theorem PE.refl {G : Cx} {V : View} {s : Shared} {I : MSt} {R : View → Heap → Value → Prop} {v : Value} (g : Good G V s I) (h : R V s.heap v) : PE G V s I R v s :=
  ⟨V, Step.refl V s, g, h⟩

theorem Rep1.of {G : Cx} {V : View} {h : Heap} {v : Value} {d : Dat} (r : Rep G V h v d) : Rep1 G V h v d := .inl r
theorem Rep1.step {G : Cx} {V V' : View} {s s' : Shared} {I : MSt} {v : Value} {d : Dat} (r : Rep1 G V s.heap v d) (a : Step V s V' s') (g : Good G V s I) : Rep1 G V' s'.heap v d := by
  rcases r with r | ⟨r, hJ⟩
  · exact .inl (r.step a g)
  · have hk : ∀ b ∈ foot s.heap v, ∀ o, s.heap.get? b = some o → s'.heap.get? b = some o := fun b hb o e => a.keep b o e (hJ b hb)
    refine .inr ⟨r.keep a.fr a.jp (a.keepF g) hk, fun b hb q => ?_⟩
    replace hb := (r.foot_keep hk) ▸ hb
    refine g_e (r.foot_ex b hb) fun o ho => ?_
    rcases a.jnew b q with q | q
    · exact hJ b hb q
    · rw [ho] at q; cases q

-- what stands behind a datum
section
variable (G : Cx) (V : View) (h : Heap) (v : Value)
inductive FL (xs : List Dat) : Prop | mk (a : Addr) (vs : Array Value) (e : v = .ref a) (hF : V.F a) (hl : h.PlainList a vs) (hs : Reps G V h vs.toList xs)
inductive FT (xs : List Dat) : Prop | mk (a : Addr) (vs : Array Value) (e : v = .ref a) (hF : V.F a) (hl : PlainTup h a vs) (hs : Reps G V h vs.toList xs)
inductive FD (kvs : List (Int × Int)) : Prop | mk (a : Addr) (vs : List (Int × Value)) (e : v = .ref a) (hF : V.F a) (hl : h.DictOf (intKind G.prog G.w) a vs) (hn : a ≠ sysModules) (hs : Vals vs kvs)
inductive FS (xs : List Str) : Prop | mk (a : Addr) (o : Obj) (e : v = .ref a) (hF : V.F a) (hl : h.get? a = some o) (hs : SetIs G o xs)
inductive FO (C : Addr) (at_ : List (Str × Dat)) : Prop | mk (x dx : Addr) (es : List DictEntry) (n : Nat) (e : v = .ref x) (hF : V.F x) (hFd : V.F dx) (ho : h.get? x = some (instObj C dx)) (hd : h.get? dx = some (dictOf es n)) (hs : RepsE G V h es at_)
noncomputable def Is : Dat → Prop
  | .none => v = .none
  | .bool b => v = .bool b
  | .int i => ∃ t, v = .int i t
  | .str x => ∃ t, v = .str x t
  | .list xs => FL G V h v xs
  | .tup xs => FT G V h v xs
  | .idict kvs => FD G V h v kvs
  | .sset xs => FS G V h v xs
  | .obj C at_ => FO G V h v C at_
  | .pobj x C at_ => v = .ref x ∧ FO G V h v C at_
  | .mdict i => ∃ a, v = .ref a ∧ V.J[i]? = some a
  | .ty x => v = .type x
inductive OL (xs : List Dat) : Prop | mk (a : Addr) (vs : Array Value) (e : v = .ref a) (hl : h.PlainList a vs) (hs : Reps G V h vs.toList xs)
inductive OD (kvs : List (Int × Int)) : Prop | mk (a : Addr) (vs : List (Int × Value)) (e : v = .ref a) (hl : h.DictOf (intKind G.prog G.w) a vs) (hn : a ≠ sysModules) (hs : Vals vs kvs)
inductive OO (C : Addr) (at_ : List (Str × Dat)) : Prop | mk (x dx : Addr) (es : List DictEntry) (n : Nat) (e : v = .ref x) (ho : h.get? x = some (instObj C dx)) (hd : h.get? dx = some (dictOf es n)) (hs : RepsE G V h es at_)
inductive OP (y C : Addr) (at_ : List (Str × Dat)) : Prop | mk (dx : Addr) (es : List DictEntry) (n : Nat) (e : v = .ref y) (ho : h.get? y = some (instObj C dx)) (hd : h.get? dx = some (dictOf es n)) (hs : RepsE G V h es at_)
noncomputable def OIs : Dat → Prop
  | .list xs => OL G V h v xs
  | .idict kvs => OD G h v kvs
  | .obj C at_ => OO G V h v C at_
  | .pobj y C at_ => OP G V h v y C at_
  | _ => False
end
section
variable {G : Cx} {V : View} {h : Heap} {v : Value} {d : Dat}
theorem Rep.is (r : Rep G V h v d) : Is G V h v d := by
  cases r with
  | none => rfl
  | bool b => rfl
  | int i t => exact ⟨t, rfl⟩
  | str x t => exact ⟨t, rfl⟩
  | list a l s => exact ⟨_, _, rfl, a, l, s⟩
  | tup a l s => exact ⟨_, _, rfl, a, l, s⟩
  | idict a l n s => exact ⟨_, _, rfl, a, l, n, s⟩
  | sset a l s => exact ⟨_, _, rfl, a, l, s⟩
  | obj a b ho hd s => exact ⟨_, _, _, _, rfl, a, b, ho, hd, s⟩
  | pobj a b ho hd s => exact ⟨rfl, _, _, _, _, rfl, a, b, ho, hd, s⟩
  | mdict j => exact ⟨_, rfl, j⟩
  | ty x => rfl
theorem Own.is (r : Own G V h v d) : OIs G V h v d := by
  cases r with
  | list l s => exact ⟨_, _, rfl, l, s⟩
  | idict l n s => exact ⟨_, _, rfl, l, n, s⟩
  | obj ho hd s => exact ⟨_, _, _, _, rfl, ho, hd, s⟩
  | pobj ho hd s => exact ⟨_, _, _, rfl, ho, hd, s⟩
theorem Rep1.either (r : Rep1 G V h v d) : Is G V h v d ∨ OIs G V h v d := r.imp Rep.is fun r => r.1.is
theorem Rep1.lst {xs : List Dat} (r : Rep1 G V h v (.list xs)) : OL G V h v xs := r.either.elim (fun ⟨a, vs, e, _, l, s⟩ => ⟨a, vs, e, l, s⟩) id
theorem Rep1.int {i : Int} (r : Rep1 G V h v (.int i)) : ∃ t, v = .int i t := r.either.elim id False.elim
theorem Rep1.str {i : Str} (r : Rep1 G V h v (.str i)) : ∃ t, v = .str i t := r.either.elim id False.elim
theorem Rep1.bool {i : Bool} (r : Rep1 G V h v (.bool i)) : v = .bool i := r.either.elim id False.elim
theorem Rep1.none (r : Rep1 G V h v .none) : v = .none := r.either.elim id False.elim
theorem Rep1.ty {x : String} (r : Rep1 G V h v (.ty x)) : v = .type x := r.either.elim id False.elim
theorem Rep1.tup {xs : List Dat} (r : Rep1 G V h v (.tup xs)) : FT G V h v xs := r.either.elim id False.elim
theorem Rep1.idict {kvs : List (Int × Int)} (r : Rep1 G V h v (.idict kvs)) : OD G h v kvs := r.either.elim (fun ⟨a, vs, e, _, l, n, s⟩ => ⟨a, vs, e, l, n, s⟩) id
theorem Rep1.mdict {i : Nat} (r : Rep1 G V h v (.mdict i)) : ∃ a, v = .ref a ∧ V.J[i]? = some a := r.either.elim id False.elim
theorem Rep1.sset {xs : List Str} (r : Rep1 G V h v (.sset xs)) : FS G V h v xs := r.either.elim id False.elim
theorem Rep1.obj {C : Nat} {at_ : List (Str × Dat)} (r : Rep1 G V h v (.obj C at_)) : OO G V h v C at_ := r.either.elim (fun ⟨x, dx, es, n, e, _, _, ho, hd, s⟩ => ⟨x, dx, es, n, e, ho, hd, s⟩) id
theorem Rep1.pobj {C y : Nat} {at_ : List (Str × Dat)} (r : Rep1 G V h v (.pobj y C at_)) : OO G V h v C at_ := r.either.elim (fun ⟨_, x, dx, es, n, e, _, _, ho, hd, s⟩ => ⟨x, dx, es, n, e, ho, hd, s⟩) fun ⟨dx, es, n, e, ho, hd, s⟩ => ⟨_, dx, es, n, e, ho, hd, s⟩
end

theorem Reps.length {G : Cx} {V : View} {h : Heap} {vs : List Value} {ds : List Dat} (r : Reps G V h vs ds) : vs.length = ds.length := Reps.ind r rfl fun _ _ _ _ _ _ ih => congrArg (· + 1) ih
theorem Reps.get {G : Cx} {V : View} {h : Heap} {vs : List Value} {ds : List Dat} (r : Reps G V h vs ds) {i : Nat} {d : Dat} (e : ds[i]? = some d) : ∃ v, vs[i]? = some v ∧ Rep G V h v d := by
  suffices q : ∀ i, ds[i]? = some d → ∃ v, vs[i]? = some v ∧ Rep G V h v d from q i e
  refine Reps.ind r (fun i e => none_ne e) fun v d' vs ds a _ ih i e => ?_
  cases i with
  | zero => exact ⟨v, rfl, (Option.some.inj e : d' = d) ▸ a⟩
  | succ i => exact ih i e
theorem Reps.append {G : Cx} {V : View} {h : Heap} {vs : List Value} {ds : List Dat} {vs' : List Value} {ds' : List Dat} (r : Reps G V h vs ds) (y : Reps G V h vs' ds') : Reps G V h (vs ++ vs') (ds ++ ds') := Reps.ind r y fun _ _ _ _ a _ ih => .cons a ih
theorem Reps.take {G : Cx} {V : View} {h : Heap} {vs : List Value} {ds : List Dat} (r : Reps G V h vs ds) (k : Nat) : Reps G V h (vs.take k) (ds.take k) := by
  revert k
  refine Reps.ind r (fun k => ?_) fun _ _ _ _ a _ ih k => ?_
  · cases k with
    | zero => exact .nil
    | succ k => exact .nil
  · cases k with
    | zero => exact .nil
    | succ k => exact .cons a (ih k)
theorem Reps.drop {G : Cx} {V : View} {h : Heap} {vs : List Value} {ds : List Dat} (r : Reps G V h vs ds) (k : Nat) : Reps G V h (vs.drop k) (ds.drop k) := by
  revert k
  refine Reps.ind r (fun k => ?_) fun _ _ _ _ a b ih k => ?_
  · cases k with
    | zero => exact .nil
    | succ k => exact .nil
  · cases k with
    | zero => exact .cons a b
    | succ k => exact ih k

theorem Good.notF {G : Cx} {V : View} {s : Shared} {I : MSt} (x : Good G V s I) {a : Addr} (h : s.heap.get? a = none) : ¬ V.F a := fun q => by
  obtain ⟨o, e⟩ := x.ex a q; rw [h] at e; cases e

-- a fresh list, still to be frozen
theorem PE.fresh {G : Cx} {V : View} {s : Shared} {I : MSt} {vs : Array Value} {xs : List Dat} {k n : Nat} (g : Good G V s I) (r : Reps G V s.heap vs.toList xs) :
    PE G V s I (fun V' h v => Own G V' h v (.list xs) ∧ ∀ a ∈ foot h v, s.heap.get? a = none ∧ ¬ V'.F a ∧ a ∉ V'.J) (.ref s.heap.objs.size)
      { s with heap := s.heap.push { cls := .type "list", data := .seq vs n }, toks := k } := by
  have e := get_size s.heap
  have st := Step.push V s { cls := .type "list", data := .seq vs n } k
  have ho : (s.heap.push { cls := .type "list", data := .seq vs n }).get? s.heap.objs.size = some { cls := .type "list", data := .seq vs n } := Heap.get?_push_size _ rfl
  refine ⟨V, st, g.push _ _, .list ⟨n, ho⟩ (r.step st g), fun a ha => ?_⟩
  simp only [foot, ho, Option.toList, List.mem_cons, List.not_mem_nil, or_false] at ha
  subst ha
  exact ⟨e, g.notF e, g.notJ e⟩

theorem Rep.add {G : Cx} {V : View} {h : Heap} {v : Value} {d : Dat} (r : Rep G V h v d) (a : Addr) : Rep G (V.add a) h v d := r.mono (V' := V.add a) (fun _ e => Or.inl e) (fun _ _ e => e) fun _ _ _ e => e
theorem Reps.add {G : Cx} {V : View} {h : Heap} {v : List Value} {d : List Dat} (r : Reps G V h v d) (a : Addr) : Reps G (V.add a) h v d := r.mono (V' := V.add a) (fun _ e => Or.inl e) (fun _ _ e => e) fun _ _ _ e => e
theorem RepsE.add {G : Cx} {V : View} {h : Heap} {v : List DictEntry} {d : List (Str × Dat)} (r : RepsE G V h v d) (a : Addr) : RepsE G (V.add a) h v d := r.mono (V' := V.add a) (fun _ e => Or.inl e) (fun _ _ e => e) fun _ _ _ e => e

theorem Own.freeze {G : Cx} {V : View} {h : Heap} {v : Value} {xs : List Dat} (w : Own G V h v (.list xs)) : ∃ a, v = .ref a ∧ Rep G (V.add a) h v (.list xs) := by
  obtain ⟨a, vs, rfl, hl, hs⟩ := w.is
  exact ⟨_, rfl, .list (.inr rfl) hl (hs.add _)⟩

-- frozen at once
theorem PE.freeze {G : Cx} {V : View} {s s' : Shared} {I : MSt} {xs : List Dat} {v : Value}
    (p : PE G V s I (fun V' h v => Own G V' h v (.list xs) ∧ ∀ a ∈ foot h v, s.heap.get? a = none ∧ ¬ V'.F a ∧ a ∉ V'.J) v s') : PE G V s I (fun V' h v => Rep G V' h v (.list xs)) v s' := by
  obtain ⟨V', st, g, ow, hf⟩ := p
  refine g_ea ow.freeze fun a q1ₑ r => ?_
  subst q1ₑ
  refine g_aa (hf a (by simp [foot])) fun hn hF hJ => ?_
  refine g_e (ow.foot_ex a (by simp [foot])) fun o ho => ?_
  refine ⟨V'.add a, ⟨st.gens, st.os, st.keep, st.ex, fun b e => .inl (st.fr b e), fun b e => ?_, st.jp, st.jnew⟩, g.add hJ ⟨o, ho⟩, r⟩
  rcases e with e | rfl
  · exact st.fnew b e
  · exact .inr hn

theorem PE.freshR {G : Cx} {V : View} {s : Shared} {I : MSt} {vs : Array Value} {xs : List Dat} {k n : Nat} (g : Good G V s I) (r : Reps G V s.heap vs.toList xs) :
    PE G V s I (fun V' h v => Rep G V' h v (.list xs)) (.ref s.heap.objs.size) { s with heap := s.heap.push { cls := .type "list", data := .seq vs n }, toks := k } := (PE.fresh g r).freeze

theorem PE.freshT {G : Cx} {V : View} {s : Shared} {I : MSt} {vs : Array Value} {xs : List Dat} {k n : Nat} (g : Good G V s I) (r : Reps G V s.heap vs.toList xs) :
    PE G V s I (fun V' h v => Rep G V' h v (.tup xs)) (.ref s.heap.objs.size) { s with heap := s.heap.push { cls := .type "tuple", data := .seq vs n }, toks := k } := by
  have e := get_size s.heap
  have st := Step.push V s { cls := .type "tuple", data := .seq vs n } k
  have ho : (s.heap.push { cls := .type "tuple", data := .seq vs n }).get? s.heap.objs.size = some { cls := .type "tuple", data := .seq vs n } := Heap.get?_push_size _ rfl
  refine ⟨V.add s.heap.objs.size, st.add e, (g.push _ _).add (g.notJ e) ⟨_, ho⟩, .tup (.inr rfl) ⟨n, ho⟩ ?_⟩
  exact (r.step st g).add _

-- dicts of ints
section
variable {K : Type} [DecidableEq K]
noncomputable def dget (kvs : List (K × Int)) (k : K) : Option Int := (kvs.find? fun kv => kv.1 = k).map (·.2)
noncomputable def dput (kvs : List (K × Int)) (k : K) (i : Int) : List (K × Int) :=
  if kvs.any (fun kv => kv.1 = k) then kvs.map (fun kv => if kv.1 = k then (kv.1, i) else kv) else kvs ++ [(k, i)]
theorem Vals.get {vs : List (K × Value)} {kvs : List (K × Int)} (h : Vals vs kvs) (k : K) : (∀ i, dget kvs k = some i → ∃ t, valueAt vs k = some (.int i t)) ∧ (dget kvs k = none → valueAt vs k = none) := by
  refine Vals.ind h ⟨fun i e => none_ne e, fun _ => rfl⟩ fun a j t vs kvs _ ih => ?_
  by_cases e : a = k
  · subst e; simp [dget, valueAt]
  · simpa [dget, valueAt, List.find?_cons, e] using ih
theorem Vals.any {vs : List (K × Value)} {kvs : List (K × Int)} (h : Vals vs kvs) (k : K) : (vs.any fun kv => kv.1 = k) = kvs.any fun kv => kv.1 = k :=
  Vals.ind h rfl fun a _ _ _ _ _ ih => congrArg (decide (a = k) || ·) ih
theorem Vals.app {vs : List (K × Value)} {kvs : List (K × Int)} (h : Vals vs kvs) (k : K) (i : Int) (t : Tok) : Vals (vs ++ [(k, .int i t)]) (kvs ++ [(k, i)]) :=
  Vals.ind h ⟨⟨rfl, t, rfl⟩, trivial⟩ fun _ _ t' _ _ _ ih => ⟨⟨rfl, t', rfl⟩, ih⟩
theorem Vals.map {vs : List (K × Value)} {kvs : List (K × Int)} (h : Vals vs kvs) (k : K) (i : Int) (t : Tok) : Vals (vs.map fun kv => if kv.1 = k then (kv.1, .int i t) else kv) (kvs.map fun kv => if kv.1 = k then (kv.1, i) else kv) := by
  refine Vals.ind h trivial fun a j t' vs kvs _ ih => ⟨?_, ih⟩
  by_cases e : a = k
  · simp [e]
  · simp [e]
theorem Vals.put {vs : List (K × Value)} {kvs : List (K × Int)} (h : Vals vs kvs) (k : K) (i : Int) (t : Tok) : Vals (stored vs k (.int i t)) (dput kvs k i) := by
  unfold stored dput
  rw [h.any k]
  split
  · exact h.map k i t
  · exact h.app k i t
theorem Vals.length {vs : List (K × Value)} {kvs : List (K × Int)} (h : Vals vs kvs) : vs.length = kvs.length := Vals.ind h rfl fun _ _ _ _ _ _ ih => congrArg (· + 1) ih
end
end

-- M03
section
variable {G : Cx} {n : Nat} {sc : Scope}

theorem SoundE.toB {e : Expr} {f : Ev} (h : SoundE G n sc e f) : SoundB G n sc e f := .mk fun A env V σ I s d I' hs r g w hf =>
  wpAny_mono (h.run A env V σ I s d I' hs r g w hf) (fun _ _ ⟨V', st, g', q⟩ => ⟨V', st, g', .inl q⟩) fun _ _ x => x

-- go on behind an evaluation
theorem SoundE.use {e : Expr} {f : Ev} (h : SoundE G n sc e f) {A : Around} {env : Env} {V : View} {σ : Sto} {I : MSt} {s : Shared} {d : Dat} {I' : MSt} {Q : Value → Shared → Prop}
    (hs : env.scope = sc) (r : Room A n) (g : Good G V s I) (w : EnvOk G V s.heap env σ) (hf : f σ I = some (d, I'))
    (k : ∀ V' s' v, Step V s V' s' → Good G V' s' I' → EnvOk G V' s'.heap env σ → Rep G V' s'.heap v d → Q v s') : wpAny (Md G) A (eval e env) Q No s :=
  wpAny_mono (h.run A env V σ I s d I' hs r g w hf) (fun v s' ⟨V', st, g', q⟩ => k V' s' v st g' (w.step st g) q) fun _ _ x => x
theorem SoundB.use {e : Expr} {f : Ev} (h : SoundB G n sc e f) {A : Around} {env : Env} {V : View} {σ : Sto} {I : MSt} {s : Shared} {d : Dat} {I' : MSt} {Q : Value → Shared → Prop}
    (hs : env.scope = sc) (r : Room A n) (g : Good G V s I) (w : EnvOk G V s.heap env σ) (hf : f σ I = some (d, I'))
    (k : ∀ V' s' v, Step V s V' s' → Good G V' s' I' → EnvOk G V' s'.heap env σ → Rep1 G V' s'.heap v d → Q v s') : wpAny (Md G) A (eval e env) Q No s :=
  wpAny_mono (h.run A env V σ I s d I' hs r g w hf) (fun v s' ⟨V', st, g', q⟩ => k V' s' v st g' (w.step st g) q) fun _ _ x => x
theorem SoundT.use {e : Expr} {f : Bv} (h : SoundT G n sc e f) {A : Around} {env : Env} {V : View} {σ : Sto} {I : MSt} {s : Shared} {d : Bool} {I' : MSt} {Q : Bool → Shared → Prop}
    (hs : env.scope = sc) (r : Room A n) (g : Good G V s I) (w : EnvOk G V s.heap env σ) (hf : f σ I = some (d, I'))
    (k : ∀ V' s', Step V s V' s' → Good G V' s' I' → EnvOk G V' s'.heap env σ → Q d s') : wpAny (Md G) A (isTrue e env (eval e env)) Q No s :=
  wpAny_mono (h.run A env V σ I s d I' hs r g w hf) (fun v s' ⟨e, V', st, g'⟩ => e ▸ k V' s' st g' (w.step st g)) fun _ _ x => x

theorem SoundO.toE {e : Expr} {f : Ev} (h : SoundO G n sc e f) (hl : ∀ σ I d I', f σ I = some (d, I') → ∃ xs, d = .list xs) : SoundE G n sc e f := .mk fun A env V σ I s d I' hs r g w hf => by
  refine g_e (hl _ _ _ _ hf) fun xs q1ₑ => ?_
  subst q1ₑ
  exact wpAny_mono (h.run A env V σ I s _ I' hs r g w hf) (fun _ _ p => p.freeze) fun _ _ x => x

-- names

noncomputable def evName (x : String) : Ev := fun σ I => (entFrz (σ x)).bind fun d => some (d, I)
noncomputable def entVal : Ent → Option Dat
  | .frz d => some d
  | .own d => some d
  | .unb => none
noncomputable def evNameB (x : String) : Ev := fun σ I => (entVal (σ x)).bind fun d => some (d, I)

theorem load_at {A : Around} {env : Env} {s : Shared} {x : Str} {v : Value} {pos : Pos} {Q : Value → Shared → Prop} (hk : env.scope.kind = .function) (h : At s.heap env x (some v)) (hd : (x == ("__debug__" : Str)) = false) (hn : (x == ("__classdict__" : Str)) = false) (q : Q v s) :
    wpAny (Md G) A (eval (.Name x pos) env) Q No s := by
  refine wpAny_Name ?_ hd
  rcases h with ⟨k, m, ns, e⟩ | ⟨k | k, c, hc, hv⟩
  · exact wpAny_loadName_local hk k ns e q
  · exact wpAny_loadName_cell hk k hc hv q
  · exact wpAny_loadName_free hk k hc hv q hn

theorem SoundE.name {x : String} {pos : Pos} (hd : (Str.ofString x == ("__debug__" : Str)) = false := by decide +kernel) (hn : (Str.ofString x == ("__classdict__" : Str)) = false := by decide +kernel) :
    SoundE G n sc (.Name (Str.ofString x) pos) (evName x) := .mk fun A env V σ I s d I' hs r g w hf => by
  refine bind_go hf fun d' e hf => g_ea (w.frz x _ (entFrz_go e)) fun v hv q => ?_
  exact some2 hf (load_at w.kind hv hd hn (PE.refl g q))
theorem SoundB.name {x : String} {pos : Pos} (hd : (Str.ofString x == ("__debug__" : Str)) = false := by decide +kernel) (hn : (Str.ofString x == ("__classdict__" : Str)) = false := by decide +kernel) :
    SoundB G n sc (.Name (Str.ofString x) pos) (evNameB x) := .mk fun A env V σ I s d I' hs r g w hf => by
  refine bind_go hf fun d' e hf => ?_
  refine some2 hf ?_
  have key : ∃ v, At s.heap env (Str.ofString x) (some v) ∧ Rep1 G V s.heap v d' := by
    cases q : σ x with
    | unb => rw [q] at e; exact none_ne e
    | frz c => rw [q] at e; exact Option.some.inj e ▸ g_ea (w.frz x _ q) fun v hv q => ⟨v, hv, .inl q⟩
    | own c => rw [q] at e; exact Option.some.inj e ▸ g_eaa (w.own x _ q) fun v hv q hf => ⟨v, hv, .inr ⟨q, fun a ha => (hf a ha).J⟩⟩
  exact g_ea key fun v hv q => load_at w.kind hv hd hn (PE.refl g q)

-- constants

noncomputable def evC (d : Dat) : Ev := fun _ I => some (d, I)
theorem SoundE.int {i : Int} {k : Nat} {pos : Pos} : SoundE G n sc (.Constant (.int i) k pos) (evC (.int i)) := .mk fun A env V σ I s d I' hs r g w hf => by
  cases hf; exact wpAny_mkInt (PE.same g _ (.int _ _))
theorem SoundE.cstr {x : Str} {k : Nat} {pos : Pos} : SoundE G n sc (.Constant (.str x) k pos) (evC (.str x)) := .mk fun A env V σ I s d I' hs r g w hf => by
  cases hf; exact wpAny_mkText (PE.same g _ (.str _ _))
theorem SoundE.cnone {k : Nat} {pos : Pos} : SoundE G n sc (.Constant .none k pos) (evC .none) := .mk fun A env V σ I s d I' hs r g w hf => by
  cases hf; exact wpAny_pure (PE.refl g .none)
theorem SoundE.cbool {b : Bool} {k : Nat} {pos : Pos} : SoundE G n sc (.Constant (.bool b) k pos) (evC (.bool b)) := .mk fun A env V σ I s d I' hs r g w hf => by
  cases hf; exact wpAny_pure (PE.refl g (.bool b))

-- two operands

noncomputable def ev2 (fl fr : Ev) (p : MSt → Dat → Dat → Option Dat) : Ev := fun σ I => (fl σ I).bind fun a => (fr σ a.2).bind fun b => (p b.2 a.1 b.1).bind fun d => some (d, b.2)

theorem ev2_go {fl fr : Ev} {p : MSt → Dat → Dat → Option Dat} {σ : Sto} {I I' : MSt} {d : Dat} {Q : Prop} (h : ev2 fl fr p σ I = some (d, I')) (k : ∀ a I₁ b, fl σ I = some (a, I₁) → fr σ I₁ = some (b, I') → p I' a b = some d → Q) : Q := by
  refine bind_go2 h fun a I₁ ea h => bind_go2 h fun b I₂ eb h => bind_go h fun c ed h => ?_
  revert k
  exact some2 h fun k => k a I₁ b ea eb ed

noncomputable def OpS (G : Cx) (n : Nat) (t : Value → Value → Sem Value) (p : MSt → Dat → Dat → Option Dat) : Prop :=
  ∀ (A : Around) (V : View) (s : Shared) (I : MSt) (a b : Value) (da db d : Dat), Room A n → Good G V s I → Rep1 G V s.heap a da → Rep1 G V s.heap b db → p I da db = some d →
    wpAny (Md G) A (t a b) (PE G V s I fun V' h v => Rep G V' h v d) No s

theorem SoundE.bin {l r : Expr} {op : Operator} {pos : Pos} {fl fr : Ev} {p : MSt → Dat → Dat → Option Dat} (ho : OpS G n (binaryOp op) p) (hl : SoundB G n sc l fl) (hr : SoundB G n sc r fr) :
    SoundE G n sc (.BinOp l op r pos) (ev2 fl fr p) := .mk fun A env V σ I s d I' hs rm g w hf => by
  refine ev2_go hf fun a I₁ b ea eb ed => ?_
  refine wpAny_BinOp (hl.use hs rm g w ea fun V₁ s₁ v₁ st₁ g₁ w₁ r₁ => hr.use hs rm g₁ w₁ eb fun V₂ s₂ v₂ st₂ g₂ w₂ r₂ => ?_)
  exact wpAny_mono (ho A V₂ s₂ I' v₁ v₂ a b d rm g₂ (r₁.step st₂ g₁) r₂ ed) (fun _ _ q => q.trans (st₁.trans st₂)) fun _ _ x => x

theorem SoundE.cmp {l r : Expr} {op : CmpOp} {pos : Pos} {fl fr : Ev} {p : MSt → Dat → Dat → Option Dat} (ho : OpS G n (compareOp op) p) (hl : SoundB G n sc l fl) (hr : SoundB G n sc r fr) (hm : behindInMarks op r = false := by rfl) :
    SoundE G n sc (.Compare l [op] [r] pos) (ev2 fl fr p) := .mk fun A env V σ I s d I' hs rm g w hf => by
  refine ev2_go hf fun a I₁ b ea eb ed => ?_
  refine wpAny_Compare1 (hl.use hs rm g w ea fun V₁ s₁ v₁ st₁ g₁ w₁ r₁ => hr.use hs rm g₁ w₁ eb fun V₂ s₂ v₂ st₂ g₂ w₂ r₂ => ?_) hm
  exact wpAny_mono (ho A V₂ s₂ I' v₁ v₂ a b d rm g₂ (r₁.step st₂ g₁) r₂ ed) (fun _ _ q => q.trans (st₁.trans st₂)) fun _ _ x => x

-- arithmetic

noncomputable def dAdd (a b : Dat) : Option Dat := match a with
  | .int a => (datInt b).map fun b => .int (a + b)
  | .str a => (datStr b).bind fun b => if a.length + b.length ≤ sizeLine then some (.str (a ++ b)) else none
  | .list a => (datLst b).bind fun b => if a.length + b.length ≤ sizeLine then some (.list (a ++ b)) else none
  | _ => none
noncomputable def intsD (a b : Dat) (f : Int → Int → Option Dat) : Option Dat := (datInt a).bind fun a => (datInt b).bind fun b => f a b
theorem ints_go {a b d : Dat} {f : Int → Int → Option Dat} {P : Prop} (e : intsD a b f = some d) (k : ∀ i j, a = .int i → b = .int j → f i j = some d → P) : P :=
  bind_go e fun i hi e => bind_go e fun j hj e => k i j (datInt_go hi) (datInt_go hj) e
noncomputable def dSub (a b : Dat) : Option Dat := intsD a b fun a b => some (.int (a - b))
noncomputable def dMod (a b : Dat) : Option Dat := intsD a b fun a b => if b = 0 then none else some (.int (a.fmod b))
noncomputable def dDiv (a b : Dat) : Option Dat := intsD a b fun a b => if 0 < b ∧ b ≤ 1000 then some (.int (a.fdiv b)) else none

theorem size_of_reps {V : View} {h : Heap} {vs : Array Value} {xs : List Dat} (r : Reps G V h vs.toList xs) : vs.size = xs.length := by rw [← r.length, Array.length_toList]

theorem op_add : OpS G n (binaryOp .Add) (fun _ => dAdd) := fun A V s I a b da db d rm g ra rb e => by
  cases da with
  | int x =>
    refine map_go e fun y hy => ?_
    obtain ⟨t, rfl⟩ := ra.int; obtain ⟨u, rfl⟩ := (datInt_go hy ▸ rb).int
    exact add_int (PE.same g _ (.int _ _))
  | str x =>
    refine bind_go e fun y hy e => ite_go e fun hz => ?_
    obtain ⟨t, rfl⟩ := ra.str; obtain ⟨u, rfl⟩ := (datStr_go hy ▸ rb).str
    exact PyProof.Rows.add_str (fun t' tk => PE.same g _ (.str _ _)) hz
  | list x =>
    refine bind_go e fun y hy e => ite_go e fun hz => ?_
    obtain ⟨l, vs, rfl, ⟨k, hl⟩, rl⟩ := ra.lst; obtain ⟨m, us, rfl, ⟨k', hm⟩, rm'⟩ := (datLst_go hy ▸ rb).lst
    refine P.add_list hl hm ?_ (by rw [size_of_reps rl, size_of_reps rm']; exact hz)
    exact PE.freshR g (by rw [Array.toList_append]; exact rl.append rm')
  | _ => exact none_ne e

theorem op_ints {op : Value → Value → Sem Value} {f : Int → Int → Option Dat} (h : ∀ (A : Around) (V : View) (s : Shared) (I : MSt) (i j : Int) (t u : Tok) (d : Dat), Good G V s I → f i j = some d → wpAny (Md G) A (op (.int i t) (.int j u)) (PE G V s I fun V' h v => Rep G V' h v d) No s) :
    OpS G n op (fun _ a b => intsD a b f) := fun A V s I a b da db d rm g ra rb e => by
  refine ints_go e fun i j hi hj e => ?_
  obtain ⟨t, rfl⟩ := (hi ▸ ra).int; obtain ⟨u, rfl⟩ := (hj ▸ rb).int
  exact h A V s I i j t u d g e
theorem op_sub : OpS G n (binaryOp .Sub) (fun _ => dSub) := op_ints fun A V s I i j t u d g e => by
  refine some1 e ?_
  exact sub_int (PE.same g _ (.int _ _))
theorem op_mod : OpS G n (binaryOp .Mod) (fun _ => dMod) := op_ints fun A V s I i j t u d g e => by
  by_cases hb : j = 0
  · exact none_ne ((if_pos hb).symm.trans e)
  · refine some1 ((if_neg hb).symm.trans e) ?_
    exact mod_int' hb (PE.same g _ (.int _ _))
theorem noPylong {a b : Int} (h : 0 < b ∧ b ≤ 1000) : Builtin.divisionGoesByPylong a b = false := by
  unfold Builtin.divisionGoesByPylong
  have h0 : (b == 0) = false := by simp; omega
  have hl : b.natAbs.log2 < 10 := (Nat.log2_lt (by omega)).mpr (by omega)
  simp only [h0, Bool.false_eq_true, if_false]
  rw [Bool.and_eq_false_iff]
  left
  exact decide_eq_false (by omega)

theorem op_div : OpS G n (binaryOp .FloorDiv) (fun _ => dDiv) := op_ints fun A V s I i j t u d g e => by
  refine ite_go e fun hb => ?_
  exact floordiv_int (by omega) (PE.same g _ (.int _ _)) (.inl (noPylong hb))

end

-- M04
section
variable {G : Cx} {n : Nat} {sc : Scope}

-- plain data, as the library compares it
mutual
noncomputable def toPy : Dat → Option PyData
  | .none => some .none
  | .bool b => some (.bool b)
  | .int i => some (.int i)
  | .str s => some (.str s)
  | .list xs => match toPys xs with
    | some ys => some (.list ys)
    | none => none
  | _ => none
noncomputable def toPys : List Dat → Option (List PyData)
  | [] => some []
  | x :: r => match toPy x, toPys r with
    | some y, some ys => some (y :: ys)
    | _, _ => none
end

set_option tactic.hygienic true in
theorem toPys_cons {x : Dat} {r : List Dat} {ys : List PyData} (h : toPys (x :: r) = some ys) : ∃ y zs, toPy x = some y ∧ toPys r = some zs ∧ ys = y :: zs := by
  unfold toPys at h
  split at h
  · rename_i y zs e1 e2; cases h; exact ⟨y, zs, e1, e2, rfl⟩
  · exact none_ne h
set_option tactic.hygienic true in
theorem toPy_list {xs : List Dat} {p : PyData} (h : toPy (.list xs) = some p) : ∃ ys, toPys xs = some ys ∧ p = .list ys := by
  unfold toPy at h
  split at h
  · rename_i ys e; cases h; exact ⟨ys, e, rfl⟩
  · exact none_ne h

theorem Rep.reads {V : View} {h : Heap} {v : Value} {d : Dat} (r : Rep G V h v d) {p : PyData} (e : toPy d = some p) : ∃ as, PySem.Reads h v p as :=
  Rep.rec (motive_1 := fun v d _ => ∀ p, toPy d = some p → ∃ as, PySem.Reads h v p as) (motive_2 := fun vs ds _ => ∀ p, toPys ds = some p → ∃ as, PySem.ReadsAll h vs p as) (motive_3 := fun _ _ _ => True)
    (fun p e => by cases e; exact ⟨_, .none⟩) (fun b p e => by cases e; exact ⟨_, .bool b⟩) (fun i t p e => by cases e; exact ⟨_, .int i t⟩) (fun i t p e => by cases e; exact ⟨_, .str i t⟩)
    (fun _ hl _ ih p e => by
      refine g_ea (toPy_list e) fun ys ey q2ₑ => ?_
      subst q2ₑ
      refine g_e hl fun k ho => ?_
      refine g_e (ih ys ey) fun as r => ?_
      exact ⟨_, .list ho rfl rfl r⟩)
    (fun _ _ _ _ p e => nomatch e) (fun _ _ _ _ p e => nomatch e) (fun _ _ _ p e => nomatch e) (fun _ _ _ _ _ _ p e => nomatch e) (fun _ _ _ _ _ _ p e => nomatch e) (fun _ p e => nomatch e) (fun _ p e => nomatch e)
    (fun p e => by cases e; exact ⟨_, .nil⟩) (fun _ _ ih1 ih2 p e => by
      refine g_eeaa (toPys_cons e) fun y zs e1 e2 q4ₑ => ?_
      subst q4ₑ
      refine g_e (ih1 y e1) fun _ r => ?_
      refine g_e (ih2 zs e2) fun _ q => ?_
      exact ⟨_, .cons r q⟩) trivial (fun _ _ _ _ _ _ => trivial) r p e
theorem Reps.reads {V : View} {h : Heap} {vs : List Value} {ds : List Dat} (r : Reps G V h vs ds) {p : List PyData} (e : toPys ds = some p) : ∃ as, PySem.ReadsAll h vs p as := by
  induction vs generalizing ds p with
  | nil => cases r; cases e; exact ⟨_, .nil⟩
  | cons v vs ih =>
    cases r with
    | cons a b =>
      refine g_eeaa (toPys_cons e) fun y zs e1 e2 q4ₑ => ?_
      subst q4ₑ
      refine g_e (a.reads e1) fun _ r => ?_
      refine g_e (ih b e2) fun _ q => ?_
      exact ⟨_, .cons r q⟩

theorem Rep1.reads {V : View} {h : Heap} {v : Value} {d : Dat} (r : Rep1 G V h v d) {p : PyData} (e : toPy d = some p) : ∃ as, PySem.Reads h v p as := by
  rcases r with r | ⟨r, _⟩
  · exact r.reads e
  · have r := r.is
    cases d with
    | list xs =>
      obtain ⟨a, vs, rfl, ⟨k, ho⟩, hs⟩ := r
      refine g_ea (toPy_list e) fun ys ey q2ₑ => ?_
      subst q2ₑ
      refine g_e (Reps.reads hs ey) fun as r => ?_
      exact ⟨_, .list ho rfl rfl r⟩
    | idict => cases e
    | obj => cases e
    | pobj => cases e
    | _ => exact r.elim

noncomputable def dEqv (a b : Dat) : Option Bool := (toPy a).bind fun p => (toPy b).bind fun q => if SeqAt.shaped p && SeqAt.shaped q then some (PyData.eqv p q) else none
noncomputable def dEq (a b : Dat) : Option Dat := (dEqv a b).map .bool
noncomputable def dNe (a b : Dat) : Option Dat := (dEqv a b).map fun b => .bool (!b)

theorem eq_both {A : Around} {V : View} {s : Shared} {I : MSt} {a b : Value} {da db : Dat} {r : Bool} (rm : Room A n) (g : Good G V s I) (ra : Rep1 G V s.heap a da) (rb : Rep1 G V s.heap b db) (e : dEqv da db = some r) :
    wpAny (Md G) A (compareOp .Eq a b) (PE G V s I fun V' h v => Rep G V' h v (.bool r)) No s ∧ wpAny (Md G) A (compareOp .NotEq a b) (PE G V s I fun V' h v => Rep G V' h v (.bool (!r))) No s := by
  refine bind_go e fun p e1 e => bind_go e fun q e2 e => ite_go e fun hs => ?_
  refine g_a (Bool.and_eq_true_iff.mp hs) fun h1 h2 => g_e (ra.reads e1) fun as r1 => g_e (rb.reads e2) fun bs r2 => ?_
  exact ⟨eq_dataH r1 r2 h1 h2 (by have := rm.units; omega) (PE.refl g (.bool _)), ne_dataH r1 r2 h1 h2 (by have := rm.units; omega) (PE.refl g (.bool _))⟩
theorem op_eq : OpS G n (compareOp .Eq) (fun _ => dEq) := fun A V s I a b da db d rm g ra rb e => map_go e fun r er => (eq_both rm g ra rb er).1
theorem op_ne : OpS G n (compareOp .NotEq) (fun _ => dNe) := fun A V s I a b da db d rm g ra rb e => map_go e fun r er => (eq_both rm g ra rb er).2

noncomputable def dLt (a b : Dat) : Option Dat := intsD a b fun a b => some (.bool (decide (a < b)))
noncomputable def dLe (a b : Dat) : Option Dat := intsD a b fun a b => some (.bool (decide (a ≤ b)))
noncomputable def dGt (a b : Dat) : Option Dat := intsD a b fun a b => some (.bool (decide (b < a)))
noncomputable def dGe (a b : Dat) : Option Dat := intsD a b fun a b => some (.bool (decide (a ≥ b)))
theorem op_lt : OpS G n (compareOp .Lt) (fun _ => dLt) := op_ints fun A V s I i j t u d g e => some1 e (PyProof.Rows.lt_int (PE.refl g (.bool _)))
theorem op_le : OpS G n (compareOp .LtE) (fun _ => dLe) := op_ints fun A V s I i j t u d g e => some1 e (PyProof.Rows.le_int (PE.refl g (.bool _)))
theorem op_gt : OpS G n (compareOp .Gt) (fun _ => dGt) := op_ints fun A V s I i j t u d g e => some1 e (PyProof.Rows.gt_int (PE.refl g (.bool _)))
theorem op_ge : OpS G n (compareOp .GtE) (fun _ => dGe) := op_ints fun A V s I i j t u d g e => some1 e (PyProof.Rows.ge_int (PE.refl g (.bool _)))

noncomputable def dIs (a b : Dat) : Option Dat := match b with
  | .none => (match a with
    | .none => some (.bool true)
    | .str _ => some (.bool false)
    | .list _ => some (.bool false)
    | _ => none)
  | .bool _ => (datInt a).map fun _ => .bool false
  | .ty y => (match a with
    | .ty x => some (.bool (x == y))
    | _ => none)
  | _ => none
theorem op_is : OpS G n (compareOp .Is) (fun _ => dIs) := fun A V s I a b da db d rm g ra rb e => by
  cases db with
  | none =>
    obtain rfl := rb.none
    cases da with
    | none => obtain rfl := ra.none; exact some1 e (wpAny_is_self rfl (PE.refl g (.bool _)))
    | str x => obtain ⟨t, rfl⟩ := ra.str; exact some1 e (wpAny_is_other rfl (fun e => nomatch e) (PE.refl g (.bool _)))
    | list x => obtain ⟨a, vs, rfl, _⟩ := ra.lst; exact some1 e (wpAny_is_other rfl (fun e => nomatch e) (PE.refl g (.bool _)))
    | _ => exact none_ne e
  | bool y =>
    refine map_go e fun i hi => ?_
    obtain rfl := rb.bool
    refine g_e ((datInt_go hi ▸ ra).int) fun t q1ₑ => ?_
    subst q1ₑ
    exact wpAny_is_other rfl (fun e => nomatch e) (PE.refl g (.bool _))
  | ty y =>
    cases da with
    | ty x =>
      obtain rfl := ra.ty
      obtain rfl := rb.ty
      refine some1 e (wpAny_is_plain rfl (PE.refl g ?_))
      have : (Value.type x == Value.type y) = (x == y) := by
        by_cases e : x = y
        · subst e; simp
        · have : Value.type x ≠ Value.type y := fun q => e (Value.type.inj q)
          rw [beq_eq_false_iff_ne.mpr this, beq_eq_false_iff_ne.mpr e]
      rw [this]; exact .bool _
    | _ => exact none_ne e
  | _ => exact none_ne e

-- x in c
noncomputable def dInB (I : MSt) (x c : Dat) : Option Bool := match c with
  | .list ys => (toPy x).bind fun p => (toPys ys).bind fun qs => if PyData.canLayAll0 qs && p.canLay0 && decide (p.depth ≤ 64) then some (qs.any fun y => PyData.eqv y p) else none
  | .idict kvs => (datInt x).map fun k => (dget kvs k).isSome
  | .sset xs => (datStr x).map fun k => xs.contains k
  | .mdict i => (datStr x).bind fun k => (I[i]?).map fun kvs => (dget kvs k).isSome
  | _ => none
noncomputable def dIn (I : MSt) (x c : Dat) : Option Dat := (dInB I x c).map .bool
noncomputable def dNotIn (I : MSt) (x c : Dat) : Option Dat := (dInB I x c).map fun b => .bool (!b)

theorem isSome_get {K : Type} [DecidableEq K] {vs : List (K × Value)} {kvs : List (K × Int)} (h : Vals vs kvs) (k : K) : (valueAt vs k).isSome = (dget kvs k).isSome := by
  refine g_a (h.get k) fun h1 h2 => ?_
  cases e : dget kvs k with
  | none => rw [h2 e]; rfl
  | some i => obtain ⟨t, q⟩ := h1 i e; rw [q]; rfl

-- both ways of «in», by what the library's rules want
theorem SetIs.of {o : Obj} {xs : List Str} (h : SetIs G o xs) : o.SetObjOf (strKind G.prog G.w) (fun k => xs.contains k) xs.length ∧ xs.length ≤ 1 := by
  cases h with
  | nil led => exact ⟨PyProof.Rows.setObjOf_fresh led, by simp⟩
  | one x t =>
    refine ⟨⟨⟨rfl, rfl, rfl⟩, _, _, _, rfl, fun e he => ?_, fun k => ?_, rfl, rfl⟩, by simp⟩
    · have : e = ((strKind G.prog G.w).hash x, Value.str x t) := by simpa using he
      subst this
      exact ⟨⟨x, strKind_is _ _ _ _, rfl⟩, rfl⟩
    · constructor
      · intro q
        have : k = x := by simpa using q
        subst this
        exact ⟨_, List.mem_singleton.mpr rfl, strKind_is _ _ _ _⟩
      · intro qₕ
        obtain ⟨e, he, q⟩ := qₕ
        have : e = ((strKind G.prog G.w).hash x, Value.str x t) := by simpa using he
        subst this
        obtain ⟨t', e⟩ := Value.isStrOf_shape (show Value.isStrOf k (.str x t) = true from q)
        cases e
        simp
theorem in_both {A : Around} {V : View} {s : Shared} {I : MSt} {a b : Value} {da db : Dat} {r : Bool} (rm : Room A n) (g : Good G V s I) (ra : Rep1 G V s.heap a da) (rb : Rep1 G V s.heap b db) (e : dInB I da db = some r) :
    wpAny (Md G) A (compareOp .In a b) (PE G V s I fun V' h v => Rep G V' h v (.bool r)) No s ∧ wpAny (Md G) A (compareOp .NotIn a b) (PE G V s I fun V' h v => Rep G V' h v (.bool (!r))) No s := by
  cases db with
  | list ys =>
    refine bind_go e fun p e1 e => bind_go e fun qs e2 e => ite_go e fun hq => ?_
    refine g_a (Bool.and_eq_true_iff.mp hq) fun hq h3 => ?_
    refine g_a (Bool.and_eq_true_iff.mp hq) fun h1 h2 => ?_
    refine g_e (ra.reads e1) fun as r1 => ?_
    refine g_e (rb.reads (p := .list qs) (by unfold toPy; rw [e2])) fun bs r2 => ?_
    have hu : A.units + 1 + min (PyData.depthAll qs) p.depth < cLine := by
      have := rm.units
      have h4 := of_decide_eq_true h3
      have := Nat.min_le_right (PyData.depthAll qs) p.depth
      omega
    exact ⟨SeqAt.in_list_reads r2 r1 h1 h2 hu (PE.refl g (.bool _)), SeqAt.notIn_list_reads r2 r1 h1 h2 hu (PE.refl g (.bool _))⟩
  | idict kvs =>
    refine map_go e fun k hk => ?_
    refine g_e ((datInt_go hk ▸ ra).int) fun t q1ₑ => ?_
    subst q1ₑ
    obtain ⟨d, vs, rfl, hd, hn, hv⟩ := rb.idict
    have hm := hd.mapOf
    have hk : (intKind G.prog G.w).is k (.int k t) = true := intKind_is _ _ k t
    have hs : (d == sysModules) = false := beq_eq_false_iff_ne.mpr hn
    rw [← isSome_get hv]
    exact ⟨wpAny_in_of hk hs hm (PE.same g _ (.bool _)), wpAny_notIn_of hk hs hm (PE.same g _ (.bool _))⟩
  | sset xs =>
    refine map_go e fun k hk => ?_
    refine g_e ((datStr_go hk ▸ ra).str) fun t q1ₑ => ?_
    subst q1ₑ
    obtain ⟨d, o, rfl, _, ho, hs⟩ := rb.sset
    replace hs := hs.of
    have hk : (strKind G.prog G.w).is k (.str k t) = true := strKind_is _ _ k t
    have hS := hs.1.setOf ho (by have := hs.2; show xs.length < 4096; omega)
    exact ⟨wpAny_inSet_of hk rfl hS (PE.same g _ (.bool _)), wpAny_notInSet_of hk rfl hS (PE.same g _ (.bool _))⟩
  | mdict i =>
    refine bind_go e fun k hk e => map_go e fun kvs ek => ?_
    refine g_e ((datStr_go hk ▸ ra).str) fun t q1ₑ => ?_
    subst q1ₑ
    refine g_ea rb.mdict fun d q1ₑ hJ => ?_
    subst q1ₑ
    refine g_eaa (g.st.at_ i d kvs hJ ek) fun vs hd hn hv => ?_
    have hm := hd.mapOf
    have hk : (strKind G.prog G.w).is k (.str k t) = true := strKind_is _ _ k t
    have hs : (d == sysModules) = false := beq_eq_false_iff_ne.mpr hn
    rw [← isSome_get hv]
    exact ⟨wpAny_in_of hk hs hm (PE.same g _ (.bool _)), wpAny_notIn_of hk hs hm (PE.same g _ (.bool _))⟩
  | _ => exact none_ne e

theorem op_in : OpS G n (compareOp .In) dIn := fun A V s I a b da db d rm g ra rb e => map_go e fun r er => (in_both rm g ra rb er).1
theorem op_notIn : OpS G n (compareOp .NotIn) dNotIn := fun A V s I a b da db d rm g ra rb e => map_go e fun r er => (in_both rm g ra rb er).2
end

-- M05
section
variable {G : Cx} {n : Nat} {sc : Scope}

-- truth

noncomputable def dTruth : Dat → Option Bool
  | .none => some false
  | .bool b => some b
  | .int i => some (i != 0)
  | .str x => if x.length ≤ sizeLine then some ((x.length : Int) != 0) else none
  | .list xs => if xs.length ≤ sizeLine then some (!xs.isEmpty) else none
  | .tup xs => if xs.length ≤ sizeLine then some (!xs.isEmpty) else none
  | .idict kvs => if kvs.length ≤ sizeLine then some (!kvs.isEmpty) else none
  | _ => none

theorem sizeLine63 {k : Nat} (h : k ≤ sizeLine) : (k : Int) < 2 ^ 63 := by
  have : sizeLine = 16777216 := rfl
  omega

theorem isEmpty_of_reps {V : View} {h : Heap} {vs : Array Value} {xs : List Dat} (r : Reps G V h vs.toList xs) : vs.isEmpty = xs.isEmpty := by
  have := size_of_reps r
  cases xs with
  | nil => simpa [Array.isEmpty] using this
  | cons x r => simp only [List.isEmpty_cons]; simp only [List.length_cons] at this; simp [Array.isEmpty, this]

theorem truth_of {A : Around} {V : View} {s : Shared} {I : MSt} {a : Value} {d : Dat} {r : Bool} {Q : Bool → Shared → Prop} (g : Good G V s I) (ra : Rep1 G V s.heap a d) (e : dTruth d = some r)
    (k : ∀ tk, Q r { s with toks := tk }) : wpAny (Md G) A (truthy a) Q No s := by
  revert k
  cases d with
  | none => obtain rfl := ra.none; exact some1 e fun k => (PyProof.Rows.truthy_none (k _))
  | bool b => obtain rfl := ra.bool; exact some1 e fun k => (wpAny_truthy_bool (k _))
  | int i => obtain ⟨t, rfl⟩ := ra.int; exact some1 e fun k => (P.truthy_int (k _))
  | str x => exact ite_go e fun hz k => by obtain ⟨t, rfl⟩ := ra.str; exact P.truthy_str (Int.not_le.mpr (sizeLine63 hz)) (k _)
  | list xs =>
    refine ite_go e fun hz k => ?_
    obtain ⟨l, vs, rfl, hl, rl⟩ := ra.lst
    refine wpAny_truthy_list hl.isList (sizeLine63 (by rw [size_of_reps rl]; exact hz)) ?_
    rw [isEmpty_of_reps rl]; exact k _
  | tup xs =>
    refine ite_go e fun hz k => ?_
    obtain ⟨l, vs, rfl, _, ⟨m, hl⟩, rl⟩ := ra.tup
    refine truthy_tuple ⟨_, hl, rfl, m, rfl⟩ (sizeLine63 (by rw [size_of_reps rl]; exact hz)) ?_
    rw [isEmpty_of_reps rl]; exact k _
  | idict kvs =>
    refine ite_go e fun hz k => ?_
    obtain ⟨l, vs, rfl, hd, hn, hv⟩ := ra.idict
    refine wpAny_truthy_dict (beq_eq_false_iff_ne.mpr hn) hd (sizeLine63 (by rw [hv.length]; exact hz)) ?_
    have : vs.isEmpty = kvs.isEmpty := Vals.ind hv rfl fun _ _ _ _ _ _ _ => rfl
    rw [this]; exact k _
  | _ => exact none_ne e

-- tests

noncomputable def evT (f : Ev) : Bv := fun σ I => (f σ I).bind fun a => (dTruth a.1).bind fun b => some (b, a.2)
theorem evT_go {f : Ev} {σ : Sto} {I I' : MSt} {b : Bool} {Q : Prop} (h : evT f σ I = some (b, I')) (k : ∀ d, f σ I = some (d, I') → dTruth d = some b → Q) : Q := by
  refine bind_go2 h fun d I₁ e h => bind_go h fun c e2 h => ?_
  revert k
  exact some2 h fun k => k d e e2

theorem SoundT.plain {e : Expr} {f : Ev} (h : SoundB G n sc e f) (he : ∀ env whole, isTrue e env whole = (do let v ← whole; standAt e.pos; holding [v] (truthy v)) := by intros; rfl) : SoundT G n sc e (evT f) :=
  .mk fun A env V σ I s d I' hs rm g w hf => by
    refine evT_go hf fun x e1 e2 => ?_
    refine isTrue_plain (h.use hs rm g w e1 fun V₁ s₁ v₁ st₁ g₁ w₁ r₁ => ?_) (he _ _)
    exact truth_of g₁ r₁ e2 fun tk => ⟨rfl, V₁, st₁.trans (Step.toks _ _ _), g₁.toks _⟩

theorem SoundT.cmp {l r : Expr} {op : CmpOp} {pos : Pos} {fl fr : Ev} {p : MSt → Dat → Dat → Option Dat} (ho : OpS G n (compareOp op) p) (hl : SoundB G n sc l fl) (hr : SoundB G n sc r fr) (hm : behindInMarks op r = false := by rfl) :
    SoundT G n sc (.Compare l [op] [r] pos) (evT (ev2 fl fr p)) := .mk fun A env V σ I s d I' hs rm g w hf => by
  refine evT_go hf fun x e1 e2 => ?_
  refine ev2_go e1 fun a I₁ b ea eb ed => ?_
  refine wpAny_isTrue_Compare1 (hl.use hs rm g w ea fun V₁ s₁ v₁ st₁ g₁ w₁ r₁ => hr.use hs rm g₁ w₁ eb fun V₂ s₂ v₂ st₂ g₂ w₂ r₂ => ?_) hm
  refine wpAny_mono (ho A V₂ s₂ I' v₁ v₂ a b x rm g₂ (r₁.step st₂ g₁) r₂ ed) (fun v s₃ q => ?_) fun _ _ x => x
  obtain ⟨V₃, st₃, g₃, r₃⟩ := q
  exact truth_of g₃ (.inl r₃) e2 fun tk => ⟨rfl, V₃, ((st₁.trans st₂).trans st₃).trans (Step.toks _ _ _), g₃.toks _⟩

noncomputable def evNot (f : Bv) : Bv := fun σ I => (f σ I).bind fun p => some (!p.1, p.2)
theorem SoundT.not {x : Expr} {pos : Pos} {f : Bv} (h : SoundT G n sc x f) : SoundT G n sc (.UnaryOp .Not x pos) (evNot f) := .mk fun A env V σ I s d I' hs rm g w hf => by
  refine bind_go2 hf fun b I' e hf => ?_
  refine some2 hf ?_
  exact isTrue_not (h.use hs rm g w e fun V₁ s₁ st₁ g₁ w₁ => ⟨rfl, V₁, st₁, g₁⟩)

noncomputable def evAnd (f g : Bv) : Bv := fun σ I => (f σ I).bind fun p => cond p.1 (g σ p.2) (some (false, p.2))
noncomputable def evOr (f g : Bv) : Bv := fun σ I => (f σ I).bind fun p => cond p.1 (some (true, p.2)) (g σ p.2)
noncomputable def bvC (b : Bool) : Bv := fun _ I => some (b, I)

theorem SoundT.and0 {pos : Pos} : SoundT G n sc (.BoolOp .And [] pos) (bvC true) := .mk fun A env V σ I s d I' hs rm g w hf => by
  cases hf; exact isTrue_and_nil ⟨rfl, V, Step.refl _ _, g⟩
theorem SoundT.or0 {pos : Pos} : SoundT G n sc (.BoolOp .Or [] pos) (bvC false) := .mk fun A env V σ I s d I' hs rm g w hf => by
  cases hf; exact isTrue_or_nil ⟨rfl, V, Step.refl _ _, g⟩
theorem SoundT.and {x : Expr} {rest : List Expr} {pos : Pos} {f f' : Bv} (h : SoundT G n sc x f) (h' : SoundT G n sc (.BoolOp .And rest pos) f') : SoundT G n sc (.BoolOp .And (x :: rest) pos) (evAnd f f') := .mk fun A env V σ I s d I' hs rm g w hf => by
  refine bind_go2 hf fun b I₁ e hf => isTrue_and (h.use hs rm g w e fun V₁ s₁ st₁ g₁ w₁ => ?_)
  cases b with
  | true => exact ite_t rfl (h'.use hs rm g₁ w₁ hf fun V₂ s₂ st₂ g₂ w₂ => ⟨rfl, V₂, st₁.trans st₂, g₂⟩)
  | false => exact ite_f Bool.false_ne_true (some2 hf ⟨rfl, V₁, st₁, g₁⟩)
theorem SoundT.or {x : Expr} {rest : List Expr} {pos : Pos} {f f' : Bv} (h : SoundT G n sc x f) (h' : SoundT G n sc (.BoolOp .Or rest pos) f') : SoundT G n sc (.BoolOp .Or (x :: rest) pos) (evOr f f') := .mk fun A env V σ I s d I' hs rm g w hf => by
  refine bind_go2 hf fun b I₁ e hf => isTrue_or (h.use hs rm g w e fun V₁ s₁ st₁ g₁ w₁ => ?_)
  cases b with
  | true => exact ite_t rfl (some2 hf ⟨rfl, V₁, st₁, g₁⟩)
  | false => exact ite_f Bool.false_ne_true (h'.use hs rm g₁ w₁ hf fun V₂ s₂ st₂ g₂ w₂ => ⟨rfl, V₂, st₁.trans st₂, g₂⟩)

-- values by tests

noncomputable def evIf (t : Bv) (f g : Ev) : Ev := fun σ I => (t σ I).bind fun p => cond p.1 (f σ p.2) (g σ p.2)
theorem SoundE.ite {t a b : Expr} {pos : Pos} {ft : Bv} {fa fb : Ev} (ht : SoundT G n sc t ft) (ha : SoundE G n sc a fa) (hb : SoundE G n sc b fb) : SoundE G n sc (.IfExp t a b pos) (evIf ft fa fb) := .mk fun A env V σ I s d I' hs rm g w hf => by
  refine bind_go2 hf fun b I₁ e hf => IfExp_ (ht.use hs rm g w e fun V₁ s₁ st₁ g₁ w₁ => ?_)
  cases b with
  | true => exact ite_t rfl (wpAny_mono (ha.run A env V₁ σ I₁ s₁ d I' hs rm g₁ w₁ hf) (fun _ _ q => q.trans st₁) fun _ _ x => x)
  | false => exact ite_f Bool.false_ne_true (wpAny_mono (hb.run A env V₁ σ I₁ s₁ d I' hs rm g₁ w₁ hf) (fun _ _ q => q.trans st₁) fun _ _ x => x)

noncomputable def evAndV (f g : Ev) : Ev := fun σ I => (f σ I).bind fun p => (dTruth p.1).bind fun b => cond b (g σ p.2) (some p)
noncomputable def evOrV (f g : Ev) : Ev := fun σ I => (f σ I).bind fun p => (dTruth p.1).bind fun b => cond b (some p) (g σ p.2)
theorem SoundE.bool1 {op : BoolOp} {x : Expr} {pos : Pos} {f : Ev} (h : SoundE G n sc x f) : SoundE G n sc (.BoolOp op [x] pos) f := ⟨h.run⟩
theorem SoundE.andV {x y : Expr} {rest : List Expr} {pos : Pos} {f f' : Ev} (h : SoundE G n sc x f) (h' : SoundE G n sc (.BoolOp .And (y :: rest) pos) f') : SoundE G n sc (.BoolOp .And (x :: y :: rest) pos) (evAndV f f') := .mk fun A env V σ I s d I' hs rm g w hf => by
  refine bind_go2 hf fun d₁ I₁ e hf => bind_go hf fun b et hf => BoolOp_and (h.use hs rm g w e fun V₁ s₁ v₁ st₁ g₁ w₁ r₁ => truth_of g₁ (.inl r₁) et fun tk => ?_)
  cases b with
  | true => exact ite_t rfl (wpAny_mono (h'.run A env V₁ σ I₁ _ d I' hs rm (g₁.toks tk) w₁ hf) (fun _ _ q => q.trans (st₁.trans (Step.toks _ _ _))) fun _ _ x => x)
  | false => exact ite_f Bool.false_ne_true (some2 hf ⟨V₁, st₁.trans (Step.toks _ _ _), g₁.toks tk, r₁⟩)
theorem SoundE.orV {x y : Expr} {rest : List Expr} {pos : Pos} {f f' : Ev} (h : SoundE G n sc x f) (h' : SoundE G n sc (.BoolOp .Or (y :: rest) pos) f') : SoundE G n sc (.BoolOp .Or (x :: y :: rest) pos) (evOrV f f') := .mk fun A env V σ I s d I' hs rm g w hf => by
  refine bind_go2 hf fun d₁ I₁ e hf => bind_go hf fun b et hf => BoolOp_or (h.use hs rm g w e fun V₁ s₁ v₁ st₁ g₁ w₁ r₁ => truth_of g₁ (.inl r₁) et fun tk => ?_)
  cases b with
  | true => exact ite_t rfl (some2 hf ⟨V₁, st₁.trans (Step.toks _ _ _), g₁.toks tk, r₁⟩)
  | false => exact ite_f Bool.false_ne_true (wpAny_mono (h'.run A env V₁ σ I₁ _ d I' hs rm (g₁.toks tk) w₁ hf) (fun _ _ q => q.trans (st₁.trans (Step.toks _ _ _))) fun _ _ x => x)

noncomputable def dNeg (d : Dat) : Option Dat := (datInt d).bind fun i => some (.int (-i))
noncomputable def ev1 (f : Ev) (p : Dat → Option Dat) : Ev := fun σ I => (f σ I).bind fun a => (p a.1).bind fun r => some (r, a.2)
theorem ev1_go {f : Ev} {p : Dat → Option Dat} {σ : Sto} {I I' : MSt} {r : Dat} {Q : Prop} (h : ev1 f p σ I = some (r, I')) (k : ∀ d, f σ I = some (d, I') → p d = some r → Q) : Q := by
  refine bind_go2 h fun d I₁ e h => bind_go h fun c e2 h => ?_
  revert k
  exact some2 h fun k => k d e e2
theorem SoundE.neg {x : Expr} {pos : Pos} {f : Ev} (h : SoundE G n sc x f) : SoundE G n sc (.UnaryOp .USub x pos) (ev1 f dNeg) := .mk fun A env V σ I s d I' hs rm g w hf => by
  refine ev1_go hf fun x e1 e2 => bind_go e2 fun i hi e2 => ?_
  refine some1 e2 ?_
  refine UnaryOp_ (h.use hs rm g w e1 fun V₁ s₁ v₁ st₁ g₁ w₁ r₁ => ?_)
  refine g_e ((datInt_go hi ▸ r₁).is) fun _ q1ₑ => ?_
  subst q1ₑ
  exact PyProof.Rows.neg_int (PE.trans st₁ (PE.same g₁ _ (.int _ _)))

-- displays

noncomputable def evs : List Ev → Sto → MSt → Option (List Dat × MSt)
  | [], _, I => some ([], I)
  | f :: fs, σ, I => (f σ I).bind fun p => (evs fs σ p.2).bind fun q => some (p.1 :: q.1, q.2)

inductive SoundL (G : Cx) (n : Nat) (sc : Scope) : List Expr → List Ev → Prop
  | nil : SoundL G n sc [] []
  | cons {e : Expr} {f : Ev} {es : List Expr} {fs : List Ev} : isStarred e = false → SoundE G n sc e f → SoundL G n sc es fs → SoundL G n sc (e :: es) (f :: fs)

theorem starEach_plain {e : Expr} {rest : List Expr} {env : Env} (h : isStarred e = false) : starEach (e :: rest) env = (false, eval e env) :: starEach rest env := by
  cases e with
  | Starred _ _ => exact Bool.noConfusion h
  | _ => rfl

theorem SoundL.run {es : List Expr} {fs : List Ev} (h : SoundL G n sc es fs) : ∀ {A : Around} {env : Env} {V : View} {σ : Sto} {I : MSt} {s : Shared} {ds : List Dat} {I' : MSt} {pos : Pos} {Q : List Value → Shared → Prop},
    env.scope = sc → Room A n → Good G V s I → EnvOk G V s.heap env σ → evs fs σ I = some (ds, I') →
    (∀ V' s' vs, Step V s V' s' → Good G V' s' I' → EnvOk G V' s'.heap env σ → Reps G V' s'.heap vs ds → Q vs s') → wpAny (Md G) A (spliced (backTo pos (starEach es env))) Q No s := by
  induction h with
  | nil =>
    intro A env V σ I s ds I' pos Q hs rm g w hf k
    cases hf
    exact Calls.spliced_nil (k V s [] (Step.refl _ _) g w .nil)
  | cons hst he _ ih =>
    intro A env V σ I s ds I' pos Q hs rm g w hf k
    refine bind_go2 hf fun d I₁ e1 hf => bind_go2 hf fun ds' I₂ e2 hf => ?_
    revert k
    refine some2 hf fun k => ?_
    refine (starEach_plain hst) ▸ ?_
    refine Calls.spliced_cons (he.use hs rm g w e1 fun V₁ s₁ v₁ st₁ g₁ w₁ r₁ => ?_)
    exact ih hs rm g₁ w₁ e2 fun V₂ s₂ vs st₂ g₂ w₂ r₂ => k V₂ s₂ _ (st₁.trans st₂) g₂ w₂ (.cons (r₁.step st₂ g₁) r₂)

noncomputable def evList (fs : List Ev) : Ev := fun σ I => (evs fs σ I).bind fun p => if p.1.length ≤ sizeLine then some (.list p.1, p.2) else none
noncomputable def evTup (fs : List Ev) : Ev := fun σ I => (evs fs σ I).bind fun p => if p.1.length ≤ sizeLine then some (.tup p.1, p.2) else none

theorem PE.transO {V V₁ : View} {s s₁ s₂ : Shared} {I : MSt} {R : View → Heap → Value → Prop} {v : Value} (st : Step V s V₁ s₁)
    (p : PE G V₁ s₁ I (fun V' h v => R V' h v ∧ ∀ a ∈ foot h v, s₁.heap.get? a = none ∧ ¬ V'.F a ∧ a ∉ V'.J) v s₂) : PE G V s I (fun V' h v => R V' h v ∧ ∀ a ∈ foot h v, s.heap.get? a = none ∧ ¬ V'.F a ∧ a ∉ V'.J) v s₂ := by
  obtain ⟨V', st', g, ow, hf⟩ := p
  refine ⟨V', st.trans st', g, ow, fun a ha => ⟨?_, (hf a ha).2⟩⟩
  cases e : s.heap.get? a with
  | none => rfl
  | some o => obtain ⟨o', e'⟩ := st.ex a o e; rw [(hf a ha).1] at e'; cases e'

theorem SoundO.list {es : List Expr} {fs : List Ev} {pos : Pos} (h : SoundL G n sc es fs) : SoundO G n sc (.List es pos) (evList fs) := .mk fun A env V σ I s d I' hs rm g w hf => by
  refine bind_go2 hf fun ds I₁ e hf => ite_gn hf fun hz hf => ?_
  refine some2 hf (List_ (h.run hs rm g w e fun V₁ s₁ vs st₁ g₁ w₁ r₁ => ?_))
  refine wpAny_newObj_type ?_ (by show vs.toArray.size ≤ sizeLine; rw [List.size_toArray, r₁.length]; exact hz)
  exact PE.transO st₁ (PE.fresh g₁ r₁)
theorem SoundE.list {es : List Expr} {fs : List Ev} {pos : Pos} (h : SoundL G n sc es fs) : SoundE G n sc (.List es pos) (evList fs) :=
  (SoundO.list h).toE fun σ I d I' hf => bind_go2 hf fun ds I₁ e hf => ite_gn hf fun hz hf => ⟨ds, (congrArg Prod.fst (Option.some.inj hf)).symm⟩
theorem SoundE.tup {es : List Expr} {fs : List Ev} {k : Nat} {pos : Pos} (h : SoundL G n sc es fs) : SoundE G n sc (.Tuple es k pos) (evTup fs) := .mk fun A env V σ I s d I' hs rm g w hf => by
  refine bind_go2 hf fun ds I₁ e hf => ite_gn hf fun hz hf => ?_
  refine some2 hf (Tuple_ (h.run hs rm g w e fun V₁ s₁ vs st₁ g₁ w₁ r₁ => ?_))
  refine wpAny_newObj_type ?_ (by show vs.toArray.size ≤ sizeLine; rw [List.size_toArray, r₁.length]; exact hz)
  exact PE.trans st₁ (PE.freshT g₁ r₁)
end

-- M06
section
variable {G : Cx} {n : Nat} {sc : Scope}

set_option tactic.hygienic true in
theorem subscripted_ops (slice : Expr) (o i : Value) : ∃ ops, subscripted slice false o i = operate ops (getItem o i) := by
  cases slice <;> first | exact ⟨_, rfl⟩ | skip
  rename_i l u st p
  cases st <;> exact ⟨_, rfl⟩

-- the item at a place
noncomputable def dGet (I : MSt) (c k : Dat) : Option Dat := match c with
  | .list xs => (datInt k).bind fun k => if -(2 ^ 63) ≤ k ∧ k < 2 ^ 63 then (seqIndex? k xs.length).bind fun j => xs[j]? else none
  | .tup xs => (datInt k).bind fun k => if -(2 ^ 63) ≤ k ∧ k < 2 ^ 63 then (seqIndex? k xs.length).bind fun j => xs[j]? else none
  | .idict kvs => (datInt k).bind fun k => (dget kvs k).map .int
  | .mdict j => (datStr k).bind fun k => (I[j]?).bind fun kvs => (dget kvs k).map .int
  | _ => none

set_option tactic.hygienic true in
theorem seqIndex_inv {k : Int} {l j : Nat} (h : seqIndex? k l = some j) : (0 ≤ k ∧ j = k.toNat) ∨ (k < 0 ∧ -(l : Int) ≤ k ∧ j = (k + l).toNat) := by
  unfold seqIndex? at h
  dsimp only at h
  by_cases hk : k < 0
  · rw [if_pos hk] at h
    split at h
    · rename_i hc
      simp only [Bool.and_eq_true, decide_eq_true_eq] at hc
      right; exact ⟨hk, by lia, (Option.some.inj h).symm⟩
    · exact none_ne h
  · rw [if_neg hk] at h
    split at h
    · left; exact ⟨by lia, (Option.some.inj h).symm⟩
    · exact none_ne h

theorem get_list {A : Around} {V : View} {s : Shared} {o : Value} {xs : List Dat} {k : Int} {t : Tok} {j : Nat} {d : Dat} {Q : Value → Shared → Prop} (ro : Rep1 G V s.heap o (.list xs))
    (hb : -(2 ^ 63) ≤ k ∧ k < 2 ^ 63) (hj : seqIndex? k xs.length = some j) (hx : xs[j]? = some d) (q : ∀ v, Rep G V s.heap v d → Q v s) : wpAny (Md G) A (getItem o (.int k t)) Q No s := by
  obtain ⟨l, vs, rfl, hl, rl⟩ := ro.lst
  refine g_ea (rl.get hx) fun v hv r => ?_
  have hv' : vs[j]? = some v := by rw [← Array.getElem?_toList]; exact hv
  have hs := size_of_reps rl
  rcases seqIndex_inv hj with ⟨h0, rfl⟩ | ⟨h0, h1, rfl⟩
  · exact wpAny_getItem_list hl.isList h0 hb.2 hv' (q v r)
  · exact wpAny_getItem_list_neg hl.isList h0 (by lia) hb.1 (by rw [hs]; exact hv') (q v r)

theorem SoundE.sub {value slice : Expr} {pos : Pos} {fv fi : Ev} (hv : SoundB G n sc value fv) (hi : SoundE G n sc slice fi) : SoundE G n sc (.Subscript value slice pos) (ev2 fv fi dGet) := .mk fun A env V σ I s d I' hs rm g w hf => by
  refine ev2_go hf fun a I₁ b ea eb ed => ?_
  refine Subscript_ (hv.use hs rm g w ea fun V₁ s₁ o st₁ g₁ w₁ r₁ => hi.use hs rm g₁ w₁ eb fun V₂ s₂ i st₂ g₂ w₂ r₂ => ?_)
  refine g_e (subscripted_ops slice o i) fun ops hops => ?_
  have ro := r₁.step st₂ g₁
  have st := st₁.trans st₂
  revert ed
  cases a with
  | list xs =>
    refine fun ed => bind_go ed fun k hk ed => ite_gn ed fun hb ed => bind_go ed fun j hj ed => ?_
    refine g_e ((datInt_go hk ▸ r₂).is) fun _ q1ₑ => ?_
    subst q1ₑ
    obtain ⟨l, vs, rfl, hl, rl⟩ := id ro.lst
    exact tail_any hl.isList.typeIs slot_list_getitem.lookup (get_list ro hb hj ed fun v r => PE.trans st (PE.refl g₂ r)) hops
  | tup xs =>
    refine fun ed => bind_go ed fun k hk ed => ite_gn ed fun hb ed => bind_go ed fun j hj ed => ?_
    refine g_e ((datInt_go hk ▸ r₂).is) fun _ q1ₑ => ?_
    subst q1ₑ
    obtain ⟨l, vs, rfl, _, ⟨m, hl⟩, rl⟩ := ro.tup
    refine g_ea (rl.get ed) fun v hv r => ?_
    have hT : IsTup s₂.heap l vs := ⟨_, hl, rfl, m, rfl⟩
    refine tail_any (T := "tuple") ⟨_, hl, rfl⟩ F.slot_tuple_getitem.lookup ?_ hops
    exact PyProof.Rows.getItem_tuple hT hb.1 hb.2 (by rw [size_of_reps rl]; exact hj) (by rw [← Array.getElem?_toList]; exact hv) (PE.trans st (PE.refl g₂ r))
  | idict kvs =>
    refine fun ed => bind_go ed fun k hk ed => map_go ed fun i hi => ?_
    refine g_e ((datInt_go hk ▸ r₂).is) fun _ q1ₑ => ?_
    subst q1ₑ
    obtain ⟨dd, vs, rfl, hd, hn, hv⟩ := ro.idict
    refine g_e ((hv.get _).1 i hi) fun t' e => ?_
    have hm := hd.mapOf
    exact tail_any hm.typeIs slot_dict_getitem.lookup (wpAny_getItem_of (intKind_is _ _ _ _) hm e (PE.trans st (PE.same g₂ _ (.int _ _)))) hops
  | mdict j =>
    refine fun ed => bind_go ed fun k hk ed => bind_go ed fun kvs hkv ed => map_go ed fun i hi => ?_
    refine g_e ((datStr_go hk ▸ r₂).is) fun _ q1ₑ => ?_
    subst q1ₑ
    refine g_ea ro.mdict fun dd q1ₑ hJ => ?_
    subst q1ₑ
    refine g_eaa (g₂.st.at_ _ dd kvs hJ hkv) fun vs hd hn hv => ?_
    refine g_e ((hv.get _).1 i hi) fun t' e => ?_
    have hm := hd.mapOf
    exact tail_any hm.typeIs slot_dict_getitem.lookup (wpAny_getItem_of (strKind_is _ _ _ _) hm e (PE.trans st (PE.same g₂ _ (.int _ _)))) hops
  | _ => exact fun ed => none_ne ed

-- slices

noncomputable def pickL (xs : List Dat) (lo hi : Option Int) : List Dat :=
  (sliceRange (sliceBounds lo hi none xs.length).1 (sliceBounds lo hi none xs.length).2.1 (sliceBounds lo hi none xs.length).2.2).filterMap (xs[·]?)
noncomputable def pickS (x : Str) (lo hi : Option Int) : Str :=
  if ((Builtin.Str.strSliceIndices lo hi 1 x.length).length == x.length) = true then x else ⟨((Builtin.Str.strSliceIndices lo hi 1 x.length).filterMap (x.cps[·]?)).toArray⟩
noncomputable def dSlice (d : Dat) (lo hi : Option Int) : Option Dat := match d with
  | .list xs => if xs.length ≤ sizeLine then some (.list (pickL xs lo hi)) else none
  | .str x => if (pickS x lo hi).length ≤ sizeLine then some (.str (pickS x lo hi)) else none
  | _ => none

theorem Reps.pick {V : View} {h : Heap} {vs : List Value} {ds : List Dat} (r : Reps G V h vs ds) : ∀ js : List Nat, Reps G V h (js.filterMap (vs[·]?)) (js.filterMap (ds[·]?))
  | [] => .nil
  | j :: js => by
    have ih := r.pick js
    cases e : ds[j]? with
    | none =>
      have : vs[j]? = none := by
        rw [List.getElem?_eq_none_iff] at e ⊢
        rw [r.length]; exact e
      simpa [List.filterMap_cons, e, this] using ih
    | some d =>
      refine g_ea (r.get e) fun v hv q => ?_
      simpa [List.filterMap_cons, e, hv] using Reps.cons q ih

-- one bound of a slice: nothing, or an int
noncomputable def evPart : Option Ev → Sto → MSt → Option (Option Int × MSt)
  | none, _, I => some (none, I)
  | some f, σ, I => (f σ I).bind fun p => (datInt p.1).bind fun i => some (some i, p.2)
inductive SoundP (G : Cx) (n : Nat) (sc : Scope) : Option Expr → Option Ev → Prop
  | no : SoundP G n sc none none
  | yes {e : Expr} {f : Ev} : SoundE G n sc e f → SoundP G n sc (some e) (some f)

theorem SoundP.use {e : Option Expr} {f : Option Ev} (h : SoundP G n sc e f) {A : Around} {env : Env} {V : View} {σ : Sto} {I : MSt} {s : Shared} {d : Option Int} {I' : MSt} {Q : Value → Shared → Prop}
    (hs : env.scope = sc) (r : Room A n) (g : Good G V s I) (w : EnvOk G V s.heap env σ) (hf : evPart f σ I = some (d, I'))
    (k : ∀ V' s' (p : Option (Int × Tok)), Step V s V' s' → Good G V' s' I' → EnvOk G V' s'.heap env σ → p.map (·.1) = d → Q (partValue p) s') : wpAny (Md G) A (evalPart e env) Q No s := by
  cases h with
  | no => cases hf; exact wpAny_pure (k V s none (Step.refl _ _) g w rfl)
  | yes he =>
    refine bind_go2 hf fun di I₁ e1 hf => bind_go hf fun i hi hf => ?_
    refine wpAny_evalPart_some (he.use hs r g w e1 fun V' s' v st g' w' q => ?_)
    refine g_e ((datInt_go (d := di) hi ▸ q).is) fun t q1ₑ => ?_
    subst q1ₑ
    revert k
    exact some2 hf fun k => k V' s' (Option.some (i, t)) st g' w' rfl

theorem isPart_of (p : Option (Int × Tok)) : IsPart (partValue p) (p.map (·.1)) := by
  cases p with
  | none => exact .none
  | some q => exact .int _ _

noncomputable def evSlice (fv : Ev) (fl fu : Option Ev) : Ev := fun σ I => (fv σ I).bind fun a => (evPart fl σ a.2).bind fun lo => (evPart fu σ lo.2).bind fun hi => (dSlice a.1 lo.1 hi.1).bind fun r => some (r, hi.2)

theorem Good.slice {V : View} {s : Shared} {I : MSt} (g : Good G V s I) (o : Obj) : Good G V { s with heap := s.heap.push o } I := g.push o s.toks

set_option tactic.hygienic true in
theorem SoundE.slice {value : Expr} {l u : Option Expr} {p pos : Pos} {fv : Ev} {fl fu : Option Ev} (hv : SoundB G n sc value fv) (hl : SoundP G n sc l fl) (hu : SoundP G n sc u fu) :
    SoundE G n sc (.Subscript value (.Slice l u none p) pos) (evSlice fv fl fu) := .mk fun A env V σ I s d I' hs rm g w hf => by
  refine bind_go2 hf fun d₁ I₁ e1 hf => bind_go2 hf fun lo I₂ e2 hf => bind_go2 hf fun hi I' e3 hf => bind_go hf fun r er hf => ?_
  refine some2 hf ?_
  clear hf
  refine Subscript_ (hv.use hs rm g w e1 fun V₁ s₁ o st₁ g₁ w₁ r₁ => ?_)
  refine wpAny_Slice (hl.use hs rm g₁ w₁ e2 fun V₂ s₂ pl st₂ g₂ w₂ hpl => hu.use hs rm g₂ w₂ e3 fun V₃ s₃ pu st₃ g₃ w₃ hpu => ?_)
  rw [evalPart_none]
  refine wpAny_pure ?_
  have ro := (r₁.step st₂ g₁).step st₃ g₂
  have st := (st₁.trans st₂).trans st₃
  generalize hob : ({ cls := .type "slice", data := .fields #[partValue pl, partValue pu, .none] } : Obj) = ob
  have stp : Step V₃ s₃ V₃ { s₃ with heap := s₃.heap.push ob } := Step.push V₃ s₃ ob s₃.toks
  have g₄ : Good G V₃ { s₃ with heap := s₃.heap.push ob } I' := g₃.slice ob
  have ro₄ := ro.step stp g₃
  have hsl : (s₃.heap.push ob).get? s₃.heap.objs.size = some ob := by subst hob; exact Heap.get?_push_size _ rfl
  refine g_e (subscripted_ops (.Slice l u none p) o (.ref s₃.heap.objs.size)) fun ops hops => ?_
  revert er
  cases d₁ with
  | list xs =>
    intro er
    refine ite_go er fun hz => ?_
    obtain ⟨a, vs, rfl, hal, rl⟩ := id ro₄.lst
    refine tail_any hal.isList.typeIs slot_list_getitem.lookup ?_ hops
    have hsz := size_of_reps rl
    refine wpAny_getItem_list_slice (s := { s₃ with heap := s₃.heap.push ob }) hal.isList (sl := s₃.heap.objs.size) (vl := partValue pl) (vu := partValue pu) (vs := .none) (lo := lo) (hi := hi) (st := none) ⟨_, hsl, by subst hob; rfl, by subst hob; rfl⟩
      (hpl ▸ isPart_of pl) (hpu ▸ isPart_of pu) .none (by intro e; cases e) ?_ (by rw [hsz]; exact hz)
    refine PE.trans (st.trans stp) (PE.freshR g₄ ?_)
    have hp := rl.pick (sliceRange (sliceBounds lo hi none vs.size).1 (sliceBounds lo hi none vs.size).2.1 (sliceBounds lo hi none vs.size).2.2)
    unfold pickL slicePick
    rw [hsz] at hp ⊢
    simpa using hp
  | str x =>
    intro er
    refine ite_go er fun hz => ?_
    refine g_e ro₄.str fun t q1ₑ => ?_
    subst q1ₑ
    refine tail_any (typeIs_str _ x t) F.slot_str_getitem.lookup ?_ hops
    refine wpAny_getItem_str_slice (s := { s₃ with heap := s₃.heap.push ob }) (a := s₃.heap.objs.size) (l := pl) (u := pu) (st := none) ⟨_, hsl, by subst hob; rfl, by subst hob; rfl⟩ rfl ?_
    unfold sliceMade slicePicked
    unfold pickS at hz ⊢
    rw [hpl, hpu]
    simp only [Option.map_none, Option.getD_none, beq_self_eq_true, Bool.true_and]
    split
    · exact PE.trans (st.trans stp) (PE.refl g₄ (.str _ _))
    · rename_i hc
      rw [if_neg hc] at hz
      exact ⟨hz, PE.trans (st.trans stp) (PE.same g₄ _ (.str _ _))⟩
  | _ => exact fun er => none_ne er
end

-- M07
section
variable {G : Cx} {n : Nat} {sc : Scope}

theorem ofString_inj {x y : String} (h : Str.ofString x = Str.ofString y) : x = y := by
  rw [Str.ofString_eq_toList, Str.ofString_eq_toList] at h
  have h1 : (x.toList.map Char.toNat).toArray = (y.toList.map Char.toNat).toArray := congrArg Str.cps h
  have h2 : x.toList.map Char.toNat = y.toList.map Char.toNat := by simpa using h1
  have h3 : x.toList = y.toList := by
    refine (List.map_inj_right (f := Char.toNat) fun a b e => ?_).mp h2
    exact Char.ext (UInt32.toNat_inj.mp e)
  exact String.toList_inj.mp h3

noncomputable def Fra (env : Env) (b : Addr) : Prop := b = env.locals ∨ ∃ y, env.cells.lookup y = some b
noncomputable def OwnA (h : Heap) (env : Env) (σ : Sto) (b : Addr) : Prop := ∃ x d v, σ x = .own d ∧ At h env (Str.ofString x) (some v) ∧ b ∈ foot h v

-- what a statement may do
structure StepS (env : Env) (σ : Sto) (V : View) (s : Shared) (σ' : Sto) (V' : View) (s' : Shared) : Prop where
  gens : s'.gens = s.gens
  os : s'.os = s.os
  keep : ∀ b o, s.heap.get? b = some o → b ∉ V.J → ¬ Fra env b → ¬ OwnA s.heap env σ b → s'.heap.get? b = some o
  ex : ∀ b o, s.heap.get? b = some o → ∃ o', s'.heap.get? b = some o'
  fr : ∀ b, V.F b → V'.F b
  fnew : ∀ b, V'.F b → V.F b ∨ s.heap.get? b = none ∨ OwnA s.heap env σ b
  jp : ∀ (i : Nat) (a : Addr), V.J[i]? = some a → V'.J[i]? = some a
  jnew : ∀ b ∈ V'.J, b ∈ V.J ∨ s.heap.get? b = none
  onew : ∀ b, OwnA s'.heap env σ' b → OwnA s.heap env σ b ∨ s.heap.get? b = none

theorem none_back {h h' : Heap} {b : Addr} (ex : ∀ b o, h.get? b = some o → ∃ o', h'.get? b = some o') (e : h'.get? b = none) : h.get? b = none := by
  cases q : h.get? b with
  | none => rfl
  | some o => obtain ⟨o', e'⟩ := ex b o q; exact none_ne ((e).symm.trans e')

theorem StepS.trans {env : Env} {σ σ₁ σ₂ : Sto} {V V₁ V₂ : View} {s s₁ s₂ : Shared} (a : StepS env σ V s σ₁ V₁ s₁) (b : StepS env σ₁ V₁ s₁ σ₂ V₂ s₂) : StepS env σ V s σ₂ V₂ s₂ where
  gens := b.gens.trans a.gens
  os := b.os.trans a.os
  keep := fun x o e hJ hf ho => b.keep x o (a.keep x o e hJ hf ho) (fun q => by
    rcases a.jnew x q with q | q
    · exact hJ q
    · rw [e] at q; cases q) hf fun q => by
    rcases a.onew x q with q | q
    · exact ho q
    · rw [e] at q; cases q
  ex := fun x o e => let ⟨o', e'⟩ := a.ex x o e; b.ex x o' e'
  fr := fun x e => b.fr x (a.fr x e)
  fnew := fun x e => by
    rcases b.fnew x e with q | q | q
    · exact a.fnew x q
    · exact .inr (.inl (none_back a.ex q))
    · rcases a.onew x q with q | q
      · exact .inr (.inr q)
      · exact .inr (.inl q)
  jp := fun i x e => b.jp i x (a.jp i x e)
  jnew := fun x e => by
    rcases b.jnew x e with q | q
    · exact a.jnew x q
    · exact .inr (none_back a.ex q)
  onew := fun x e => by
    rcases b.onew x e with q | q
    · exact a.onew x q
    · exact .inr (none_back a.ex q)

theorem EnvOk.at_step {V V' : View} {s s' : Shared} {env : Env} {σ : Sto} (w : EnvOk G V s.heap env σ) (a : Step V s V' s') {x : Str} {ov : Option Value} (r : At s.heap env x ov) : At s'.heap env x ov := by
  rcases r with ⟨k, m, ⟨o, es, ep, ho, q⟩, e⟩ | ⟨k, c, hcc, o, ho, hd⟩
  · exact .inl ⟨k, m, ⟨o, es, ep, a.keep _ o ho w.locJ, q⟩, e⟩
  · refine g_eeaaaa (w.cel _ k) fun c' ov hc' _ _ hJ _ => ?_
    rw [hcc] at hc'; cases hc'
    exact .inr ⟨k, c, hcc, o, a.keep c o ho hJ, hd⟩

theorem EnvOk.own_step {V V' : View} {s s' : Shared} {env : Env} {σ : Sto} (w : EnvOk G V s.heap env σ) (a : Step V s V' s') {b : Addr} : OwnA s'.heap env σ b → OwnA s.heap env σ b := by
  intro qₕ
  refine g_eeeaa qₕ fun x d v e hv hb => ?_
  refine g_eaa (w.own x d e) fun u hu ho hf => ?_
  have hk : ∀ c ∈ foot s.heap u, ∀ o, s.heap.get? c = some o → s'.heap.get? c = some o := fun c hc o q => a.keep c o q (hf c hc).J
  obtain rfl := Option.some.inj (At.unique hv (w.at_step a hu))
  exact ⟨x, d, v, e, hu, by rw [← ho.foot_keep hk]; exact hb⟩

-- an evaluation is a step of the statement's
theorem Step.toS {V V' : View} {s s' : Shared} {env : Env} {σ : Sto} (a : Step V s V' s') (w : EnvOk G V s.heap env σ) : StepS env σ V s σ V' s' :=
  ⟨a.gens, a.os, fun b o e hJ _ _ => a.keep b o e hJ, a.ex, a.fr, fun b e => (a.fnew b e).imp id .inl, a.jp, a.jnew, fun _ e => .inl (w.own_step a e)⟩

inductive AFlow where
  | next | brk | cont
  | ret (d : Dat)

noncomputable def FlowOk (G : Cx) (V : View) (h : Heap) : Flow → AFlow → Prop
  | .next, .next => True
  | .brk, .brk => True
  | .cont, .cont => True
  | .ret v, .ret d => Rep G V h v d
  | _, _ => False

noncomputable abbrev Sx := Sto → MSt → Option (AFlow × Sto × MSt)

-- the state behind a statement
inductive PS (G : Cx) (env : Env) (σ : Sto) (V : View) (s : Shared) (fl : AFlow) (σ' : Sto) (I' : MSt) (f : Flow) (s' : Shared) : Prop
  | mk (V' : View) (ss : StepS env σ V s σ' V' s') (g : Good G V' s' I') (w : EnvOk G V' s'.heap env σ') (fo : FlowOk G V' s'.heap f fl)

structure SoundS (G : Cx) (n : Nat) (sc : Scope) (st : Stmt) (f : Sx) : Prop where
  run :
  ∀ (A : Around) (env : Env) (V : View) (σ : Sto) (I : MSt) (s : Shared) (fl : AFlow) (σ' : Sto) (I' : MSt),
    env.scope = sc → Room A n → Good G V s I → EnvOk G V s.heap env σ → f σ I = some (fl, σ', I') →
    wpAny (Md G) A (exec st env) (PS G env σ V s fl σ' I') No s

structure SoundSs (G : Cx) (n : Nat) (sc : Scope) (st : List Stmt) (f : Sx) : Prop where
  run :
  ∀ (A : Around) (env : Env) (V : View) (σ : Sto) (I : MSt) (s : Shared) (fl : AFlow) (σ' : Sto) (I' : MSt),
    env.scope = sc → Room A n → Good G V s I → EnvOk G V s.heap env σ → f σ I = some (fl, σ', I') →
    wpAny (Md G) A (execs st env) (PS G env σ V s fl σ' I') No s

theorem PS.trans {env : Env} {σ σ₁ σ₂ : Sto} {V V₁ : View} {s s₁ s₂ : Shared} {fl : AFlow} {I : MSt} {f : Flow} (a : StepS env σ V s σ₁ V₁ s₁) (b : PS G env σ₁ V₁ s₁ fl σ₂ I f s₂) : PS G env σ V s fl σ₂ I f s₂ := by
  obtain ⟨V', st, g, w, r⟩ := b
  exact ⟨V', a.trans st, g, w, r⟩

noncomputable def sNil : Sx := fun σ I => some (.next, σ, I)
noncomputable def aNext : AFlow → Bool
  | .next => true
  | _ => false
theorem aNext_go {fl : AFlow} (h : aNext fl = true) : fl = .next := by
  cases fl with
  | next => rfl
  | _ => exact Bool.noConfusion h
noncomputable def sCons (f g : Sx) : Sx := fun σ I => (f σ I).bind fun r => cond (aNext r.1) (g r.2.1 r.2.2) (some r)

theorem StepS.refl (env : Env) (σ : Sto) (V : View) (s : Shared) : StepS env σ V s σ V s :=
  ⟨rfl, rfl, fun _ _ e _ _ _ => e, fun _ o e => ⟨o, e⟩, fun _ e => e, fun _ e => .inl e, fun _ _ e => e, fun _ e => .inl e, fun _ e => .inl e⟩

theorem SoundSs.nil : SoundSs G n sc [] sNil := .mk fun A env V σ I s fl σ' I' hs rm g w hf => by
  refine some3 hf ?_
  exact wpAny_execs_nil ⟨V, StepS.refl _ _ _ _, g, w, trivial⟩
theorem SoundSs.cons {st : Stmt} {rest : List Stmt} {f f' : Sx} (h : SoundS G n sc st f) (h' : SoundSs G n sc rest f') : SoundSs G n sc (st :: rest) (sCons f f') := .mk fun A env V σ I s fl σ' I' hs rm g w hf => by
  refine bind_go hf fun r e hf => wpAny_execs_cons (wpAny_mono (h.run A env V σ I s r.1 r.2.1 r.2.2 hs rm g w e) (fun f s₁ q => ?_) fun _ _ x => x)
  obtain ⟨V₁, st₁, g₁, w₁, fo⟩ := q
  obtain ⟨fl₁, σ₁, I₁⟩ := r
  cases q : aNext fl₁ with
  | true =>
    obtain rfl := aNext_go q
    cases f with
    | next => exact wpAny_mono (h'.run A env V₁ σ₁ I₁ s₁ fl σ' I' hs rm g₁ w₁ hf) (fun _ _ q => q.trans st₁) fun _ _ x => x
    | _ => exact fo.elim
  | false =>
    refine some3 ((show cond (aNext fl₁) _ (some (fl₁, σ₁, I₁)) = some (fl₁, σ₁, I₁) by rw [q]; rfl).symm.trans hf) ?_
    cases f with
    | next => cases fl₁ with
      | next => exact Bool.noConfusion q
      | _ => exact fo.elim
    | _ => exact ⟨V₁, st₁, g₁, w₁, fo⟩

-- storing a name

theorem SameBut.ex {c : Addr} {h h' : Heap} {oc : Obj} (hs : Heap.SameBut c h h') (hc : h'.get? c = some oc) (b : Addr) (o : Obj) (e : h.get? b = some o) : ∃ o', h'.get? b = some o' := by
  by_cases q : b = c
  · subst q; exact ⟨_, hc⟩
  · exact ⟨o, (hs.2 b q).trans e⟩

-- what a name is to be, behind a store
noncomputable def EntOk (G : Cx) (V : View) (h : Heap) (env : Env) (σ : Sto) (x : String) (v : Value) : Ent → Prop
  | .unb => True
  | .frz d => Rep G V h v d
  | .own d => Own G V h v d ∧ (∀ a ∈ foot h v, Free V env a) ∧ ∀ y d' u, y ≠ x → σ y = .own d' → At h env (Str.ofString y) (some u) → ∀ a ∈ foot h v, a ∉ foot h u

set_option tactic.hygienic true in
theorem EnvOk.stored {V : View} {h h' : Heap} {env : Env} {σ : Sto} {x : String} {v : Value} {c : Addr} {oc : Obj} {e : Ent} (w : EnvOk G V h env σ) (hcF : ¬ V.F c) (hfr : Fra env c) (hs : Heap.SameBut c h h') (hc : h'.get? c = some oc)
    (hx : At h' env (Str.ofString x) (some v)) (hy : ∀ (y : Str) ov, y ≠ Str.ofString x → At h env y ov → At h' env y ov) (hns : ∃ m, h'.Ns env.locals m)
    (hcel : ∀ y : Str, (env.kindOf y = some .cell ∨ env.kindOf y = some .free) → ∃ c ov, env.cells.lookup y = some c ∧ h'.IsCell c ov) (he : EntOk G V h env σ x v e) : EnvOk G V h' env (σ.set x e) := by
  have kF : KeepF V h h' := fun b o hF q => (hs.2 b fun z => hcF (z ▸ hF)).trans q
  have kfree : ∀ {a : Addr}, Free V env a → a ≠ c := fun {a} f z => by
    rcases hfr with q | ⟨y, q⟩
    · exact f.loc (z.trans q)
    · exact f.cel y (z ▸ q)
  have kfoot : ∀ {u : Value} {d : Dat}, Own G V h u d → (∀ a ∈ foot h u, Free V env a) → Own G V h' u d ∧ foot h' u = foot h u := fun {u d} o f => by
    have hk : ∀ a ∈ foot h u, ∀ ob, h.get? a = some ob → h'.get? a = some ob := fun a ha ob q => (hs.2 a (kfree (f a ha))).trans q
    exact ⟨o.keep (fun _ q => q) (fun _ _ q => q) kF hk, o.foot_keep hk⟩
  have ne : ∀ {y : String}, y ≠ x → Str.ofString y ≠ Str.ofString x := fun {y} q z => q (ofString_inj z)
  refine ⟨w.kind, w.glob, w.bui, hns, w.locF, w.locJ, fun y k => ?_, fun y c' q => let ⟨⟨o, e⟩, hFJ⟩ := w.cex y c' q; ⟨SameBut.ex hs hc c' o e, hFJ⟩, w.inj, fun y d q => ?_, fun y d q => ?_, fun y z d d' a b hyz qy qz ha hb => ?_⟩
  · refine g_eeaaaa (w.cel y k) fun c₁ ov₁ h1 h2 h3 h4 h5 => ?_
    refine g_eea (hcel y k) fun c₂ ov₂ e1 e2 => ?_
    rw [h1] at e1; cases e1
    exact ⟨c₁, ov₂, h1, e2, h3, h4, h5⟩
  · unfold Sto.set at q
    split at q
    · rename_i hyx; subst hyx
      cases q
      exact ⟨v, hx, Rep.mono (V := V) (V' := V) (fun _ q => q) (fun _ _ q => q) kF he⟩
    · rename_i hyx
      refine g_ea (w.frz y d q) fun u hu r => ?_
      exact ⟨u, hy _ _ (ne hyx) hu, r.mono (fun _ q => q) (fun _ _ q => q) kF⟩
  · unfold Sto.set at q
    split at q
    · rename_i hyx; subst hyx
      subst q
      refine g_aa he fun o f _ => ?_
      clear he
      refine g_a (kfoot o f) fun o' ef => ?_
      exact ⟨v, hx, o', by rw [ef]; exact f⟩
    · rename_i hyx
      refine g_eaa (w.own y d q) fun u hu o f => ?_
      refine g_a (kfoot o f) fun o' ef => ?_
      exact ⟨u, hy _ _ (ne hyx) hu, o', by rw [ef]; exact f⟩
  · unfold Sto.set at qy qz
    split at qy
    · rename_i hyx; subst hyx
      subst qy
      rw [if_neg (fun q => hyz q.symm)] at qz
      refine g_aa he fun o f dj => ?_
      clear he
      refine g_a (kfoot o f) fun _ ef => ?_
      obtain rfl := Option.some.inj (At.unique ha hx)
      refine g_eaa (w.own z d' qz) fun u hu o₂ f₂ => ?_
      refine g_a (kfoot o₂ f₂) fun _ ef₂ => ?_
      obtain rfl := Option.some.inj (At.unique hb (hy _ _ (ne fun q => hyz q.symm) hu))
      rw [ef, ef₂]
      exact dj z d' b (fun q => hyz q.symm) qz hu
    · rename_i hyx
      refine g_eaa (w.own y d qy) fun u₁ hu₁ o₁ f₁ => ?_
      refine g_a (kfoot o₁ f₁) fun _ ef₁ => ?_
      obtain rfl := Option.some.inj (At.unique ha (hy _ _ (ne hyx) hu₁))
      split at qz
      · rename_i hzx; subst hzx
        subst qz
        refine g_aa he fun o f dj => ?_
        clear he
        refine g_a (kfoot o f) fun _ ef => ?_
        obtain rfl := Option.some.inj (At.unique hb hx)
        rw [ef, ef₁]
        exact fun c hc hc' => dj y d a hyx qy hu₁ c hc' hc
      · rename_i hzx
        refine g_eaa (w.own z d' qz) fun u₂ hu₂ o₂ f₂ => ?_
        refine g_a (kfoot o₂ f₂) fun _ ef₂ => ?_
        obtain rfl := Option.some.inj (At.unique hb (hy _ _ (ne hzx) hu₂))
        rw [ef₁, ef₂]
        exact w.dis y z d d' a b hyz qy qz hu₁ hu₂
end

-- M08
section
variable {G : Cx} {n : Nat} {sc : Scope}

theorem Good.sameBut {V : View} {s : Shared} {I : MSt} {c : Addr} {h' : Heap} {k : Nat} {oc : Obj} (g : Good G V s I) (hs : Heap.SameBut c s.heap h') (hc : h'.get? c = some oc) (hF : ¬ V.F c) (hJ : c ∉ V.J) : Good G V { s with heap := h', toks := k } I :=
  ⟨fun b o e => ⟨(g.base b o e).1, (hs.2 b fun q => hF (q ▸ (g.base b o e).1)).trans (g.base b o e).2⟩,
    g.st.keeps fun b hb o e => (hs.2 b fun q => hJ (q ▸ hb)).trans e, fun b e => let ⟨o, q⟩ := g.ex b e; SameBut.ex hs hc b o q⟩

theorem storeName_both {A : Around} {V : View} {s : Shared} {env : Env} {σ : Sto} {x : String} {v : Value} {Q : Unit → Shared → Prop} (w : EnvOk G V s.heap env σ) (hk : env.kindOf (Str.ofString x) = some .local ∨ env.kindOf (Str.ofString x) = some .cell)
    (k : ∀ c oc h' tk, ¬ V.F c → c ∉ V.J → (c = env.locals ∨ env.cells.lookup (Str.ofString x) = some c) → Heap.SameBut c s.heap h' → h'.get? c = some oc → At h' env (Str.ofString x) (some v) → (∀ (y : Str) ov, y ≠ Str.ofString x → At s.heap env y ov → At h' env y ov) → (∃ m, h'.Ns env.locals m) →
      (∀ y : Str, (env.kindOf y = some .cell ∨ env.kindOf y = some .free) → ∃ c ov, env.cells.lookup y = some c ∧ h'.IsCell c ov) → Q () { s with heap := h', toks := tk }) :
    wpAny (Md G) A (storeName env (Str.ofString x) v) Q No s := by
  rcases hk with hk | hk
  · refine g_e w.loc fun m hm => ?_
    refine wpAny_storeName_local hk hm (fun h' hn hs => ?_) (by rw [w.kind]; rfl)
    refine g_eeea (id hn) fun oc es ep ho r => ?_
    refine k env.locals oc h' _ w.locF w.locJ (.inl rfl) hs ho (.inl ⟨hk, _, hn, by simp⟩) (fun y ov hy a => ?_) ⟨_, hn⟩ fun y q => ?_
    · rcases a with ⟨k', m', n', e⟩ | ⟨k', c, hc, o, hco, hd⟩
      · exact .inl ⟨k', _, hn, by rw [if_neg hy, Ns.unique hm n']; exact e⟩
      · refine g_eeaaaa (w.cel y k') fun c' _ hc' _ _ _ hl => ?_
        rw [hc] at hc'; cases hc'
        exact .inr ⟨k', c, hc, o, (hs.2 c hl).trans hco, hd⟩
    · refine g_eeaaaa (w.cel y q) fun c ov hc q3ₜ _ _ hl => ?_
      refine g_ea q3ₜ fun o hco hd => ?_
      exact ⟨c, ov, hc, o, (hs.2 c hl).trans hco, hd⟩
  · refine g_eeaaaa (w.cel _ (.inl hk)) fun c ov hc hcell hF hJ hl => ?_
    refine wpAny_storeName_cell w.kind hk hc hcell fun h' hv hs => ?_
    refine g_ea (id hv) fun oc ho hd => ?_
    refine k c oc h' s.toks hF hJ (.inr hc) hs ho (.inr ⟨.inl hk, c, hc, hv⟩) (fun y ov hy a => ?_) ?_ fun y q => ?_
    · rcases a with ⟨k', m', ⟨o, es, ep, hlo, r⟩, e⟩ | ⟨k', c', hc', o, hco, hd'⟩
      · exact .inl ⟨k', m', ⟨o, es, ep, (hs.2 _ hl.symm).trans hlo, r⟩, e⟩
      · exact .inr ⟨k', c', hc', o, (hs.2 c' fun z => hy (w.inj _ _ c (z ▸ hc') hc)).trans hco, hd'⟩
    · refine g_eeeea w.loc fun m o es ep hlo r => ?_
      exact ⟨m, o, es, ep, (hs.2 _ hl.symm).trans hlo, r⟩
    · refine g_eeaa (w.cel y q) fun c' ov' hc' q3ₜ _ => ?_
      refine g_ea q3ₜ fun o hco hd' => ?_
      by_cases z : c' = c
      · subst z; exact ⟨c', _, hc', hv⟩
      · exact ⟨c', ov', hc', o, (hs.2 c' z).trans hco, hd'⟩

-- a store behind an evaluation
theorem store_name {A : Around} {V V₁ : View} {s₀ s : Shared} {I I₀ : MSt} {env : Env} {σ : Sto} {x : String} {v : Value} {e : Ent} {Q : Unit → Shared → Prop} (st : Step V s₀ V₁ s) (w₀ : EnvOk G V s₀.heap env σ)
    (g : Good G V₁ s I) (w : EnvOk G V₁ s.heap env σ) (hk : env.kindOf (Str.ofString x) = some .local ∨ env.kindOf (Str.ofString x) = some .cell) (he : EntOk G V₁ s.heap env σ x v e)
    (hn : ∀ d, e = .own d → ∀ a ∈ foot s.heap v, s₀.heap.get? a = none ∨ OwnA s₀.heap env σ a)
    (k : ∀ s', StepS env σ V s₀ (σ.set x e) V₁ s' → Good G V₁ s' I → EnvOk G V₁ s'.heap env (σ.set x e) → (∀ {u d}, Rep G V₁ s.heap u d → Rep G V₁ s'.heap u d) → Q () s') : wpAny (Md G) A (storeName env (Str.ofString x) v) Q No s := by
  refine storeName_both w hk fun c oc h' tk hF hJ hfr' hs hc hx hy hns hcel => ?_
  have hfr : Fra env c := hfr'.imp id fun q => ⟨_, q⟩
  have w' := w.stored (e := e) hF hfr hs hc hx hy hns hcel he
  have kF : KeepF V₁ s.heap h' := fun b o hF' q => (hs.2 b fun z => hF (z ▸ hF')).trans q
  refine k { s with heap := h', toks := tk } ⟨st.gens, st.os, fun b o q hJ' nf no => ?_, fun b o q => ?_, st.fr, fun b q => (st.fnew b q).imp id .inl, st.jp, st.jnew, ?_⟩ (g.sameBut hs hc hF hJ) w' fun {u d} r => r.mono (fun _ q => q) (fun _ _ q => q) kF
  · exact (hs.2 b fun z => nf (z ▸ hfr)).trans (st.keep b o q hJ')
  · refine g_e (st.ex b o q) fun o' q' => ?_
    exact SameBut.ex hs hc b o' q'
  · intro b qₕ
    refine g_eeeaa qₕ fun y d u q hu hb => ?_
    by_cases hyx : y = x
    · subst hyx
      rw [show (σ.set y e) y = e from if_pos rfl] at q
      have := At.unique hu hx; cases this
      subst q
      refine g_aa he fun o f _ => ?_
      have hfk : foot h' v = foot s.heap v := o.foot_keep fun a ha ob q => (hs.2 a fun z => by
        rcases hfr with z' | ⟨y', z'⟩
        · exact (f a ha).loc (z.trans z')
        · exact (f a ha).cel y' (z ▸ z')).trans q
      rw [hfk] at hb
      exact (hn d rfl b hb).symm
    · have q' : σ y = .own d := by rw [← q]; exact (if_neg hyx).symm
      refine g_eaa (w.own y d q') fun u' hu' o f => ?_
      obtain rfl := Option.some.inj (At.unique hu (hy _ _ (fun z => hyx (ofString_inj z)) hu'))
      have hfk : foot h' u = foot s.heap u := o.foot_keep fun a ha ob q => (hs.2 a fun z => by
        rcases hfr with z' | ⟨y', z'⟩
        · exact (f a ha).loc (z.trans z')
        · exact (f a ha).cel y' (z ▸ z')).trans q
      rw [hfk] at hb
      exact .inl (w₀.own_step st ⟨y, d, u, q', hu', hb⟩)

-- assignment

noncomputable def sSet (x : String) (f : Ev) : Sx := fun σ I => (f σ I).bind fun p => some (.next, σ.set x (.frz p.1), p.2)
noncomputable def sOwn (x : String) (f : Ev) : Sx := fun σ I => (f σ I).bind fun p => some (.next, σ.set x (.own p.1), p.2)

noncomputable abbrev KindOk (sc : Scope) (x : String) : Prop := sc.names.lookup (Str.ofString x) = some .local ∨ sc.names.lookup (Str.ofString x) = some .cell

theorem SoundS.set {x : String} {value : Expr} {p pos : Pos} {f : Ev} (hk : KindOk sc x) (h : SoundE G n sc value f) (hsw : ∀ env, swapsWith value (some (.Name (Str.ofString x) p)) pos.line env = pure false := by intro _; rfl) :
    SoundS G n sc (.Assign [.Name (Str.ofString x) p] value pos) (sSet x f) := .mk fun A env V σ I s fl σ' I' hs rm g w hf => by
  refine bind_go2 hf fun d I' e hf => ?_
  refine some3 hf ?_
  refine wpAny_Assign_Name (h.use hs rm g w e fun V₁ s₁ v st₁ g₁ w₁ r₁ => ?_) (hsw env)
  refine store_name (I₀ := I) (e := .frz d) st₁ w g₁ w₁ (by subst hs; exact hk) r₁ (fun _ q => by cases q) fun s₂ ss g₂ w₂ _ => ?_
  exact ⟨V₁, ss, g₂, w₂, trivial⟩

theorem SoundS.own {x : String} {value : Expr} {p pos : Pos} {f : Ev} (hk : KindOk sc x) (h : SoundO G n sc value f) (hsw : ∀ env, swapsWith value (some (.Name (Str.ofString x) p)) pos.line env = pure false := by intro _; rfl) :
    SoundS G n sc (.Assign [.Name (Str.ofString x) p] value pos) (sOwn x f) := .mk fun A env V σ I s fl σ' I' hs rm g w hf => by
  refine bind_go2 hf fun d I' e hf => ?_
  refine some3 hf ?_
  refine wpAny_Assign_Name (wpAny_mono (h.run A env V σ I s d _ hs rm g w e) (fun v s₁ q => ?_) fun _ _ x => x) (hsw env)
  obtain ⟨V₁, st₁, g₁, ow, hfr⟩ := q
  have w₁ := w.step st₁ g
  have exL : ∀ {a : Addr} {o : Obj}, s.heap.get? a = some o → a ∉ foot s₁.heap v := fun {a o} q hb => by
    have := (hfr a hb).1; rw [q] at this; cases this
  refine store_name (I₀ := I) (e := .own d) st₁ w g₁ w₁ (by subst hs; exact hk) ⟨ow, fun a ha => ⟨(hfr a ha).2.1, (hfr a ha).2.2, fun q => ?_, fun y q => ?_⟩, fun y d' u hyx q hu a ha hb => ?_⟩ (fun _ _ a ha => .inl (hfr a ha).1) fun s₂ ss g₂ w₂ _ => ⟨V₁, ss, g₂, w₂, trivial⟩
  · refine g_e w.locEx fun o ho => ?_
    exact exL ho (q ▸ ha)
  · refine g_a (w.cex y a q) fun q0ₜ _ => ?_
    refine g_e q0ₜ fun o ho => ?_
    exact exL ho ha
  · refine g_eaa (w.own y d' q) fun u' hu' o f => ?_
    obtain rfl := Option.some.inj (At.unique hu (w.at_step st₁ hu'))
    have hfk : foot s₁.heap u = foot s.heap u := o.foot_keep fun c hc ob q => st₁.keep c ob q (f c hc).J
    rw [hfk] at hb
    refine g_e (o.foot_ex a hb) fun ob hob => ?_
    exact exL hob ha
end

-- M09
section
variable {G : Cx} {n : Nat} {sc : Scope}

theorem Own.mono0 {V : View} {h h' : Heap} {v : Value} {d : Dat} (w : Own G V h v d) (hk : KeepF V h h') (hf : ∀ a ∈ foot h v, ∀ o, h.get? a = some o → h'.get? a = some o) : Own G V h' v d := w.keep (fun _ q => q) (fun _ _ q => q) hk hf

-- a mutable thing of a name's has been changed in place
set_option tactic.hygienic true in
theorem EnvOk.mutated {V : View} {h h' : Heap} {env : Env} {σ : Sto} {x : String} {v : Value} {c : Addr} {oc : Obj} {d d' : Dat} (w : EnvOk G V h env σ) (hx : σ x = .own d) (hv : At h env (Str.ofString x) (some v)) (hc : c ∈ foot h v)
    (hs : Heap.SameBut c h h') (hcx : h'.get? c = some oc) (ho : Own G V h' v d') (hf : foot h' v = foot h v) : EnvOk G V h' env (σ.set x (.own d')) := by
  refine g_eaa (w.own x d hx) fun v₀ hv₀ o₀ f₀ => ?_
  obtain rfl := Option.some.inj (At.unique hv hv₀)
  have fc := f₀ c hc
  have kF : KeepF V h h' := fun b o hF q => (hs.2 b fun z => fc.F (z ▸ hF)).trans q
  have ka : ∀ {y : Str} {ov : Option Value}, At h env y ov → At h' env y ov := fun {y ov} r => by
    rcases r with ⟨k, m, ⟨o, es, ep, hlo, q⟩, e⟩ | ⟨k, c', hcc, o, hco, hd⟩
    · exact .inl ⟨k, m, ⟨o, es, ep, (hs.2 _ fc.loc.symm).trans hlo, q⟩, e⟩
    · exact .inr ⟨k, c', hcc, o, (hs.2 c' fun z => fc.cel y (z ▸ hcc)).trans hco, hd⟩
  have kothers : ∀ {y : String} {e : Dat} {u : Value}, y ≠ x → σ y = .own e → At h env (Str.ofString y) (some u) → ∀ a ∈ foot h u, ∀ ob, h.get? a = some ob → h'.get? a = some ob := fun {y e u} hyx q hu a ha ob z =>
    (hs.2 a fun zz => w.dis y x e d u v hyx q hx hu hv a ha (zz ▸ hc)).trans z
  refine ⟨w.kind, w.glob, w.bui, ?_, w.locF, w.locJ, fun y k => ?_, fun y c' q => let ⟨⟨o, e⟩, hFJ⟩ := w.cex y c' q; ⟨SameBut.ex hs hcx c' o e, hFJ⟩, w.inj, fun y e q => ?_, fun y e q => ?_, fun y z e e' a b hyz qy qz ha hb => ?_⟩
  · refine g_eeeea w.loc fun m o es ep hlo r => ?_
    exact ⟨m, o, es, ep, (hs.2 _ fc.loc.symm).trans hlo, r⟩
  · refine g_eeaa (w.cel y k) fun c' ov h1 q3ₜ h3 => ?_
    refine g_ea q3ₜ fun o hco hd => ?_
    exact ⟨c', ov, h1, ⟨o, (hs.2 c' fun z => fc.cel y (z ▸ h1)).trans hco, hd⟩, h3⟩
  · unfold Sto.set at q
    split at q
    · cases q
    · refine g_ea (w.frz y e q) fun u hu r => ?_
      exact ⟨u, ka hu, r.mono (fun _ q => q) (fun _ _ q => q) kF⟩
  · unfold Sto.set at q
    split at q
    · rename_i hyx; subst hyx; cases q
      exact ⟨v, ka hv, ho, by rw [hf]; exact f₀⟩
    · rename_i hyx
      refine g_eaa (w.own y e q) fun u hu o f => ?_
      have hk := kothers hyx q hu
      exact ⟨u, ka hu, o.mono0 kF hk, by rw [o.foot_keep hk]; exact f⟩
  · have foot_eq : ∀ {y : String} {e : Dat} {u : Value}, (σ.set x (.own d')) y = .own e → At h' env (Str.ofString y) (some u) → foot h' u = foot h u ∧ (∃ e₀, σ y = .own e₀) ∧ At h env (Str.ofString y) (some u) := fun {y e u} q hu => by
      unfold Sto.set at q
      split at q
      · rename_i hyx; subst hyx
        obtain rfl := Option.some.inj (At.unique hu (ka hv))
        exact ⟨hf, ⟨d, hx⟩, hv⟩
      · rename_i hyx
        refine g_eaa (w.own y e q) fun u' hu' o f => ?_
        obtain rfl := Option.some.inj (At.unique hu (ka hu'))
        exact ⟨o.foot_keep (kothers hyx q hu'), ⟨e, q⟩, hu'⟩
    refine g_aa (foot_eq qy ha) fun e1 q1ₜ ha0 => ?_
    refine g_e q1ₜ fun a0 qa => ?_
    refine g_aa (foot_eq qz hb) fun e2 q1ₜ hb0 => ?_
    refine g_e q1ₜ fun b0 qb => ?_
    rw [e1, e2]
    exact w.dis y z a0 b0 a b hyz qa qb ha0 hb0

-- the step of a change in place, behind evaluations
set_option tactic.hygienic true in
theorem mutate {V V₁ : View} {s₀ s : Shared} {I : MSt} {env : Env} {σ : Sto} {x : String} {v : Value} {c : Addr} {oc : Obj} {d d' : Dat} {h' : Heap} {tk : Nat} (st : Step V s₀ V₁ s) (w₀ : EnvOk G V s₀.heap env σ) (g : Good G V₁ s I) (w : EnvOk G V₁ s.heap env σ)
    (hx : σ x = .own d) (hv : At s.heap env (Str.ofString x) (some v)) (hc : c ∈ foot s.heap v) (hs : Heap.SameBut c s.heap h') (hcx : h'.get? c = some oc) (ho : Own G V₁ h' v d') (hf : foot h' v = foot s.heap v) :
    ∃ V', StepS env σ V s₀ (σ.set x (.own d')) V' { s with heap := h', toks := tk } ∧ Good G V' { s with heap := h', toks := tk } I ∧ EnvOk G V' h' env (σ.set x (.own d')) := by
  have w' := w.mutated hx hv hc hs hcx ho hf
  refine g_eaa (w.own x d hx) fun v₀ hv₀ o₀ f₀ => ?_
  obtain rfl := Option.some.inj (At.unique hv hv₀)
  have fc := f₀ c hc
  refine ⟨V₁, ⟨st.gens, st.os, fun b o q hJ nf no => ?_, fun b o q => ?_, st.fr, fun b q => (st.fnew b q).imp id .inl, st.jp, st.jnew, ?_⟩, g.sameBut hs hcx fc.F fc.J, w'⟩
  · refine (hs.2 b fun z => no (w₀.own_step st ⟨x, d, v, hx, hv, z ▸ hc⟩)).trans (st.keep b o q hJ)
  · refine g_e (st.ex b o q) fun o' q' => ?_
    exact SameBut.ex hs hcx b o' q'
  · intro b qₕ
    refine g_eeeaa qₕ fun y e u q hu hb => ?_
    clear qₕ
    left
    have hu' : ∃ u', At s.heap env (Str.ofString y) (some u') ∧ ∃ e₀, σ y = .own e₀ := by
      unfold Sto.set at q
      split at q
      · rename_i hyx; subst hyx; exact ⟨v, hv, d, hx⟩
      · obtain ⟨u', hu', _⟩ := w.own y e q; exact ⟨u', hu', e, q⟩
    refine g_eae hu' fun u' hu' e₀ q₀ => ?_
    by_cases hyx : y = x
    · subst hyx
      have := At.unique hu' hv; cases this
      refine g_ea (w'.own y d' (if_pos rfl)) fun v₂ hv₂ _ => ?_
      have hvv : At h' env (Str.ofString y) (some v) := by
        rcases hv with ⟨k, m, ⟨o, es, ep, hlo, q⟩, e⟩ | ⟨k, c', hcc, o, hco, hd⟩
        · exact .inl ⟨k, m, ⟨o, es, ep, (hs.2 _ fc.loc.symm).trans hlo, q⟩, e⟩
        · exact .inr ⟨k, c', hcc, o, (hs.2 c' fun z => fc.cel _ (z ▸ hcc)).trans hco, hd⟩
      have := At.unique hu hvv; cases this
      rw [hf] at hb
      exact w₀.own_step st ⟨y, d, v, hx, hv, hb⟩
    · refine g_eaa (w.own y e₀ q₀) fun u'' hu'' o f => ?_
      obtain rfl := Option.some.inj (At.unique hu' hu'')
      have hk : ∀ a ∈ foot s.heap u', ∀ ob, s.heap.get? a = some ob → h'.get? a = some ob := fun a ha ob z => (hs.2 a fun zz => w.dis y x e₀ d u' v hyx q₀ hx hu' hv a ha (zz ▸ hc)).trans z
      have huv : At h' env (Str.ofString y) (some u') := by
        rcases hu' with ⟨k, m, ⟨o, es, ep, hlo, q⟩, e⟩ | ⟨k, c', hcc, o, hco, hd⟩
        · exact .inl ⟨k, m, ⟨o, es, ep, (hs.2 _ fc.loc.symm).trans hlo, q⟩, e⟩
        · exact .inr ⟨k, c', hcc, o, (hs.2 c' fun z => fc.cel _ (z ▸ hcc)).trans hco, hd⟩
      obtain rfl := Option.some.inj (At.unique hu huv)
      rw [o.foot_keep hk] at hb
      exact w₀.own_step st ⟨y, e₀, u, q₀, hu', hb⟩

-- control

noncomputable def sIf (t : Bv) (a b : Sx) : Sx := fun σ I => (t σ I).bind fun p => cond p.1 (a σ p.2) (b σ p.2)
theorem SoundS.ite {t : Expr} {a b : List Stmt} {pos : Pos} {ft : Bv} {fa fb : Sx} (ht : SoundT G n sc t ft) (ha : SoundSs G n sc a fa) (hb : SoundSs G n sc b fb) : SoundS G n sc (.If t a b pos) (sIf ft fa fb) := .mk fun A env V σ I s fl σ' I' hs rm g w hf => by
  refine bind_go2 hf fun c I₁ e hf => wpAny_If (ht.use hs rm g w e fun V₁ s₁ st₁ g₁ w₁ => ?_)
  cases c with
  | true => exact ite_t rfl (wpAny_mono (ha.run A env V₁ σ I₁ s₁ fl σ' I' hs rm g₁ w₁ hf) (fun _ _ q => q.trans (st₁.toS w)) fun _ _ x => x)
  | false => exact ite_f Bool.false_ne_true (wpAny_mono (hb.run A env V₁ σ I₁ s₁ fl σ' I' hs rm g₁ w₁ hf) (fun _ _ q => q.trans (st₁.toS w)) fun _ _ x => x)

noncomputable def sRet (f : Ev) : Sx := fun σ I => (f σ I).bind fun p => some (.ret p.1, σ, p.2)
theorem SoundS.ret {e : Expr} {pos : Pos} {f : Ev} (h : SoundE G n sc e f) : SoundS G n sc (.Return (some e) pos) (sRet f) := .mk fun A env V σ I s fl σ' I' hs rm g w hf => by
  refine bind_go2 hf fun d I' e hf => ?_
  refine some3 hf ?_
  exact wpAny_Return_some (h.use hs rm g w e fun V₁ s₁ v st₁ g₁ w₁ r₁ => ⟨V₁, st₁.toS w, g₁, w₁, r₁⟩)
noncomputable def sBrk : Sx := fun σ I => some (.brk, σ, I)
noncomputable def sCont : Sx := fun σ I => some (.cont, σ, I)
theorem SoundS.brk {pos : Pos} : SoundS G n sc (.Break pos) sBrk := .mk fun A env V σ I s fl σ' I' hs rm g w hf => by
  refine some3 hf ?_
  show wpAny _ _ (do standAt pos; pure Flow.brk) _ _ _
  exact wpAny_bind (wpAny_standAt (wpAny_pure ⟨V, StepS.refl _ _ _ _, g, w, trivial⟩))
theorem SoundS.cont {pos : Pos} : SoundS G n sc (.Continue pos) sCont := .mk fun A env V σ I s fl σ' I' hs rm g w hf => by
  refine some3 hf ?_
  show wpAny _ _ (do standAt pos; pure Flow.cont) _ _ _
  exact wpAny_bind (wpAny_standAt (wpAny_pure ⟨V, StepS.refl _ _ _ _, g, w, trivial⟩))

-- a name's mutable thing is frozen

noncomputable def Sto.freeze (σ : Sto) (x : String) : Sto := match σ x with
  | .own d => σ.set x (.frz d)
  | _ => σ
noncomputable def Sto.freezes (σ : Sto) : List String → Sto
  | [] => σ
  | x :: r => (σ.freeze x).freezes r

theorem Own.toRep {V : View} {h : Heap} {v : Value} {d : Dat} (w : Own G V h v d) : ∃ V' : View, (∀ b, V'.F b ↔ V.F b ∨ b ∈ foot h v) ∧ V'.J = V.J ∧ Rep G V' h v d := by
  have key : ∀ V' : View, (∀ b, V'.F b ↔ V.F b ∨ b ∈ foot h v) → V'.J = V.J → Rep G V' h v d := fun V' hF hJ => by
    have hm : ∀ b, V.F b → V'.F b := fun b q => (hF b).mpr (.inl q)
    have hj : ∀ (i : Nat) (a : Addr), V.J[i]? = some a → V'.J[i]? = some a := fun i a q => by rw [hJ]; exact q
    have hk : KeepF V h h := fun _ _ _ q => q
    cases w with
    | list hl hs => exact .list ((hF _).mpr (.inr (.head _))) hl (hs.mono hm hj hk)
    | idict hl hn hs => exact .idict ((hF _).mpr (.inr (.head _))) hl hn hs
    | obj ho hd hs => exact .obj ((hF _).mpr (.inr (by simp [foot]))) ((hF _).mpr (.inr (by simp [foot, ho]))) ho hd (hs.mono hm hj hk)
    | pobj ho hd hs => exact .pobj ((hF _).mpr (.inr (by simp [foot]))) ((hF _).mpr (.inr (by simp [foot, ho]))) ho hd (hs.mono hm hj hk)
  exact ⟨⟨fun b => V.F b ∨ b ∈ foot h v, V.J⟩, fun _ => Iff.rfl, rfl, key _ (fun _ => Iff.rfl) rfl⟩

set_option tactic.hygienic true in
theorem freeze_one {V : View} {s : Shared} {I : MSt} {env : Env} {σ : Sto} (x : String) (g : Good G V s I) (w : EnvOk G V s.heap env σ) : ∃ V', StepS env σ V s (σ.freeze x) V' s ∧ Good G V' s I ∧ EnvOk G V' s.heap env (σ.freeze x) := by
  unfold Sto.freeze
  split
  · rename_i d hx
    refine g_eaa (w.own x d hx) fun v hv o f => ?_
    refine g_eaa o.toRep fun V' hF hJ r => ?_
    have hm : ∀ b, V.F b → V'.F b := fun b q => (hF b).mpr (.inl q)
    have hj : ∀ (i : Nat) (a : Addr), V.J[i]? = some a → V'.J[i]? = some a := fun i a q => by rw [hJ]; exact q
    have hk : KeepF V s.heap s.heap := fun _ _ _ q => q
    have nf : ∀ {b : Addr} {ob : Obj}, ¬ V.F b → b ∉ foot s.heap v → ¬ V'.F b := fun {b ob} h1 h2 q => ((hF b).mp q).elim h1 h2
    refine ⟨V', ⟨rfl, rfl, fun _ _ e _ _ _ => e, fun _ o e => ⟨o, e⟩, hm, fun b q => ?_, hj, fun b q => .inl (hJ ▸ q), ?_⟩, ⟨fun b o e => ⟨hm b (g.base b o e).1, (g.base b o e).2⟩, ⟨hJ ▸ g.st.len, hJ ▸ g.st.nodup, fun b hb q => ?_, fun i a kvs e => g.st.at_ i a kvs (by rw [hJ] at e; exact e)⟩, fun b q => ?_⟩, ?_⟩
    · rcases (hF b).mp q with q | q
      · exact .inl q
      · exact .inr (.inr ⟨x, d, v, hx, hv, q⟩)
    · intro b qₕ
      refine g_eeeaa qₕ fun y e u q hu hb => ?_
      unfold Sto.set at q
      split at q
      · cases q
      · exact .inl ⟨y, e, u, q, hu, hb⟩
    · rw [hJ] at hb
      rcases (hF b).mp q with q | q
      · exact g.st.apart b hb q
      · exact (f b q).J hb
    · rcases (hF b).mp q with q | q
      · exact g.ex b q
      · exact o.foot_ex b q
    · refine ⟨w.kind, w.glob, w.bui, w.loc, fun q => ((hF _).mp q).elim w.locF fun q => (f _ q).loc rfl, by rw [hJ]; exact w.locJ, fun y k => ?_, fun y c q => let ⟨h1, h2, h3⟩ := w.cex y c q; ⟨h1, fun z => ((hF _).mp z).elim h2 fun z => (f _ z).cel y q, by rw [hJ]; exact h3⟩, w.inj, fun y e q => ?_, fun y e q => ?_, fun y z e e' a b hyz qy qz ha hb => ?_⟩
      · refine g_eeaaaa (w.cel y k) fun c ov h1 h2 h3 h4 h5 => ?_
        exact ⟨c, ov, h1, h2, fun q => ((hF _).mp q).elim h3 fun q => (f _ q).cel y h1, by rw [hJ]; exact h4, h5⟩
      · unfold Sto.set at q
        split at q
        · rename_i hyx; subst hyx; cases q; exact ⟨v, hv, r⟩
        · refine g_ea (w.frz y e q) fun u hu ru => ?_
          exact ⟨u, hu, ru.mono hm hj hk⟩
      · unfold Sto.set at q
        split at q
        · cases q
        · rename_i hyx
          refine g_eaa (w.own y e q) fun u hu ou fu => ?_
          refine ⟨u, hu, ou.keep hm hj hk fun _ _ _ q => q, fun a ha => ⟨fun z => ((hF a).mp z).elim (fu a ha).F fun z => w.dis y x e d u v hyx q hx hu hv a ha z, by rw [hJ]; exact (fu a ha).J, (fu a ha).loc, (fu a ha).cel⟩⟩
      · unfold Sto.set at qy qz
        split at qy
        · cases qy
        · split at qz
          · cases qz
          · exact w.dis y z e e' a b hyz qy qz ha hb
  · exact ⟨V, StepS.refl _ _ _ _, g, w⟩

theorem freeze_all {s : Shared} {I : MSt} {env : Env} : ∀ (xs : List String) {V : View} {σ : Sto}, Good G V s I → EnvOk G V s.heap env σ → ∃ V', StepS env σ V s (σ.freezes xs) V' s ∧ Good G V' s I ∧ EnvOk G V' s.heap env (σ.freezes xs)
  | [], V, σ, g, w => ⟨V, StepS.refl _ _ _ _, g, w⟩
  | x :: xs, V, σ, g, w => by
    refine g_eaa (freeze_one x g w) fun V₁ st₁ g₁ w₁ => ?_
    refine g_eaa (freeze_all xs g₁ w₁) fun V₂ st₂ g₂ w₂ => ?_
    exact ⟨V₂, st₁.trans st₂, g₂, w₂⟩

noncomputable def sFrz (xs : List String) (f : Sx) : Sx := fun σ I => f (σ.freezes xs) I
theorem SoundS.freeze (xs : List String) {st : Stmt} {f : Sx} (h : SoundS G n sc st f) : SoundS G n sc st (sFrz xs f) := .mk fun A env V σ I s fl σ' I' hs rm g w hf => by
  refine g_eaa (freeze_all xs g w) fun V₁ st₁ g₁ w₁ => ?_
  exact wpAny_mono (h.run A env V₁ _ I s fl σ' I' hs rm g₁ w₁ hf) (fun _ _ q => q.trans st₁) fun _ _ x => x
end

-- M10
section
variable {G : Cx} {n : Nat} {sc : Scope}

theorem interactive_no {V : View} {h : Heap} {env : Env} {σ : Sto} (w : EnvOk G V h env σ) : interactive env = false := by
  unfold interactive
  rw [w.kind]; rfl

-- the shape of a method's call, for the names and places at hand
noncomputable abbrev MethForm (o : Expr) (name : Str) (ap : Pos) (args : List Expr) (cp : Pos) : Prop :=
  ∀ env : Env, eval (.Call (.Attribute o name ap) args [] cp) env = (do
      let ov ← eval o env
      standAt ap.atName
      let (f, first) ← holding [ov] (getMethod ov name (do return (← importBound o env).getD true))
      callWith cp f first (backTo cp (starEach args env)) [])

theorem own_list {V : View} {h : Heap} {env : Env} {σ : Sto} {x : String} {xs : List Dat} (w : EnvOk G V h env σ) (hx : σ x = .own (.list xs)) :
    ∃ a vs k, At h env (Str.ofString x) (some (.ref a)) ∧ h.get? a = some { cls := .type "list", data := .seq vs k } ∧ Reps G V h vs.toList xs ∧ foot h (.ref a) = [a] := by
  refine g_eaa (w.own x _ hx) fun v hv o f => ?_
  obtain ⟨a, vs, rfl, ⟨k, e⟩, hs⟩ := o.is
  exact ⟨_, _, k, hv, e, hs, by simp [foot, e]⟩

theorem own_idict {V : View} {h : Heap} {env : Env} {σ : Sto} {x : String} {kvs : List (Int × Int)} (w : EnvOk G V h env σ) (hx : σ x = .own (.idict kvs)) :
    ∃ a vs, At h env (Str.ofString x) (some (.ref a)) ∧ h.DictOf (intKind G.prog G.w) a vs ∧ a ≠ sysModules ∧ Vals vs kvs ∧ foot h (.ref a) = [a] := by
  refine g_eaa (w.own x _ hx) fun v hv o f => ?_
  obtain ⟨a, vs, rfl, hl, hn, hs⟩ := o.is
  refine g_eeeaa (id hl) fun o es ep e hx _ => ?_
  exact ⟨_, _, hv, hl, hn, hs, by simp [foot, e, hx.2.1]⟩

theorem Reps.push {V : View} {h : Heap} {vs : Array Value} {xs : List Dat} {v : Value} {d : Dat} (r : Reps G V h vs.toList xs) (q : Rep G V h v d) : Reps G V h (vs.push v).toList (xs ++ [d]) := by
  rw [Array.toList_push]; exact r.append (.cons q .nil)

noncomputable def sApp (x : String) (f : Ev) : Sx := fun σ I => (f σ I).bind fun p => (entOwn (σ x)).bind fun c => (datLst c).bind fun xs => if xs.length ≤ sizeLine then some (.next, σ.set x (.own (.list (xs ++ [p.1]))), p.2) else none

theorem keepF_sameBut {V : View} {h h' : Heap} {c : Addr} (hs : Heap.SameBut c h h') (hF : ¬ V.F c) : KeepF V h h' := fun b o q e => (hs.2 b fun z => hF (z ▸ q)).trans e
theorem Reps.sameBut {V : View} {h h' : Heap} {c : Addr} {vs : List Value} {xs : List Dat} (r : Reps G V h vs xs) (hs : Heap.SameBut c h h') (hF : ¬ V.F c) : Reps G V h' vs xs := r.mono (fun _ q => q) (fun _ _ q => q) (keepF_sameBut hs hF)

theorem SoundS.append {x : String} {e : Expr} {p ap cp pos : Pos} {f : Ev} (he : SoundE G n sc e f) (hst : isStarred e = false := by rfl) (hm : MethForm (.Name (Str.ofString x) p) (Str.ofString "append") ap [e] cp := by intro env; rfl)
    (hd : (Str.ofString x == ("__debug__" : Str)) = false := by decide +kernel) (hn : (Str.ofString x == ("__classdict__" : Str)) = false := by decide +kernel) :
    SoundS G n sc (.Expr (.Call (.Attribute (.Name (Str.ofString x) p) (Str.ofString "append") ap) [e] [] cp) pos) (sApp x f) := .mk fun A env V σ I s fl σ' I' hs rm g w hf => by
  refine bind_go2 hf fun d I' ed hf => bind_go hf fun c hx hf => bind_go hf fun xs hc hf => ite_gn hf fun hz hf => ?_
  refine some3 hf ?_
  clear hf
  obtain rfl := datLst_go hc
  replace hx := entOwn_go hx
  refine g_eeeaaa (own_list w hx) fun a vs k hv ho rs hfo => ?_
  refine wpAny_Expr_any ?_ (interactive_no w) rfl
  refine MethodCall_ (pl := (do return (← importBound (.Name (Str.ofString x) p) env).getD true)) ?_ (hm env)
  refine load_at w.kind hv hd hn ?_
  refine PySem.Calls.getMethod_list_append ho rfl rfl ?_
  rw [show backTo cp (starEach [e] env) = [(false, eval e env)] by rw [starEach_plain hst]; rfl]
  refine P.append_list (he.use hs rm g w ed fun V₁ s₁ v st₁ g₁ w₁ r₁ => ?_)
  refine g_eeeaaa (own_list w₁ hx) fun a' vs' k' hv' ho' rs' hfo' => ?_
  obtain rfl : a = a' := Value.ref.inj (Option.some.inj (At.unique (w.at_step st₁ hv) hv'))
  refine ⟨vs', k', by rw [size_of_reps rs']; exact hz, ho', ?_⟩
  have hsb : Heap.SameBut a s₁.heap (s₁.heap.update a (Obj.mapSeq fun xs => xs.push v)) := Heap.SameBut.update ..
  have hnew : (s₁.heap.update a (Obj.mapSeq fun xs => xs.push v)).get? a = some { cls := .type "list", data := .seq (vs'.push v) (k' + 1) } := by
    rw [Heap.get?_update_self _ ho' (by rw [Obj.mapSeq_push_plain]; rfl), Obj.mapSeq_push_plain]
  have nF : ¬ V₁.F a := g_eaa (w₁.own x _ hx) fun u hvv _ ff => (ff a (Option.some.inj (At.unique hv' hvv) ▸ .head _)).F
  refine g_eaa (mutate (tk := s₁.toks) st₁ w g₁ w₁ hx hv' (c := a) (.head _) hsb hnew (d' := .list (xs ++ [d])) (.list ⟨_, hnew⟩ ((rs'.push r₁).sameBut hsb nF)) (by simp [foot, hnew, ho'])) fun V₂ ss g₂ w₂ => ?_
  exact ⟨V₂, ss, g₂, w₂, trivial⟩

-- pop

noncomputable def sPop (x : String) (k : Dat → Sto → Sto) : Sx := fun σ I => (entOwn (σ x)).bind fun c => (datLst c).bind fun xs => xs.getLast?.bind fun d => if xs.length ≤ sizeLine then some (.next, k d (σ.set x (.own (.list xs.dropLast))), I) else none

theorem Reps.dropLast {V : View} {h : Heap} {vs : Array Value} {xs : List Dat} (r : Reps G V h vs.toList xs) : Reps G V h (vs.eraseIdxIfInBounds (vs.size - 1)).toList xs.dropLast := by
  have := r.take (xs.length - 1)
  refine (List.dropLast_eq_take) ▸ ?_
  have e : (vs.eraseIdxIfInBounds (vs.size - 1)).toList = vs.toList.take (xs.length - 1) := by
    have hs := size_of_reps r
    refine (hs) ▸ ?_
    by_cases h0 : vs.size = 0
    · have : vs = #[] := Array.eq_empty_of_size_eq_zero h0
      subst this; rfl
    · have hlt : vs.size - 1 < vs.size := by lia
      unfold Array.eraseIdxIfInBounds
      rw [dif_pos hlt, Array.toList_eraseIdx, List.eraseIdx_eq_take_drop_succ]
      rw [show vs.size - 1 + 1 = vs.toList.length by rw [Array.length_toList]; lia, List.drop_length, List.append_nil]
  rw [e]; exact this

theorem pop_run {A : Around} {env : Env} {V : View} {σ : Sto} {I : MSt} {s : Shared} {x : String} {p ap cp : Pos} {xs : List Dat} {d : Dat} {Q : Value → Shared → Prop} (g : Good G V s I) (w : EnvOk G V s.heap env σ)
    (hx : σ x = .own (.list xs)) (hl : xs.getLast? = some d) (hz : xs.length ≤ sizeLine) (hm : MethForm (.Name (Str.ofString x) p) (Str.ofString "pop") ap [] cp)
    (hd : (Str.ofString x == ("__debug__" : Str)) = false) (hn : (Str.ofString x == ("__classdict__" : Str)) = false)
    (k : ∀ V' s' v, StepS env σ V s (σ.set x (.own (.list xs.dropLast))) V' s' → Good G V' s' I → EnvOk G V' s'.heap env (σ.set x (.own (.list xs.dropLast))) → Rep G V' s'.heap v d → Q v s') :
    wpAny (Md G) A (eval (.Call (.Attribute (.Name (Str.ofString x) p) (Str.ofString "pop") ap) [] [] cp) env) Q No s := by
  refine g_eeeaaa (own_list w hx) fun a vs kk hv ho rs hfo => ?_
  refine MethodCall_ (pl := (do return (← importBound (.Name (Str.ofString x) p) env).getD true)) ?_ (hm env)
  refine load_at w.kind hv hd hn ?_
  refine getMethod_list_of F.slot_list_pop (by rfl) (items := vs) ⟨_, ho, rfl, kk, rfl⟩ ⟨_, ho, rfl⟩ ?_
  refine g_ea (rs.get (i := xs.length - 1) (by rw [← List.getLast?_eq_getElem?]; exact hl)) fun v hv1 r1 => ?_
  have hs := size_of_reps rs
  refine P.pop_list (y := v) ho (by rw [hs, ← Array.getElem?_toList]; exact hv1) ?_ (by rw [hs]; exact hz)
  have hsb : Heap.SameBut a s.heap (s.heap.update a (Obj.mapSeq fun xs => xs.eraseIdxIfInBounds (vs.size - 1))) := Heap.SameBut.update ..
  have nF : ¬ V.F a := g_eaa (w.own x _ hx) fun u hvv _ ff => (ff a (Option.some.inj (At.unique hv hvv) ▸ .head _)).F
  refine g_e (show ∃ k', (s.heap.update a (Obj.mapSeq fun xs => xs.eraseIdxIfInBounds (vs.size - 1))).get? a = some { cls := .type "list", data := .seq (vs.eraseIdxIfInBounds (vs.size - 1)) k' } from ⟨_, Heap.get?_update_self _ ho rfl⟩) fun k' hnew => ?_
  refine g_eaa (mutate (tk := s.toks) (Step.refl V s) w g w hx hv (c := a) (.head _) hsb hnew (d' := .list xs.dropLast) (.list ⟨_, hnew⟩ (rs.dropLast.sameBut hsb nF)) (by simp [foot, hnew, ho])) fun V₂ ss g₂ w₂ => ?_
  refine k V₂ _ v ss g₂ w₂ ?_
  exact r1.mono ss.fr ss.jp (keepF_sameBut hsb nF)

theorem SoundS.popDrop {x : String} {p ap cp pos : Pos} (hm : MethForm (.Name (Str.ofString x) p) (Str.ofString "pop") ap [] cp := by intro env; rfl)
    (hd : (Str.ofString x == ("__debug__" : Str)) = false := by decide +kernel) (hn : (Str.ofString x == ("__classdict__" : Str)) = false := by decide +kernel) :
    SoundS G n sc (.Expr (.Call (.Attribute (.Name (Str.ofString x) p) (Str.ofString "pop") ap) [] [] cp) pos) (sPop x fun _ σ => σ) := .mk fun A env V σ I s fl σ' I' hs rm g w hf => by
  refine bind_go hf fun c hx hf => bind_go hf fun xs hc hf => bind_go hf fun d hl hf => ite_gn hf fun hz hf => ?_
  refine some3 hf ?_
  obtain rfl := datLst_go hc
  exact wpAny_Expr_any (pop_run g w (entOwn_go hx) hl hz hm hd hn fun V' s' v ss g' w' _ => ⟨V', ss, g', w', trivial⟩) (interactive_no w) rfl

-- a place of a list or a dict is stored

noncomputable def dSetItem (c k d : Dat) : Option Dat := (datInt k).bind fun k => match c with
  | .list xs => if 0 ≤ k ∧ k < xs.length ∧ xs.length ≤ sizeLine then some (.list (xs.set k.toNat d)) else none
  | .idict kvs => (datInt d).bind fun i => if kvs.length ≤ sizeLine then some (.idict (dput kvs k i)) else none
  | _ => none
noncomputable def sPut (x : String) (fi fv : Ev) : Sx := fun σ I => (fv σ I).bind fun v => (fi σ v.2).bind fun i => (entOwn (σ x)).bind fun c => (dSetItem c i.1 v.1).bind fun c' => some (.next, σ.set x (.own c'), i.2)

theorem Reps.set {V : View} {h : Heap} {vs : List Value} {ds : List Dat} (r : Reps G V h vs ds) {v : Value} {d : Dat} (q : Rep G V h v d) (i : Nat) : Reps G V h (vs.set i v) (ds.set i d) := by
  revert i
  refine Reps.ind r (fun i => .nil) fun _ _ _ _ a b ih i => ?_
  cases i with
  | zero => exact .cons q b
  | succ i => exact .cons a (ih i)

theorem set_item {A : Around} {V V₂ : View} {σ : Sto} {env : Env} {x : String} {s s₂ : Shared} {I : MSt} {c c' di dv : Dat} {u iv v : Value} (st : Step V s V₂ s₂) (w : EnvOk G V s.heap env σ) (g₂ : Good G V₂ s₂ I) (w₂ : EnvOk G V₂ s₂.heap env σ)
    (hx : σ x = .own c) (hu : At s₂.heap env (Str.ofString x) (some u)) (ow : Own G V₂ s₂.heap u c) (nF : ∀ a ∈ foot s₂.heap u, ¬ V₂.F a) (ri : Rep G V₂ s₂.heap iv di) (rv : Rep G V₂ s₂.heap v dv) (ec : dSetItem c di dv = some c') :
    wpAny (Md G) A (setItem u iv v) (fun _ => PS G env σ V s .next (σ.set x (.own c')) I .next) No s₂ := by
  refine bind_go ec fun k hk ec => ?_
  refine g_e ((datInt_go hk ▸ ri).is) fun t q1ₑ => ?_
  subst q1ₑ
  clear ri hk
  cases c with
  | list xs =>
    refine ite_go ec fun hb => ?_
    obtain ⟨a, vs, rfl, ⟨kk, ho⟩, hrs⟩ := ow.is
    have hsz := size_of_reps hrs
    refine ki_setAt ho hb.1 (by have := sizeLine63 hb.2.2; lia) (by rw [hsz]; exact hb.2.1) ?_
    have hsb : Heap.SameBut a s₂.heap (s₂.heap.update a (Obj.mapSeq (·.setIfInBounds k.toNat v))) := Heap.SameBut.update ..
    refine g_e (show ∃ k', (s₂.heap.update a (Obj.mapSeq (·.setIfInBounds k.toNat v))).get? a = some { cls := .type "list", data := .seq (vs.setIfInBounds k.toNat v) k' } from ⟨_, Heap.get?_update_self _ ho rfl⟩) fun k' hnew => ?_
    have hR : Reps G V₂ s₂.heap (vs.setIfInBounds k.toNat v).toList (xs.set k.toNat dv) := by rw [Array.toList_setIfInBounds]; exact hrs.set rv _
    refine g_eaa (mutate (tk := s₂.toks) st w g₂ w₂ hx hu (c := a) (.head _) hsb hnew (d' := .list (xs.set k.toNat dv)) (.list ⟨_, hnew⟩ (hR.sameBut hsb (nF a (.head _)))) (by simp [foot, hnew, ho])) fun V₃ ss g₃ w₃ => ?_
    exact ⟨V₃, ss, g₃, w₃, trivial⟩
  | idict kvs =>
    refine bind_go ec fun j hj ec => ite_go ec fun hb => ?_
    refine g_e ((datInt_go hj ▸ rv).is) fun _ q1ₑ => ?_
    subst q1ₑ
    obtain ⟨a, vs, rfl, hl, hne, hvs⟩ := ow.is
    refine wpAny_setItem_pairs (intKind_is _ _ _ _) hl (fun h' hd' hsb => ?_) (by rw [hvs.length]; exact hb)
    refine g_eeeaa (id hd') fun oc es ep hoc hex r => ?_
    refine g_eeeaa hl fun oc0 _ _ hoc0 hex0 _ => ?_
    refine g_eaa (mutate (tk := s₂.toks + 1) st w g₂ w₂ hx hu (c := a) (.head _) hsb hoc (d' := .idict (dput kvs k j)) (.idict hd' hne (hvs.put k j _)) (by simp [foot, hoc, hoc0, hex.2.1, hex0.2.1])) fun V₃ ss g₃ w₃ => ?_
    exact ⟨V₃, ss, g₃, w₃, trivial⟩
  | _ => exact none_ne ec

theorem SoundS.put {x : String} {value i : Expr} {p sp pos : Pos} {fi fv : Ev} (hv : SoundE G n sc value fv) (hi : SoundE G n sc i fi) (hsw : ∀ env, swapsWith value (some (.Subscript (.Name (Str.ofString x) p) i sp)) pos.line env = pure false := by intro _; rfl)
    (hd : (Str.ofString x == ("__debug__" : Str)) = false := by decide +kernel) (hn : (Str.ofString x == ("__classdict__" : Str)) = false := by decide +kernel) :
    SoundS G n sc (.Assign [.Subscript (.Name (Str.ofString x) p) i sp] value pos) (sPut x fi fv) := .mk fun A env V σ I s fl σ' I' hs rm g w hf => by
  refine bind_go2 hf fun dv I₁ e1 hf => bind_go2 hf fun di I₂ e2 hf => bind_go hf fun c hx hf => ?_
  replace hx := entOwn_go hx
  refine wpAny_Assign_Subscript (hv.use hs rm g w e1 fun V₁ s₁ v st₁ g₁ w₁ r₁ => ?_) (hsw env)
  refine g_eaa (w₁.own x _ hx) fun u hu hou hfu => ?_
  refine load_at w₁.kind hu hd hn (hi.use hs rm g₁ w₁ e2 fun V₂ s₂ iv st₂ g₂ w₂ r₂ => ?_)
  refine g_eaa (w₂.own x _ hx) fun u' hu' ow ff => ?_
  obtain rfl := Option.some.inj (At.unique (w₁.at_step st₂ hu) hu')
  refine bind_go hf fun c' ec hf => ?_
  refine some3 hf ?_
  exact set_item (st₁.trans st₂) w g₂ w₂ hx hu' ow (fun a ha => (ff a ha).F) r₂ (r₁.step st₂ g₁) ec
end

-- M11
section
variable {G : Cx} {n : Nat} {sc : Scope}

theorem wpAny_no {α : Type} {M : Model} {A : Around} {t : Sem α} {Q : α → Shared → Prop} {E : Value → Shared → Prop} {s : Shared} (h : wpAny M A t Q No s) : wpAny M A t Q E s := wpAny_mono h (fun _ _ x => x) fun _ _ x => x.elim

noncomputable def ownedIters : List String := ["enumerate", "zip", "dict_itemiterator", "dict_reverseitemiterator", "odict_iterator", "itertools.zip_longest", "itertools.pairwise"]
noncomputable def PlainIter (h : Heap) (it : Value) : Prop := ∃ r o T, it = .ref r ∧ h.get? r = some o ∧ o.cls = .type T ∧ ownedIters.contains T = false

-- an iterator over things that represent ds
inductive Src (G : Cx) (A : Around) (V : View) (h₀ h : Heap) (it : Value) (ds : List Dat) : Prop
  | mk (Ia : Addr) (fp wr : List Addr) (P : Nat → Value → Prop) (St : Nat → Heap → Prop) (e : it = .ref Ia) (wk : Walks G.prog G.w A Ia fp wr ds.length P St) (h0 : St 0 h)
    (f1 : ∀ b ∈ fp, V.F b ∨ b ∈ wr) (f2 : ∀ b ∈ wr, h₀.get? b = none ∧ ¬ V.F b ∧ b ∉ V.J) (f3 : ∀ i h', St i h' → ∀ b ∈ wr, ∃ o, h'.get? b = some o) (f4 : ∀ i v, P i v → ∃ d, ds[i]? = some d ∧ Rep G V h v d) (f5 : ∀ i h', St i h' → PlainIter h' it)

noncomputable abbrev Iv := Sto → MSt → Option (List Dat × MSt)

inductive PI (G : Cx) (A : Around) (V : View) (s : Shared) (I : MSt) (ds : List Dat) (it : Value) (s₂ : Shared) : Prop
  | mk (V' : View) (st : Step V s V' s₂) (g : Good G V' s₂ I) (sr : Src G A V' s.heap s₂.heap it ds)
structure SoundI (G : Cx) (n : Nat) (sc : Scope) (e : Expr) (f : Iv) : Prop where
  run :
  ∀ (A : Around) (env : Env) (V : View) (σ : Sto) (I : MSt) (s : Shared) (ds : List Dat) (I' : MSt),
    env.scope = sc → Room A n → Good G V s I → EnvOk G V s.heap env σ → f σ I = some (ds, I') →
    wpAny (Md G) A (eval e env) (fun x s₁ => wpAny (Md G) A (pyIter x) (PI G A V s I' ds) No s₁) No s

-- the heap has changed elsewhere
theorem EnvOk.other {V : View} {h h' : Heap} {env : Env} {σ : Sto} {wr : List Addr} (w : EnvOk G V h env σ) (hk : ∀ b o, b ∉ wr → h.get? b = some o → h'.get? b = some o) (hF : ∀ b ∈ wr, ¬ V.F b)
    (hl : env.locals ∉ wr) (hc : ∀ y c, env.cells.lookup y = some c → c ∉ wr) (ho : ∀ b, OwnA h env σ b → b ∉ wr) : EnvOk G V h' env σ := by
  have kF : KeepF V h h' := fun b o q e => hk b o (fun z => hF b z q) e
  have ka : ∀ {y : Str} {ov : Option Value}, At h env y ov → At h' env y ov := fun {y ov} r => by
    rcases r with ⟨k, m, ⟨o, es, ep, hlo, q⟩, e⟩ | ⟨k, c', hcc, o, hco, hd⟩
    · exact .inl ⟨k, m, ⟨o, es, ep, hk _ _ hl hlo, q⟩, e⟩
    · exact .inr ⟨k, c', hcc, o, hk _ _ (hc y c' hcc) hco, hd⟩
  have kf : ∀ {y : String} {d : Dat} {u : Value}, σ y = .own d → At h env (Str.ofString y) (some u) → ∀ a ∈ foot h u, ∀ ob, h.get? a = some ob → h'.get? a = some ob := fun {y d u} q hu a ha ob e => hk a ob (ho a ⟨y, d, u, q, hu, ha⟩) e
  refine ⟨w.kind, w.glob, w.bui, ?_, w.locF, w.locJ, fun y k => ?_, fun y c q => let ⟨⟨o, e⟩, hFJ⟩ := w.cex y c q; ⟨⟨o, hk c o (hc y c q) e⟩, hFJ⟩, w.inj, fun y d q => ?_, fun y d q => ?_, fun y z e e' a b hyz qy qz ha hb => ?_⟩
  · refine g_eeeea w.loc fun m o es ep hlo r => ?_
    exact ⟨m, o, es, ep, hk _ _ hl hlo, r⟩
  · refine g_eeaa (w.cel y k) fun c ov h1 q3ₜ h3 => ?_
    refine g_ea q3ₜ fun o hco hd => ?_
    exact ⟨c, ov, h1, ⟨o, hk _ _ (hc y c h1) hco, hd⟩, h3⟩
  · refine g_ea (w.frz y d q) fun u hu r => ?_
    exact ⟨u, ka hu, r.mono (fun _ q => q) (fun _ _ q => q) kF⟩
  · refine g_eaa (w.own y d q) fun u hu o f => ?_
    exact ⟨u, ka hu, o.mono0 kF (kf q hu), by rw [o.foot_keep (kf q hu)]; exact f⟩
  · refine g_eaa (w.own y e qy) fun a' ha' oa fa => ?_
    refine g_eaa (w.own z e' qz) fun b' hb' ob fb => ?_
    obtain rfl := Option.some.inj (At.unique ha (ka ha'))
    obtain rfl := Option.some.inj (At.unique hb (ka hb'))
    rw [oa.foot_keep (kf qy ha'), ob.foot_keep (kf qz hb')]
    exact w.dis y z e e' a b hyz qy qz ha' hb'

theorem OwnA.other {V : View} {h h' : Heap} {env : Env} {σ : Sto} {wr : List Addr} (w : EnvOk G V h env σ) (hk : ∀ b o, b ∉ wr → h.get? b = some o → h'.get? b = some o)
    (hl : env.locals ∉ wr) (hc : ∀ y c, env.cells.lookup y = some c → c ∉ wr) (ho : ∀ b, OwnA h env σ b → b ∉ wr) {b : Addr} : OwnA h' env σ b → OwnA h env σ b := by
  intro qₕ
  refine g_eeeaa qₕ fun y d u q hu hb => ?_
  refine g_eaa (w.own y d q) fun u' hu' o f => ?_
  have ka : At h' env (Str.ofString y) (some u') := by
    rcases hu' with ⟨k, m, ⟨o, es, ep, hlo, q⟩, e⟩ | ⟨k, c', hcc, o, hco, hd⟩
    · exact .inl ⟨k, m, ⟨o, es, ep, hk _ _ hl hlo, q⟩, e⟩
    · exact .inr ⟨k, c', hcc, o, hk _ _ (hc _ c' hcc) hco, hd⟩
  obtain rfl := Option.some.inj (At.unique hu ka)
  rw [o.foot_keep fun a ha ob e => hk a ob (ho a ⟨y, d, u, q, hu', ha⟩) e] at hb
  exact ⟨y, d, u, q, hu', hb⟩

theorem Good.other {V : View} {s s' : Shared} {I : MSt} {wr : List Addr} (g : Good G V s I) (hk : ∀ b o, b ∉ wr → s.heap.get? b = some o → s'.heap.get? b = some o) (hF : ∀ b ∈ wr, ¬ V.F b) (hJ : ∀ b ∈ wr, b ∉ V.J) : Good G V s' I :=
  ⟨fun b o e => ⟨(g.base b o e).1, hk b o (fun q => hF b q (g.base b o e).1) (g.base b o e).2⟩, g.st.keeps fun b hb o e => hk b o (fun q => hJ b q hb) e, fun b e => let ⟨o, q⟩ := g.ex b e; ⟨o, hk b o (fun z => hF b z e) q⟩⟩

noncomputable def turned (r : AFlow × Sto × MSt) (next : Sx) : Option (AFlow × Sto × MSt) := match r.1 with
  | .next => next r.2.1 r.2.2
  | .cont => next r.2.1 r.2.2
  | .brk => some (.next, r.2)
  | .ret d => some (.ret d, r.2)
noncomputable def forL (x : String) (fb : Sx) : List Dat → Sx
  | [], σ, I => some (.next, σ, I)
  | d :: ds, σ, I => (fb (σ.set x (.frz d)) I).bind fun r => turned r (forL x fb ds)
noncomputable def sFor (x : String) (fi : Iv) (fb : Sx) : Sx := fun σ I => (fi σ I).bind fun p => forL x fb p.1 σ p.2

theorem frame_ex {V : View} {h : Heap} {env : Env} {σ : Sto} (w : EnvOk G V h env σ) {b : Addr} (hb : h.get? b = none) : b ≠ env.locals ∧ (∀ y, env.cells.lookup y ≠ some b) ∧ ¬ OwnA h env σ b := by
  refine ⟨fun q => ?_, fun y q => ?_, fun q => ?_⟩
  · exact g_e w.locEx fun o ho => none_ne (hb.symm.trans (q ▸ ho))
  · exact (w.cex y b q).1.elim fun o ho => none_ne (hb.symm.trans ho)
  · refine g_eeeaa q fun x d v q hv hf => g_eaa (w.own x d q) fun u hu o f => ?_
    exact (o.foot_ex b (Option.some.inj (At.unique hv hu) ▸ hf)).elim fun ob he => none_ne (hb.symm.trans he)

-- between the turns of a loop
inductive LoopI (G : Cx) (env : Env) (σ : Sto) (V : View) (s : Shared) (V₂ : View) (h₂ : Heap) (wr : List Addr) (St : Nat → Heap → Prop) (x : String) (fb : Sx) (ds : List Dat) (r : AFlow × Sto × MSt) (k : Nat) (s₃ : Shared) : Prop
  | mk (i : Nat) (V₃ : View) (σ₃ : Sto) (I₃ : MSt) (hi : i ≤ ds.length) (hk : k = ds.length - i + 1) (hst : St i s₃.heap) (ss : StepS env σ V s σ₃ V₃ s₃) (g : Good G V₃ s₃ I₃) (w : EnvOk G V₃ s₃.heap env σ₃)
    (vf : ∀ b, V₂.F b → V₃.F b) (vj : ∀ (i : Nat) (a : Addr), V₂.J[i]? = some a → V₃.J[i]? = some a) (kf : KeepF V₂ h₂ s₃.heap) (hw : ∀ b ∈ wr, ¬ V₃.F b ∧ b ∉ V₃.J) (ho : ∀ b, OwnA s₃.heap env σ₃ b → b ∉ wr) (hl : forL x fb (ds.drop i) σ₃ I₃ = some r)

@[elab_as_elim] theorem FlowOk.go {V : View} {h : Heap} {f : Flow} {fl : AFlow} {P : Flow → AFlow → Prop} (o : FlowOk G V h f fl) (hn : P .next .next) (hc : P .cont .cont) (hb : P .brk .brk) (hr : ∀ v d, Rep G V h v d → P (.ret v) (.ret d)) : P f fl := by
  cases fl with
  | next => cases f with
    | next => exact hn
    | _ => exact o.elim
  | cont => cases f with
    | cont => exact hc
    | _ => exact o.elim
  | brk => cases f with
    | brk => exact hb
    | _ => exact o.elim
  | ret d => cases f with
    | ret v => exact hr v d o
    | _ => exact o.elim

section
variable {env : Env} {σ σ₃ σ₆ : Sto} {V V₃ V₆ : View} {s s₃ s₆ : Shared} {I₃ : MSt} {wr : List Addr}
-- an iterator has moved
theorem loop_moved {h₄ : Heap} {tk₄ : Nat} (w₃ : EnvOk G V₃ s₃.heap env σ₃) (g₃ : Good G V₃ s₃ I₃) (ss : StepS env σ V s σ₃ V₃ s₃) (hk : ∀ b o, b ∉ wr → s₃.heap.get? b = some o → h₄.get? b = some o) (hw : ∀ b ∈ wr, ¬ V₃.F b ∧ b ∉ V₃.J)
    (wrl : env.locals ∉ wr) (wrc : ∀ y c, env.cells.lookup y = some c → c ∉ wr) (hwo : ∀ b, OwnA s₃.heap env σ₃ b → b ∉ wr) (hn : ∀ b ∈ wr, s.heap.get? b = none) :
    EnvOk G V₃ h₄ env σ₃ ∧ Good G V₃ { s₃ with heap := h₄, toks := tk₄ } I₃ ∧ StepS env σ V s σ₃ V₃ { s₃ with heap := h₄, toks := tk₄ } :=
  have no : ∀ {b o}, s.heap.get? b = some o → b ∉ wr := fun e q => none_ne ((hn _ q).symm.trans e)
  ⟨w₃.other hk (fun b q => (hw b q).1) wrl wrc hwo, g₃.other hk (fun b q => (hw b q).1) fun b q => (hw b q).2,
    ss.gens, ss.os, fun b o e hJ nf ow => hk b o (no e) (ss.keep b o e hJ nf ow), fun b o e => (ss.ex b o e).elim fun o' e' => ⟨o', hk b o' (no e) e'⟩, ss.fr, ss.fnew, ss.jp, ss.jnew, fun b e => ss.onew b (OwnA.other w₃ hk wrl wrc hwo e)⟩
-- what a turn leaves alone
theorem StepS.kept (ss : StepS env σ₃ V₃ s₃ σ₆ V₆ s₆) (g : Good G V₃ s₃ I₃) (w : EnvOk G V₃ s₃.heap env σ₃) (hw : ∀ b ∈ wr, ¬ V₃.F b ∧ b ∉ V₃.J)
    (wrl : env.locals ∉ wr) (wrc : ∀ y c, env.cells.lookup y = some c → c ∉ wr) (hwo : ∀ b, OwnA s₃.heap env σ₃ b → b ∉ wr) (b : Addr) (o : Obj) (hb : V₃.F b ∨ b ∈ wr) (e : s₃.heap.get? b = some o) : s₆.heap.get? b = some o := by
  rcases hb with hb | hb
  · refine ss.keep b o e (fun q => g.st.apart b q hb) (fun q => ?_) fun q => ?_
    · rcases q with q | ⟨y, q⟩
      · exact w.locF (q ▸ hb)
      · exact (w.cex y b q).2.1 hb
    · refine g_eeeaa q fun z dz vz e1 e2 e3 => ?_
      refine g_eaa (w.own z dz e1) fun u hu _ f => ?_
      exact (f b (Option.some.inj (At.unique e2 hu) ▸ e3)).F hb
  · refine ss.keep b o e (hw b hb).2 (fun q => ?_) fun q => hwo b q hb
    rcases q with q | ⟨y, q⟩
    · exact wrl (q ▸ hb)
    · exact wrc y b q hb
theorem StepS.apart (ss : StepS env σ₃ V₃ s₃ σ₆ V₆ s₆) (hw : ∀ b ∈ wr, ¬ V₃.F b ∧ b ∉ V₃.J) (hwo : ∀ b, OwnA s₃.heap env σ₃ b → b ∉ wr) (ex : ∀ b ∈ wr, ∃ o, s₃.heap.get? b = some o) :
    (∀ b ∈ wr, ¬ V₆.F b ∧ b ∉ V₆.J) ∧ ∀ b, OwnA s₆.heap env σ₆ b → b ∉ wr := by
  have no : ∀ b ∈ wr, ∀ {P : Prop}, P ∨ s₃.heap.get? b = none → P := fun b hb _ q => q.elim id fun q => (ex b hb).elim fun o e => none_ne (q.symm.trans e)
  exact ⟨fun b hb => ⟨fun q => (ss.fnew b q).elim (hw b hb).1 fun q => hwo b (no b hb q.symm) hb, fun q => (hw b hb).2 (no b hb (ss.jnew b q))⟩, fun b e q => hwo b (no b q (ss.onew b e)) q⟩
end

theorem SoundS.loop {x : String} {iter : Expr} {body : List Stmt} {p pos : Pos} {fi : Iv} {fb : Sx} (hk : KindOk sc x) (hi : SoundI G n sc iter fi) (hb : SoundSs G n sc body fb) (hfs : ∀ env v, foldedSetIterable iter env v = pure v := by intro _ _; rfl) :
    SoundS G n sc (.For (.Name (Str.ofString x) p) iter body [] pos) (sFor x fi fb) := .mk fun A env V σ I s fl σ' I' hs rm g w hf => by
  refine bind_go2 hf fun ds I₁ ei hf => ?_
  refine wpAny_For (wpAny_mono (hi.run A env V σ I s ds I₁ hs rm g w ei) (fun xv s₁ q => wpAny_mono q (fun it s₂ q => ?_) fun _ _ x => x.elim) fun _ _ x => x.elim) (hfs env)
  clear ei
  obtain ⟨V₂, st₂, g₂, Ia, fp, wr, P, St, rfl, W, hst, hfp, hwr, hex, hP, _⟩ := q
  have w₂ := w.step st₂ g
  have wrl : env.locals ∉ wr := fun q => (frame_ex w (hwr _ q).1).1 rfl
  have wrc : ∀ y c, env.cells.lookup y = some c → c ∉ wr := fun y c e q => (frame_ex w (hwr _ q).1).2.1 y e
  have wro : ∀ b, OwnA s₂.heap env σ b → b ∉ wr := fun b e q => (frame_ex w (hwr _ q).1).2.2 (w.own_step st₂ e)
  have wrn : ∀ b ∈ wr, s.heap.get? b = none := fun b q => (hwr b q).1
  refine codeAny_forLoop (I := LoopI G env σ V s V₂ s₂.heap wr St x fb ds (fl, σ', I')) ?_ (ds.length - 0 + 1)
    ⟨0, V₂, σ, I₁, Nat.zero_le _, rfl, hst, st₂.toS w, g₂, w₂, fun _ q => q, fun _ _ q => q, fun _ _ _ q => q, fun b q => (hwr b q).2, wro, hf⟩ (by intro _; rfl)
  clear hf hst hwr wro g₂ w₂ st₂ g w
  intro k s₃ qₕ
  obtain ⟨i, V₃, σ₃, I₃, hi', hk', hsti, ss, g₃, w₃, hVF, hVJ, hkF, hw3, hwo, hfl⟩ := qₕ
  by_cases hlt : i < ds.length
  · refine W.item i s₃ _ _ hlt hsti fun v h₄ tk₄ hPv hst₄ hk₄ => ?_
    refine g_aa (loop_moved (tk₄ := tk₄) w₃ g₃ ss hk₄ hw3 wrl wrc hwo wrn) fun w₄ g₄ ss₄ => ?_
    have hwo₄ : ∀ b, OwnA h₄ env σ₃ b → b ∉ wr := fun b e => hwo b (OwnA.other w₃ hk₄ wrl wrc hwo e)
    refine g_ea (hP i v hPv) fun d hd rd => ?_
    have hkF₄ : KeepF V₂ s₂.heap h₄ := fun b o q e => hk₄ b o (fun z => (hw3 b z).1 (hVF b q)) (hkF b o q e)
    have hdrop : ds.drop i = d :: ds.drop (i + 1) := by
      rw [List.drop_eq_getElem_cons hlt]
      exact congrArg (· :: _) (Option.some.inj ((List.getElem?_eq_getElem hlt).symm.trans hd))
    replace hfl := hdrop ▸ hfl
    refine wpAny_no (wpAny_assign_Name ?_)
    refine store_name (s₀ := { s₃ with heap := h₄, toks := tk₄ }) (I₀ := I₃) (e := .frz d) (Step.refl _ _) w₄ g₄ w₄ (hs.symm ▸ hk : KindOk env.scope x) (rd.mono hVF hVJ hkF₄) (fun _ q => by cases q) fun s₅ ss₅ g₅ w₅ _ => ?_
    refine bind_go hfl fun r eb hfl => ?_
    obtain ⟨fl₆, σ₆, I₆⟩ := r
    refine wpAny_mono (hb.run A env V₃ _ I₃ s₅ fl₆ σ₆ I₆ hs rm g₅ w₅ eb) (fun f s₆ q => ?_) fun _ _ x => x.elim
    clear eb
    obtain ⟨V₆, ss₆, g₆, w₆, fo⟩ := q
    have ss56 := ss₅.trans ss₆
    have ssA := ss₄.trans ss56
    have next : forL x fb (ds.drop (i + 1)) σ₆ I₆ = some (fl, σ', I') → ∃ m, m < k ∧ LoopI G env σ V s V₂ s₂.heap wr St x fb ds (fl, σ', I') m s₆ := fun hfl => by
      have kept := ss56.kept g₄ w₄ hw3 wrl wrc hwo₄
      refine g_a (ss56.apart hw3 hwo₄ (hex (i + 1) h₄ hst₄)) fun fr₆ ow₆ => ?_
      exact ⟨ds.length - (i + 1) + 1, by rw [hk']; exact Nat.succ_lt_succ (Nat.sub_succ_lt_self _ _ hlt), i + 1, V₆, σ₆, I₆, hlt, rfl, W.frame _ _ _ hst₄ fun b hb o e => kept b o ((hfp b hb).imp (hVF b) id) e, ssA, g₆, w₆, fun b q => ss56.fr b (hVF b q), fun j a q => ss56.jp j a (hVJ j a q), fun b o q e => kept b o (.inl (hVF b q)) (hkF₄ b o q e), fr₆, ow₆, hfl⟩
    revert hfl
    refine FlowOk.go fo ?_ ?_ ?_ ?_
    · exact fun hfl => next hfl
    · exact fun hfl => next hfl
    · intro hfl
      exact some3 (P := fun fl σ' I' => PS G env σ V s fl σ' I' .next s₆) (a := AFlow.next) (b := σ₆) (c := I₆) hfl ⟨V₆, ssA, g₆, w₆, trivial⟩
    · intro v d r hfl
      exact some3 (P := fun fl σ' I' => PS G env σ V s fl σ' I' (.ret v) s₆) (a := AFlow.ret d) (b := σ₆) (c := I₆) hfl ⟨V₆, ssA, g₆, w₆, r⟩
  · have hie : i = ds.length := by lia
    have hdrop : ds.drop i = [] := List.drop_eq_nil_of_le (Nat.le_of_eq hie.symm)
    replace hfl := hdrop ▸ hfl
    refine W.done s₃ _ _ (hie ▸ hsti) fun h₄ tk₄ hk₄ => ?_
    refine g_aa (loop_moved (tk₄ := tk₄) w₃ g₃ ss hk₄ hw3 wrl wrc hwo wrn) fun w₄ g₄ ss₄ => ?_
    exact wpAny_execs_nil (some3 (P := fun fl σ' I' => PS G env σ V s fl σ' I' .next { s₃ with heap := h₄, toks := tk₄ }) hfl ⟨V₃, ss₄, g₄, w₄, trivial⟩)
end

-- M12
section
variable {G : Cx} {n : Nat} {sc : Scope}

-- while

noncomputable def whileN (ft : Bv) (fb : Sx) : Nat → Sx
  | 0, _, _ => none
  | k + 1, σ, I => (ft σ I).bind fun p => cond p.1 ((fb σ p.2).bind fun r => turned r (whileN ft fb k)) (some (.next, σ, p.2))

inductive WhileI (G : Cx) (env : Env) (σ : Sto) (V : View) (s : Shared) (ft : Bv) (fb : Sx) (r : AFlow × Sto × MSt) (k : Nat) (s₃ : Shared) : Prop
  | mk (V₃ : View) (σ₃ : Sto) (I₃ : MSt) (ss : StepS env σ V s σ₃ V₃ s₃) (g : Good G V₃ s₃ I₃) (w : EnvOk G V₃ s₃.heap env σ₃) (hw : whileN ft fb k σ₃ I₃ = some r)

theorem SoundS.while' (N : Nat) {test : Expr} {body : List Stmt} {pos : Pos} {ft : Bv} {fb : Sx} (ht : SoundT G n sc test ft) (hb : SoundSs G n sc body fb) : SoundS G n sc (.While test body [] pos) (whileN ft fb N) := .mk fun A env V σ I s fl σ' I' hs rm g w hf => by
  refine wpAny_While ?_
  refine codeAny_whileLoop (I := WhileI G env σ V s ft fb (fl, σ', I')) ?_ N ⟨V, σ, I, StepS.refl _ _ _ _, g, w, hf⟩
  clear hf g w
  intro k s₃ qₕ
  obtain ⟨V₃, σ₃, I₃, ss, g₃, w₃, hw⟩ := qₕ
  cases k with
  | zero => exact none_ne hw
  | succ k =>
    refine bind_go2 hw fun b I₄ et hw => wpAny_no (ht.use hs rm g₃ w₃ et fun V₄ s₄ st₄ g₄ w₄ => ?_)
    have ss₄ := ss.trans (st₄.toS w₃)
    clear et st₄ ss g₃ w₃
    cases b with
    | false => exact ite_f Bool.false_ne_true (wpAny_execs_nil (some3 (P := fun fl σ' I' => PS G env σ V s fl σ' I' .next s₄) hw ⟨V₄, ss₄, g₄, w₄, trivial⟩))
    | true =>
      refine ite_t rfl (bind_go hw fun r eb hw => ?_)
      obtain ⟨fl₆, σ₆, I₆⟩ := r
      refine wpAny_mono (hb.run A env V₄ _ I₄ s₄ fl₆ σ₆ I₆ hs rm g₄ w₄ eb) (fun f s₆ q => ?_) fun _ _ x => x.elim
      clear eb
      obtain ⟨V₆, ss₆, g₆, w₆, fo⟩ := q
      have ssA := ss₄.trans ss₆
      revert hw
      refine FlowOk.go fo ?_ ?_ ?_ ?_
      · exact fun hw => ⟨k, Nat.lt_succ_self k, V₆, σ₆, I₆, ssA, g₆, w₆, hw⟩
      · exact fun hw => ⟨k, Nat.lt_succ_self k, V₆, σ₆, I₆, ssA, g₆, w₆, hw⟩
      · intro hw
        exact some3 (P := fun fl σ' I' => PS G env σ V s fl σ' I' .next s₆) (a := AFlow.next) (b := σ₆) (c := I₆) hw ⟨V₆, ssA, g₆, w₆, trivial⟩
      · intro v d r hw
        exact some3 (P := fun fl σ' I' => PS G env σ V s fl σ' I' (.ret v) s₆) (a := AFlow.ret d) (b := σ₆) (c := I₆) hw ⟨V₆, ssA, g₆, w₆, r⟩

-- functions of the text

noncomputable abbrev Fn := List Dat → MSt → Option (Dat × MSt)

structure SoundF (G : Cx) (n : Nat) (a : Addr) (F : Fn) : Prop where
  run :
  ∀ (A : Around) (V : View) (s : Shared) (I : MSt) (args : List Value) (ds : List Dat) (d : Dat) (I' : MSt), Room A n → Good G V s I → Reps G V s.heap args ds → F ds I = some (d, I') →
    codeAny (Md G) A (.call (.ref a) ⟨args, []⟩) (fun r s' => ∃ v, r = .ok (.ret v) ∧ PE G V s I' (fun V' h v => Rep G V' h v d) v s') s

theorem bindL_skip {kd : Str → Option NameKind} {x : Str} : ∀ (binds : List (Str × Value)) (m : Str → Option Value), x ∉ binds.map (·.1) → bindL kd binds m x = m x
  | [], _, _ => rfl
  | (y, v) :: r, m, h => by
    unfold bindL
    simp only [List.map_cons, List.mem_cons, not_or] at h
    refine (bindL_skip r _ h.2) ▸ ?_
    split
    · exact if_neg h.1
    · rfl
theorem bindL_at {kd : Str → Option NameKind} {x : Str} {v : Value} : ∀ (binds : List (Str × Value)) (m : Str → Option Value), (binds.map (·.1)).Nodup → (x, v) ∈ binds → kd x = some .local → bindL kd binds m x = some v
  | (y, u) :: r, m, hn, hm, hk => by
    unfold bindL
    rw [List.map_cons, List.nodup_cons] at hn
    rcases List.mem_cons.mp hm with e | hm
    · cases e
      rw [bindL_skip r _ hn.1, if_pos hk]
      exact if_pos rfl
    · exact bindL_at r _ hn.2 hm hk
theorem bindC_skip {kd : Str → Option NameKind} {x : Str} : ∀ (binds : List (Str × Value)) (m : Str → Option Value), x ∉ binds.map (·.1) → bindC kd binds m x = m x
  | [], _, _ => rfl
  | (y, v) :: r, m, h => by
    unfold bindC
    simp only [List.map_cons, List.mem_cons, not_or] at h
    refine (bindC_skip r _ h.2) ▸ ?_
    split
    · rfl
    · exact if_neg h.1
theorem bindC_at {kd : Str → Option NameKind} {x : Str} {v : Value} : ∀ (binds : List (Str × Value)) (m : Str → Option Value), (binds.map (·.1)).Nodup → (x, v) ∈ binds → kd x = some .cell → bindC kd binds m x = some v
  | (y, u) :: r, m, hn, hm, hk => by
    unfold bindC
    rw [List.map_cons, List.nodup_cons] at hn
    rcases List.mem_cons.mp hm with e | hm
    · cases e
      rw [bindC_skip r _ hn.1, if_neg (by rw [hk]; intro e; cases e)]
      exact if_pos rfl
    · exact bindC_at r _ hn.2 hm hk

-- the block's names at its start
noncomputable def sto0 (ps : List String) (es : List Ent) : Sto := fun x => ((ps.zip es).lookup x).getD .unb

noncomputable def aVal : AFlow → Option Dat
  | .ret d => some d
  | .next => some .none
  | _ => none
theorem aVal_go {fl : AFlow} {d : Dat} (h : aVal fl = some d) : (fl = .next ∧ d = .none) ∨ fl = .ret d := by
  cases fl with
  | next => exact .inl ⟨rfl, (Option.some.inj h).symm⟩
  | ret c => exact .inr (congrArg _ (Option.some.inj h))
  | _ => exact none_ne h
noncomputable def runF (ps : List String) (g : Sx) : Fn := fun ds I => if ds.length = ps.length then (g (sto0 ps (ds.map .frz)) I).bind fun r => (aVal r.1).bind fun d => some (d, r.2.2) else none

theorem lookup_mem {α β : Type} [BEq α] [LawfulBEq α] : ∀ {l : List (α × β)} {a : α} {b : β}, l.lookup a = some b → (a, b) ∈ l
  | (x, y) :: r, a, b, h => by
    rw [List.lookup_cons] at h
    by_cases e : a == x
    · rw [e] at h; cases h; rw [eq_of_beq e]; exact .head _
    · simp only [e] at h; exact .tail _ (lookup_mem h)

-- what the call's own block is, behind its binding
structure DefOk (G : Cx) (a : Addr) (fd : FuncData) (sc : Scope) (body : List Stmt) : Prop where
  at_ : ∃ o, G.base.get? a = some o ∧ o.data = .func fd
  code : G.base.CodeRec fd.code fd.qualname
  scope : fd.scope = sc
  body : fd.body = .stmts body
  glob : fd.globals = mainGlobals
  bui : fd.builtins = builtinsNs
  clos : fd.closure = []
  co : sc.isCoroutine = false
  gen : sc.isGenerator = false
  kind : sc.kind = .function
  nofree : ∀ x : Str, sc.names.lookup x ≠ some .free
  cells : ((cellsFrom 0 sc.names []).map (·.1)).Nodup

theorem pair_eq {β : Type} : ∀ {l : List (β × Addr)}, (l.Pairwise fun x y => x.2 ≠ y.2) → ∀ {p q : β × Addr}, p ∈ l → q ∈ l → p.2 = q.2 → p = q
  | z :: l, hh, p, q, hp, hq, e => by
    refine g_a (List.pairwise_cons.mp hh) fun h hr => ?_
    rcases List.mem_cons.mp hp with hp1 | hp1
    · rcases List.mem_cons.mp hq with hq1 | hq1
      · rw [hp1, hq1]
      · exact absurd (hp1 ▸ e) (h q hq1)
    · rcases List.mem_cons.mp hq with hq1 | hq1
      · exact absurd (hq1 ▸ e).symm (h p hp1)
      · exact pair_eq hr hp1 hq1 e

-- what a block's names hold at its start
structure Given (G : Cx) (V : View) (h : Heap) (binds : List (Str × Value)) (σ : Sto) : Prop where
  nodup : (binds.map (·.1)).Nodup
  frz : ∀ (y : String) d, σ y = .frz d → ∃ v, (Str.ofString y, v) ∈ binds ∧ Rep G V h v d
  own : ∀ (y : String) d, σ y = .own d → ∃ v, (Str.ofString y, v) ∈ binds ∧ Own G V h v d ∧ ∀ a ∈ foot h v, ¬ V.F a ∧ a ∉ V.J
  one : ∀ (x y : String) d d', σ x = .own d → σ y = .own d' → x = y

-- the things that a block is lent
noncomputable def Lent (h : Heap) (binds : List (Str × Value)) (σ : Sto) (b : Addr) : Prop := ∃ y d v, σ y = .own d ∧ (Str.ofString y, v) ∈ binds ∧ b ∈ foot h v

structure StepO (O : Addr → Prop) (V : View) (s : Shared) (V' : View) (s' : Shared) : Prop where
  gens : s'.gens = s.gens
  os : s'.os = s.os
  keep : ∀ b o, s.heap.get? b = some o → b ∉ V.J → ¬ O b → s'.heap.get? b = some o
  ex : ∀ b o, s.heap.get? b = some o → ∃ o', s'.heap.get? b = some o'
  fr : ∀ b, V.F b → V'.F b
  fnew : ∀ b, V'.F b → V.F b ∨ s.heap.get? b = none ∨ O b
  jp : ∀ (i : Nat) (a : Addr), V.J[i]? = some a → V'.J[i]? = some a
  jnew : ∀ b ∈ V'.J, b ∈ V.J ∨ s.heap.get? b = none

-- the block's first state: its parameters hold what they were given
theorem enter_gen {V : View} {s s₁ : Shared} {I : MSt} {a : Addr} {fd : FuncData} {body : List Stmt} {binds : List (Str × Value)} {σ : Sto} {env : Env}
    (D : DefOk G a fd sc body) (g : Good G V s I) (B : Given G V s.heap binds σ) (hkind : ∀ x ∈ binds, sc.names.lookup x.1 = some .local ∨ sc.names.lookup x.1 = some .cell)
    (he : env = newEnv sc s.heap.objs.size mainGlobals (cellsFrom (s.heap.objs.size + 1) sc.names []) (fd.qualname ++ ".<locals>.") (some a) fd.code none builtinsNs)
    (x : InCallC s env.locals (bindL env.kindOf binds fun _ => none) env.cells (bindC env.kindOf binds fun _ => none) s₁) :
    Step V s V s₁ ∧ Good G V s₁ I ∧ EnvOk G V s₁.heap env σ ∧ (∀ b, Fra env b → s.heap.get? b = none) ∧ ∀ b, OwnA s₁.heap env σ b → Lent s.heap binds σ b := by
  have hL : env.locals = s.heap.objs.size := by rw [he]; rfl
  have hsc : env.scope = sc := by rw [he]; rfl
  have hcs : env.cells = cellsFrom (s.heap.objs.size + 1) sc.names [] := by rw [he]; rfl
  refine g_eea x.done fun h₁ tk hs₁ hk₁ => ?_
  have st : Step V s V s₁ := by
    subst hs₁
    exact ⟨rfl, rfl, fun b o e _ => hk₁ b o e, fun b o e => ⟨o, hk₁ b o e⟩, fun _ q => q, fun _ q => .inl q, fun _ _ q => q, fun _ q => .inl q⟩
  have hk : ∀ b o, s.heap.get? b = some o → s₁.heap.get? b = some o := fun b o e => by subst hs₁; exact hk₁ b o e
  have g₁ : Good G V s₁ I := g.keeps hk
  have fresh : ∀ b, Fra env b → s.heap.get? b = none := fun b hb => by
    have hge : s.heap.objs.size ≤ b := by
      rcases hb with rfl | ⟨y, q⟩
      · exact Nat.le_of_eq hL.symm
      · have := x.above y b (lookup_mem q)
        rw [hL] at this
        exact Nat.le_of_lt this
    cases e : s.heap.get? b with
    | none => rfl
    | some o => exact absurd (Heap.lt_size e) (Nat.not_lt.mpr hge)
  have hkd : ∀ y : Str, env.kindOf y = sc.names.lookup y := fun y => by unfold Env.kindOf; rw [hsc]
  have cellsSome : ∀ y : Str, env.kindOf y = some .cell → ∃ c, env.cells.lookup y = some c := fun y hy => by
    rw [hcs]
    exact Option.isSome_iff_exists.mp (cellsFrom_some _ _ _ (.inl (by rw [← hkd]; exact hy)))
  have atB : ∀ (y : Str) (v : Value), (y, v) ∈ binds → At s₁.heap env y (some v) := fun y v hm => by
    rcases hkind _ hm with k | k
    · exact .inl ⟨by rw [hkd]; exact k, _, x.toInCall.ns, bindL_at _ _ B.nodup hm (by rw [hkd]; exact k)⟩
    · obtain ⟨c, hc⟩ := cellsSome y (by rw [hkd]; exact k)
      refine .inr ⟨.inl (by rw [hkd]; exact k), c, hc, ?_⟩
      have := x.cell _ c hc
      rw [bindC_at _ _ B.nodup hm (by rw [hkd]; exact k)] at this
      exact this
  have keepF : KeepF V s.heap s₁.heap := fun b o _ e => hk b o e
  have ownAt : ∀ (y : String) d, σ y = .own d → ∃ v, (Str.ofString y, v) ∈ binds ∧ At s₁.heap env (Str.ofString y) (some v) ∧ Own G V s₁.heap v d ∧ foot s₁.heap v = foot s.heap v ∧ ∀ a ∈ foot s.heap v, Free V env a := fun y d q => by
    refine g_eaa (B.own y d q) fun v hm o f => ?_
    have hkf : ∀ a ∈ foot s.heap v, ∀ ob, s.heap.get? a = some ob → s₁.heap.get? a = some ob := fun a _ ob e => hk a ob e
    refine ⟨v, hm, atB _ _ hm, o.keep (fun _ q => q) (fun _ _ q => q) keepF hkf, o.foot_keep hkf, fun a ha => ?_⟩
    refine g_e (o.foot_ex a ha) fun ob hob => ?_
    refine ⟨(f a ha).1, (f a ha).2, fun q => ?_, fun z q => ?_⟩
    · rw [fresh a (.inl q)] at hob; cases hob
    · rw [fresh a (.inr ⟨z, q⟩)] at hob; cases hob
  refine ⟨st, g₁, ?_, fresh, fun b hb => ?_⟩
  · refine ⟨by rw [hsc]; exact D.kind, by rw [he]; rfl, by rw [he]; rfl, ⟨_, x.toInCall.ns⟩, g.notF (fresh _ (.inl rfl)), g.notJ (fresh _ (.inl rfl)), fun y hy => ?_, fun y c q => ?_, fun y z c q q' => ?_, fun y d q => ?_, fun y d q => ?_, fun y z d d' v u hyz q q' => ?_⟩
    · rcases hy with hy | hy
      · refine g_e (cellsSome y hy) fun c hc => ?_
        exact ⟨c, _, hc, x.cell y c hc, g.notF (fresh _ (.inr ⟨y, hc⟩)), g.notJ (fresh _ (.inr ⟨y, hc⟩)), Nat.ne_of_gt (x.above y c (lookup_mem hc))⟩
      · exact absurd (by rw [← hkd]; exact hy) (D.nofree y)
    · refine g_ea (x.cell y c q) fun o ho _ => ?_
      exact ⟨⟨o, ho⟩, g.notF (fresh _ (.inr ⟨y, q⟩)), g.notJ (fresh _ (.inr ⟨y, q⟩))⟩
    · exact congrArg Prod.fst (pair_eq x.apart (lookup_mem q) (lookup_mem q') rfl)
    · refine g_ea (B.frz y d q) fun v hm rv => ?_
      exact ⟨v, atB _ _ hm, rv.step st g⟩
    · refine g_eaaaa (ownAt y d q) fun v hm ha o hf fr => ?_
      exact ⟨v, ha, o, by rw [hf]; exact fr⟩
    · exact absurd (B.one y z d d' q q') hyz
  · refine g_eeeaa hb fun y d v q hv hf => ?_
    clear hb
    refine g_eaaaa (ownAt y d q) fun u hm ha o hfe _ => ?_
    obtain rfl := Option.some.inj (At.unique hv ha)
    exact ⟨y, d, _, q, hm, by rw [← hfe]; exact hf⟩

noncomputable def RetOk (G : Cx) (V : View) (h : Heap) (v : Value) : AFlow → Prop
  | .ret d => Rep G V h v d
  | .next => v = .none
  | _ => False

-- a call of a def, run through
theorem run_def {A : Around} {V₀ V : View} {s₀ s : Shared} {I₀ I I' : MSt} {a : Addr} {fd : FuncData} {body : List Stmt} {args : Args} {binds : List (Str × Value)} {σ σ' : Sto} {gx : Sx} {fl : AFlow}
    (D : DefOk G a fd sc body) (rm : Room A (n + 1)) (g₀ : Good G V₀ s₀ I₀) (g : Good G V s I) (hbind : ∀ (A' : Around) (E : Value → Shared → Prop) (Q : List (Str × Value) → Shared → Prop), Q binds s → wpAny (Md G) A' (bindArgs fd args) Q E s₀)
    (B : Given G V s.heap binds σ) (hkind : ∀ x ∈ binds, sc.names.lookup x.1 = some .local ∨ sc.names.lookup x.1 = some .cell) (h : SoundSs G n sc body gx) (hf : gx σ I = some (fl, σ', I')) (hfl : fl = .next ∨ ∃ d, fl = .ret d) :
    codeAny (Md G) A (.call (.ref a) args) (fun r s' => ∃ v env V', r = .ok (.ret v) ∧ StepO (Lent s.heap binds σ) V s V' s' ∧ Good G V' s' I' ∧ EnvOk G V' s'.heap env σ' ∧ (∀ b, OwnA s'.heap env σ' b → Lent s.heap binds σ b ∨ s.heap.get? b = none) ∧ RetOk G V' s'.heap v fl) s₀ := by
  refine g_ea D.at_ fun o ho hdat => ?_
  have hsc : fd.scope = sc := D.scope
  refine codeAny_call_function (fd := fd) (body := body) (by have := rm.depth; omega) (g₀.base a o ho).2 hdat (by rw [hsc]; exact D.co) (by rw [hsc]; exact D.gen) D.body (D.code.keeps fun b o e => (g₀.base b o e).2) ?_
  refine hbind _ _ _ ?_
  rw [hsc, D.glob, D.clos, D.bui]
  refine wpAny_newFunctionEnv_cells D.kind (fun x hx => ?_) fun env he s₁ x => ?_
  · rcases hkind x hx with k | k
    · exact .inl k
    · exact .inr ⟨k, cellsFrom_some _ _ _ (.inl k)⟩
  · refine g_aaaa (enter_gen D g B hkind he x) fun st g₁ w₁ fresh lent => ?_
    refine ⟨(G.lim.keeps fun b o e => (g₁.base b o e).2), codeAny_func ?_⟩
    have hes : env.scope = sc := by rw [he]; rfl
    have fin : ∀ {f : Flow} {s₂ : Shared} {v : Value}, PS G env σ V s₁ fl σ' I' f s₂ → (∀ V', FlowOk G V' s₂.heap f fl → RetOk G V' s₂.heap v fl) → ∃ v' env' V', (Except.ok (Flow.ret v) : Result) = .ok (.ret v') ∧ StepO (Lent s.heap binds σ) V s V' s₂ ∧ Good G V' s₂ I' ∧ EnvOk G V' s₂.heap env' σ' ∧ (∀ b, OwnA s₂.heap env' σ' b → Lent s.heap binds σ b ∨ s.heap.get? b = none) ∧ RetOk G V' s₂.heap v' fl := fun {f s₂ v} p q => by
      obtain ⟨V', ss, g₂, w₂, fo⟩ := p
      refine ⟨v, env, V', rfl, ⟨ss.gens.trans st.gens, ss.os.trans st.os, fun b o e hJ hO => ?_, fun b o e => ?_, ss.fr, fun b e => ?_, ss.jp, fun b e => ?_⟩, g₂, w₂, fun b z => (ss.onew b z).imp (lent b) (none_back st.ex), q V' fo⟩
      · exact ss.keep b o (st.keep b o e hJ) hJ (fun z => by rw [fresh b z] at e; cases e) fun z => hO (lent b z)
      · obtain ⟨o', e'⟩ := st.ex b o e; exact ss.ex b o' e'
      · rcases ss.fnew b e with z | z | z
        · exact .inl z
        · exact .inr (.inl (none_back st.ex z))
        · exact .inr (.inr (lent b z))
      · rcases ss.jnew b e with z | z
        · exact .inl z
        · exact .inr (none_back st.ex z)
    refine wpAny_mono (h.run (A.deeper env) env V _ I s₁ _ _ _ hes rm.deeper g₁ w₁ hf) (fun f s₂ p => ?_) fun _ _ x => x.elim
    rcases hfl with rfl | ⟨d, rfl⟩
    · cases f with
      | next => exact fin p fun _ _ => rfl
      | ret v => obtain ⟨_, _, _, _, fo⟩ := p; exact fo.elim
      | brk => obtain ⟨_, _, _, _, fo⟩ := p; exact fo.elim
      | cont => obtain ⟨_, _, _, _, fo⟩ := p; exact fo.elim
    · cases f with
      | ret v => exact fin p fun _ fo => fo
      | next => obtain ⟨_, _, _, _, fo⟩ := p; exact fo.elim
      | brk => obtain ⟨_, _, _, _, fo⟩ := p; exact fo.elim
      | cont => obtain ⟨_, _, _, _, fo⟩ := p; exact fo.elim

theorem sto0_frz {ps : List String} {ds : List Dat} {y : String} {e : Ent} (q : sto0 ps (ds.map .frz) y = e) (hne : e ≠ .unb) : ∃ (i : Nat) (d : Dat), ps[i]? = some y ∧ ds[i]? = some d ∧ e = .frz d := by
  unfold sto0 at q
  cases he : (ps.zip (ds.map Ent.frz)).lookup y with
  | none => rw [he] at q; exact absurd q.symm hne
  | some e' =>
    rw [he] at q
    obtain rfl : e' = e := q
    obtain ⟨i, hi, hget⟩ := List.mem_iff_getElem.mp (lookup_mem he)
    have h1 : i < ps.length ∧ i < (ds.map Ent.frz).length := by rw [List.length_zip] at hi; omega
    rw [List.getElem_zip] at hget
    have hid : i < ds.length := by simpa using h1.2
    have h2 := congrArg Prod.snd hget
    dsimp only at h2
    rw [List.getElem_map] at h2
    exact ⟨i, ds[i], by rw [List.getElem?_eq_getElem h1.1]; exact congrArg some (congrArg Prod.fst hget), List.getElem?_eq_getElem hid, h2.symm⟩

theorem given_frz {V : View} {h : Heap} {ps : List String} {vs : List Value} {ds : List Dat} (hnd : (ps.map Str.ofString).Nodup) (hlen : vs.length = ps.length) (r : Reps G V h vs ds) : Given G V h ((ps.map Str.ofString).zip vs) (sto0 ps (ds.map .frz)) where
  nodup := by rw [List.map_fst_zip (by simp [hlen])]; exact hnd
  frz := fun y d q => by
    obtain ⟨i, d', h1, h2, h3⟩ := sto0_frz q (by intro e; cases e)
    cases h3
    refine g_ea (r.get h2) fun v hv rv => ?_
    refine ⟨v, ?_, rv⟩
    refine g_e (List.getElem?_eq_some_iff.mp h1) fun hi hp => ?_
    refine g_e (List.getElem?_eq_some_iff.mp hv) fun hj hw => ?_
    refine List.mem_iff_getElem.mpr ⟨i, by rw [List.length_zip, List.length_map]; omega, ?_⟩
    rw [List.getElem_zip, List.getElem_map, hp, hw]
  own := fun y d q => by
    obtain ⟨i, d', h1, h2, h3⟩ := sto0_frz q (by intro e; cases e)
    cases h3
  one := fun x y d d' q => by
    obtain ⟨i, d', h1, h2, h3⟩ := sto0_frz q (by intro e; cases e)
    cases h3

theorem runF_inv {ps : List String} {gx : Sx} {ds : List Dat} {I I' : MSt} {d : Dat} (h : runF ps gx ds I = some (d, I')) : ds.length = ps.length ∧ ∃ fl σ', gx (sto0 ps (ds.map .frz)) I = some (fl, σ', I') ∧ ((fl = .next ∧ d = .none) ∨ fl = .ret d) := by
  refine ite_gn h fun hl h => bind_go h fun r e h => bind_go h fun c hc h => ⟨hl, r.1, r.2.1, ?_⟩
  obtain rfl : c = d := congrArg Prod.fst (Option.some.inj h)
  exact ⟨e.trans (congrArg (fun z => some (r.1, r.2.1, z)) (congrArg Prod.snd (Option.some.inj h) : r.2.2 = I')), aVal_go hc⟩

theorem RetOk.rep {V : View} {h : Heap} {v : Value} {fl : AFlow} {d : Dat} (r : RetOk G V h v fl) (e : (fl = .next ∧ d = .none) ∨ fl = .ret d) : Rep G V h v d := by
  rcases e with ⟨rfl, rfl⟩ | rfl
  · obtain rfl : v = .none := r
    exact .none
  · exact r

-- a def, by its body
theorem SoundF.of {a : Addr} {fd : FuncData} {body : List Stmt} {ps : List String} {gx : Sx} (D : DefOk G a fd sc body) (hnd : (ps.map Str.ofString).Nodup) (hkind : ∀ x ∈ ps, KindOk sc x)
    (hbind : ∀ (s : Shared) (vs : List Value), vs.length = ps.length → BindsTo s fd ⟨vs, []⟩ ((ps.map Str.ofString).zip vs)) (h : SoundSs G n sc body gx) : SoundF G (n + 1) a (runF ps gx) := .mk fun A V s I args ds d I' rm g r hf => by
  refine g_aeea (runF_inv hf) fun hlen fl σ' e hd => ?_
  have hargs : args.length = ps.length := r.length.trans hlen
  refine codeAny_mono (run_def D rm g g (fun A' E Q q => hbind s args hargs _ _ _ _ q) (given_frz hnd hargs r) (fun x hx => ?_) h e (hd.imp And.left fun q => ⟨_, q⟩)) fun r s' q => ?_
  · refine g_a (List.of_mem_zip hx) fun hm _ => ?_
    refine g_ea (List.mem_map.mp hm) fun y hy e => ?_
    rw [← e]; exact hkind y hy
  · refine g_eeeaaaaa q fun v env V' q3ₑ st g' w' _ ro => ?_
    clear q
    subst q3ₑ
    have no : ∀ b, ¬ Lent s.heap ((ps.map Str.ofString).zip args) (sto0 ps (ds.map .frz)) b := by
      intro b qₕ
      refine g_eeea qₕ fun y dd v q _ => ?_
      clear qₕ
      obtain ⟨i, d', h1, h2, h3⟩ := sto0_frz q (by intro e; cases e)
      cases h3
    exact ⟨v, rfl, V', ⟨st.gens, st.os, fun b o e hJ => st.keep b o e hJ (no b), st.ex, st.fr, fun b q => (st.fnew b q).imp id fun z => z.resolve_right (no b), st.jp, st.jnew⟩, g', ro.rep hd⟩

-- another word for the same def
theorem SoundF.congr {a : Addr} {F F' : Fn} (h : SoundF G n a F) (e : ∀ ds I d I', F' ds I = some (d, I') → F ds I = some (d, I')) : SoundF G n a F' := .mk fun A V s I args ds d I' rm g r hf => h.run A V s I args ds d I' rm g r (e _ _ _ _ hf)
theorem SoundF.le {a : Addr} {F : Fn} {m : Nat} (h : SoundF G n a F) (hm : n ≤ m) : SoundF G m a F := .mk fun A V s I args ds d I' rm g r hf => h.run A V s I args ds d I' (rm.le hm) g r hf

-- calls

-- a name of the module's, or of the language's
structure GlobIs (G : Cx) (sc : Scope) (x : String) (v : Value) : Prop where
  kind : sc.names.lookup (Str.ofString x) = some .globalImplicit
  is : G.mg (Str.ofString x) = some v ∨ (G.mg (Str.ofString x) = none ∧ G.mb (Str.ofString x) = some v)

theorem load_glob {A : Around} {V : View} {s : Shared} {I : MSt} {env : Env} {σ : Sto} {x : String} {v : Value} {p : Pos} {Q : Value → Shared → Prop} (hs : env.scope = sc) (g : Good G V s I) (w : EnvOk G V s.heap env σ) (hg : GlobIs G sc x v)
    (hd : (Str.ofString x == ("__debug__" : Str)) = false) (q : Q v s) : wpAny (Md G) A (eval (.Name (Str.ofString x) p) env) Q No s := by
  have kb : ∀ b o, G.base.get? b = some o → s.heap.get? b = some o := fun b o e => (g.base b o e).2
  have hg1 : s.heap.Ns env.globals G.mg := by rw [w.glob]; exact G.g.keeps kb
  have hg2 : s.heap.Ns env.builtins G.mb := by rw [w.bui]; exact G.b.keeps kb
  refine Calls.Name_function_global w.kind (by unfold Env.kindOf; rw [hs]; exact hg.kind) ?_ hd
  rcases hg.is with e | ⟨e1, e2⟩
  · exact Calls.loadGlobal_global hg1 e q
  · exact Calls.loadGlobal_builtin hg1 e1 hg2 e2 q

noncomputable def evFn (F : Fn) (fs : List Ev) : Ev := fun σ I => (evs fs σ I).bind fun p => F p.1 p.2

theorem backTo_cons {pos : Pos} {e : Expr} {es : List Expr} {env : Env} (h : isStarred e = false) : backTo pos (starEach (e :: es) env) = (false, eval e env) :: backTo pos (starEach es env) := by
  rw [starEach_plain h]; rfl

theorem SoundL.args {es : List Expr} {fs : List Ev} (h : SoundL G n sc es fs) {A : Around} {env : Env} {V : View} {σ : Sto} {I : MSt} {s : Shared} {ds : List Dat} {I' : MSt} {pos : Pos} {f : Value} {Q : Args → Shared → Prop}
    (hs : env.scope = sc) (rm : Room A n) (g : Good G V s I) (w : EnvOk G V s.heap env σ) (hf : evs fs σ I = some (ds, I'))
    (k : ∀ V' s' vs, Step V s V' s' → Good G V' s' I' → EnvOk G V' s'.heap env σ → Reps G V' s'.heap vs ds → Q ⟨vs, []⟩ s') : wpAny (Md G) A (evalArgs f true (backTo pos (starEach es env)) []) Q No s := by
  cases h with
  | nil =>
    cases hf
    exact PySem.evalArgs_none (k V s [] (Step.refl _ _) g w .nil)
  | cons hst he hes =>
    have := SoundL.run (.cons hst he hes) (pos := pos) (Q := fun vs s' => Q ⟨vs, []⟩ s') hs rm g w hf k
    rw [backTo_cons hst] at this ⊢
    exact Calls.evalArgs_plain this

theorem SoundE.call {f : String} {p pos : Pos} {es : List Expr} {fs : List Ev} {a : Addr} {F : Fn} {o : Obj} {fd : FuncData} (hg : GlobIs G sc f (.ref a)) (ho : G.base.get? a = some o) (hfd : o.data = .func fd) (hF : SoundF G n a F) (hl : SoundL G n sc es fs)
    (he : ∀ env : Env, eval (.Call (.Name (Str.ofString f) p) es [] pos) env = (do callWith pos (← eval (.Name (Str.ofString f) p) env) [] (backTo pos (starEach es env)) (backToKw pos (keywordEach [] env))) := by intro env; rfl)
    (hd : (Str.ofString f == ("__debug__" : Str)) = false := by decide +kernel) : SoundE G n sc (.Call (.Name (Str.ofString f) p) es [] pos) (evFn F fs) := .mk fun A env V σ I s d I' hs rm g w hf => by
  refine bind_go2 hf fun ds I₁ e hf => ?_
  refine PyProof.Rows.Call_ (load_glob hs g w hg hd ?_) (he env)
  refine Calls.callWith_function (o := o) (fd := fd) (hl.args hs rm g w e fun V₁ s₁ vs st₁ g₁ w₁ r₁ => ?_)
  refine ⟨⟨(g₁.base a o ho).2, hfd⟩, ?_⟩
  refine wpAny_call (codeAny_mono (hF.run A V₁ s₁ I₁ vs ds d I' rm g₁ r₁ hf) fun r s' q => ?_)
  refine g_ea q fun v q p => ?_
  subst q
  exact p.trans st₁
end

-- M13
section
variable {G : Cx} {n : Nat} {sc : Scope}

-- fresh lists by operators

noncomputable def OpO (G : Cx) (n : Nat) (t : Value → Value → Sem Value) (p : Dat → Dat → Option (List Dat)) : Prop :=
  ∀ (A : Around) (V : View) (s : Shared) (I : MSt) (a b : Value) (da db : Dat) (xs : List Dat), Room A n → Good G V s I → Rep1 G V s.heap a da → Rep1 G V s.heap b db → p da db = some xs →
    wpAny (Md G) A (t a b) (PE G V s I fun V' h v => Own G V' h v (.list xs) ∧ ∀ a ∈ foot h v, s.heap.get? a = none ∧ ¬ V'.F a ∧ a ∉ V'.J) No s

noncomputable def asL (p : Dat → Dat → Option (List Dat)) : MSt → Dat → Dat → Option Dat := fun _ a b => (p a b).map .list

theorem SoundO.bin {l r : Expr} {op : Operator} {pos : Pos} {fl fr : Ev} {p : Dat → Dat → Option (List Dat)} (ho : OpO G n (binaryOp op) p) (hl : SoundB G n sc l fl) (hr : SoundB G n sc r fr) :
    SoundO G n sc (.BinOp l op r pos) (ev2 fl fr (asL p)) := .mk fun A env V σ I s d I' hs rm g w hf => by
  refine ev2_go hf fun a I₁ b ea eb ed => ?_
  refine map_go ed fun xs ex => ?_
  refine wpAny_BinOp (hl.use hs rm g w ea fun V₁ s₁ v₁ st₁ g₁ w₁ r₁ => hr.use hs rm g₁ w₁ eb fun V₂ s₂ v₂ st₂ g₂ w₂ r₂ => ?_)
  exact wpAny_mono (ho A V₂ s₂ I' v₁ v₂ a b xs rm g₂ (r₁.step st₂ g₁) r₂ ex) (fun _ _ q => q.transO (st₁.trans st₂)) fun _ _ x => x

noncomputable def dAddL (a b : Dat) : Option (List Dat) := (datLst a).bind fun a => (datLst b).bind fun b => if a.length + b.length ≤ sizeLine then some (a ++ b) else none
theorem op_addL : OpO G n (binaryOp .Add) dAddL := fun A V s I a b da db zs rm g ra rb e => by
  refine bind_go e fun xs hx e => bind_go e fun ys hy e => ite_go e fun hz => ?_
  obtain ⟨l, vs, rfl, ⟨k, hl⟩, rl⟩ := (datLst_go hx ▸ ra).lst; obtain ⟨m, us, rfl, ⟨k', hm⟩, rm'⟩ := (datLst_go hy ▸ rb).lst
  refine P.add_list hl hm ?_ (by rw [size_of_reps rl, size_of_reps rm']; exact hz)
  exact PE.fresh g (by rw [Array.toList_append]; exact rl.append rm')

theorem Reps.rep {V : View} {h : Heap} {vs : List Value} {ds : List Dat} (r : Reps G V h vs ds) : ∀ k : Nat, Reps G V h (List.replicate k vs).flatten (List.replicate k ds).flatten
  | 0 => .nil
  | k + 1 => by simpa [List.replicate_succ] using r.append (r.rep k)

theorem foldl_app (l : List (Array Value)) : ∀ acc : Array Value, (List.foldl (fun x1 x2 => x1 ++ x2) acc l).toList = acc.toList ++ (l.map Array.toList).flatten := by
  induction l with
  | nil => intro acc; simp
  | cons x r ih => intro acc; rw [List.foldl_cons, ih]; simp

noncomputable def dMulL (a b : Dat) : Option (List Dat) := (datLst a).bind fun xs => (datInt b).bind fun k => if -1000000 ≤ k ∧ k ≤ 1000000 ∧ xs.length * k.toNat ≤ 1000000 then some (List.replicate k.toNat xs).flatten else none
theorem op_mulL : OpO G n (binaryOp .Mult) dMulL := fun A V s I a b da db zs rm g ra rb e => by
  refine bind_go e fun xs hx e => bind_go e fun k hk e => ?_
  refine ite_go e fun hz => ?_
  obtain ⟨l, items, rfl, ⟨kk, hl⟩, rl⟩ := (datLst_go hx ▸ ra).lst; obtain ⟨u, rfl⟩ := (datInt_go hk ▸ rb).int
  have hsz := size_of_reps rl
  refine wpAny_binaryOp_repeat_ref (T := "list") (U := "int") (by decide) ⟨_, hl, rfl⟩ (fun s' => typeIs_int s' k u) noFill_list_mul F.fills_int_mul F.slot_int_rmul repeat_list F.slot_int_index.lookup ?_
  refine call_meets F.slot_int_rmul (typeIs_int s k u) F.entry_int_rmul (F.args_int_rmul_2 _ _) (int___rmul___int_list k u l items kk) ⟨hl, rfl, ⟨_, hl, rfl⟩, ?_⟩
  refine call_meets F.slot_list_mul ⟨_, hl, rfl⟩ F.entry_list_mul (F.args_list_mul_2 _ _)
    (AutoListH.list___mul___list_int_3 l items kk k u (by simp [Builtin.List.listFitsIndex]; lia) (by rw [hsz]; have : sizeLine = 16777216 := rfl; lia) (by simp [Builtin.List.listTooLong, sizeLine]; rw [hsz]; lia)) ⟨hl, ?_⟩
  refine PE.fresh g ?_
  rw [foldl_app]
  by_cases h0 : items.isEmpty = true
  · refine (if_pos h0) ▸ ?_
    have hx : xs = [] := by
      have : items = #[] := by simpa using h0
      subst this; cases rl; rfl
    subst hx
    rw [show (List.replicate k.toNat ([] : List Dat)).flatten = [] by simp]
    exact .nil
  · refine (if_neg h0) ▸ ?_
    simpa using rl.rep k.toNat

noncomputable def dMulS (a b : Dat) : Option Dat := (datStr a).bind fun x => (datInt b).bind fun k => if -1000 ≤ k ∧ k ≤ 1000 ∧ x.length ≤ 1000 then some (.str (Txt.mul x k)) else none
theorem mulOk {x : Str} {k : Int} (h : -1000 ≤ k ∧ k ≤ 1000 ∧ x.length ≤ 1000) : MulOk x k := by
  refine ⟨by simp; lia, fun h1 _ => ?_, fun h1 _ => ?_⟩
  · have h2 : (1000 : Int) ≤ (2 ^ 63 - 1) / k := by
      refine Int.le_ediv_of_mul_le (by lia) ?_
      lia
    lia
  · unfold Builtin.Str.tooLong
    have : x.length * k.toNat ≤ 1000 * 1000 := Nat.mul_le_mul h.2.2 (by lia)
    refine decide_eq_false ?_
    have : sizeLine = 16777216 := rfl
    lia
theorem op_mulS : OpS G n (binaryOp .Mult) (fun _ => dMulS) := fun A V s I a b da db d rm g ra rb e => by
  refine bind_go e fun x hx e => bind_go e fun k hk e => ?_
  refine ite_go e fun hz => ?_
  obtain ⟨t, rfl⟩ := (datStr_go hx ▸ ra).str; obtain ⟨u, rfl⟩ := (datInt_go hk ▸ rb).int
  exact SB.mul (mulOk hz) fun t' k => PE.same g _ (.str _ _)

-- a list gone through

noncomputable def ivList (f : Ev) : Iv := fun σ I => (f σ I).bind fun p => (datLst p.1).bind fun xs => some (xs, p.2)

theorem src_list {A : Around} {V : View} {s : Shared} {a : Addr} {items : Array Value} {xs : List Dat} {k : Nat} (hh : A.handled = none) (hF : V.F a) (ho : s.heap.get? a = some { cls := .type "list", data := .seq items k }) (r : Reps G V s.heap items.toList xs) {I : MSt} (g : Good G V s I) {V₀ : View} {s₀ : Shared} (st : Step V₀ s₀ V s) :
    Src G A V s₀.heap (s.heap.push { cls := .type "list_iterator", data := .fields #[.ref a, .int 0 0] }) (.ref s.heap.objs.size) xs := by
  have e := get_size s.heap
  have hlt := Heap.lt_size ho
  have hne : a ≠ s.heap.objs.size := Nat.ne_of_lt hlt
  have W := Walks.list (prog := G.prog) (w := G.w) hh s.heap.objs.size a hne items
  replace W := (size_of_reps r) ▸ W
  refine ⟨s.heap.objs.size, [s.heap.objs.size, a], [s.heap.objs.size], _, _, rfl, W, ⟨⟨_, Heap.get?_push_size _ rfl, rfl, rfl⟩, ⟨_, Heap.get?_push_of_some _ ho, rfl, k, rfl⟩⟩, fun b hb => ?_, fun b hb => ?_, fun i h' hst b hb => ?_, fun i v hv => ?_, fun i h' hst => ?_⟩
  · simp only [List.mem_cons, List.not_mem_nil, or_false] at hb
    rcases hb with rfl | rfl
    · exact .inr (by simp)
    · exact .inl hF
  · simp only [List.mem_cons, List.not_mem_nil, or_false] at hb
    subst hb
    exact ⟨none_back st.ex e, g.notF e, g.notJ e⟩
  · simp only [List.mem_cons, List.not_mem_nil, or_false] at hb
    subst hb
    refine g_a hst fun q0ₜ _ => ?_
    refine g_ea q0ₜ fun o ho _ => ?_
    exact ⟨o, ho⟩
  · have hv' : items.toList[i]? = some v := by rw [Array.getElem?_toList]; exact hv
    have hlen : i < xs.length := by
      refine (r.length) ▸ ?_
      refine g_e (List.getElem?_eq_some_iff.mp hv') fun h _ => ?_
      exact h
    refine g_ea (r.get (i := i) (d := xs[i]) (by simp [hlen])) fun v' h1 h2 => ?_
    rw [hv'] at h1; cases h1
    exact ⟨xs[i], by simp [hlen], h2.mono (fun _ q => q) (fun _ _ q => q) fun b o _ q => Heap.get?_push_of_some _ q⟩
  · refine g_a hst fun q0ₜ _ => ?_
    refine g_eaa q0ₜ fun o ho hc _ => ?_
    exact ⟨_, o, "list_iterator", rfl, ho, hc, by decide⟩

theorem SoundI.list {e : Expr} {f : Ev} (h : SoundE G n sc e f) : SoundI G n sc e (ivList f) := .mk fun A env V σ I s ds I' hs rm g w hf => by
  refine bind_go2 hf fun d I' e1 hf => bind_go hf fun xs hx hf => ?_
  refine some2 hf ?_
  refine h.use hs rm g w e1 fun V₁ s₁ v st₁ g₁ w₁ r₁ => ?_
  obtain ⟨a, vs, rfl, hF, ⟨k, ho⟩, hs'⟩ := (datLst_go (d := d) hx ▸ r₁).is
  · refine wpAny_pyIter_list ⟨_, ho, rfl, k, rfl⟩ ?_
    exact ⟨V₁, st₁.trans (Step.push V₁ s₁ _ s₁.toks), g₁.push _ s₁.toks, src_list rm.handled hF ho hs' g₁ st₁⟩
end

-- M14
section
variable {G : Cx} {n : Nat} {sc : Scope}

-- the block of a comprehension

noncomputable def relab (scope sc : Scope) : Scope :=
  { scope with names := scope.names.map fun (n, k) => if (k == .free && sc.kind == .function && sc.names.lookup n == some .cell) then (n, .cell) else (n, k) }
theorem relabel_eq {scope : Scope} {env : Env} (h : env.scope = sc) : relabel scope env = relab scope sc := by subst h; rfl

-- the cells that it captures
noncomputable def closFrom (cs : List (Str × Addr)) : List (Str × NameKind) → List (Str × Addr) → List (Str × Addr)
  | [], acc => acc
  | (x, k) :: r, acc => if k == .free then closFrom cs r ((x, (cs.lookup x).getD 0) :: acc) else closFrom cs r acc

theorem closure_loop {env : Env} (f : Str × NameKind → List (Str × Addr) → Sem (ForInStep (List (Str × Addr))))
    (hf : ∀ x k cs, f (x, k) cs = if k == .free then (do let a ← cellOf env x; pure (.yield ((x, a) :: cs))) else pure (.yield cs)) :
    ∀ (names : List (Str × NameKind)) (acc : List (Str × Addr)), (∀ p ∈ names, p.2 = .free → ∃ c, env.cells.lookup p.1 = some c) → forIn names acc f = pure (closFrom env.cells names acc)
  | [], acc, _ => rfl
  | (x, k) :: r, acc, h => by
    rw [List.forIn_cons, hf]
    unfold closFrom
    by_cases hk : (k == .free) = true
    · rw [if_pos hk, if_pos hk]
      refine g_e (h (x, k) (.head _) (eq_of_beq hk)) fun c hc => ?_
      have hc' : env.cells.lookup x = some c := hc
      have e : cellOf env x = pure c := by unfold cellOf; rw [hc']
      rw [e, hc']
      exact closure_loop f hf r _ fun p hp => h p (.tail _ hp)
    · rw [if_neg hk, if_neg hk]
      exact closure_loop f hf r _ fun p hp => h p (.tail _ hp)

theorem closureFor_eq {scope : Scope} {env : Env} (h : ∀ p ∈ scope.names, p.2 = .free → ∃ c, env.cells.lookup p.1 = some c) : closureFor scope env = pure (closFrom env.cells scope.names []) := by
  unfold closureFor
  simp only []
  rw [closure_loop (env := env) _ (fun x k cs => ?_) scope.names [] h]
  · rfl
  · cases hk : k == NameKind.free <;> simp [hk]

-- what is asked of a comprehension's block
structure CompOk (scope sc : Scope) : Prop where
  kind : scope.kind = .function
  nodup : (scope.names.map (·.1)).Nodup
  free : ∀ p ∈ scope.names, p.2 = .free → sc.names.lookup p.1 = some .cell ∨ sc.names.lookup p.1 = some .free
  sck : sc.kind = .function

noncomputable def compOkB (scope sc : Scope) : Bool :=
  scope.kind == .function && decide ((scope.names.map (·.1)).Nodup) && (scope.names.all fun p => p.2 != .free || sc.names.lookup p.1 == some .cell || sc.names.lookup p.1 == some .free) && sc.kind == .function
theorem compOk_of {scope sc : Scope} (h : compOkB scope sc = true) : CompOk scope sc := by
  unfold compOkB at h
  simp only [Bool.and_eq_true, List.all_eq_true, Bool.or_eq_true, beq_iff_eq, decide_eq_true_eq, bne_iff_ne, ne_eq] at h
  refine g_a h fun q0ₜ h4 => ?_
  refine g_a q0ₜ fun q0ₜ h3 => ?_
  obtain ⟨h1, h2⟩ := q0ₜ
  refine ⟨h1, h2, fun p hp hk => ?_, h4⟩
  rcases h3 p hp with (q | q) | q
  · exact absurd hk q
  · exact .inl q
  · exact .inr q

theorem lookup_nodup {α β : Type} [BEq α] [LawfulBEq α] : ∀ {l : List (α × β)} {a : α} {b : β}, (l.map (·.1)).Nodup → (a, b) ∈ l → l.lookup a = some b
  | (x, y) :: r, a, b, hn, hm => by
    rw [List.map_cons, List.nodup_cons] at hn
    rw [List.lookup_cons]
    rcases List.mem_cons.mp hm with e | hm1
    · cases e; simp
    · have : (a == x) = false := by
        refine beq_eq_false_iff_ne.mpr fun e => hn.1 ?_
        refine (e) ▸ ?_
        exact List.mem_map.mpr ⟨(a, b), hm1, rfl⟩
      refine (this) ▸ ?_
      exact lookup_nodup hn.2 hm1

theorem lookup_relab (scope sc : Scope) (x : Str) : (relab scope sc).names.lookup x = match scope.names.lookup x with
    | some .free => if sc.kind == .function && sc.names.lookup x == some .cell then some .cell else some .free
    | r => r := by
  unfold relab
  generalize scope.names = names
  induction names with
  | nil => rfl
  | cons p r ih =>
    obtain ⟨y, k⟩ := p
    rw [List.map_cons]
    dsimp only
    by_cases hx : (x == y) = true
    · have e := eq_of_beq hx
      subst e
      by_cases hc : (k == NameKind.free && sc.kind == .function && sc.names.lookup x == some .cell) = true
      · rw [if_pos hc]
        simp only [Bool.and_eq_true] at hc
        obtain ⟨⟨h1, h2⟩, h3⟩ := hc
        have hk : k = .free := eq_of_beq h1
        subst hk
        simp [List.lookup_cons, h2, h3]
      · rw [if_neg hc]
        simp only [List.lookup_cons, beq_self_eq_true]
        cases k <;> first | rfl | skip
        have : ¬ ((sc.kind == .function && sc.names.lookup x == some .cell) = true) := by simpa using hc
        rw [if_neg this]
    · have hx' : (x == y) = false := by simpa using hx
      by_cases hc : (k == NameKind.free && sc.kind == .function && sc.names.lookup y == some .cell) = true
      · rw [if_pos hc]; simp only [List.lookup_cons, hx']; exact ih
      · rw [if_neg hc]; simp only [List.lookup_cons, hx']; exact ih

set_option tactic.hygienic true in
theorem closFrom_mem {cs : List (Str × Addr)} : ∀ (names : List (Str × NameKind)) (acc : List (Str × Addr)) (p : Str × Addr), p ∈ closFrom cs names acc → p ∈ acc ∨ ((p.1, .free) ∈ names ∧ p.2 = (cs.lookup p.1).getD 0)
  | [], acc, p, h => .inl h
  | (x, k) :: r, acc, p, h => by
    unfold closFrom at h
    split at h
    · rename_i hk
      have : k = .free := eq_of_beq hk
      subst this
      rcases closFrom_mem r _ p h with q | ⟨q, e⟩
      · rcases List.mem_cons.mp q with rfl | q
        · exact .inr ⟨.head _, rfl⟩
        · exact .inl q
      · exact .inr ⟨.tail _ q, e⟩
    · rcases closFrom_mem r _ p h with q | ⟨q, e⟩
      · exact .inl q
      · exact .inr ⟨.tail _ q, e⟩
theorem closFrom_acc {cs : List (Str × Addr)} : ∀ (names : List (Str × NameKind)) (acc : List (Str × Addr)) (p : Str × Addr), p ∈ acc → p ∈ closFrom cs names acc
  | [], _, _, h => h
  | (x, k) :: r, acc, p, h => by
    unfold closFrom
    split
    · exact closFrom_acc r _ p (.tail _ h)
    · exact closFrom_acc r _ p h
theorem closFrom_has {cs : List (Str × Addr)} {x : Str} : ∀ (names : List (Str × NameKind)) (acc : List (Str × Addr)), (x, .free) ∈ names → (x, (cs.lookup x).getD 0) ∈ closFrom cs names acc
  | (y, k) :: r, acc, h => by
    unfold closFrom
    rcases List.mem_cons.mp h with e | h
    · cases e
      rw [if_pos (show (NameKind.free == NameKind.free) = true from rfl)]
      exact closFrom_acc r _ _ (.head _)
    · split
      · exact closFrom_has r _ h
      · exact closFrom_has r _ h

set_option tactic.hygienic true in
theorem cellsFrom_mem : ∀ (names : List (Str × NameKind)) (k : Nat) (acc : List (Str × Addr)) (p : Str × Addr), p ∈ cellsFrom k names acc → p ∈ acc ∨ ((p.1, .cell) ∈ names ∧ k ≤ p.2)
  | [], _, acc, p, h => .inl h
  | (x, kd) :: r, k, acc, p, h => by
    unfold cellsFrom at h
    split at h
    · rename_i hk
      have : kd = .cell := eq_of_beq hk
      subst this
      rcases cellsFrom_mem r _ _ p h with q | ⟨q, e⟩
      · rcases List.mem_cons.mp q with rfl | q
        · exact .inr ⟨.head _, Nat.le_refl _⟩
        · exact .inl q
      · exact .inr ⟨.tail _ q, Nat.le_of_succ_le e⟩
    · rcases cellsFrom_mem r _ _ p h with q | ⟨q, e⟩
      · exact .inl q
      · exact .inr ⟨.tail _ q, e⟩
theorem cellsFrom_acc : ∀ (names : List (Str × NameKind)) (k : Nat) (acc : List (Str × Addr)) (p : Str × Addr), p ∈ acc → p ∈ cellsFrom k names acc
  | [], _, _, _, h => h
  | (x, kd) :: r, k, acc, p, h => by
    unfold cellsFrom
    split
    · exact cellsFrom_acc r _ _ p (.tail _ h)
    · exact cellsFrom_acc r _ _ p h
theorem cellsFrom_has {x : Str} : ∀ (names : List (Str × NameKind)) (k : Nat) (acc : List (Str × Addr)), (x, .cell) ∈ names → ∃ c, (x, c) ∈ cellsFrom k names acc ∧ k ≤ c
  | (y, kd) :: r, k, acc, h => by
    unfold cellsFrom
    rcases List.mem_cons.mp h with e | h
    · cases e
      refine (if_pos (show (NameKind.cell == NameKind.cell) = true from rfl)) ▸ ?_
      exact ⟨k, cellsFrom_acc r _ _ _ (.head _), Nat.le_refl _⟩
    · split
      · refine g_ea (cellsFrom_has r (k + 1) ((y, k) :: acc) h) fun c h1 h2 => ?_
        exact ⟨c, h1, by omega⟩
      · exact cellsFrom_has r k acc h

-- the names of the cells stay apart
set_option tactic.hygienic true in
theorem names_apart {cs : List (Str × Addr)} {scope : Scope} (hn : (scope.names.map (·.1)).Nodup) (k : Nat) : ((cellsFrom k scope.names (closFrom cs scope.names [])).map (·.1)).Nodup := by
  have nd1 : ∀ (names : List (Str × NameKind)) (acc : List (Str × Addr)), (acc.map (·.1)).Nodup → (names.map (·.1)).Nodup → (∀ p ∈ names, p.2 = .free → p.1 ∉ acc.map (·.1)) → ((closFrom cs names acc).map (·.1)).Nodup := by
    intro names
    induction names with
    | nil => intro acc h _ _; exact h
    | cons p r ih =>
      intro acc h hn hd
      obtain ⟨x, kd⟩ := p
      rw [List.map_cons, List.nodup_cons] at hn
      unfold closFrom
      split
      · rename_i hk
        refine ih _ ?_ hn.2 fun q hq hf => ?_
        · rw [List.map_cons, List.nodup_cons]
          exact ⟨hd (x, kd) (.head _) (eq_of_beq hk), h⟩
        · rw [List.map_cons, List.mem_cons, not_or]
          exact ⟨fun e => hn.1 (e ▸ List.mem_map_of_mem hq), hd q (.tail _ hq) hf⟩
      · exact ih _ h hn.2 fun q hq hf => hd q (.tail _ hq) hf
  have nd2 : ∀ (names : List (Str × NameKind)) (k : Nat) (acc : List (Str × Addr)), (acc.map (·.1)).Nodup → (names.map (·.1)).Nodup → (∀ p ∈ names, p.2 = .cell → p.1 ∉ acc.map (·.1)) → ((cellsFrom k names acc).map (·.1)).Nodup := by
    intro names
    induction names with
    | nil => intro _ acc h _ _; exact h
    | cons p r ih =>
      intro k acc h hn hd
      obtain ⟨x, kd⟩ := p
      rw [List.map_cons, List.nodup_cons] at hn
      unfold cellsFrom
      split
      · rename_i hk
        refine ih _ _ ?_ hn.2 fun q hq hf => ?_
        · rw [List.map_cons, List.nodup_cons]
          exact ⟨hd (x, kd) (.head _) (eq_of_beq hk), h⟩
        · rw [List.map_cons, List.mem_cons, not_or]
          exact ⟨fun e => hn.1 (e ▸ List.mem_map_of_mem hq), hd q (.tail _ hq) hf⟩
      · exact ih _ _ h hn.2 fun q hq hf => hd q (.tail _ hq) hf
  refine nd2 _ _ _ (nd1 _ _ (by simp) hn fun _ _ _ q => by simp at q) hn fun p hp hc q => ?_
  refine g_ea (List.mem_map.mp q) fun z hz e => ?_
  rcases closFrom_mem _ _ z hz with hz | ⟨hz, _⟩
  · simp at hz
  · have h1 := lookup_nodup hn hp
    have h2 := lookup_nodup hn hz
    replace h1 := (e) ▸ h1
    rw [h1, hc] at h2
    cases h2

-- the new block, laid
theorem wpAny_compEnv {M : Model} {A : Around} {E : Value → Shared → Prop} {s : Shared} {scope : Scope} {globals : Addr} {cl : List (Str × Addr)} {qual : Str} {env : Env} {Q : Env → Shared → Prop}
    (h : Q (newEnv scope s.heap.objs.size globals (cellsFrom (s.heap.objs.size + 1) scope.names cl) qual none .none (some env) builtinsNs) { s with heap := pushCells (s.heap.push { cls := .type "dict", data := .dict #[] }) scope.names }) :
    wpAny M A (newFunctionEnv scope globals cl [] qual none .none (some env)) Q E s := by
  simp only [newFunctionEnv, Option.isSome_some, if_true]
  refine wpAny_bind (wpAny_alloc ?_)
  refine wpAny_bind (wpAny_layCells _ (fun name kind cells => by cases hkc : kind == NameKind.cell <;> simp [hkc]) _ _ _ _ ?_)
  refine (show ({ s with heap := s.heap.push { cls := .type "dict", data := .dict #[] } } : Shared).heap.objs.size = s.heap.objs.size + 1 from Heap.size_push ..) ▸ ?_
  exact wpAny_bind (wpAny_pure (wpAny_pure h))
end

-- M15
section
variable {G : Cx} {n : Nat} {sc : Scope}

noncomputable def inner (scope : Scope) (σ : Sto) : Sto := fun x => match scope.names.lookup (Str.ofString x) with
  | some .free => σ x
  | _ => .unb

set_option tactic.hygienic true in
theorem inner_some {scope : Scope} {σ : Sto} {x : String} {e : Ent} (h : inner scope σ x = e) (hne : e ≠ .unb) : scope.names.lookup (Str.ofString x) = some .free ∧ σ x = e := by
  unfold inner at h
  split at h
  · rename_i q; exact ⟨q, h⟩
  · exact absurd h.symm hne

noncomputable def envI (scope sc : Scope) (env : Env) (h : Heap) : Env :=
  { newEnv scope h.objs.size env.globals (cellsFrom (h.objs.size + 1) scope.names (closFrom env.cells scope.names [])) env.qual none .none (some env) builtinsNs with scope := relab scope sc }

theorem fresh_none {h : Heap} {a : Addr} (ha : h.objs.size ≤ a) : h.get? a = none := by
  cases e : h.get? a with
  | none => rfl
  | some o => exact absurd (Heap.lt_size e) (Nat.not_lt.mpr ha)

set_option tactic.hygienic true in
theorem enter_comp {V : View} {s : Shared} {I : MSt} {env : Env} {σ : Sto} {scope : Scope} (C : CompOk scope sc) (hs : env.scope = sc) (g : Good G V s I) (w : EnvOk G V s.heap env σ) {h' : Heap} (hh : h' = pushCells (s.heap.push { cls := .type "dict", data := .dict #[] }) scope.names) :
    (∀ b o, s.heap.get? b = some o → h'.get? b = some o) ∧ EnvOk G V h' (envI scope sc env s.heap) (inner scope σ) ∧
    (∀ x : Str, scope.names.lookup x = some .cell → ∃ c, (envI scope sc env s.heap).cells.lookup x = some c ∧ s.heap.get? c = none) ∧
    (∀ y c, (envI scope sc env s.heap).cells.lookup y = some c → s.heap.get? c = none ∨ (scope.names.lookup y = some .free ∧ env.cells.lookup y = some c)) ∧ (∀ b, OwnA h' (envI scope sc env s.heap) (inner scope σ) b → OwnA s.heap env σ b) := by
  have hk : ∀ b o, s.heap.get? b = some o → h'.get? b = some o := fun b o e => by subst hh; exact pushCells_keeps _ _ b o (Heap.get?_push_of_some _ e)
  have hL : s.heap.get? s.heap.objs.size = none := get_size _
  have hkd : ∀ y : Str, env.kindOf y = sc.names.lookup y := fun y => by unfold Env.kindOf; rw [hs]
  -- captured cells
  have outer : ∀ x : Str, (x, NameKind.free) ∈ scope.names → ∃ c ov, env.cells.lookup x = some c ∧ s.heap.IsCell c ov ∧ ¬ V.F c ∧ c ∉ V.J ∧ c ≠ env.locals := fun x hx => w.cel x (by rw [hkd]; exact C.free _ hx rfl)
  have ok := cellsFrom_ok scope.names (s.heap.push { cls := .type "dict", data := .dict #[] }) (s.heap.objs.size + 1) [] ⟨fun _ _ hm => (nomatch hm), List.Pairwise.nil⟩ (by rw [Heap.size_push]; exact Nat.le_refl _)
  rw [Heap.size_push] at ok
  -- own cells are laid
  have ownc : ∀ (names : List (Str × NameKind)) (k : Nat) (acc acc' : List (Str × Addr)) (p : Str × Addr), p ∈ cellsFrom k names acc → p ∈ acc ∨ p ∈ cellsFrom k names acc' := by
    intro names
    induction names with
    | nil => intro k acc acc' p h; exact .inl h
    | cons q r ih =>
      intro k acc acc' p h
      obtain ⟨x, kd⟩ := q
      unfold cellsFrom at h ⊢
      split at h
      · rename_i hkd'
        rw [if_pos hkd']
        rcases ih (k + 1) ((x, k) :: acc) ((x, k) :: acc') p h with z | z
        · rcases List.mem_cons.mp z with rfl | z
          · exact .inr (cellsFrom_acc r _ _ _ (.head _))
          · exact .inl z
        · exact .inr z
      · rename_i hkd'
        rw [if_neg hkd']
        exact ih k acc acc' p h
  have ecs : (envI scope sc env s.heap).cells = cellsFrom (s.heap.objs.size + 1) scope.names (closFrom env.cells scope.names []) := rfl
  have eL : (envI scope sc env s.heap).locals = s.heap.objs.size := rfl
  have nd := names_apart (cs := env.cells) C.nodup (s.heap.objs.size + 1)
  -- every entry: own and fresh, or captured
  have entry : ∀ y c, (y, c) ∈ (envI scope sc env s.heap).cells → (h'.IsCell c none ∧ s.heap.objs.size < c ∧ (y, NameKind.cell) ∈ scope.names ∧ (y, c) ∈ cellsFrom (s.heap.objs.size + 1) scope.names []) ∨ ((y, NameKind.free) ∈ scope.names ∧ env.cells.lookup y = some c) := fun y c hm => by
    replace hm := (ecs) ▸ hm
    rcases ownc _ _ _ [] (y, c) hm with z | z
    · rcases closFrom_mem _ _ _ z with z | ⟨z1, z2⟩
      · simp at z
      · refine g_eea (outer y z1) fun c' _ e1 _ => ?_
        dsimp only at z2
        replace z2 := (e1) ▸ z2
        exact .inr ⟨z1, by rw [z2]; exact e1⟩
    · have h1 := ok.empty y c z
      rcases cellsFrom_mem _ _ _ _ z with z' | ⟨z', _⟩
      · simp at z'
      · exact .inl ⟨by subst hh; exact h1.1, h1.2, z', z⟩
  have kindI : ∀ y : Str, (envI scope sc env s.heap).kindOf y = (relab scope sc).names.lookup y := fun y => rfl
  -- a captured name is found
  have capt : ∀ x : Str, scope.names.lookup x = some .free → ∃ c, (envI scope sc env s.heap).cells.lookup x = some c ∧ env.cells.lookup x = some c := fun x hx => by
    have hm : (x, NameKind.free) ∈ scope.names := lookup_mem hx
    refine g_eea (outer x hm) fun c _ e1 _ => ?_
    have := closFrom_has (cs := env.cells) scope.names [] hm
    replace this := (e1) ▸ this
    exact ⟨c, lookup_nodup nd (cellsFrom_acc _ _ _ _ this), e1⟩
  have ownl : ∀ x : Str, scope.names.lookup x = some .cell → ∃ c, (envI scope sc env s.heap).cells.lookup x = some c ∧ h'.IsCell c none ∧ s.heap.objs.size < c := fun x hx => by
    refine g_ea (cellsFrom_has scope.names (s.heap.objs.size + 1) (closFrom env.cells scope.names []) (lookup_mem hx)) fun c h1 h2 => ?_
    rcases entry x c h1 with ⟨z1, z2, _⟩ | ⟨z1, _⟩
    · exact ⟨c, lookup_nodup nd h1, z1, z2⟩
    · have := lookup_nodup C.nodup z1
      rw [hx] at this; cases this
  have ksplit : ∀ x : Str, ((envI scope sc env s.heap).kindOf x = some .cell ∨ (envI scope sc env s.heap).kindOf x = some .free) → scope.names.lookup x = some .cell ∨ scope.names.lookup x = some .free := fun x hx => by
    rw [kindI, lookup_relab] at hx
    split at hx
    · rename_i q; exact .inr q
    · rcases hx with q | q
      · exact .inl q
      · exact .inr q
  have kfree : ∀ x : Str, scope.names.lookup x = some .free → (envI scope sc env s.heap).kindOf x = some .cell ∨ (envI scope sc env s.heap).kindOf x = some .free := fun x hx => by
    rw [kindI, lookup_relab, hx]
    dsimp only
    split
    · exact .inl rfl
    · exact .inr rfl
  have atI : ∀ (x : Str) (v : Value), scope.names.lookup x = some .free → At s.heap env x (some v) → At h' (envI scope sc env s.heap) x (some v) := fun x v hx a => by
    refine g_ea (capt x hx) fun c h1 h2 => ?_
    have hm : (x, NameKind.free) ∈ scope.names := lookup_mem hx
    rcases a with ⟨k, _⟩ | ⟨k, c', hc', o, ho, hd⟩
    · rw [hkd] at k
      rcases C.free _ hm rfl with q | q
      · have q' : sc.names.lookup x = some .cell := q
        rw [k] at q'; cases q'
      · have q' : sc.names.lookup x = some .free := q
        rw [k] at q'; cases q'
    · rw [h2] at hc'; cases hc'
      exact .inr ⟨kfree x hx, c, h1, o, hk c o ho, hd⟩
  have freeI : ∀ {a : Addr} {o : Obj}, s.heap.get? a = some o → Free V env a → Free V (envI scope sc env s.heap) a := fun {a o} e f => by
    refine ⟨f.F, f.J, fun q => ?_, fun y q => ?_⟩
    · rw [q, eL, hL] at e; cases e
    · rcases entry y a (lookup_mem q) with ⟨_, z, _⟩ | ⟨_, z⟩
      · exact absurd (Heap.lt_size e) (Nat.not_lt.mpr (Nat.le_of_lt z))
      · exact f.cel y z
  have kF : KeepF V s.heap h' := fun b o _ e => hk b o e
  refine ⟨hk, ⟨C.kind, w.glob, w.bui, ⟨fun _ => none, ?_⟩, g.notF hL, g.notJ hL, fun x hx => ?_, fun y c q => ?_, fun x y c q q' => ?_, fun x d q => ?_, fun x d q => ?_, fun x y d d' v u hxy qx qy hv hu => ?_⟩, fun x hx => ?_, fun y c q => ?_, fun b hb => ?_⟩
  · rw [eL]; subst hh; exact (Heap.Ns.new s.heap (.type "dict")).keeps (pushCells_keeps _ _)
  · rcases ksplit x hx with q | q
    · refine g_eaa (ownl x q) fun c h1 h2 h3 => ?_
      have hn := fresh_none (h := s.heap) (a := c) (Nat.le_of_lt (by assumption))
      exact ⟨c, _, h1, h2, g.notF hn, g.notJ hn, by rw [eL]; exact Nat.ne_of_gt h3⟩
    · refine g_ea (capt x q) fun c h1 h2 => ?_
      refine g_eeaaaa (outer x (lookup_mem q)) fun c' ov e1 q3ₜ e3 e4 _ => ?_
      refine g_ea q3ₜ fun o ho hd => ?_
      clear q3ₜ
      rw [h2] at e1; cases e1
      exact ⟨c, ov, h1, ⟨o, hk c o ho, hd⟩, e3, e4, fun z => by rw [z, eL, hL] at ho; cases ho⟩
  · rcases entry y c (lookup_mem q) with ⟨⟨o, ho, _⟩, z, _⟩ | ⟨z1, z2⟩
    · have hn := fresh_none (h := s.heap) (a := c) (Nat.le_of_lt (by assumption))
      exact ⟨⟨o, ho⟩, g.notF hn, g.notJ hn⟩
    · refine g_a (w.cex y c z2) fun q0ₜ r => ?_
      refine g_e q0ₜ fun o ho => ?_
      clear q0ₜ
      exact ⟨⟨o, hk c o ho⟩, r⟩
  · rcases entry x c (lookup_mem q) with ⟨_, z1, _, z2⟩ | ⟨z1, z2⟩
    · rcases entry y c (lookup_mem q') with ⟨_, _, _, z3⟩ | ⟨_, z3⟩
      · exact congrArg Prod.fst (pair_eq ok.apart z2 z3 rfl)
      · refine g_a (w.cex y c z3) fun q0ₜ _ => ?_
        refine g_e q0ₜ fun o ho => ?_
        clear q0ₜ
        exact absurd (Heap.lt_size ho) (Nat.not_lt.mpr (Nat.le_of_lt z1))
    · rcases entry y c (lookup_mem q') with ⟨_, z3, _⟩ | ⟨_, z3⟩
      · refine g_a (w.cex x c z2) fun q0ₜ _ => ?_
        refine g_e q0ₜ fun o ho => ?_
        clear q0ₜ
        exact absurd (Heap.lt_size ho) (Nat.not_lt.mpr (Nat.le_of_lt z3))
      · exact w.inj x y c z2 z3
  · obtain ⟨h1, h2⟩ := inner_some q nofun
    refine g_ea (w.frz x d h2) fun v hv r => ?_
    exact ⟨v, atI _ v h1 hv, r.mono (fun _ q => q) (fun _ _ q => q) kF⟩
  · obtain ⟨h1, h2⟩ := inner_some q nofun
    refine g_eaa (w.own x d h2) fun v hv o f => ?_
    have hkf : ∀ a ∈ foot s.heap v, ∀ ob, s.heap.get? a = some ob → h'.get? a = some ob := fun a _ ob e => hk a ob e
    refine ⟨v, atI _ v h1 hv, o.mono0 kF hkf, fun a ha => ?_⟩
    replace ha := (o.foot_keep hkf) ▸ ha
    refine g_e (o.foot_ex a ha) fun ob hob => ?_
    exact freeI hob (f a ha)
  · obtain ⟨h1, h2⟩ := inner_some qx nofun
    obtain ⟨h3, h4⟩ := inner_some qy nofun
    refine g_eaa (w.own x d h2) fun v' hv' o f => ?_
    refine g_eaa (w.own y d' h4) fun u' hu' o' f' => ?_
    obtain rfl := Option.some.inj (At.unique hv (atI _ v' h1 hv'))
    obtain rfl := Option.some.inj (At.unique hu (atI _ u' h3 hu'))
    rw [o.foot_keep fun a _ ob e => hk a ob e, o'.foot_keep fun a _ ob e => hk a ob e]
    exact w.dis x y d d' v u hxy h2 h4 hv' hu'
  · refine g_eaa (ownl x hx) fun c h1 h2 h3 => ?_
    exact ⟨c, h1, fresh_none (Nat.le_of_lt h3)⟩
  · rcases entry y c (lookup_mem q) with ⟨_, z, _⟩ | ⟨z', z⟩
    · exact .inl (fresh_none (Nat.le_of_lt z))
    · exact .inr ⟨lookup_nodup C.nodup z', z⟩
  · refine g_eeeaa hb fun x d v q hv hf => ?_
    clear hb
    obtain ⟨h1, h2⟩ := inner_some q nofun
    refine g_eaa (w.own x d h2) fun v' hv' o f => ?_
    obtain rfl := Option.some.inj (At.unique hv (atI _ v' h1 hv'))
    replace hf := (o.foot_keep fun a _ ob e => hk a ob e) ▸ hf
    exact ⟨x, d, v, h2, hv', hf⟩

-- less may be known
theorem EnvOk.forget {V : View} {h : Heap} {env : Env} {σ σ' : Sto} (w : EnvOk G V h env σ) (hf : ∀ x, σ' x = σ x ∨ σ' x = .unb) : EnvOk G V h env σ' := by
  have key : ∀ {x : String} {e : Ent}, σ' x = e → e ≠ .unb → σ x = e := fun {x e} q hne => by
    rcases hf x with z | z
    · rw [← z]; exact q
    · rw [z] at q; exact absurd q.symm hne
  exact ⟨w.kind, w.glob, w.bui, w.loc, w.locF, w.locJ, w.cel, w.cex, w.inj, fun x d q => w.frz x d (key q nofun), fun x d q => w.own x d (key q nofun),
    fun x y d d' v u hxy qx qy => w.dis x y d d' v u hxy (key qx nofun) (key qy nofun)⟩
end

-- M16
section
variable {G : Cx} {n : Nat} {sc : Scope}

noncomputable abbrev Bd := Dat → Sto → Option Sto

-- what a target does with an item
structure BndOk (G : Cx) (scI : Scope) (target : Expr) (bd : Bd) (xs : List String) : Prop where
  other : ∀ d σ σ', bd d σ = some σ' → ∀ x, x ∉ xs → σ' x = σ x
  frz : ∀ d σ σ', bd d σ = some σ' → ∀ x ∈ xs, ∃ e, σ' x = .frz e
  run : ∀ (A : Around) (env : Env) (V : View) (σ : Sto) (I : MSt) (s : Shared) (it v : Value) (d : Dat) (σ' : Sto) (Q : Shared → Prop), env.scope = scI → A.handled = none → Good G V s I → EnvOk G V s.heap env σ → PlainIter s.heap it → Rep G V s.heap v d → bd d σ = some σ' →
    (∀ h' tk, (∀ b o, b ≠ env.locals → (∀ x ∈ xs, env.cells.lookup (Str.ofString x) ≠ some b) → s.heap.get? b = some o → h'.get? b = some o) → (∀ b o, s.heap.get? b = some o → ∃ o', h'.get? b = some o') → EnvOk G V h' env σ' → (∀ b, OwnA h' env σ' b → OwnA s.heap env σ b) → Q { s with heap := h', toks := tk }) →
    wpAny (Md G) A (letOwnedTupleGo target it v) (fun _ s₁ => wpAny (Md G) A (assign target env v) (fun _ s₂ => Q s₂) No s₁) No s

noncomputable def bdName (x : String) : Bd := fun d σ => some (σ.set x (.frz d))

set_option tactic.hygienic true in
theorem bnd_name {scI : Scope} {x : String} {p : Pos} (hk : KindOk scI x) : BndOk G scI (.Name (Str.ofString x) p) (bdName x) [x] := by
  refine ⟨fun d σ σ' h y hy => ?_, fun d σ σ' h y hy => ?_, fun A env V σ I s it v d σ' Q hs hh g w hp r h k => ?_⟩
  · cases h; exact if_neg (by simpa using hy)
  · cases h
    have : y = x := by simpa using hy
    subst this
    exact ⟨d, if_pos rfl⟩
  · cases h
    refine wpAny_pure (wpAny_assign_Name ?_)
    refine storeName_both w (by subst hs; exact hk) fun c oc h' tk hF hJ hc hsb ho hx hy hns hcel => ?_
    refine k h' tk (fun b o h1 h2 e => (hsb.2 b fun z => ?_).trans e) (fun b o e => SameBut.ex hsb ho b o e) (w.stored (e := .frz d) hF (hc.imp id fun q => ⟨_, q⟩) hsb ho hx hy hns hcel r) ?_
    · rcases hc with q | q
      · exact h1 (z.trans q)
      · exact h2 x (by simp) (z ▸ q)
    · intro b qₕ
      refine g_eeeaa qₕ fun y e u q hu hb => ?_
      unfold Sto.set at q
      split at q
      · cases q
      · rename_i hyx
        refine g_eaa (w.own y e q) fun u' hu' o f => ?_
        obtain rfl := Option.some.inj (At.unique hu (hy _ _ (fun z => hyx (ofString_inj z)) hu'))
        have hfk : foot h' u = foot s.heap u := o.foot_keep fun a ha ob q => (hsb.2 a fun z => by
          rcases hc with z' | z'
          · exact (f a ha).loc (z.trans z')
          · exact (f a ha).cel _ (z ▸ z')).trans q
        rw [hfk] at hb
        exact ⟨y, e, u, q, hu', hb⟩

-- the tests of a clause
inductive SoundTs (G : Cx) (n : Nat) (sc : Scope) : List Expr → Bv → Prop
  | nil : SoundTs G n sc [] (bvC true)
  | one {c : Expr} {f : Bv} : SoundT G n sc c f → SoundTs G n sc [c] f

noncomputable abbrev testsOf (ifs : List Expr) (env : Env) : Sem Bool := forIn ifs true fun c r => if r = true then do let ok ← isTrue c env (eval c env); pure (ForInStep.yield ok) else pure (ForInStep.yield r)

theorem SoundTs.use {ifs : List Expr} {f : Bv} (h : SoundTs G n sc ifs f) {A : Around} {env : Env} {V : View} {σ : Sto} {I : MSt} {s : Shared} {d : Bool} {I' : MSt} {Q : Bool → Shared → Prop}
    (hs : env.scope = sc) (r : Room A n) (g : Good G V s I) (w : EnvOk G V s.heap env σ) (hf : f σ I = some (d, I'))
    (k : ∀ V' s', Step V s V' s' → Good G V' s' I' → EnvOk G V' s'.heap env σ → Q d s') : wpAny (Md G) A (testsOf ifs env) Q No s := by
  cases h with
  | nil => cases hf; exact wpAny_tests_nil (k V s (Step.refl _ _) g w)
  | one h => exact wpAny_tests_one (h.use hs r g w hf k)

-- a clause's turns; what a turn hands on is a list
noncomputable def compG (bd : Bd) (ft : Bv) (fm : Iv) (σ : Sto) : List Dat → MSt → Option (List Dat × MSt)
  | [], I => some ([], I)
  | d :: ds, I => (bd d σ).bind fun σ' => (ft σ' I).bind fun p => cond p.1 ((fm σ' p.2).bind fun q => (compG bd ft fm σ ds q.2).bind fun r => some (q.1 ++ r.1, r.2)) (compG bd ft fm σ ds p.2)

-- the comprehension's own things

noncomputable def Tmp (eI : Env) (D : Addr) (xs : List String) (b : Addr) : Prop := b = D ∨ b = eI.locals ∨ ∃ x ∈ xs, eI.cells.lookup (Str.ofString x) = some b

structure StepC (T : Addr → Prop) (V : View) (s : Shared) (V' : View) (s' : Shared) : Prop where
  keep : ∀ b o, s.heap.get? b = some o → b ∉ V.J → ¬ T b → s'.heap.get? b = some o
  ex : ∀ b o, s.heap.get? b = some o → ∃ o', s'.heap.get? b = some o'
  fr : ∀ b, V.F b → V'.F b
  fnew : ∀ b, V'.F b → V.F b ∨ s.heap.get? b = none
  jp : ∀ (i : Nat) (a : Addr), V.J[i]? = some a → V'.J[i]? = some a
  jnew : ∀ b ∈ V'.J, b ∈ V.J ∨ s.heap.get? b = none

theorem Step.toC {T : Addr → Prop} {V V' : View} {s s' : Shared} (a : Step V s V' s') : StepC T V s V' s' := ⟨fun b o e hJ _ => a.keep b o e hJ, a.ex, a.fr, a.fnew, a.jp, a.jnew⟩
theorem StepC.trans {T : Addr → Prop} {V V₁ V₂ : View} {s s₁ s₂ : Shared} (a : StepC T V s V₁ s₁) (b : StepC T V₁ s₁ V₂ s₂) : StepC T V s V₂ s₂ where
  keep := fun x o e hJ hT => b.keep x o (a.keep x o e hJ hT) (fun q => by
    rcases a.jnew x q with q | q
    · exact hJ q
    · rw [e] at q; cases q) hT
  ex := fun x o e => let ⟨o', e'⟩ := a.ex x o e; b.ex x o' e'
  fr := fun x e => b.fr x (a.fr x e)
  fnew := fun x e => (b.fnew x e).elim (a.fnew x) fun q => .inr (none_back a.ex q)
  jp := fun i x e => b.jp i x (a.jp i x e)
  jnew := fun x e => (b.jnew x e).elim (a.jnew x) fun q => .inr (none_back a.ex q)
theorem StepC.mono {T T' : Addr → Prop} {V V' : View} {s s' : Shared} (a : StepC T V s V' s') (h : ∀ b, T b → T' b) : StepC T' V s V' s' := ⟨fun b o e hJ hT => a.keep b o e hJ fun q => hT (h b q), a.ex, a.fr, a.fnew, a.jp, a.jnew⟩

structure CB (s : Shared) (eI : Env) (D : Addr) (xs : List String) : Prop where
  dn : s.heap.get? D = none
  ln : s.heap.get? eI.locals = none
  dl : D ≠ eI.locals
  dc : ∀ y, eI.cells.lookup y ≠ some D
  xn : ∀ x ∈ xs, ∀ b, eI.cells.lookup (Str.ofString x) = some b → s.heap.get? b = none

theorem CB.tmp {s : Shared} {eI : Env} {D : Addr} {xs : List String} (c : CB s eI D xs) {b : Addr} (h : Tmp eI D xs b) : s.heap.get? b = none := by
  rcases h with rfl | rfl | ⟨x, hx, e⟩
  · exact c.dn
  · exact c.ln
  · exact c.xn x hx b e

-- what holds between the turns
structure CS (G : Cx) (V : View) (s : Shared) (eI : Env) (D : Addr) (σx : Sto) (V₅ : View) (s₅ : Shared) (I₅ : MSt) (out : List Dat) : Prop where
  st : Step V s V₅ s₅
  g : Good G V₅ s₅ I₅
  w : EnvOk G V₅ s₅.heap eI σx
  oo : ∀ b, OwnA s₅.heap eI σx b → ∃ o, s.heap.get? b = some o
  acc : ∃ ys k, s₅.heap.get? D = some { cls := .type "list", data := .seq ys k } ∧ Reps G V₅ s₅.heap ys.toList out
  dF : ¬ V₅.F D
  dJ : D ∉ V₅.J

section
variable {V V₅ V₆ : View} {s s₅ s₆ : Shared} {eI : Env} {D : Addr} {σx : Sto} {I₅ I₆ : MSt} {out : List Dat} {xs : List String}

theorem CS.tmp (c : CS G V s eI D σx V₅ s₅ I₅ out) {b : Addr} (h : Tmp eI D xs b) : ¬ V₅.F b ∧ b ∉ V₅.J := by
  rcases h with rfl | rfl | ⟨x, hx, e⟩
  · exact ⟨c.dF, c.dJ⟩
  · exact ⟨c.w.locF, c.w.locJ⟩
  · exact (c.w.cex _ b e).2

theorem CS.step (c : CS G V s eI D σx V₅ s₅ I₅ out) (a : Step V₅ s₅ V₆ s₆) (g₆ : Good G V₆ s₆ I₆) : CS G V s eI D σx V₆ s₆ I₆ out := by
  refine g_eea c.acc fun ys k ho rs => ?_
  refine ⟨c.st.trans a, g₆, c.w.step a c.g, fun b q => c.oo b (c.w.own_step a q), ⟨ys, k, a.keep D _ ho c.dJ, rs.step a c.g⟩, fun q => ?_, fun q => ?_⟩
  · rcases a.fnew D q with z | z
    · exact c.dF z
    · rw [ho] at z; cases z
  · rcases a.jnew D q with z | z
    · exact c.dJ z
    · rw [ho] at z; cases z

-- less is known of the names
theorem CS.forget (c : CS G V s eI D σx V₅ s₅ I₅ out) {σ : Sto} (h : ∀ x, σ x = σx x ∨ σ x = .unb) : CS G V s eI D σ V₅ s₅ I₅ out :=
  ⟨c.st, c.g, c.w.forget h, fun b ⟨x, d, v, q1, q2, q3⟩ => c.oo b ⟨x, d, v, (h x).elim (fun z => z ▸ q1) fun z => (by rw [z] at q1; cases q1), q2, q3⟩, c.acc, c.dF, c.dJ⟩

-- the heap has changed in temporary things and in things unknown before the comprehension
theorem CS.moved {wr : Addr → Prop} {σ' : Sto} {h : Heap} {tk : Nat} (c : CS G V s eI D σx V₅ s₅ I₅ out) (hk : ∀ b o, ¬ wr b → s₅.heap.get? b = some o → h.get? b = some o) 
    (hwF : ∀ b, wr b → ¬ V₅.F b ∧ b ∉ V₅.J) (hwn : ∀ b, wr b → s.heap.get? b = none) (hwD : ¬ wr D) (w' : EnvOk G V₅ h eI σ') (ho : ∀ b, OwnA h eI σ' b → ∃ o, s.heap.get? b = some o) :
    CS G V s eI D σ' V₅ { s₅ with heap := h, toks := tk } I₅ out := by
  refine g_eea c.acc fun ys k hD rs => ?_
  have kF : KeepF V₅ s₅.heap h := fun b o q e => hk b o (fun z => (hwF b z).1 q) e
  refine ⟨⟨c.st.gens, c.st.os, fun b o e hJ => hk b o (fun z => by rw [hwn b z] at e; cases e) (c.st.keep b o e hJ), fun b o e => ?_, c.st.fr, c.st.fnew, c.st.jp, c.st.jnew⟩,
    ⟨fun b o e => ⟨(c.g.base b o e).1, kF b o (c.g.base b o e).1 (c.g.base b o e).2⟩, c.g.st.keeps fun b hb o e => hk b o (fun z => (hwF b z).2 hb) e, fun b e => let ⟨o, q⟩ := c.g.ex b e; ⟨o, kF b o e q⟩⟩, w', ho, ⟨ys, k, hk D _ hwD hD, rs.mono (fun _ q => q) (fun _ _ q => q) kF⟩, c.dF, c.dJ⟩
  refine g_e (c.st.ex b o e) fun o' e' => ?_
  exact ⟨o', hk b o' (fun z => by rw [hwn b z] at e; cases e) e'⟩
end

-- an iterator over ds, with the target that takes its items
noncomputable def Itr (G : Cx) (A : Around) (V : View) (s : Shared) (eI : Env) (D : Addr) (xs : List String) (σx : Sto) (target : Expr) (bd : Bd) (it : Value) (ds : List Dat) (V₂ : View) (s₂ : Shared) (W : Addr → Prop) : Prop :=
  ∃ St : Nat → Heap → Prop, St 0 s₂.heap ∧
    (∀ i V₅ s₅ I₅ σ₅ out V₆ s₆, CS G V s eI D σ₅ V₅ s₅ I₅ out → StepC (fun b => Tmp eI D xs b ∨ W b) V₂ s₂ V₅ s₅ → StepC (Tmp eI D xs) V₅ s₅ V₆ s₆ → St i s₅.heap → St i s₆.heap) ∧
    (∀ i d V₅ s₅ I₅ out σ' (Q' : Option Value → Shared → Prop), ds[i]? = some d → bd d σx = some σ' → St i s₅.heap → CS G V s eI D σx V₅ s₅ I₅ out → StepC (fun b => Tmp eI D xs b ∨ W b) V₂ s₂ V₅ s₅ →
      (∀ v s₁, (∀ (Q : Shared → Prop), (∀ h tk, CS G V s eI D σ' V₅ { s₅ with heap := h, toks := tk } I₅ out → St (i + 1) h → StepC (fun b => Tmp eI D xs b ∨ W b) V₂ s₂ V₅ { s₅ with heap := h, toks := tk } → Q { s₅ with heap := h, toks := tk }) →
        wpAny (Md G) A (letOwnedTupleGo target it v) (fun _ s₁' => wpAny (Md G) A (assign target eI v) (fun _ s₃ => Q s₃) No s₁') No s₁) → Q' (some v) s₁) → wpAny (Md G) A (pyNext it) Q' No s₅) ∧
    (∀ V₅ s₅ I₅ out (Q : Option Value → Shared → Prop), St ds.length s₅.heap → CS G V s eI D σx V₅ s₅ I₅ out → StepC (fun b => Tmp eI D xs b ∨ W b) V₂ s₂ V₅ s₅ →
      (∀ h tk, CS G V s eI D σx V₅ { s₅ with heap := h, toks := tk } I₅ out → (∀ b o, ¬ W b → s₅.heap.get? b = some o → h.get? b = some o) → Q none { s₅ with heap := h, toks := tk }) → wpAny (Md G) A (pyNext it) Q No s₅) ∧
    (∀ i (s' : Shared) (Q : Value → Shared → Prop) (E : Value → Shared → Prop), St i s'.heap → Q it s' → wpAny (Md G) A (pyIter it) Q E s')

theorem Itr.plain {A : Around} {V V₂ : View} {s s₂ : Shared} {eI : Env} {D : Addr} {xs xs1 : List String} {σx : Sto} {target : Expr} {bd : Bd} {it : Value} {ds : List Dat} {scI : Scope} {Ia : Addr} {fp wr : List Addr} {P : Nat → Value → Prop} {St : Nat → Heap → Prop}
    (cb : CB s eI D xs) (hx1 : ∀ x ∈ xs1, x ∈ xs) (hsI : eI.scope = scI) (hh : A.handled = none) (hb : BndOk G scI target bd xs1) (hIt : it = .ref Ia) (W : Walks G.prog G.w A Ia fp wr ds.length P St) (hst : St 0 s₂.heap)
    (hfp : ∀ b ∈ fp, V₂.F b ∨ b ∈ wr) (hwr : ∀ b ∈ wr, ¬ V₂.F b ∧ b ∉ V₂.J ∧ s.heap.get? b = none ∧ b ≠ D ∧ b ≠ eI.locals ∧ ∀ y, eI.cells.lookup y ≠ some b) (hex : ∀ i h', St i h' → ∀ b ∈ wr, ∃ o, h'.get? b = some o)
    (hP : ∀ i v, P i v → ∃ d, ds[i]? = some d ∧ Rep G V₂ s₂.heap v d) (hpl : ∀ i h', St i h' → PlainIter h' it) (g₂ : ∃ I₂, Good G V₂ s₂ I₂) : Itr G A V s eI D xs σx target bd it ds V₂ s₂ (· ∈ wr) := by
  subst hIt
  have wr5 : ∀ {V₅ : View} {s₅ : Shared}, StepC (fun b => Tmp eI D xs b ∨ b ∈ wr) V₂ s₂ V₅ s₅ → ∀ b ∈ wr, ¬ V₅.F b ∧ b ∉ V₅.J := fun {V₅ s₅} a b hb' => by
    refine g_e (hex 0 _ hst b hb') fun o e => ?_
    refine ⟨fun q => ?_, fun q => ?_⟩
    · rcases a.fnew b q with z | z
      · exact (hwr b hb').1 z
      · rw [e] at z; cases z
    · rcases a.jnew b q with z | z
      · exact (hwr b hb').2.1 z
      · rw [e] at z; cases z
  have notT : ∀ b ∈ wr, ¬ Tmp eI D xs b := fun b hb' q => by
    refine g_aaaaa (hwr b hb') fun _ _ _ h1 h2 h3 => ?_
    rcases q with q | q | ⟨x, _, q⟩
    · exact h1 q
    · exact h2 q
    · exact h3 _ q
  have wl : eI.locals ∉ wr := fun q => (hwr _ q).2.2.2.2.1 rfl
  have wc : ∀ y c, eI.cells.lookup y = some c → c ∉ wr := fun y c e q => (hwr c q).2.2.2.2.2 y e
  have wD : D ∉ wr := fun q => (hwr D q).2.2.2.1 rfl
  have ownW : ∀ {σ₅ : Sto} {V₅ : View} {s₅ : Shared} {I₅ : MSt} {out : List Dat}, CS G V s eI D σ₅ V₅ s₅ I₅ out → ∀ b, OwnA s₅.heap eI σ₅ b → b ∉ wr := fun {σ₅ V₅ s₅ I₅ out} c b q z => by
    refine g_e (c.oo b q) fun o e => ?_
    rw [(hwr b z).2.2.1] at e; cases e
  refine ⟨St, hst, fun i V₅ s₅ I₅ σ₅ out V₆ s₆ c a₀ a hs => W.frame _ _ _ hs fun b hb' o e => ?_, fun i d V₅ s₅ I₅ out σ' Q' hd hbd hs c a kk => ?_, fun V₅ s₅ I₅ out Q hs c a k => ?_, fun i s' Q E hs q => W.self i s' Q E hs q⟩
  · rcases hfp b hb' with q | q
    · exact a.keep b o e (fun z => c.g.st.apart b z (a₀.fr b q)) fun z => (c.tmp z).1 (a₀.fr b q)
    · exact a.keep b o e (wr5 a₀ b q).2 (notT b q)
  · have hlt : i < ds.length := (List.getElem?_eq_some_iff.mp hd).1
    refine W.item i s₅ _ _ hlt hs fun v h₆ tk₆ hPv hst₆ hk₆ => kk v _ fun Q k => ?_
    have w₆ : EnvOk G V₅ h₆ eI σx := c.w.other hk₆ (fun b q => (wr5 a b q).1) wl wc (ownW c)
    have x₆ : ∀ b o, s₅.heap.get? b = some o → ∃ o', h₆.get? b = some o' := fun b o e => by
      by_cases q : b ∈ wr
      · exact hex _ _ hst₆ b q
      · exact ⟨o, hk₆ b o q e⟩
    have c₆ : CS G V s eI D σx V₅ { s₅ with heap := h₆, toks := tk₆ } I₅ out := c.moved (wr := (· ∈ wr)) hk₆ (wr5 a) (fun b q => (hwr b q).2.2.1) wD w₆ fun b q => c.oo b (OwnA.other c.w hk₆ wl wc (ownW c) q)
    have a₆ : StepC (fun b => Tmp eI D xs b ∨ b ∈ wr) V₂ s₂ V₅ { s₅ with heap := h₆, toks := tk₆ } := a.trans ⟨fun b o e _ nT => hk₆ b o (fun z => nT (.inr z)) e, x₆, fun _ q => q, fun _ q => .inl q, fun _ _ q => q, fun _ q => .inl q⟩
    refine g_ea (hP i v hPv) fun d' hd' rd => ?_
    rw [hd] at hd'; cases hd'
    refine g_e g₂ fun I₂ g₂ => ?_
    have kF26 : KeepF V₂ s₂.heap h₆ := fun b o q e => a₆.keep b o e (fun z => g₂.st.apart b z q) fun z => by
      rcases z with z | z
      · exact (c₆.tmp z).1 (a.fr b q)
      · exact (hwr b z).1 q
    refine hb.run A eI V₅ σx I₅ { s₅ with heap := h₆, toks := tk₆ } (.ref Ia) v d σ' _ hsI hh c₆.g w₆ (hpl _ _ hst₆) (rd.mono a.fr a.jp kF26) hbd fun h₇ tk₇ hk₇ hx₇ w₇ hoa₇ => ?_
    have tm : ∀ b, ¬ (b = eI.locals ∨ ∃ x ∈ xs1, eI.cells.lookup (Str.ofString x) = some b) → b ≠ eI.locals ∧ ∀ x ∈ xs1, eI.cells.lookup (Str.ofString x) ≠ some b := fun b h => ⟨fun q => h (.inl q), fun x hx q => h (.inr ⟨x, hx, q⟩)⟩
    have toT : ∀ b, (b = eI.locals ∨ ∃ x ∈ xs1, eI.cells.lookup (Str.ofString x) = some b) → Tmp eI D xs b := fun b h => .inr (h.imp id fun ⟨x, hx, e⟩ => ⟨x, hx1 x hx, e⟩)
    have k₇ : ∀ b o, ¬ (b = eI.locals ∨ ∃ x ∈ xs1, eI.cells.lookup (Str.ofString x) = some b) → h₆.get? b = some o → h₇.get? b = some o := fun b o nb e => hk₇ b o (tm b nb).1 (tm b nb).2 e
    have c₇ := c₆.moved (tk := tk₇) (wr := fun b => b = eI.locals ∨ ∃ x ∈ xs1, eI.cells.lookup (Str.ofString x) = some b) k₇ (fun b q => c₆.tmp (toT b q)) (fun b q => cb.tmp (toT b q))
      (fun q => by rcases q with q | ⟨x, _, q⟩; exact cb.dl q; exact cb.dc _ q) w₇ fun b q => c₆.oo b (hoa₇ b q)
    have s67 : StepC (Tmp eI D xs) V₅ { s₅ with heap := h₆, toks := tk₆ } V₅ { s₅ with heap := h₇, toks := tk₇ } := ⟨fun b o e _ nT => k₇ b o (fun q => nT (toT b q)) e, hx₇, fun _ q => q, fun _ q => .inl q, fun _ _ q => q, fun _ q => .inl q⟩
    refine k h₇ tk₇ c₇ (W.frame _ _ _ hst₆ fun b hb' o e => ?_) (a₆.trans (s67.mono fun b q => .inl q))
    rcases hfp b hb' with q | q
    · exact s67.keep b o e (fun z => c₆.g.st.apart b z (a.fr b q)) fun z => (c₆.tmp z).1 (a.fr b q)
    · exact s67.keep b o e (wr5 a b q).2 (notT b q)
  · refine W.done s₅ _ _ hs fun h₆ tk₆ hk₆ => ?_
    have w₆ : EnvOk G V₅ h₆ eI σx := c.w.other hk₆ (fun b q => (wr5 a b q).1) wl wc (ownW c)
    exact k h₆ tk₆ (c.moved (wr := (· ∈ wr)) hk₆ (wr5 a) (fun b q => (hwr b q).2.2.1) wD w₆ fun b q => c.oo b (OwnA.other c.w hk₆ wl wc (ownW c) q)) hk₆

-- a turn's code
noncomputable abbrev bodyOf (e : Expr) (dep : Nat) (ifs : List Expr) (emit : Sem Unit) (it acc : Value) (env : Env) : Sem Fin := (do
  let ok ← testsOf ifs env
  if ok then emit
  again (.compLoop e dep it acc env))
noncomputable abbrev turnOf (e : Expr) (dep : Nat) (target : Expr) (ifs : List Expr) (ip : Pos) (emit : Sem Unit) (it acc : Value) (env : Env) : Sem Fin := (do
  standAt ip
  match ← pyNext it with
  | none => pure (.done .next)
  | some v =>
    letOwnedTupleGo target it v
    assign target env v
    bodyOf e dep ifs emit it acc env)

noncomputable def TurnPost (c : Code) (R : Result → Shared → Prop) (J : Nat → Shared → Prop) (k : Nat) : Fin → Shared → Prop := fun fin s' => match fin with
  | .done f => R (.ok f) s'
  | .again c' => c' = c ∧ ∃ m, m < k ∧ J m s'

inductive CompI (G : Cx) (V : View) (s : Shared) (eI : Env) (D : Addr) (σx : Sto) (T : Addr → Prop) (V₂ : View) (s₂ : Shared) (St : Nat → Heap → Prop) (c : List Dat → MSt → Option (List Dat × MSt)) (ds res : List Dat) (I' : MSt) (k : Nat) (s₅ : Shared) : Prop
  | mk (i : Nat) (V₅ : View) (I₅ : MSt) (out rest : List Dat) (hi : i ≤ ds.length) (hk : k = ds.length - i + 1) (hs : St i s₅.heap) (cs : CS G V s eI D σx V₅ s₅ I₅ out) (a : StepC T V₂ s₂ V₅ s₅) (hc : c (ds.drop i) I₅ = some (rest, I')) (hr : out ++ rest = res)

theorem loop_gen {A : Around} {V V₂ : View} {s s₂ : Shared} {eI : Env} {D : Addr} {xs xs1 : List String} {σx : Sto} {target : Expr} {ifs : List Expr} {ip : Pos} {emit : Sem Unit} {e : Expr} {dep : Nat} {bd : Bd} {ft : Bv} {fm : Iv} {it : Value} {ds out0 res : List Dat} {I₂ I' : MSt} {scI : Scope} {W : Addr → Prop} {R : Result → Shared → Prop}
    (hund : A.under (.compLoop e dep it (.ref D) eI) = A) (heq : (Md G).den (.compLoop e dep it (.ref D) eI) = (turnOf e dep target ifs ip emit it (.ref D) eI).onRaise (fun x => do noteFrame x eI; theTreesLotGoes x)) (rm : Room A n) (hsI : eI.scope = scI) (hot : ∀ d σ', bd d σx = some σ' → ∀ x, x ∉ xs1 → σ' x = σx x) (hun : ∀ x ∈ xs1, σx x = .unb)
    (ht : SoundTs G n scI ifs ft) (c₂ : CS G V s eI D σx V₂ s₂ I₂ out0) (hI : Itr G A V s eI D xs σx target bd it ds V₂ s₂ W) (hf : compG bd ft fm σx ds I₂ = some (res, I'))
    (hE : ∀ d σ' I₁ rs I₃ V₈ s₈ out8, bd d σx = some σ' → fm σ' I₁ = some (rs, I₃) → CS G V s eI D σ' V₈ s₈ I₁ out8 → (out8 ++ rs).length ≤ (out0 ++ res).length → wpAny (Md G) A emit (fun _ s₉ => ∃ V₉, CS G V s eI D σ' V₉ s₉ I₃ (out8 ++ rs) ∧ StepC (Tmp eI D xs) V₈ s₈ V₉ s₉) No s₈)
    (hQ : ∀ V₅ s₅ h tk, StepC (fun b => Tmp eI D xs b ∨ W b) V₂ s₂ V₅ s₅ → (∀ b o, ¬ W b → s₅.heap.get? b = some o → h.get? b = some o) → CS G V s eI D σx V₅ { s₅ with heap := h, toks := tk } I' (out0 ++ res) → R (.ok .next) { s₅ with heap := h, toks := tk }) :
    codeAny (Md G) A (.compLoop e dep it (.ref D) eI) R s₂ := by
  refine g_eaaaa hI fun St hst hfr hit hdone _ => ?_
  refine codeAny_loop rfl (CompI G V s eI D σx (fun b => Tmp eI D xs b ∨ W b) V₂ s₂ St (compG bd ft fm σx) ds (out0 ++ res) I') (fun k s₅ hJ => ?_) (ds.length - 0 + 1)
    ⟨0, V₂, I₂, out0, res, Nat.zero_le _, rfl, hst, c₂, ⟨fun _ _ q _ _ => q, fun _ o q => ⟨o, q⟩, fun _ q => q, fun _ q => .inl q, fun _ _ q => q, fun _ q => .inl q⟩, hf, rfl⟩
  obtain ⟨i, V₅, I₅, out, rest, hi, rfl, hs₅, c₅, a₅, hcl, hres⟩ := hJ
  rw [hund, heq]
  refine wpAny_noted (wpAny_no ?_)
  refine wpAny_bind (wpAny_standAt (wpAny_bind ?_))
  by_cases hlt : i < ds.length
  · have hdrop : ds.drop i = ds[i] :: ds.drop (i + 1) := List.drop_eq_getElem_cons hlt
    replace hcl := (hdrop) ▸ hcl
    refine bind_go hcl fun σ' ebd hcl => bind_go2 hcl fun bt I₈ et hcl => ?_
    have fg : ∀ x, σx x = σ' x ∨ σx x = .unb := fun x => by
      by_cases hx : x ∈ xs1
      · exact .inr (hun x hx)
      · exact .inl (hot _ _ ebd x hx).symm
    have hlt' : ds.length - (i + 1) + 1 < ds.length - i + 1 := Nat.succ_lt_succ (Nat.sub_succ_lt_self _ _ hlt)
    refine hit i ds[i] V₅ s₅ I₅ out σ' _ (List.getElem?_eq_getElem hlt) ebd hs₅ c₅ a₅ fun v s₁ run => ?_
    refine wpAny_bind (wpAny_mono (run (fun s₃ => wpAny (Md G) A (bodyOf e dep ifs emit it (.ref D) eI) (TurnPost (.compLoop e dep it (.ref D) eI) R (CompI G V s eI D σx (fun b => Tmp eI D xs b ∨ W b) V₂ s₂ St (compG bd ft fm σx) ds (out0 ++ res) I') (ds.length - i + 1)) No s₃) fun h tk c₇ hs₇ a₇ => ?_) (fun _ s₁' q' => wpAny_bind q') fun _ _ x => x)
    refine wpAny_bind ?_
    refine ht.use hsI rm c₇.g c₇.w et fun V₈ s₈ st₈ g₈ w₈ => ?_
    have c₈ := c₇.step st₈ g₈
    have s78 : StepC (Tmp eI D xs) V₅ { s₅ with heap := h, toks := tk } V₈ s₈ := st₈.toC
    cases bt with
    | false => exact wpAny_pure ⟨rfl, ds.length - (i + 1) + 1, hlt', i + 1, V₈, I₈, out, rest, hlt, rfl, hfr _ _ _ _ _ _ _ _ c₇ a₇ s78 hs₇, c₈.forget fg, a₇.trans (s78.mono fun b q => .inl q), hcl, hres⟩
    | true =>
      refine bind_go2 hcl fun rs I₉ ee hcl => bind_go2 hcl fun rr I₁₀ ec hcl => ?_
      replace ec := ec.trans (congrArg (fun z => some (rr, z)) (congrArg Prod.snd (Option.some.inj hcl) : I₁₀ = I'))
      have hres' : (out ++ rs) ++ rr = out0 ++ res := ((List.append_assoc ..).trans (congrArg (out ++ ·) (congrArg Prod.fst (Option.some.inj hcl) : rs ++ rr = rest))).trans hres
      refine wpAny_bind (wpAny_mono (hE _ _ _ _ _ _ _ _ ebd ee c₈ (by rw [← hres']; simp)) (fun _ s₉ q => ?_) fun _ _ x => x)
      refine g_ea q fun V₉ c₉ s89 => ?_
      have s79 := s78.trans s89
      exact wpAny_pure ⟨rfl, ds.length - (i + 1) + 1, hlt', i + 1, V₉, I₉, out ++ rs, rr, hlt, rfl, hfr _ _ _ _ _ _ _ _ c₇ a₇ s79 hs₇, c₉.forget fg, a₇.trans (s79.mono fun b q => .inl q), ec, hres'⟩
  · have hie : i = ds.length := by omega
    subst hie
    replace hcl := (List.drop_length) ▸ hcl
    cases hcl
    rw [List.append_nil] at hres
    exact hdone V₅ s₅ I' out _ hs₅ c₅ a₅ fun h tk c hk => wpAny_pure (hQ V₅ s₅ h tk a₅ hk (hres ▸ c))
end

-- M17
section
variable {G : Cx} {n : Nat} {sc : Scope}

-- a clause: what is gone through, and the target that takes it
structure SoundIt (G : Cx) (n : Nat) (sc scI : Scope) (iter target : Expr) (fi : Iv) (bd : Bd) (xs : List String) : Prop where
  other : ∀ d σ σ', bd d σ = some σ' → ∀ x, x ∉ xs → σ' x = σ x
  run : ∀ (A : Around) (env : Env) (V : View) (σ : Sto) (I : MSt) (s : Shared) (ds : List Dat) (I' : MSt),
    env.scope = sc → Room A n → Good G V s I → EnvOk G V s.heap env σ → fi σ I = some (ds, I') →
    wpAny (Md G) A (eval iter env) (fun x s₁ => wpAny (Md G) A (pyIter x) (fun it s₂ => ∃ V₂ W, Step V s V₂ s₂ ∧ Good G V₂ s₂ I' ∧ (∀ b, W b → s.heap.get? b = none ∧ ∃ o, s₂.heap.get? b = some o) ∧
      ∀ (V₀ : View) (s₀ : Shared) (eI : Env) (D : Addr) (ys : List String) (σx : Sto) (s₄ : Shared), CB s₀ eI D ys → (∀ x ∈ xs, x ∈ ys) → eI.scope = scI → (∀ b, W b → s₀.heap.get? b = none ∧ b ≠ D ∧ b ≠ eI.locals ∧ ∀ y, eI.cells.lookup y ≠ some b) → Step V₂ s₂ V₂ s₄ → (∃ J, Good G V₂ s₄ J) →
        Itr G A V₀ s₀ eI D ys σx target bd it ds V₂ s₄ W) No s₁) No s

theorem SoundIt.plain {scI : Scope} {iter target : Expr} {fi : Iv} {bd : Bd} {xs : List String} (hi : SoundI G n sc iter fi) (hb : BndOk G scI target bd xs) : SoundIt G n sc scI iter target fi bd xs where
  other := hb.other
  run := fun A env V σ I s ds I' hs rm g w e => by
    refine wpAny_mono (hi.run A env V σ I s ds I' hs rm g w e) (fun x s₁ q => wpAny_mono q (fun it s₂ q => ?_) fun _ _ x => x) fun _ _ x => x
    obtain ⟨V₂, st₂, g₂, Ia, fp, wr, P, St, rfl, W, hst, hfp, hwr, hex, hP, hpl⟩ := q
    refine ⟨V₂, (· ∈ wr), st₂, g₂, fun b hb' => ⟨(hwr b hb').1, hex 0 _ hst b hb'⟩, fun V₀ s₀ eI D ys σx s₄ cb hx hsI hW st₄ g₄ => ?_⟩
    have kf := st₄.keepF g₂
    have kk : ∀ b, V₂.F b ∨ b ∈ wr → ∀ o, s₂.heap.get? b = some o → s₄.heap.get? b = some o := fun b hb' o e => hb'.elim (fun q => kf b o q e) fun q => st₄.keep b o e (hwr b q).2.2
    refine Itr.plain cb hx hsI rm.handled hb rfl W (W.frame _ _ _ hst fun b hb' o e => kk b (hfp b hb') o e) hfp (fun b hb' => ⟨(hwr b hb').2.1, (hwr b hb').2.2, hW b hb'⟩) hex (fun i v hv => ?_) hpl g₄
    refine g_ea (hP i v hv) fun d hd rd => ?_
    exact ⟨d, hd, rd.mono (fun _ q => q) (fun _ _ q => q) kf⟩

-- the state behind a comprehension's loop
structure CompEnd (G : Cx) (V : View) (s : Shared) (I' : MSt) (res : List Dat) (C D : Addr) (s' : Shared) (V' : View) : Prop where
  st : Step V s V' s'
  g : Good G V' s' I'
  ns : ∃ m, s'.heap.Ns C m
  own : Own G V' s'.heap (.ref D) (.list res)
  dn : s.heap.get? D = none ∧ ¬ V'.F D ∧ D ∉ V'.J
  cn : s.heap.get? C = none ∧ ¬ V'.F C ∧ C ∉ V'.J
  ne : D ≠ C

theorem CS.fin {V V₅ : View} {s s₅ : Shared} {eI : Env} {D : Addr} {σx : Sto} {I₅ : MSt} {out : List Dat} {xs : List String} (c : CS G V s eI D σx V₅ s₅ I₅ out) (cb : CB s eI D xs) : CompEnd G V s I₅ out eI.locals D s₅ V₅ := by
  refine g_eea c.acc fun ys k ho rs => ?_
  exact ⟨c.st, c.g, c.w.loc, .list ⟨k, ho⟩ rs, ⟨cb.dn, c.dF, c.dJ⟩, ⟨cb.ln, c.w.locF, c.w.locJ⟩, cb.dl⟩

theorem CompEnd.gone {V V' : View} {s s' : Shared} {I' : MSt} {res : List Dat} {C D : Addr} {h' : Heap} (c : CompEnd G V s I' res C D s' V') (hs : Heap.SameBut C s'.heap h') :
    Step V s V' { s' with heap := h' } ∧ Good G V' { s' with heap := h' } I' ∧ Own G V' h' (.ref D) (.list res) ∧ foot h' (.ref D) = [D] := by
  have kF : KeepF V' s'.heap h' := keepF_sameBut hs c.cn.2.1
  have hfoot : foot s'.heap (.ref D) = [D] := by
    cases c.own with
    | list hl hs => obtain ⟨k, e⟩ := hl; simp [foot, e]
  have hkf : ∀ a ∈ foot s'.heap (.ref D), ∀ o, s'.heap.get? a = some o → h'.get? a = some o := fun a ha o e => by
    replace ha := (hfoot) ▸ ha
    have : a = D := by simpa using ha
    subst this
    exact (hs.2 a c.ne).trans e
  have nC : ∀ b o, s.heap.get? b = some o → b ≠ C := fun b o e q => by rw [q, c.cn.1] at e; cases e
  refine ⟨⟨c.st.gens, c.st.os, fun b o e hJ => (hs.2 b (nC b o e)).trans (c.st.keep b o e hJ), fun b o e => ?_, c.st.fr, c.st.fnew, c.st.jp, c.st.jnew⟩, c.g.other (wr := [C]) (fun b o q e => (hs.2 b (by simpa using q)).trans e) (fun b q => ?_) (fun b q => ?_), c.own.mono0 kF hkf, ?_⟩
  · obtain ⟨o', e'⟩ := c.st.ex b o e
    exact ⟨o', (hs.2 b (nC b o e)).trans e'⟩
  · have : b = C := by simpa using q
    exact this ▸ c.cn.2.1
  · have : b = C := by simpa using q
    exact this ▸ c.cn.2.2
  · rw [c.own.foot_keep hkf, hfoot]

-- the comprehension's block and list are laid
theorem comp_start {A : Around} {env : Env} {V V₂ : View} {σ : Sto} {I₁ : MSt} {s s₂ : Shared} {it : Value} {e : Expr} {scope : Scope} {xs : List String}
    (C : CompOk scope sc) (hs : env.scope = sc) {I : MSt} (g : Good G V s I) (w : EnvOk G V s.heap env σ) (st₂ : Step V s V₂ s₂) (g₂ : Good G V₂ s₂ I₁) (hxs : ∀ x ∈ xs, scope.names.lookup (Str.ofString x) = some .local ∨ scope.names.lookup (Str.ofString x) = some .cell)
    {Q : Value → Addr → Result → Shared → Prop} (k : ∀ eI D s₄, CB s eI D xs → eI.scope = relab scope sc → Step V₂ s₂ V₂ s₄ → CS G V s eI D (inner scope σ) V₂ s₄ I₁ [] → (∀ b o, s.heap.get? b = none → s₂.heap.get? b = some o → b ≠ D ∧ b ≠ eI.locals ∧ ∀ y, eI.cells.lookup y ≠ some b) → (∀ x ∈ xs, inner scope σ x = .unb) →
      codeAny (Md G) A (.compStart e 0 it (.ref D) eI) (Q (.ref D) eI.locals) s₄) :
    wpAny (Md G) A (newList []) (fun acc s₃ => wpAny (Md G) A (newFunctionEnv scope env.globals (closFrom env.cells scope.names []) [] env.qual none .none (some env)) (fun cenv s₄ =>
        codeAny (Md G) A (.compStart e 0 it acc { cenv with scope := relabel scope env }) (Q acc cenv.locals) s₄) No s₃) No s₂ := by
  refine wpAny_newObj_type ?_
  have w₂ := w.step st₂ g
  generalize hlo : ({ cls := .type "list", dict := none, data := .seq ([] : List Value).toArray } : Obj) = lo
  have hD : s₂.heap.get? s₂.heap.objs.size = none := get_size _
  generalize hDe : s₂.heap.objs.size = D at hD ⊢
  have st₃ : Step V₂ s₂ V₂ { s₂ with heap := s₂.heap.push lo } := Step.push V₂ s₂ lo s₂.toks
  have g₃ : Good G V₂ { s₂ with heap := s₂.heap.push lo } I₁ := g₂.push lo s₂.toks
  have w₃ : EnvOk G V₂ (s₂.heap.push lo) env σ := w₂.step st₃ g₂
  have hDo : (s₂.heap.push lo).get? D = some lo := by subst hDe; subst hlo; exact Heap.get?_push_size _ rfl
  have k23 : ∀ b o, s₂.heap.get? b = some o → (s₂.heap.push lo).get? b = some o := fun b o e => Heap.get?_push_of_some _ e
  generalize hH3 : s₂.heap.push lo = H3 at st₃ g₃ w₃ hDo k23 ⊢
  refine wpAny_compEnv ?_
  refine (relabel_eq hs) ▸ ?_
  show codeAny (Md G) A (.compStart _ 0 it (.ref D) (envI scope sc env H3)) (Q (.ref D) (envI scope sc env H3).locals) _
  refine g_aaaa (enter_comp (s := { s₂ with heap := H3 }) C hs g₃ w₃ rfl) fun hk4 w₄ hown4 hcel4 hoa4 => ?_
  dsimp only at hk4 w₄ hown4 hcel4 hoa4 ⊢
  generalize hH4 : pushCells (H3.push { cls := .type "dict", data := .dict #[] }) scope.names = H4 at hk4 w₄ hown4 hcel4 hoa4 ⊢
  have hLe : (envI scope sc env H3).locals = H3.objs.size := rfl
  have hsI : (envI scope sc env H3).scope = relab scope sc := rfl
  generalize envI scope sc env H3 = eI at w₄ hown4 hcel4 hoa4 hLe hsI ⊢
  have hLn : H3.get? eI.locals = none := by rw [hLe]; exact get_size _
  have k24 : ∀ b o, s₂.heap.get? b = some o → H4.get? b = some o := fun b o e => hk4 b o (k23 b o e)
  have sn : ∀ b, H3.get? b = none → s.heap.get? b = none := fun b e => none_back st₂.ex (none_back (fun b o q => ⟨o, k23 b o q⟩) e)
  have st₄ : Step V₂ s₂ V₂ { s₂ with heap := H4 } := ⟨rfl, rfl, fun b o e _ => k24 b o e, fun b o e => ⟨o, k24 b o e⟩, fun _ q => q, fun _ q => .inl q, fun _ _ q => q, fun _ q => .inl q⟩
  have cb : CB s eI D xs := by
    refine ⟨none_back st₂.ex hD, sn _ hLn, (fun q => by rw [← q, hDo] at hLn; cases hLn), fun y q => ?_, fun x hx b q => ?_⟩
    · rcases hcel4 y D q with z | ⟨_, z⟩
      · rw [hDo] at z; cases z
      · refine g_a (w₂.cex y D z) fun q0ₜ _ => ?_
        refine g_e q0ₜ fun o e' => ?_
        exact none_ne ((hD).symm.trans e')
    · rcases hcel4 _ b q with z | ⟨z, _⟩
      · exact sn b z
      · rcases hxs x hx with kx | kx <;> rw [z] at kx <;> cases kx
  refine k eI D { s₂ with heap := H4 } cb hsI st₄ ⟨st₂.trans st₄, g₂.keeps fun b o e => k24 b o e, w₄, fun b q => ?_, ⟨#[], 0, hk4 _ _ (by rw [hDo, ← hlo]), .nil⟩, g₂.notF hD, g₂.notJ hD⟩ (fun b o hn e => ⟨fun q => ?_, fun q => ?_, fun y q => ?_⟩) fun x hx => ?_
  · have q2 : OwnA s₂.heap env σ b := w₂.own_step (s' := { s₂ with heap := H3 }) st₃ (hoa4 b q)
    refine g_eeeaa (w.own_step st₂ q2) fun x d v e1 e2 e3 => ?_
    refine g_eaa (w.own x d e1) fun u hu o _ => ?_
    obtain rfl := Option.some.inj (At.unique e2 hu)
    exact o.foot_ex b e3
  · rw [q, hD] at e; cases e
  · have := k23 b o e; rw [q, hLn] at this; cases this
  · rcases hcel4 y b q with z | ⟨_, z⟩
    · rw [k23 b o e] at z; cases z
    · refine g_a (w.cex y b z) fun q0ₜ _ => ?_
      refine g_e q0ₜ fun o' e' => ?_
      exact none_ne ((hn).symm.trans e')
  · unfold inner
    rcases hxs x hx with kx | kx <;> rw [kx]

-- one thing is put behind the list
theorem emit_one {A : Around} {V V₈ : View} {s s₈ : Shared} {eI : Env} {D : Addr} {xs : List String} {σ' : Sto} {I₁ I₃ : MSt} {out : List Dat} {d : Dat} {elt : Expr} {fe : Ev} {scI : Scope} (cb : CB s eI D xs) (hsI : eI.scope = scI) (rm : Room A n) (he : SoundE G n scI elt fe) (hf : fe σ' I₁ = some (d, I₃)) (c₈ : CS G V s eI D σ' V₈ s₈ I₁ out) (hz : out.length ≤ sizeLine) :
    wpAny (Md G) A (do let _ ← call (.builtin "list.append") [.ref D, ← eval elt eI]) (fun _ s₉ => ∃ V₉, CS G V s eI D σ' V₉ s₉ I₃ (out ++ [d]) ∧ StepC (Tmp eI D xs) V₈ s₈ V₉ s₉) No s₈ := by
  refine wpAny_bind (he.use hsI rm c₈.g c₈.w hf fun V₉ s₉ y st₉ g₉ w₉ r₉ => ?_)
  have c₉ := c₈.step st₉ g₉
  refine g_eea c₉.acc fun ys₉ k₉ hyo₉ rys₉ => ?_
  refine wpAny_bind (wpAny_list_append_plain ⟨k₉, hyo₉⟩ (fun h₁₀ hpl₁₀ hsb => wpAny_pure ?_) (by rw [size_of_reps rys₉]; exact hz))
  refine g_e hpl₁₀ fun k₁₀ ho₁₀ => ?_
  have one : ∀ {b}, b ∈ [D] → b = D := fun {b} q => by simpa using q
  have nD : ∀ b, OwnA s₉.heap eI σ' b → b ∉ [D] := fun b q z => by
    refine g_e (c₉.oo b q) fun o e => ?_
    rw [one z, cb.dn] at e; cases e
  have hkD : ∀ b o, b ∉ [D] → s₉.heap.get? b = some o → h₁₀.get? b = some o := fun b o q e => (hsb.2 b (by simpa using q)).trans e
  have hl : eI.locals ∉ [D] := fun q => cb.dl (one q).symm
  have hc : ∀ y c, eI.cells.lookup y = some c → c ∉ [D] := fun y c q z => cb.dc y (one z ▸ q)
  have kF9 : KeepF V₉ s₉.heap h₁₀ := keepF_sameBut hsb c₉.dF
  refine ⟨V₉, ⟨⟨c₉.st.gens, c₉.st.os, fun b o e hJ => ?_, fun b o e => ?_, c₉.st.fr, c₉.st.fnew, c₉.st.jp, c₉.st.jnew⟩, c₉.g.sameBut (k := s₉.toks) hsb ho₁₀ c₉.dF c₉.dJ, c₉.w.other hkD (fun b q z => c₉.dF (one q ▸ z)) hl hc nD, fun b q => c₉.oo b (OwnA.other c₉.w hkD hl hc nD q), ⟨_, k₁₀, ho₁₀, ?_⟩, c₉.dF, c₉.dJ⟩, ?_⟩
  · have hne : b ≠ D := fun z => by rw [z, cb.dn] at e; cases e
    exact (hsb.2 b hne).trans (c₉.st.keep b o e hJ)
  · refine g_e (c₉.st.ex b o e) fun o' e' => ?_
    exact SameBut.ex hsb ho₁₀ b o' e'
  · exact (rys₉.push r₉).mono (fun _ q => q) (fun _ _ q => q) kF9
  · exact st₉.toC.trans ⟨fun b o e _ nT => (hsb.2 b fun z => nT (.inl z)).trans e, fun b o e => SameBut.ex hsb ho₁₀ b o e, fun _ q => q, fun _ q => .inl q, fun _ _ q => q, fun _ q => .inl q⟩

noncomputable def fm1 (fe : Ev) : Iv := fun σ I => (fe σ I).bind fun p => some ([p.1], p.2)
-- a clause within a clause
noncomputable def fm2 (fi : Iv) (bd : Bd) (ft : Bv) (fe : Ev) : Iv := fun σ I => (fi σ I).bind fun p => compG bd ft (fm1 fe) σ p.1 p.2

noncomputable def evComp (scope : Scope) (fi : Iv) (bd : Bd) (ft : Bv) (fm : Iv) : Ev := fun σ I => (fi σ I).bind fun p => (compG bd ft fm (inner scope σ) p.1 p.2).bind fun r => if r.1.length ≤ 10000 then some (.list r.1, r.2) else none

theorem evComp_inv {scope : Scope} {fi : Iv} {bd : Bd} {ft : Bv} {fm : Iv} {σ : Sto} {I I' : MSt} {d : Dat} (h : evComp scope fi bd ft fm σ I = some (d, I')) :
    ∃ ds I₁ res, fi σ I = some (ds, I₁) ∧ res.length ≤ 10000 ∧ compG bd ft fm (inner scope σ) ds I₁ = some (res, I') ∧ d = .list res := by
  refine bind_go2 h fun ds I₁ e h => bind_go2 h fun res I₂ e2 h => ite_gn h fun hl h => ?_
  exact some2 h ⟨ds, I₁, res, e, hl, e2, rfl⟩
theorem evComp_list {scope : Scope} {fi : Iv} {bd : Bd} {ft : Bv} {fm : Iv} : ∀ σ I d I', evComp scope fi bd ft fm σ I = some (d, I') → ∃ xs, d = .list xs := fun σ I d I' h => by
  refine g_eeeaaa (evComp_inv h) fun _ _ res _ _ _ e => ?_
  exact ⟨res, e⟩

-- what is asked of the block and of the target's names
noncomputable def compB (scope sc : Scope) (xs : List String) : Bool := compOkB scope sc && xs.all fun x => scope.names.lookup (Str.ofString x) == some .local || scope.names.lookup (Str.ofString x) == some .cell
theorem compB_of {scope sc : Scope} {xs : List String} (h : compB scope sc xs = true) : CompOk scope sc ∧ ∀ x ∈ xs, scope.names.lookup (Str.ofString x) = some .local ∨ scope.names.lookup (Str.ofString x) = some .cell := by
  unfold compB at h
  rw [Bool.and_eq_true, List.all_eq_true] at h
  refine ⟨compOk_of h.1, fun x hx => ?_⟩
  have := h.2 x hx
  simpa using this

theorem CompOk.names {scope sc : Scope} (C : CompOk scope sc) : ∀ x ∈ scope.names, x.2 = .local → scope.names.lookup x.1 = some .local := fun x hx hl => by
  obtain ⟨a, b⟩ := x
  dsimp only at hl ⊢
  subst hl
  exact lookup_nodup C.nodup hx

theorem CompOk.clos {scope sc : Scope} (C : CompOk scope sc) {env : Env} {V : View} {h : Heap} {σ : Sto} (hs : env.scope = sc) (w : EnvOk G V h env σ) : closureFor scope env = pure (closFrom env.cells scope.names []) :=
  closureFor_eq fun p hp hk => by
    obtain ⟨c, ov, e, _⟩ := w.cel p.1 (by unfold Env.kindOf; rw [hs]; exact C.free p hp hk)
    exact ⟨c, e⟩

-- a comprehension's run, from its iterator on
structure SoundC (G : Cx) (n : Nat) (sc : Scope) (e : Expr) (scope : Scope) (iter : Expr) (fi : Iv) (bd : Bd) (ft : Bv) (fm : Iv) : Prop where
  C : CompOk scope sc
  run : ∀ (A : Around) (env : Env) (V : View) (σ : Sto) (I : MSt) (s : Shared) (ds res : List Dat) (I₁ I' : MSt) (Q : Value → Addr → Result → Shared → Prop),
    env.scope = sc → Room A n → Good G V s I → EnvOk G V s.heap env σ → fi σ I = some (ds, I₁) → compG bd ft fm (inner scope σ) ds I₁ = some (res, I') → res.length ≤ 10000 → (∀ V' s' C D, CompEnd G V s I' res C D s' V' → Q (.ref D) C (.ok .next) s') →
    wpAny (Md G) A (eval iter env) (fun x s₁ => wpAny (Md G) A (pyIter x) (fun it s₂ => wpAny (Md G) A (newList []) (fun acc s₃ => wpAny (Md G) A (newFunctionEnv scope env.globals (closFrom env.cells scope.names []) [] env.qual none .none (some env)) (fun cenv s₄ =>
        codeAny (Md G) A (.compStart e 0 it acc { cenv with scope := relabel scope env }) (Q acc cenv.locals) s₄) No s₃) No s₂) No s₁) No s

-- one clause
theorem SoundC.one {elt target iter : Expr} {ifs : List Expr} {scope : Scope} {pos : Pos} {bd : Bd} {xs : List String} {fi : Iv} {ft : Bv} {fe : Ev} (hc : compB scope sc xs = true) (hi : SoundIt G n sc (relab scope sc) iter target fi bd xs) (ht : SoundTs G n (relab scope sc) ifs ft) (he : SoundE G n (relab scope sc) elt fe) :
    SoundC G n sc (.ListComp elt [⟨target, iter, ifs, 0⟩] scope pos) scope iter fi bd ft (fm1 fe) where
  C := (compB_of hc).1
  run := fun A env V σ I s ds res I₁ I' Q hs rm g w e1 e2 hz hQ => by
    refine g_a (compB_of hc) fun C hxs => ?_
    refine wpAny_mono (hi.run A env V σ I s ds I₁ hs rm g w e1) (fun xv s₁ q => wpAny_mono q (fun it s₂ q => ?_) fun _ _ x => x.elim) fun _ _ x => x.elim
    refine g_eeaaa q fun V₂ W st₂ g₂ hW mk => ?_
    refine comp_start C hs g w st₂ g₂ hxs fun eI D s₄ cb hsI st₄ c₄ hap hun => ?_
    have itr := mk V s eI D xs (inner scope σ) s₄ cb (fun _ h => h) hsI (fun b hb => ⟨(hW b hb).1, hap b _ (hW b hb).1 (hW b hb).2.choose_spec⟩) st₄ ⟨_, c₄.g⟩
    have lp : codeAny (Md G) A (.compLoop (.ListComp elt [⟨target, iter, ifs, 0⟩] scope pos) 0 it (.ref D) eI) (Q (.ref D) eI.locals) s₄ := by
      refine loop_gen (emit := do let _ ← call (.builtin "list.append") [.ref D, ← eval elt eI]) (target := target) (ifs := ifs) (ip := iter.pos) (by rfl) (by rfl) rm hsI (fun d σ' h => hi.other d _ _ h) hun ht c₄ itr e2 (fun d σ' J₁ rs J₃ V₈ s₈ out8 hb hm c₈ hl => ?_) fun V₅ s₅ h tk _ _ c₅ => hQ V₅ _ eI.locals D (c₅.fin cb)
      refine bind_go2 hm fun d' J₂ hfe hm => ?_
      revert hl
      refine some2 hm fun hl => ?_
      exact emit_one cb hsI rm he hfe c₈ (by simp at hl; have : sizeLine = 16777216 := rfl; omega)
    refine g_eaaaa itr fun St h0 _ _ _ hself => ?_
    exact codeAny_compStart_list lp (hself 0 _ _ _ h0 lp)

theorem SoundO.compC {elt target iter : Expr} {ifs : List Expr} {gs : List Comprehension} {scope : Scope} {pos : Pos} {bd : Bd} {fi : Iv} {ft : Bv} {fm : Iv} (h : SoundC G n sc (.ListComp elt (⟨target, iter, ifs, 0⟩ :: gs) scope pos) scope iter fi bd ft fm)
    (hfs : ∀ env v, foldedSetIterable iter env v = pure v := by intro _ _; rfl) :
    SoundO G n sc (.ListComp elt (⟨target, iter, ifs, 0⟩ :: gs) scope pos) (evComp scope fi bd ft fm) := .mk fun A env V σ I s d I' hs rm g w hf => by
  refine g_eeeaaa (evComp_inv hf) fun ds I₁ res e1 hsz e2 q6ₑ => ?_
  subst q6ₑ
  rw [eval_ListComp]
  refine wpAny_comprehension_free (use := none) rfl (hfs env) (h.C.clos hs w) h.C.kind h.C.names ?_
  refine h.run A env V σ I s ds res I₁ I' (fun acc C r s' => compPost (Md G) A No none (PE G V s I' fun V' h v => Own G V' h v (.list res) ∧ ∀ a ∈ foot h v, s.heap.get? a = none ∧ ¬ V'.F a ∧ a ∉ V'.J) acc C r s') hs rm g w e1 e2 hsz fun V' s' C D c => ?_
  refine g_e c.ns fun m hm => ?_
  refine ⟨m, hm, fun h' hs' => ?_⟩
  refine g_aaa (c.gone hs') fun a1 a2 a3 a4 => ?_
  refine ⟨V', a1, a2, a3, fun a ha => ?_⟩
  replace ha := (a4) ▸ ha
  have : a = D := by simpa using ha
  subst this
  exact c.dn

theorem SoundE.compC {elt target iter : Expr} {ifs : List Expr} {gs : List Comprehension} {scope : Scope} {pos : Pos} {bd : Bd} {fi : Iv} {ft : Bv} {fm : Iv} (h : SoundC G n sc (.ListComp elt (⟨target, iter, ifs, 0⟩ :: gs) scope pos) scope iter fi bd ft fm)
    (hfs : ∀ env v, foldedSetIterable iter env v = pure v := by intro _ _; rfl) :
    SoundE G n sc (.ListComp elt (⟨target, iter, ifs, 0⟩ :: gs) scope pos) (evComp scope fi bd ft fm) := (SoundO.compC h hfs).toE evComp_list

-- does the statement store before the comprehension's names go?

noncomputable def compScope (value : Expr) : Option Scope := swapsWith.match_1 (fun _ => Option Scope) value (fun _ _ s _ => some s) (fun _ _ s _ => some s) (fun _ _ _ s _ => some s) fun _ => none
noncomputable def swapB (value : Expr) (t : Str) (p : Pos) (sc : Scope) : Bool := match compScope value with
  | some scope => (if sc.kind.isAnnotationScope then .function else sc.kind) == ScopeKind.function && sc.names.lookup t == some .local && p.line == value.pos.line && !(scope.names.any fun (n, k) => n == t && (k == .local || k == .cell))
  | none => false

theorem swapsWith_eq {value : Expr} {t : Str} {p : Pos} {line : Nat} {env : Env} (h : env.scope = sc) : swapsWith value (some (.Name t p)) line env = pure (swapB value t p sc) := by
  subst h
  unfold swapB
  show swapsWith.match_6 (fun _ => Sem Bool) (compScope value) (fun scope => pure (env.blockKind == .function && env.kindOf t == some .local && p.line == value.pos.line && !(scope.names.any fun (n, k) => n == t && (k == .local || k == .cell)))) (fun _ => pure false) = _
  cases compScope value with
  | none => rfl
  | some scope => rfl

theorem SoundS.setC {x : String} {value : Expr} {p pos : Pos} {f : Ev} (hk : KindOk sc x) (h : SoundE G n sc value f) (hsw : swapB value (Str.ofString x) p sc = false) :
    SoundS G n sc (.Assign [.Name (Str.ofString x) p] value pos) (sSet x f) := .mk fun A env V σ I s fl σ' I' hs rm g w hf => by
  refine bind_go2 hf fun d I' e hf => ?_
  refine some3 hf ?_
  refine wpAny_Assign_Name (h.use hs rm g w e fun V₁ s₁ v st₁ g₁ w₁ r₁ => ?_) (by rw [swapsWith_eq hs, hsw])
  refine store_name (I₀ := I) (e := .frz d) st₁ w g₁ w₁ (by subst hs; exact hk) r₁ (fun _ q => by cases q) fun s₂ ss g₂ w₂ _ => ?_
  exact ⟨V₁, ss, g₂, w₂, trivial⟩

theorem SoundS.compC {x : String} {p spos : Pos} {elt target iter : Expr} {ifs : List Expr} {gs : List Comprehension} {scope : Scope} {pos : Pos} {bd : Bd} {fi : Iv} {ft : Bv} {fm : Iv} (hk : KindOk sc x)
    (hsw : swapB (.ListComp elt (⟨target, iter, ifs, 0⟩ :: gs) scope pos) (Str.ofString x) p sc = true) (h : SoundC G n sc (.ListComp elt (⟨target, iter, ifs, 0⟩ :: gs) scope pos) scope iter fi bd ft fm)
    (hfs : ∀ env v, foldedSetIterable iter env v = pure v := by intro _ _; rfl) :
    SoundS G n sc (.Assign [.Name (Str.ofString x) p] (.ListComp elt (⟨target, iter, ifs, 0⟩ :: gs) scope pos) spos) (sSet x (evComp scope fi bd ft fm)) := .mk fun A env V σ I s fl σ' I' hs rm g w hf => by
  refine bind_go2 hf fun d I' e hf => ?_
  refine some3 hf ?_
  refine g_eeeaaa (evComp_inv e) fun ds I₁ res e1 hsz e2 q6ₑ => ?_
  subst q6ₑ
  refine (exec_Assign_Name_used _ _ _ _ ((swapsWith_eq hs).trans (by rw [hsw]))) ▸ ?_
  refine wpAny_bind (wpAny_standAt (wpAny_bind ?_))
  show wpAny _ A (do let _ ← comprehension (.ListComp elt (⟨target, iter, ifs, 0⟩ :: gs) scope pos) scope env _ (newList []) false (eval iter env) (some (assign (.Name (Str.ofString x) p) env))) _ _ s
  refine wpAny_bind (wpAny_mono (wpAny_comprehension_free (use := some (assign (.Name (Str.ofString x) p) env)) (Q := fun _ s' => PS G env σ V s .next (σ.set x (.frz (.list res))) I' .next s') rfl (hfs env) (h.C.clos hs w) h.C.kind h.C.names ?_) (fun _ s' hq => wpAny_pure (wpAny_pure hq)) fun _ _ e => e)
  refine h.run A env V σ I s ds res I₁ I' (fun acc C r s' => compPost (Md G) A No (some (assign (.Name (Str.ofString x) p) env)) _ acc C r s') hs rm g w e1 e2 hsz fun V' s' C D c => ?_
  refine g_eeeea c.ns fun m oC es ep hoC rC => ?_
  show wpAny _ A (assign (.Name (Str.ofString x) p) env (.ref D)) _ _ _
  refine g_ea c.own.freeze fun a ea r => ?_
  cases ea
  have stD : Step V s (V'.add D) s' := ⟨c.st.gens, c.st.os, c.st.keep, c.st.ex, fun b q => .inl (c.st.fr b q), fun b q => by
    rcases q with q | q
    · exact c.st.fnew b q
    · exact .inr (q ▸ c.dn.1), c.st.jp, c.st.jnew⟩
  have hDx : ∃ o, s'.heap.get? D = some o := by
    cases c.own with
    | list hl hs => obtain ⟨k, e⟩ := hl; exact ⟨_, e⟩
  have gD : Good G (V'.add D) s' I' := c.g.add c.dn.2.2 hDx
  have wD := w.step stD g
  have lC : C ≠ env.locals := fun q => by
    refine g_eeeea w.loc fun m o _ _ e _ => ?_
    rw [← q, c.cn.1] at e; cases e
  have cC : ∀ y c', env.cells.lookup y = some c' → c' ∉ [C] := fun y c' q z => by
    have z' : c' = C := by simpa using z
    refine g_a (w.cex y c' q) fun q0ₜ _ => ?_
    refine g_e q0ₜ fun o e => ?_
    rw [z', c.cn.1] at e; cases e
  have oC' : ∀ b, OwnA s'.heap env σ b → b ∉ [C] := fun b q z => by
    have z' : b = C := by simpa using z
    refine g_eeeaa (w.own_step stD q) fun y dd v e1 e2 e3 => ?_
    refine g_eaa (w.own y dd e1) fun u hu o _ => ?_
    obtain rfl := Option.some.inj (At.unique e2 hu)
    refine g_e (o.foot_ex b e3) fun o' e' => ?_
    rw [z', c.cn.1] at e'; cases e'
  refine wpAny_assign_Name (store_name (I₀ := I') (e := .frz (.list res)) (Step.refl _ _) wD gD wD (by subst hs; exact hk) r (fun _ q => by cases q) fun s₃ ss g₃ w₃ _ => ?_)
  have nFC : ¬ (V'.add D).F C := fun q => by
    rcases q with q | q
    · exact c.cn.2.1 q
    · exact c.ne q.symm
  have hC3 : s₃.heap.get? C = some oC := ss.keep C oC hoC c.cn.2.2 (fun q => by
    rcases q with q | ⟨y, q⟩
    · exact lC q
    · exact cC y C q (by simp)) fun q => oC' C q (by simp)
  refine ⟨m, ⟨oC, es, ep, hC3, rC⟩, fun h' hs' => ?_⟩
  have hk' : ∀ b o, b ∉ [C] → s₃.heap.get? b = some o → h'.get? b = some o := fun b o q e => (hs'.2 b (by simpa using q)).trans e
  have hF' : ∀ b ∈ [C], ¬ (V'.add D).F b := fun b q => by
    have : b = C := by simpa using q
    exact this ▸ nFC
  have ho3 : ∀ b, OwnA s₃.heap env (σ.set x (.frz (.list res))) b → b ∉ [C] := fun b q z => by
    rcases ss.onew b q with q' | q'
    · exact oC' b q' z
    · have z' : b = C := by simpa using z
      rw [z', hoC] at q'; cases q'
  have ssA : StepS env σ V s (σ.set x (.frz (.list res))) (V'.add D) s₃ := (stD.toS w).trans ss
  refine ⟨V'.add D, ⟨ssA.gens, ssA.os, fun b o e hJ nf no => hk' b o (fun z => ?_) (ssA.keep b o e hJ nf no), fun b o e => ?_, ssA.fr, ssA.fnew, ssA.jp, ssA.jnew, fun b q => ssA.onew b (OwnA.other w₃ hk' (by simpa using lC.symm) cC ho3 q)⟩, g₃.other hk' hF' (fun b q => ?_), w₃.other hk' hF' (by simpa using lC.symm) cC ho3, trivial⟩
  · have z' : b = C := by simpa using z
    rw [z', c.cn.1] at e; cases e
  · refine g_e (ssA.ex b o e) fun o' e' => ?_
    refine ⟨o', hk' b o' (fun z => ?_) e'⟩
    have z' : b = C := by simpa using z
    rw [z', c.cn.1] at e; cases e
  · have : b = C := by simpa using q
    exact this ▸ c.cn.2.2
end

-- M18
section
variable {G : Cx} {n : Nat} {sc : Scope}

-- a call with one thing
noncomputable def OpC1 (G : Cx) (n : Nat) (f : Value) (p : MSt → Dat → Option Dat) : Prop :=
  ∀ (A : Around) (V : View) (s : Shared) (I : MSt) (a : Value) (da d : Dat), Room A n → Good G V s I → Rep1 G V s.heap a da → p I da = some d → wpAny (Md G) A (PySem.call f [a]) (PE G V s I fun V' h v => Rep G V' h v d) No s

noncomputable def evC1 (f : Ev) (p : MSt → Dat → Option Dat) : Ev := fun σ I => (f σ I).bind fun a => (p a.2 a.1).bind fun r => some (r, a.2)

theorem evC1_go {f : Ev} {p : MSt → Dat → Option Dat} {σ : Sto} {I I' : MSt} {d : Dat} {Q : Prop} (h : evC1 f p σ I = some (d, I')) (k : ∀ a, f σ I = some (a, I') → p I' a = some d → Q) : Q := by
  refine bind_go2 h fun a I₁ e h => bind_go h fun r e2 h => ?_
  revert k
  exact some2 h fun k => k a e e2

theorem SoundE.call1 {f : String} {p pos : Pos} {e : Expr} {fe : Ev} {F : Value} {q : MSt → Dat → Option Dat} (hF : (∃ id, F = .builtin id) ∨ ∃ T, F = .type T) (hg : GlobIs G sc f F) (hq : OpC1 G n F q) (hl : SoundB G n sc e fe)
    (he : ∀ env : Env, eval (.Call (.Name (Str.ofString f) p) [e] [] pos) env = (do callWith pos (← eval (.Name (Str.ofString f) p) env) [] (backTo pos (starEach [e] env)) (backToKw pos (keywordEach [] env))) := by intro env; rfl)
    (hst : isStarred e = false := by rfl)
    (hd : (Str.ofString f == ("__debug__" : Str)) = false := by decide +kernel) : SoundE G n sc (.Call (.Name (Str.ofString f) p) [e] [] pos) (evC1 fe q) := .mk fun A env V σ I s d I' hs rm g w hf => by
  refine evC1_go hf fun a e1 e2 => ?_
  refine PyProof.Rows.Call_ (load_glob hs g w hg hd ?_) (he env)
  refine (backTo_cons hst) ▸ ?_
  show wpAny (Md G) A (callWith pos F [] [(false, eval e env)] []) _ _ s
  have key : wpAny (Md G) A (eval e env) (fun v s₁ => wpAny (Md G) A (PySem.call F [v]) (PE G V s I' fun V' h v => Rep G V' h v d) No s₁) No s :=
    hl.use hs rm g w e1 fun V₁ s₁ v st₁ g₁ w₁ r₁ => wpAny_mono (hq A V₁ s₁ I' v a d rm g₁ r₁ e2) (fun _ _ q => PE.trans st₁ q) fun _ _ x => x
  rcases hF with ⟨id, rfl⟩ | ⟨T, rfl⟩
  · exact Calls.callWith_builtin rfl (Calls.evalArgs_plain (Calls.spliced_cons (wpAny_mono key (fun v s₁ h₁ => Calls.spliced_nil h₁) fun _ _ e => e)))
  · exact PySem.callWith_type rfl (Calls.evalArgs_plain (Calls.spliced_cons (wpAny_mono key (fun v s₁ h₁ => Calls.spliced_nil h₁) fun _ _ e => e)))

noncomputable def asInts : List Dat → Option (List Int)
  | [] => some []
  | d :: r => (datInt d).bind fun i => (asInts r).map (i :: ·)

theorem asInts_are {V : View} {h : Heap} {vs : List Value} {ds : List Dat} {ns : List Int} (r : Reps G V h vs ds) (e : asInts ds = some ns) : IntsAre vs ns := by
  suffices q : ∀ ns, asInts ds = some ns → IntsAre vs ns from q ns e
  refine Reps.ind r (fun ns e => some1 (P := IntsAre []) e .nil) fun v d vs ds a _ ih ns e => ?_
  refine bind_go e fun i hi e => map_go e fun l hl => ?_
  refine g_e ((datInt_go hi ▸ a).is) fun t e => ?_
  exact e ▸ .cons i t (ih l hl)

theorem numsOf_are {vs : List Value} {ns : List Int} (h : IntsAre vs ns) : numsOf vs = ns := by
  induction h with
  | nil => rfl
  | cons n t _ ih => exact congrArg (n :: ·) ih
theorem allInts_are {vs : Array Value} {ns : List Int} (h : IntsAre vs.toList ns) : AllInts vs := fun v hv => by
  have hv' : v ∈ vs.toList := by simpa using hv
  clear hv
  generalize vs.toList = l at h hv'
  induction h with
  | nil => cases hv'
  | cons n t _ ih =>
    rcases List.mem_cons.mp hv' with rfl | q
    · exact ⟨n, t, rfl⟩
    · exact ih q

theorem PE.kept {V : View} {s : Shared} {I : MSt} {v : Value} {d : Dat} {h' : Heap} {tk : Nat} (g : Good G V s I) (kp : ∀ b o, s.heap.get? b = some o → h'.get? b = some o) (r : Rep G V h' v d) : PE G V s I (fun V' h v => Rep G V' h v d) v { s with heap := h', toks := tk } :=
  ⟨V, ⟨rfl, rfl, fun b o e _ => kp b o e, fun b o e => ⟨o, kp b o e⟩, fun _ q => q, fun _ q => .inl q, fun _ _ q => q, fun _ q => .inl q⟩, g.keeps kp, r⟩

theorem max_ints {A : Around} {E : Value → Shared → Prop} {s : Shared} {l : Addr} {items : Array Value} {Q : Value → Shared → Prop} (hh : A.handled = none) (hl : s.heap.IsList l items) (hall : AllInts items) (hne : 0 < items.size)
    (h : ∀ h' M t tk, (∀ b o, s.heap.get? b = some o → h'.get? b = some o) → M ∈ numsOf items.toList → (∀ a, a ∈ numsOf items.toList → a ≤ M) → Q (.int M t) { s with heap := h', toks := tk }) : wpAny (Md G) A (call (.builtin "max") [.ref l]) Q E s := by
  refine g_e hall.items fun xs q1ₑ => ?_
  subst q1ₑ
  rw [nums_intItems] at h
  have hsz : 0 < xs.size := by simpa [intItems] using hne
  refine max_intList hh hl hsz fun v h' tk hv hk => ?_
  refine g_e (intItems_at hv) fun t q1ₑ => ?_
  subst q1ₑ
  refine g_a (argBest_gt (numAt xs) (xs.size - 1)) fun h1 h2 => ?_
  refine h _ _ t _ hk ?_ fun a ha => ?_
  · rw [numAt_eq]; exact getD_mem (by rw [List.length_map, Array.length_toList]; omega)
  · refine g_ea (mem_getD ha) fun j hj q2ₑ => ?_
    subst q2ₑ
    rw [List.length_map, Array.length_toList] at hj
    rw [← numAt_eq]; exact h2 j (by omega)
theorem min_ints {A : Around} {E : Value → Shared → Prop} {s : Shared} {l : Addr} {items : Array Value} {Q : Value → Shared → Prop} (hh : A.handled = none) (hl : s.heap.IsList l items) (hall : AllInts items) (hne : 0 < items.size)
    (h : ∀ h' M t tk, (∀ b o, s.heap.get? b = some o → h'.get? b = some o) → M ∈ numsOf items.toList → (∀ a, a ∈ numsOf items.toList → M ≤ a) → Q (.int M t) { s with heap := h', toks := tk }) : wpAny (Md G) A (call (.builtin "min") [.ref l]) Q E s := by
  refine g_e hall.items fun xs q1ₑ => ?_
  subst q1ₑ
  rw [nums_intItems] at h
  have hsz : 0 < xs.size := by simpa [intItems] using hne
  refine min_intList hh hl hsz fun v h' tk hv hk => ?_
  refine g_e (intItems_at hv) fun t q1ₑ => ?_
  subst q1ₑ
  refine g_a (argBest_lt (numAt xs) (xs.size - 1)) fun h1 h2 => ?_
  refine h _ _ t _ hk ?_ fun a ha => ?_
  · rw [numAt_eq]; exact getD_mem (by rw [List.length_map, Array.length_toList]; omega)
  · refine g_ea (mem_getD ha) fun j hj q2ₑ => ?_
    subst q2ₑ
    rw [List.length_map, Array.length_toList] at hj
    rw [← numAt_eq]; exact h2 j (by omega)
theorem sum_ints' {A : Around} {E : Value → Shared → Prop} {s : Shared} {l : Addr} {items : Array Value} {Q : Value → Shared → Prop} (hh : A.handled = none) (hl : s.heap.IsList l items) (hall : AllInts items)
    (h : ∀ h' t tk, (∀ b o, s.heap.get? b = some o → h'.get? b = some o) → Q (.int (numsOf items.toList).sum t) { s with heap := h', toks := tk }) : wpAny (Md G) A (call (.builtin "sum") [.ref l]) Q E s := by
  refine g_e hall.items fun xs q1ₑ => ?_
  subst q1ₑ
  rw [nums_intItems] at h
  refine sum_intListG hh hl fun h' tk t' hk => ?_
  have := h _ t' tk hk
  rw [preSum_eq, List.take_of_length_le (by simp)]; exact this

noncomputable def dLen : Dat → Option Dat
  | .list xs => if xs.length ≤ 1000 then some (.int xs.length) else none
  | .tup xs => if xs.length ≤ 1000 then some (.int xs.length) else none
  | .str x => if x.length ≤ 1000 then some (.int x.length) else none
  | _ => none

theorem PE.tokI {V : View} {s : Shared} {I : MSt} {i : Int} {t k : Nat} (g : Good G V s I) : PE G V s I (fun V' h v => Rep G V' h v (.int i)) (.int i t) { s with toks := k } := PE.same g k (.int _ _)

theorem op_len : OpC1 G n (.builtin "len") (fun _ => dLen) := fun A V s I a da d rm g r e => by
  cases da with
  | list xs =>
    refine ite_go e fun hl => ?_
    obtain ⟨l, vs, rfl, ⟨k, ho⟩, rs⟩ := r.lst
    rw [← size_of_reps rs] at hl ⊢
    exact Calls.call_len_list ⟨_, ho, rfl, k, rfl⟩ (by omega) (PE.tokI g)
  | tup xs =>
    refine ite_go e fun hl => ?_
    obtain ⟨l, vs, rfl, hF, ⟨k, ho⟩, rs⟩ := r.tup
    rw [← size_of_reps rs] at hl ⊢
    exact PyProof.Rows.len_tuple ⟨_, ho, rfl, k, rfl⟩ (by omega) (PE.tokI g)
  | str x =>
    refine ite_go e fun hl => ?_
    refine g_e r.str fun t q1ₑ => ?_
    subst q1ₑ
    exact len_str (by omega) (PE.tokI g)
  | _ => exact none_ne e

noncomputable def maxI (n : Int) (ns : List Int) : Int := ns.foldl max n
noncomputable def minI (n : Int) (ns : List Int) : Int := ns.foldl min n
theorem maxI_le (n : Int) (ns : List Int) : (∀ a, a ∈ n :: ns → a ≤ maxI n ns) ∧ maxI n ns ∈ n :: ns := by
  unfold maxI
  induction ns generalizing n with
  | nil => simp
  | cons x r ih =>
    rw [List.foldl_cons]
    refine g_a (ih (max n x)) fun h1 h2 => ?_
    have hm := h1 (max n x) (by simp)
    refine ⟨fun a ha => ?_, ?_⟩
    · simp only [List.mem_cons] at ha
      rcases ha with rfl | rfl | ha
      · omega
      · omega
      · exact h1 a (by simp [ha])
    · rcases List.mem_cons.mp h2 with q | q
      · rw [q]
        rcases Int.le_total n x with z | z
        · rw [Int.max_eq_right z]; simp
        · rw [Int.max_eq_left z]; simp
      · simp [q]
theorem minI_le (n : Int) (ns : List Int) : (∀ a, a ∈ n :: ns → minI n ns ≤ a) ∧ minI n ns ∈ n :: ns := by
  unfold minI
  induction ns generalizing n with
  | nil => simp
  | cons x r ih =>
    rw [List.foldl_cons]
    refine g_a (ih (min n x)) fun h1 h2 => ?_
    have hm := h1 (min n x) (by simp)
    refine ⟨fun a ha => ?_, ?_⟩
    · simp only [List.mem_cons] at ha
      rcases ha with rfl | rfl | ha
      · omega
      · omega
      · exact h1 a (by simp [ha])
    · rcases List.mem_cons.mp h2 with q | q
      · rw [q]
        rcases Int.le_total n x with z | z
        · rw [Int.min_eq_left z]; simp
        · rw [Int.min_eq_right z]; simp
      · simp [q]

noncomputable def dMaxL (d : Dat) : Option Dat := (datLst d).bind fun xs => (asInts xs).bind fun ns => match ns with
  | [] => none
  | n :: ns => some (.int (maxI n ns))
noncomputable def dMinL (d : Dat) : Option Dat := (datLst d).bind fun xs => (asInts xs).bind fun ns => match ns with
  | [] => none
  | n :: ns => some (.int (minI n ns))
noncomputable def dSum (d : Dat) : Option Dat := (datLst d).bind fun xs => (asInts xs).bind fun ns => some (.int ns.sum)

theorem ints_of {V : View} {h : Heap} {l : Addr} {vs : Array Value} {xs : List Dat} {ns : List Int} (hl : h.PlainList l vs) (rs : Reps G V h vs.toList xs) (e : asInts xs = some ns) : h.IsList l vs ∧ AllInts vs ∧ numsOf vs.toList = ns ∧ vs.size = ns.length := by
  have hi := asInts_are rs e
  refine ⟨?_, allInts_are hi, numsOf_are hi, ?_⟩
  · refine g_e hl fun k ho => ?_
    exact ⟨_, ho, rfl, k, rfl⟩
  · refine (Array.length_toList) ▸ ?_
    generalize vs.toList = l at hi
    clear rs e
    induction hi with
    | nil => rfl
    | cons _ _ _ ih => simp [ih]

theorem op_max : OpC1 G n (.builtin "max") (fun _ => dMaxL) := fun A V s I a da d rm g r e => by
  refine bind_go e fun xs hx e => bind_go e fun ns e1 e => ?_
  cases ns with
  | nil => exact none_ne e
  | cons x ns =>
  refine some1 e ?_
  obtain ⟨l, vs, rfl, hl, rs⟩ := (datLst_go hx ▸ r).lst
  refine g_aaa (ints_of hl rs e1) fun h1 h2 h3 h4 => ?_
  refine max_ints rm.handled h1 h2 (by rw [h4]; simp) fun h' M t tk kp hM hle => ?_
  rw [h3] at hM hle
  have : M = maxI x ns := Int.le_antisymm ((maxI_le x ns).1 M hM) (hle _ (maxI_le x ns).2)
  refine (this) ▸ ?_
  exact PE.kept g kp (.int _ _)
theorem op_min : OpC1 G n (.builtin "min") (fun _ => dMinL) := fun A V s I a da d rm g r e => by
  refine bind_go e fun xs hx e => bind_go e fun ns e1 e => ?_
  cases ns with
  | nil => exact none_ne e
  | cons x ns =>
  refine some1 e ?_
  obtain ⟨l, vs, rfl, hl, rs⟩ := (datLst_go hx ▸ r).lst
  refine g_aaa (ints_of hl rs e1) fun h1 h2 h3 h4 => ?_
  refine min_ints rm.handled h1 h2 (by rw [h4]; simp) fun h' M t tk kp hM hle => ?_
  rw [h3] at hM hle
  have : M = minI x ns := Int.le_antisymm (hle _ (minI_le x ns).2) ((minI_le x ns).1 M hM)
  refine (this) ▸ ?_
  exact PE.kept g kp (.int _ _)
theorem op_sum : OpC1 G n (.builtin "sum") (fun _ => dSum) := fun A V s I a da d rm g r e => by
  refine bind_go e fun xs hx e => bind_go e fun ns e1 e => ?_
  refine some1 e ?_
  obtain ⟨l, vs, rfl, hl, rs⟩ := (datLst_go hx ▸ r).lst
  refine g_aaa (ints_of hl rs e1) fun h1 h2 h3 h4 => ?_
  refine sum_ints' rm.handled h1 h2 fun h' t tk kp => ?_
  refine (h3) ▸ ?_
  exact PE.kept g kp (.int _ _)

noncomputable def insI (x : Int) : List Int → List Int
  | [] => [x]
  | y :: r => if x ≤ y then x :: y :: r else y :: insI x r
noncomputable def sortI' : List Int → List Int
  | [] => []
  | x :: r => insI x (sortI' r)
theorem insI_perm (x : Int) : ∀ l, (insI x l).Perm (x :: l)
  | [] => .refl _
  | y :: r => by
    unfold insI
    split
    · exact .refl _
    · exact ((insI_perm x r).cons y).trans (.swap x y r)
set_option tactic.hygienic true in
theorem insI_sorted (x : Int) : ∀ l, l.Pairwise (· ≤ ·) → (insI x l).Pairwise (· ≤ ·)
  | [], _ => by simp [insI]
  | y :: r, h => by
    unfold insI
    split
    · rename_i hxy
      refine List.pairwise_cons.mpr ⟨fun z hz => ?_, h⟩
      rcases List.mem_cons.mp hz with rfl | hz
      · exact hxy
      · exact Int.le_trans hxy ((List.pairwise_cons.mp h).1 z hz)
    · rename_i hxy
      refine List.pairwise_cons.mpr ⟨fun z hz => ?_, insI_sorted x r (List.pairwise_cons.mp h).2⟩
      rcases List.mem_cons.mp ((insI_perm x r).mem_iff.mp hz) with rfl | hz
      · omega
      · exact (List.pairwise_cons.mp h).1 z hz
theorem sortI'_ok : ∀ l, (sortI' l).Perm l ∧ (sortI' l).Pairwise (· ≤ ·)
  | [] => ⟨.refl _, .nil⟩
  | x :: r => ⟨(insI_perm x _).trans ((sortI'_ok r).1.cons x), insI_sorted x _ (sortI'_ok r).2⟩
theorem sorted_unique {a b : List Int} (p : a.Perm b) (ha : a.Pairwise (· ≤ ·)) (hb : b.Pairwise (· ≤ ·)) : a = b :=
  p.eq_of_pairwise (fun x y _ _ h1 h2 => Int.le_antisymm h1 h2) ha hb

noncomputable def dSortI (d : Dat) : Option Dat := (datLst d).bind fun xs => (asInts xs).bind fun ns => if ns.length < 64 then some (.list ((sortI' ns).map .int)) else none

theorem reps_ints {V : View} {h : Heap} {vs : List Value} {ns : List Int} (r : IntsAre vs ns) : Reps G V h vs (ns.map .int) := by
  induction r with
  | nil => exact .nil
  | cons n t _ ih => exact .cons (.int _ _) ih

theorem PE.newList {V : View} {s s' : Shared} {I : MSt} {D : Addr} {vs : Array Value} {k : Nat} {xs : List Dat} (g : Good G V s I) (hg : s'.gens = s.gens) (ho : s'.os = s.os) (hk : ∀ b o, s.heap.get? b = some o → s'.heap.get? b = some o) (hD : s.heap.get? D = none)
    (hd : s'.heap.get? D = some { cls := .type "list", data := .seq vs k }) (r : Reps G V s'.heap vs.toList xs) : PE G V s I (fun V' h v => Rep G V' h v (.list xs)) (.ref D) s' := by
  have st : Step V s V s' := ⟨hg, ho, fun b o e _ => hk b o e, fun b o e => ⟨o, hk b o e⟩, fun _ q => q, fun _ q => .inl q, fun _ _ q => q, fun _ q => .inl q⟩
  exact ⟨V.add D, st.add hD, (g.keeps hk).add (g.notJ hD) ⟨_, hd⟩, .list (.inr rfl) ⟨k, hd⟩ (r.add D)⟩

theorem op_sorted : OpC1 G n (.builtin "sorted") (fun _ => dSortI) := fun A V s I a da d rm g r e => by
  refine bind_go e fun xs hx e => bind_go e fun ns e1 e => ?_
  refine ite_go e fun h64 => ?_
  obtain ⟨l, vs, rfl, hl, rs⟩ := (datLst_go hx ▸ r).lst
  have hi := asInts_are rs e1
  refine g_aaa (ints_of hl rs e1) fun h1 h2 h3 h4 => ?_
  have h64' : vs.toList.length < 64 := by rw [Array.length_toList, h4]; exact h64
  refine PyProof.Rows.sorted_ints (vs := vs.toList) (by simpa using h1) hi h64' fun out ns' ho hp hs => ?_
  have hns : ns' = sortI' ns := sorted_unique (hp.trans (sortI'_ok ns).1.symm) hs (sortI'_ok ns).2
  subst hns
  refine g_e (PyProof.Rows.sortedAll_at s.heap vs.toList out) fun e2 he2 => ?_
  exact PE.newList g rfl rfl (fun b o q => PyProof.Rows.sortedAll_old q) (fresh_none (Nat.le_succ _)) he2 (reps_ints ho)
end

-- M19
section
variable {G : Cx} {n : Nat} {sc : Scope}

theorem Reps.nil_inv {V : View} {h : Heap} {vs : List Value} (r : Reps G V h vs []) : vs = [] := List.eq_nil_of_length_eq_zero r.length
theorem Reps.cons_inv {V : View} {h : Heap} {vs : List Value} {d : Dat} {ds : List Dat} (r : Reps G V h vs (d :: ds)) : ∃ v us, vs = v :: us ∧ Rep G V h v d ∧ Reps G V h us ds := by
  cases r with | cons a b => exact ⟨_, _, rfl, a, b⟩
theorem Reps.one {V : View} {h : Heap} {vs : List Value} {d : Dat} (r : Reps G V h vs [d]) : ∃ v, vs = [v] ∧ Rep G V h v d :=
  g_eeaa r.cons_inv fun v us e a b => ⟨v, b.nil_inv ▸ e, a⟩
theorem Reps.two {V : View} {h : Heap} {vs : List Value} {d e : Dat} (r : Reps G V h vs [d, e]) : ∃ v u, vs = [v, u] ∧ Rep G V h v d ∧ Rep G V h u e :=
  g_eeaa r.cons_inv fun v us e a b => g_ea b.one fun u e' c => ⟨v, u, e' ▸ e, a, c⟩
theorem Reps.three {V : View} {h : Heap} {vs : List Value} {d e f : Dat} (r : Reps G V h vs [d, e, f]) : ∃ v u w, vs = [v, u, w] ∧ Rep G V h v d ∧ Rep G V h u e ∧ Rep G V h w f :=
  g_eeaa r.cons_inv fun v us e a b => g_eeaa b.two fun u w e' c d => ⟨v, u, w, e' ▸ e, a, c, d⟩
theorem IntsAre.nil_inv {vs : List Value} (h : IntsAre vs []) : vs = [] := by cases h; rfl
theorem IntsAre.cons_inv {vs : List Value} {n : Int} {ns : List Int} (h : IntsAre vs (n :: ns)) : ∃ t us, vs = .int n t :: us ∧ IntsAre us ns := by
  cases h with | cons _ t r => exact ⟨t, _, rfl, r⟩

-- ranges

noncomputable abbrev Rv := Sto → MSt → Option ((Int × Int × Int) × MSt)

noncomputable def rng3 : List Int → Option (Int × Int × Int)
  | [] => none
  | a :: r => match r with
    | [] => if -1000 ≤ a ∧ a ≤ 1000 then some (0, a, 1) else none
    | b :: r => match r with
      | [] => if (-1000 ≤ a ∧ a ≤ 1000) ∧ -1000 ≤ b ∧ b ≤ 1000 then some (a, b, 1) else none
      | c :: r => match r with
        | [] => if c = 2 ∧ (-1000 ≤ a ∧ a ≤ 1000) ∧ -1000 ≤ b ∧ b ≤ 1000 then some (a, b, 2) else none
        | _ :: _ => none
noncomputable def rngArgs (ds : List Dat) : Option (Int × Int × Int) := (asInts ds).bind rng3

noncomputable def rvOf (fs : List Ev) : Rv := fun σ I => (evs fs σ I).bind fun p => (rngArgs p.1).bind fun r => some (r, p.2)

noncomputable def RngR (a b c : Int) (_ : View) (h : Heap) (v : Value) : Prop := ∃ r t u w, v = .ref r ∧ IsRange h r a b c t u w ∧ Builtin.Range.small a b c = true ∧ Builtin.Range.rangeSize a b c ≤ 3000 ∧ 0 ≤ Builtin.Range.rangeSize a b c
structure SoundR (G : Cx) (n : Nat) (sc : Scope) (e : Expr) (f : Rv) : Prop where
  run : ∀ (A : Around) (env : Env) (V : View) (σ : Sto) (I : MSt) (s : Shared) (a b c : Int) (I' : MSt),
    env.scope = sc → Room A n → Good G V s I → EnvOk G V s.heap env σ → f σ I = some ((a, b, c), I') →
    wpAny (Md G) A (eval e env) (PE G V s I' (RngR a b c)) No s

theorem small_two {a b : Int} (ha : -1000 ≤ a) (ha' : a ≤ 1000) (hb : -1000 ≤ b) (hb' : b ≤ 1000) : Builtin.Range.small a b 2 = true := by
  unfold Builtin.Range.small Builtin.Range.rangeSize
  simp only [Builtin.Range.rangeFitsLong, Bool.and_eq_true, Bool.or_eq_true, decide_eq_true_eq, beq_iff_eq, show (2 : Int) > 0 by decide, if_true]
  split <;> lia

noncomputable def RngOk (a b c : Int) : Prop := Builtin.Range.small a b c = true ∧ Builtin.Range.rangeSize a b c ≤ 3000 ∧ 0 ≤ Builtin.Range.rangeSize a b c
theorem rng_one {a b : Int} (h : (-1000 ≤ a ∧ a ≤ 1000) ∧ -1000 ≤ b ∧ b ≤ 1000) : RngOk a b 1 := by
  refine ⟨small_one (by lia) (by lia) (by lia) (by lia), ?_⟩
  rw [rangeSize_one]
  split <;> lia
theorem rng_two {a b : Int} (h : (-1000 ≤ a ∧ a ≤ 1000) ∧ -1000 ≤ b ∧ b ≤ 1000) : RngOk a b 2 := by
  refine ⟨small_two h.1.1 h.1.2 h.2.1 h.2.2, ?_⟩
  unfold Builtin.Range.rangeSize
  refine (if_pos (by decide : (2 : Int) > 0)) ▸ ?_
  split <;> lia
theorem PE.pushR {V : View} {s : Shared} {I : MSt} {a b c : Int} {t u v : Tok} {k : Nat} (g : Good G V s I) (h : RngOk a b c) :
    PE G V s I (RngR a b c) (.ref s.heap.objs.size) { s with heap := s.heap.push { cls := .type "range", data := .fields #[.int a t, .int b u, .int c v] }, toks := k } :=
  ⟨V, Step.push V s _ k, g.push _ k, _, t, u, v, rfl, IsRange.new .., h⟩

theorem range_call {A : Around} {V : View} {s : Shared} {I : MSt} {vs : List Value} {ns : List Int} {r : Int × Int × Int} (g : Good G V s I) (h : IntsAre vs ns) (e : rng3 ns = some r) : wpAny (Md G) A (PySem.call (.type "range") vs) (PE G V s I (RngR r.1 r.2.1 r.2.2)) No s := by
  cases ns with
  | nil => exact none_ne e
  | cons x ns =>
    refine g_eea h.cons_inv fun t us q h1 => ?_
    clear h
    subst q
    cases ns with
    | nil =>
      refine ite_go e fun hb => ?_
      obtain rfl := h1.nil_inv
      exact call_range_1 (PE.pushR g (rng_one ⟨(by decide : -1000 ≤ (0 : Int) ∧ (0 : Int) ≤ 1000), hb⟩))
    | cons y ns =>
      refine g_eea h1.cons_inv fun u us q h2 => ?_
      clear h1
      subst q
      cases ns with
      | nil =>
        refine ite_go e fun hb => ?_
        obtain rfl := h2.nil_inv
        exact call_range_2 (PE.pushR g (rng_one hb))
      | cons z ns =>
        cases ns with
        | cons _ _ => exact none_ne e
        | nil =>
          refine g_eea h2.cons_inv fun w us q h3 => ?_
          clear h2
          subst q
          refine ite_go e fun hb => ?_
          obtain rfl := h3.nil_inv
          obtain ⟨rfl, hb⟩ := hb
          exact call_range_3 (by decide) (PE.pushR g (rng_two hb)) (Or.inl (PyProof.noPylong_small (by lia)))

theorem SoundR.mk' {p pos : Pos} {es : List Expr} {fs : List Ev} (hg : GlobIs G sc "range" (.type "range")) (hl : SoundL G n sc es fs)
    (he : ∀ env : Env, eval (.Call (.Name (Str.ofString "range") p) es [] pos) env = (do callWith pos (← eval (.Name (Str.ofString "range") p) env) [] (backTo pos (starEach es env)) (backToKw pos (keywordEach [] env))) := by intro env; rfl)
    (hpl : ∀ env, (backTo pos (starEach es env)).any (·.1) = false := by intro env; rfl) :
    SoundR G n sc (.Call (.Name (Str.ofString "range") p) es [] pos) (rvOf fs) := .mk fun A env V σ I s a b c I' hs rm g w hf => by
  refine bind_go2 hf fun ds I₁ e hf => bind_go hf fun r e2 hf => bind_go e2 fun ns en e2 => ?_
  obtain rfl : I₁ = I' := congrArg Prod.snd (Option.some.inj hf)
  have hr : r = (a, b, c) := congrArg Prod.fst (Option.some.inj hf)
  refine PyProof.Rows.Call_ (load_glob hs g w hg (by decide +kernel) ?_) (he env)
  refine PySem.callWith_type (hpl env) (hl.args hs rm g w e fun V₁ s₁ vs st₁ g₁ w₁ r₁ => ?_)
  rw [List.nil_append]
  exact wpAny_mono (range_call g₁ (asInts_are r₁ en) (e2.trans (congrArg some hr))) (fun _ _ p => PE.trans st₁ p) fun _ _ x => x

noncomputable def rngL (a b c : Int) : List Dat := (List.range (Builtin.Range.rangeSize a b c).toNat).map fun (i : Nat) => .int (a + (i : Int) * c)

noncomputable def ivRange (f : Rv) : Iv := fun σ I => (f σ I).bind fun p => some (rngL p.1.1 p.1.2.1 p.1.2.2, p.2)

theorem src_one {A : Around} {V : View} {s₀ s : Shared} {I : MSt} {o : Obj} {T : String} {ds : List Dat} {P : Nat → Value → Prop} {St : Nat → Heap → Prop} (hcls : o.cls = .type T) (hT : ownedIters.contains T = false)
    (W : Walks G.prog G.w A s.heap.objs.size [s.heap.objs.size] [s.heap.objs.size] ds.length P St) (h0 : St 0 (s.heap.push o)) (hSt : ∀ i h', St i h' → ∃ o, h'.get? s.heap.objs.size = some o ∧ o.cls = .type T)
    (hP : ∀ i v, P i v → i < ds.length → ∃ d, ds[i]? = some d ∧ Rep G V (s.heap.push o) v d) (g : Good G V s I) (ex : ∀ b o, s₀.heap.get? b = some o → ∃ o', s.heap.get? b = some o') : Src G A V s₀.heap (s.heap.push o) (.ref s.heap.objs.size) ds := by
  have e := get_size s.heap
  refine ⟨s.heap.objs.size, _, _, _, _, rfl, PySem.Walks.bound W, h0, fun b hb => .inr hb, fun b hb => ?_, fun i h' hst b hb => ?_, fun i v hv => hP i v hv.2 hv.1, fun i h' hst => ?_⟩
  · simp only [List.mem_cons, List.not_mem_nil, or_false] at hb
    subst hb
    exact ⟨none_back ex e, g.notF e, g.notJ e⟩
  · simp only [List.mem_cons, List.not_mem_nil, or_false] at hb
    subst hb
    refine g_ea (hSt i h' hst) fun o ho _ => ?_
    exact ⟨o, ho⟩
  · refine g_ea (hSt i h' hst) fun o ho hc => ?_
    exact ⟨_, o, T, rfl, ho, hc, hT⟩

theorem SoundI.range {e : Expr} {f : Rv} (h : SoundR G n sc e f) : SoundI G n sc e (ivRange f) := .mk fun A env V σ I s ds I' hs rm g w hf => by
  refine bind_go2 hf fun abc I' e1 hf => ?_
  obtain ⟨a, b, c⟩ := abc
  refine some2 hf ?_
  refine wpAny_mono (h.run A env V σ I s a b c I' hs rm g w e1) (fun v s₁ q => ?_) fun _ _ x => x
  obtain ⟨V₁, st₁, g₁, r, t, u, v', rfl, hr, hsm, hle, hge⟩ := q
  refine wpAny_pyIter_range hr hsm ⟨V₁, st₁.trans (Step.push V₁ s₁ _ s₁.toks), g₁.push _ s₁.toks, ?_⟩
  have hn : ((Builtin.Range.rangeSize a b c).toNat : Int) = Builtin.Range.rangeSize a b c := Int.toNat_of_nonneg hge
  have hlen : (rngL a b c).length = (Builtin.Range.rangeSize a b c).toNat := by simp [rngL]
  refine src_one (T := "range_iterator") rfl (by decide) (by rw [hlen]; exact Walks.range rm.handled _ a c _) ?_ (fun i h' hst => ⟨_, hst, rfl⟩) (fun i v hv hi => ?_) g₁ st₁.ex
  · have e1 : (a + ((0 : Nat) : Int) * c) = a := by simp
    have e2 : (((Builtin.Range.rangeSize a b c).toNat : Int) - ((0 : Nat) : Int)) = Builtin.Range.rangeSize a b c := by rw [hn]; simp
    rw [e1, e2]
    exact Heap.get?_push_size _ rfl
  · obtain ⟨t, rfl⟩ := hv
    rw [hlen] at hi
    exact ⟨.int (a + i * c), by simp [rngL, hi], .int _ _⟩

noncomputable def evListR (f : Rv) : Ev := fun σ I => (f σ I).bind fun p => some (.list (rngL p.1.1 p.1.2.1 p.1.2.2), p.2)

theorem reps_items {V : View} {h : Heap} {acc : Array Value} {m : Nat} {ds : List Dat} {P : Nat → Value → Prop} (hi : ItemsOf P acc m) (hl : ds.length = m) (hP : ∀ i v, P i v → i < m → ∃ d, ds[i]? = some d ∧ Rep G V h v d) : Reps G V h acc.toList ds := by
  refine g_a hi fun h1 h2 => ?_
  have key : ∀ (vs : List Value) (ds : List Dat), vs.length = ds.length → (∀ (i : Nat) v, vs[i]? = some v → ∃ d, ds[i]? = some d ∧ Rep G V h v d) → Reps G V h vs ds := by
    intro vs
    induction vs with
    | nil => intro ds hl _; cases ds with | nil => exact .nil | cons _ _ => cases hl
    | cons v vs ih =>
      intro ds hl hr
      cases ds with
      | nil => cases hl
      | cons d ds =>
        refine g_ea (hr 0 v rfl) fun d' e r => ?_
        cases e
        exact .cons r (ih ds (by simpa using hl) fun i v e => hr (i + 1) v e)
  refine key _ _ (by rw [Array.length_toList, h1, hl]) fun i v e => ?_
  rw [Array.getElem?_toList] at e
  refine hP i v (h2 i v e) ?_
  refine g_e (Array.getElem?_eq_some_iff.mp e) fun q _ => ?_
  lia

theorem SoundE.listRange {p pos : Pos} {e : Expr} {f : Rv} (hg : GlobIs G sc "list" (.type "list")) (h : SoundR G n sc e f)
    (he : ∀ env : Env, eval (.Call (.Name (Str.ofString "list") p) [e] [] pos) env = (do callWith pos (← eval (.Name (Str.ofString "list") p) env) [] (backTo pos (starEach [e] env)) (backToKw pos (keywordEach [] env))) := by intro env; rfl)
    (hst : isStarred e = false := by rfl) : SoundE G n sc (.Call (.Name (Str.ofString "list") p) [e] [] pos) (evListR f) := .mk fun A env V σ I s d I' hs rm g w hf => by
  refine bind_go2 hf fun abc I' e1 hf => ?_
  obtain ⟨a, b, c⟩ := abc
  refine some2 hf ?_
  refine PyProof.Rows.Call_ (load_glob hs g w hg (by decide +kernel) ?_) (he env)
  refine (backTo_cons hst) ▸ ?_
  refine PySem.callWith_type rfl (Calls.evalArgs_plain (Calls.spliced_cons (wpAny_mono (h.run A env V σ I s a b c I' hs rm g w e1) (fun v s₁ q => Calls.spliced_nil ?_) fun _ _ e => e)))
  obtain ⟨V₁, st₁, g₁, r, t, u, v', rfl, hr, hsm, hle, hge⟩ := q
  have hn : Builtin.Range.rangeSize a b c = ((Builtin.Range.rangeSize a b c).toNat : Int) := (Int.toNat_of_nonneg hge).symm
  refine call_list_range rm.handled hr hsm hn (by lia) fun h' tk acc' c' hk ho hi => PE.trans st₁ ?_
  refine PE.newList g₁ rfl rfl hk (get_size _) ho (reps_items hi (by simp [rngL]) fun i v hv hlt => ?_)
  obtain ⟨t, rfl⟩ := hv
  exact ⟨.int (a + i * c), by simp [rngL, hlt], .int _ _⟩

-- the signs of a text

noncomputable def ivStr (f : Ev) : Iv := fun σ I => (f σ I).bind fun p => (datStr p.1).bind fun x => some (x.cps.toList.map fun c => .str ⟨#[c]⟩, p.2)

theorem SoundI.str {e : Expr} {f : Ev} (h : SoundE G n sc e f) : SoundI G n sc e (ivStr f) := .mk fun A env V σ I s ds I' hs rm g w hf => by
  refine bind_go2 hf fun d I' e1 hf => bind_go hf fun x hx hf => ?_
  refine some2 hf ?_
  refine h.use hs rm g w e1 fun V₁ s₁ v st₁ g₁ w₁ r₁ => ?_
  refine g_e ((datStr_go (d := d) hx ▸ r₁).is) fun t q1ₑ => ?_
  subst q1ₑ
  refine wpAny_pyIter_strU ⟨V₁, st₁.trans (Step.push V₁ s₁ _ s₁.toks), g₁.push _ s₁.toks, ?_⟩
  have hlen : (x.cps.toList.map fun c => (Dat.str ⟨#[c]⟩)).length = x.cps.size := by simp
  have hP : ∀ i v, SignAt x i v → i < (x.cps.toList.map fun c => (Dat.str ⟨#[c]⟩)).length → ∃ d, (x.cps.toList.map fun c => (Dat.str ⟨#[c]⟩))[i]? = some d ∧ Rep G V₁ (s₁.heap.push { cls := .type (strIterType x), data := .fields #[.str x t, .int 0 0] }) v d := fun i v hv _ => by
    refine g_eea hv fun c u hc q3ₑ => ?_
    subst q3ₑ
    exact ⟨.str ⟨#[c]⟩, by rw [List.getElem?_map, Array.getElem?_toList, hc]; rfl, .str _ _⟩
  cases ha : x.cps.all (· < 128)
  · have hT : strIterType x = "str_iterator" := by unfold strIterType; rw [ha]; rfl
    rw [hT] at hP ⊢
    exact src_one (T := "str_iterator") (St := fun i h => h.IsStrIter s₁.heap.objs.size "str_iterator" x t i) rfl (by decide) (by rw [hlen]; exact Walks.strWide rm.handled _ x t) ⟨_, Heap.get?_push_size _ rfl, rfl, rfl⟩ (fun i h' hst => let ⟨o, ho, hc, _⟩ := hst; ⟨o, ho, hc⟩) hP g₁ st₁.ex
  · have hT : strIterType x = "str_ascii_iterator" := by unfold strIterType; rw [ha]; rfl
    rw [hT] at hP ⊢
    exact src_one (T := "str_ascii_iterator") (St := fun i h => h.IsStrIter s₁.heap.objs.size "str_ascii_iterator" x t i) rfl (by decide) (by rw [hlen]; exact Walks.strAscii rm.handled _ x t) ⟨_, Heap.get?_push_size _ rfl, rfl, rfl⟩ (fun i h' hst => let ⟨o, ho, hc, _⟩ := hst; ⟨o, ho, hc⟩) hP g₁ st₁.ex

-- max of two

noncomputable def dMax2 (_ : MSt) (a b : Dat) : Option Dat := intsD a b fun a b => some (.int (if b > a then b else a))

theorem SoundE.max2 {p pos : Pos} {e₁ e₂ : Expr} {f₁ f₂ : Ev} (hg : GlobIs G sc "max" (.builtin "max")) (h1 : SoundE G n sc e₁ f₁) (h2 : SoundE G n sc e₂ f₂)
    (he : ∀ env : Env, eval (.Call (.Name (Str.ofString "max") p) [e₁, e₂] [] pos) env = (do callWith pos (← eval (.Name (Str.ofString "max") p) env) [] (backTo pos (starEach [e₁, e₂] env)) (backToKw pos (keywordEach [] env))) := by intro env; rfl)
    (hst : isStarred e₁ = false := by rfl) (hst' : isStarred e₂ = false := by rfl) : SoundE G n sc (.Call (.Name (Str.ofString "max") p) [e₁, e₂] [] pos) (ev2 f₁ f₂ dMax2) := .mk fun A env V σ I s d I' hs rm g w hf => by
  refine ev2_go hf fun a I₁ b e1 e2 e3 => ?_
  refine PyProof.Rows.Call_ (load_glob hs g w hg (by decide +kernel) ?_) (he env)
  rw [backTo_cons hst, backTo_cons hst']
  refine Calls.callWith_builtin rfl (Calls.evalArgs_plain (Calls.spliced_cons (h1.use hs rm g w e1 fun V₁ s₁ v st₁ g₁ w₁ r₁ => Calls.spliced_cons (h2.use hs rm g₁ w₁ e2 fun V₂ s₂ u st₂ g₂ w₂ r₂ => Calls.spliced_nil ?_))))
  refine ints_go e3 fun i j hi hj e3 => ?_
  refine some1 e3 ?_
  obtain ⟨_, rfl⟩ := (hi ▸ r₁).is
  obtain ⟨_, rfl⟩ := (hj ▸ r₂).is
  refine max_two_ints rm.handled fun h' tk hk => PE.trans (st₁.trans st₂) ?_
  split
  · exact PE.kept g₂ hk (.int _ _)
  · exact PE.kept g₂ hk (.int _ _)
end

-- M20
section
open PySem PySem.W PyProof.Rows PySem.Builtin PySem.Builtin.Str
variable {G : Cx} {n : Nat} {sc : Scope}

-- a method with one thing
structure OpM (G : Cx) (n : Nat) (attr : String) (id : String) (p : MSt → Dat → Dat → Option Dat) : Prop where
  get : ∀ (A : Around) (V : View) (s : Shared) (I : MSt) (a : Value) (da db d : Dat) (pl : Sem Bool) (Q : Value × List Value → Shared → Prop), Good G V s I → Rep1 G V s.heap a da → p I da db = some d → Q (.builtin id, [a]) s → wpAny (Md G) A (getMethod a (Str.ofString attr) pl) Q No s
  run : ∀ (A : Around) (V : View) (s : Shared) (I : MSt) (a b : Value) (da db d : Dat), Room A n → Good G V s I → Rep1 G V s.heap a da → Rep1 G V s.heap b db → p I da db = some d →
    wpAny (Md G) A (PySem.call (.builtin id) [a, b]) (PE G V s I fun V' h v => Rep G V' h v d) No s

theorem SoundE.meth {o e : Expr} {attr id : String} {ap cp : Pos} {fo fe : Ev} {q : MSt → Dat → Dat → Option Dat} (hq : OpM G n attr id q) (ho : SoundB G n sc o fo) (hl : SoundB G n sc e fe) (hm : MethForm o (Str.ofString attr) ap [e] cp := by intro env; rfl) (hst : isStarred e = false := by rfl)
    (hI : ∀ I I' da db, q I da db = q I' da db := by intros; rfl) :
    SoundE G n sc (.Call (.Attribute o (Str.ofString attr) ap) [e] [] cp) (ev2 fo fe q) := .mk fun A env V σ I s d I' hs rm g w hf => by
  refine ev2_go hf fun a I₁ b e1 e2 e3 => ?_
  refine MethodCall_ (pl := (do return (← importBound o env).getD true)) ?_ (hm env)
  refine ho.use hs rm g w e1 fun V₁ s₁ v st₁ g₁ w₁ r₁ => ?_
  refine hq.get _ V₁ s₁ I₁ v a b d _ _ g₁ r₁ ((hI _ _ _ _).trans e3) ?_
  refine (backTo_cons hst) ▸ ?_
  refine Calls.callWith_builtin rfl (Calls.evalArgs_plain (Calls.spliced_cons (hl.use hs rm g₁ w₁ e2 fun V₂ s₂ u st₂ g₂ w₂ r₂ => Calls.spliced_nil ?_)))
  exact wpAny_mono (hq.run A V₂ s₂ I' v u a b d rm g₂ (r₁.step st₂ g₁) r₂ e3) (fun _ _ q => PE.trans (st₁.trans st₂) q) fun _ _ x => x

noncomputable def dStarts (_ : MSt) (a b : Dat) : Option Dat := (datStr a).bind fun x => (datStr b).bind fun y => some (.bool (Txt.startswith x y))

theorem PE.same0 {V : View} {s : Shared} {I : MSt} {v : Value} {d : Dat} (g : Good G V s I) (r : Rep G V s.heap v d) : PE G V s I (fun V' h v => Rep G V' h v d) v s := ⟨V, Step.refl _ _, g, r⟩

theorem op_starts : OpM G n "startswith" "str.startswith" dStarts where
  get := fun A V s I a da db d pl Q g r e q => bind_go e fun x hx e => by
    obtain ⟨t, rfl⟩ := (datStr_go hx ▸ r).str
    with_reducible exact GM.startswith q
  run := fun A V s I a b da db d rm g ra rb e => bind_go e fun x hx e => bind_go e fun y hy e => by
    obtain ⟨t, rfl⟩ := (datStr_go hx ▸ ra).str
    obtain ⟨u, rfl⟩ := (datStr_go hy ▸ rb).str
    exact some1 e (SC.startswith (PE.same0 g (.bool _)))

noncomputable def asStrs : List Dat → Option (List Str)
  | [] => some []
  | d :: r => (datStr d).bind fun i => (asStrs r).map (i :: ·)

theorem asStrs_are {V : View} {h : Heap} {vs : List Value} {ds : List Dat} {ns : List Str} (r : Reps G V h vs ds) (e : asStrs ds = some ns) : StrsAre vs ns := by
  suffices q : ∀ ns, asStrs ds = some ns → StrsAre vs ns from q ns e
  refine Reps.ind r (fun ns e => some1 (P := StrsAre []) e .nil) fun v d vs ds a _ ih ns e => ?_
  refine bind_go e fun i hi e => map_go e fun l hl => ?_
  obtain ⟨t, e⟩ := (datStr_go hi ▸ a).is
  exact e ▸ .cons i t (ih l hl)

noncomputable def dJoin (_ : MSt) (a b : Dat) : Option Dat := (datStr a).bind fun x => (datLst b).bind fun ys => (asStrs ys).bind fun l =>
  if x.length ≤ 16 ∧ (l.map (·.length)).sum + l.length ≤ 1048576 then some (.str (Txt.join x l)) else none

theorem op_join : OpM G n "join" "str.join" dJoin where
  get := fun A V s I a da db d pl Q g r e q => bind_go e fun x hx e => by
    obtain ⟨t, rfl⟩ := (datStr_go hx ▸ r).str
    with_reducible exact GM.join q
  run := fun A V s I a b da db d rm g ra rb e => bind_go e fun x hx e => bind_go e fun ys hy e => bind_go e fun l e1 e => by
    refine ite_go e fun hl => ?_
    obtain ⟨t, rfl⟩ := (datStr_go hx ▸ ra).str
    obtain ⟨D, vs, rfl, ⟨k, ho⟩, rs⟩ := (datLst_go hy ▸ rb).lst
    exact join_listW ⟨_, ho, rfl, k, rfl⟩ (asStrs_are rs e1) hl.1 hl.2 fun t' k => PE.same g k (.str _ _)

noncomputable def dSplit (_ : MSt) (a b : Dat) : Option Dat := (datStr a).bind fun x => (datStr b).bind fun y =>
  if (y.length == 0) = false ∧ x.length ≤ 1000 ∧ (partsBetween x (occurrences x y 0 x.length (x.length + 1)) y.length).length ≤ 1000 then some (.list ((Txt.split x y).map .str)) else none

theorem reps_strs {V : View} {h : Heap} : ∀ (l : List (Str × Tok)), Reps G V h (strValues l) ((l.map (·.1)).map .str)
  | [] => .nil
  | (x, t) :: r => .cons (.str x t) (reps_strs r)

theorem op_split : OpM G n "split" "str.split" dSplit where
  get := fun A V s I a da db d pl Q g r e q => bind_go e fun x hx e => by
    obtain ⟨t, rfl⟩ := (datStr_go hx ▸ r).str
    with_reducible exact GM.split q
  run := fun A V s I a b da db d rm g ra rb e => bind_go e fun x hx e => bind_go e fun y hy e => by
    refine ite_go e fun hb => ?_
    obtain ⟨t, rfl⟩ := (datStr_go hx ▸ ra).str
    obtain ⟨u, rfl⟩ := (datStr_go hy ▸ rb).str
    clear e hx hy ra rb
    have mk : ∀ (l : List (PySem.Str × Tok)) (k : Nat), l.map (·.1) = Txt.split x y → PE G V s I (fun V' h v => Rep G V' h v (.list ((Txt.split x y).map .str))) (.ref s.heap.objs.size) { s with heap := s.heap.push { cls := .type "list", data := .seq (strValues l).toArray }, toks := k } := fun l k hl => by
      refine PE.newList g rfl rfl (fun b o e => Heap.get?_push_of_some _ e) (get_size _) (Heap.get?_push_size _ rfl) ?_
      refine (hl) ▸ ?_
      simpa using reps_strs l
    cases h1 : (decide (x.length < y.length) || decide (strKind x < strKind y))
    · cases hf : (occurrences x y 0 x.length (x.length + 1)).isEmpty
      · refine call_meets PySem.F.slot_str_split (typeIs_str _ _ _) PySem.F.entry_str_split (PySem.F.args_str_split_2 _ _) (meets_str_split_sep x y t u h1 hb.1 hf (Nat.le_trans hb.2.1 (by decide)) (Nat.le_trans hb.2.2 (by decide))) ?_
        show wants _ _ _ { s with toks := _, heap := s.heap.push { cls := .type "list", data := .seq (strsFrom s.toks (partsBetween x (occurrences x y 0 x.length (x.length + 1)) y.length)).toArray } }
        rw [strsFrom_eq]
        exact mk (numbered s.toks _) _ ((numbered_texts _ _).trans ((if_neg (ne_true_of_eq_false h1)).trans (if_neg (ne_true_of_eq_false hf))).symm)
      · exact call_meets PySem.F.slot_str_split (typeIs_str _ _ _) PySem.F.entry_str_split (PySem.F.args_str_split_2 _ _) (meets_str_split_not_found x y t u h1 hb.1 hf)
          (mk [(x, t)] _ ((if_neg (ne_true_of_eq_false h1)).trans (if_pos hf)).symm)
    · exact call_meets PySem.F.slot_str_split (typeIs_str _ _ _) PySem.F.entry_str_split (PySem.F.args_str_split_2 _ _) (meets_str_split_cannot_occur x y t u h1)
        (mk [(x, t)] _ (if_pos h1).symm)

noncomputable def dIndex (_ : MSt) (a b : Dat) : Option Dat := (datLst a).bind fun xs => (datInt b).bind fun k => (asInts xs).bind fun ns =>
  if PyData.layable0 (.list (ns.map .int)) = true ∧ k ∈ ns then some (.int (ns.idxOf k : Nat)) else none

theorem op_index : OpM G n "index" "list.index" dIndex where
  get := fun A V s I a da db d pl Q g r e q => bind_go e fun xs hx e => by
    obtain ⟨l, vs, rfl, ⟨k, ho⟩, rs⟩ := (datLst_go hx ▸ r).lst
    exact getMethod_list_of PySem.F.slot_list_index PySem.F.type_list_index (items := vs) ⟨_, ho, rfl, k, rfl⟩ ⟨_, ho, rfl⟩ q
  run := fun A V s I a b da db d rm g ra rb e => bind_go e fun xs hx e => bind_go e fun j hj e => bind_go e fun ns e1 e => by
    refine ite_go e fun hb => ?_
    obtain ⟨l, vs, rfl, ⟨k, ho⟩, rs⟩ := (datLst_go hx ▸ ra).lst
    obtain ⟨t, rfl⟩ := (datInt_go hj ▸ rb).int
    exact index_list_ints (vs := vs.toList) ⟨_, ho, rfl, k, by simp⟩ (asInts_are rs e1) hb.1 hb.2 (PE.same g _ (.int _ _))
end

-- M21
section
variable {G : Cx} {n : Nat} {sc : Scope}

theorem SoundE.gty {x T : String} {p : Pos} (hg : GlobIs G sc x (.type T)) (hd : (Str.ofString x == ("__debug__" : Str)) = false := by decide +kernel) : SoundE G n sc (.Name (Str.ofString x) p) (evC (.ty T)) := .mk fun A env V σ I s d I' hs rm g w hf => by
  cases hf
  exact load_glob hs g w hg hd (PE.same0 g (.ty _))

noncomputable def dType (d : Dat) : Option Dat := (datStr d).map fun _ => .ty "str"
theorem op_type : OpC1 G n (.type "type") (fun _ => dType) := fun A V s I a da d rm g r e => by
  refine map_go e fun x hx => ?_
  obtain ⟨t, rfl⟩ := (datStr_go hx ▸ r).str
  exact call_type_of (typeIs_str _ _ _) (by decide) (PE.same0 g (.ty _))

noncomputable def dTuple (d : Dat) : Option Dat := (datLst d).bind fun xs => if xs.length ≤ 1000 then some (.tup xs) else none
theorem op_tuple : OpC1 G n (.type "tuple") (fun _ => dTuple) := fun A V s I a da d rm g r e => by
  refine bind_go e fun xs hx e => ite_go e fun hl => ?_
  obtain ⟨l, vs, rfl, ⟨k, ho⟩, rs⟩ := (datLst_go hx ▸ r).lst
  refine call_tuple_list ⟨_, ho, rfl, k, rfl⟩ (fun h' hk => ?_) (by rw [size_of_reps rs]; exact Nat.le_trans hl (by decide))
  have st : Step V s V { s with heap := h' } := ⟨rfl, rfl, fun b o e _ => hk b o e, fun b o e => ⟨o, hk b o e⟩, fun _ q => q, fun _ q => .inl q, fun _ _ q => q, fun _ q => .inl q⟩
  exact PE.trans st (PE.freshT (g.keeps (s' := { s with heap := h' }) hk) (rs.mono (fun _ q => q) (fun _ _ q => q) fun b o _ e => hk b o e))

theorem lay_fresh (led : Bool) (h : Int) (v : Value) : layNew (.fresh 0 0 led) #[] h v = (#[(h, v)], { mask := 7, place := #[SetTable.bits h % 8], dummies := #[], finger := 0, led := led, moves := 0, plain := true }, false, false) := by
  kernel_rfl
theorem add_fresh {A : Around} {s : Shared} {S : Addr} {x : PySem.Str} {t : Tok} {led : Bool} {Q : Bool → Shared → Prop} (hS : s.heap.get? S = some (set0 led))
    (k : ∀ h', Heap.SameBut S s.heap h' → h'.get? S = some (set1 ((strKind G.prog G.w).hash x) x t led) → Q true { s with heap := h' }) : wpAny (Md G) A (setAddHashed S (.str x t) ((strKind G.prog G.w).hash x)) Q No s := by
  unfold setAddHashed setAddHashedIn
  refine wpAny_holding (wpAny_bind (wpAny_setState_of hS rfl (by rfl) ?_))
  dsimp only
  rw [show byScan (.str x t) #[] = true by kernel_rfl]
  simp only [↓reduceIte]
  unfold setAddByScan
  rw [lay_fresh]
  dsimp only
  refine wpAny_bind ?_
  refine wpAny_bind (wpAny_rule ?_)
  refine wpAny_bind (wpAny_setScan_of (knd := strKind G.prog G.w) (k := x) (strKind_is _ _ _ _) hS rfl (by rfl) (fun e he => by simp at he) ?_)
  refine wpAny_bind (wpAny_pure ?_)
  refine wpAny_bind (wpAny_pure ?_)
  refine wpAny_bind (wpAny_storeSet_of hS rfl ?_ (by show 1 ≤ sizeLine; decide))
  refine wpAny_pure ?_
  refine wpAny_pure ?_
  refine k _ (Heap.SameBut.update _ S _) ?_
  refine Eq.trans (Heap.get?_update_self _ hS ?_) ?_ <;> rfl
-- set.__new__ with one thing
theorem code_set_new {A : Around} {E : Value → Shared → Prop} {s : Shared} (a : Value) {Q₁ : Value → Shared → Prop}
    (h : Q₁ (.ref s.heap.objs.size) { s with heap := s.heap.push (set0 (!G.w.params.followText "set-order")) }) :
    codeAny (Md G) A (.call (.builtin "set.__new__") ⟨[.type "set", a], []⟩) (wants Q₁ E) s := by
  refine codeAny_of_tree ?_
  show wpAny _ A.in1 (do checkBuiltinCall "set.__new__" ⟨[.type "set", a], []⟩; again (.builtin "set.__new__" ⟨[.type "set", a], []⟩)) _ _ s
  refine wpAny_bind (wpAny_of_eq (PySem.F.newCall_set_1 a) (wpAny_pure ⟨plainId_quiet PySem.F.plain_set_new _, codeAny_builtin PySem.F.entry_set_new ?_⟩))
  rw [Around.under_plainId PySem.F.plain_set_new _]
  unfold Builtin.«set.__new__» Builtin.Frozenset.newClass
  have hsub := sub_set_self
  obtain ⟨hp, g, d, tk, os⟩ := s
  dsimp only
  wp_walk
  refine wpAny_askSetting (wpAny_pure ?_)
  dsimp only
  simp only [newObj]
  refine wpAny_bind (wpAny_alloc (wpAny_pure ?_))
  exact wpAny_pure h

theorem set_loop_one {A : Around} {R : Result → Shared → Prop} {Ia l S : Addr} {x : PySem.Str} {t : Tok} {s : Shared} (hh : A.in1.handled = none) (hSf : S ∉ [Ia, l]) (hne : l ≠ Ia) (hi : s.heap.IsListIter Ia l 0) (hl : s.heap.IsList l #[.str x t]) {led : Bool} (hS : s.heap.get? S = some (set0 led))
    (k : ∀ h' tk, h'.get? S = some (set1 ((strKind G.prog G.w).hash x) x t led) → (∀ b o, b ∉ [S, Ia] → s.heap.get? b = some o → h'.get? b = some o) → R (.ok (.ret .none)) { s with heap := h', toks := tk }) :
    codeAny (Md G) A (.builtin "set.update.loop" ⟨[.ref S, .ref Ia], []⟩) R s := by
  have W := Walks.list (prog := G.prog) (w := G.w) hh Ia l hne #[.str x t]
  have hSI : S ≠ Ia := fun q => hSf (by simp [q])
  have hSw : S ∉ [Ia] := by simpa using hSI
  refine codeAny_builtin PyProof.Rows.F.entry_set_update_loop ?_
  rw [Around.under_plainId PyProof.Rows.F.plain_set_update_loop _]
  show wpAny _ A.in1 (pyNext (.ref Ia) >>= _) _ _ s
  refine wpAny_bind (W.item 0 s _ _ (Nat.zero_lt_one) ⟨hi, hl⟩ fun v h₁ tk₁ hv hst₁ hk₁ => ?_)
  have hv' : v = .str x t := by simpa using hv.symm
  subst hv'
  have hS' : h₁.get? S = some (set0 led) := hk₁ S _ hSw hS
  show wpAny _ A.in1 (holding [Value.str x t] (setAdd S (.str x t)) >>= _) _ _ _
  refine wpAny_bind (wpAny_holding ?_)
  unfold setAdd
  refine wpAny_holding ?_
  refine wpAny_bind ((strKind G.prog G.w).pyHash (k := x) (strKind_is _ _ _ _) ?_)
  refine wpAny_no (add_fresh (G := G) (s := { s with heap := h₁, toks := tk₁ + 1 }) hS' fun h₂ hsb hS2 => ?_)
  refine wpAny_pure ⟨plainId_quiet PyProof.Rows.F.plain_set_update_loop _, ?_⟩
  refine codeAny_builtin PyProof.Rows.F.entry_set_update_loop ?_
  rw [Around.under_plainId PyProof.Rows.F.plain_set_update_loop _]
  show wpAny _ A.in1 (pyNext (.ref Ia) >>= _) _ _ _
  refine wpAny_bind (W.done _ _ _ (W.frame _ _ _ hst₁ fun b hb o e => (hsb.2 b fun q => hSf (q ▸ hb)).trans e) fun h₃ tk₃ hk₃ => ?_)
  show wpAny _ A.in1 (ret Value.none) _ _ _
  refine wpAny_pure (k h₃ tk₃ (hk₃ S _ hSw hS2) fun b o hb e => ?_)
  · simp only [List.mem_cons, List.not_mem_nil, or_false, not_or] at hb
    exact hk₃ b o (by simpa using hb.2) ((hsb.2 b hb.1).trans (hk₁ b o (by simpa using hb.2) e))

set_option maxHeartbeats 3200000 in
theorem call_set_one {A : Around} {E : Value → Shared → Prop} {s : Shared} {l : Addr} {x : PySem.Str} {t : Tok} {Q : Value → Shared → Prop} (hh : A.handled = none) (hl : s.heap.IsList l #[.str x t])
    (h : ∀ (h' : Heap) (tk : Nat), h'.get? s.heap.objs.size = some (set1 ((strKind G.prog G.w).hash x) x t (!G.w.params.followText "set-order")) → (∀ b o, b < s.heap.objs.size → s.heap.get? b = some o → h'.get? b = some o) → Q (.ref s.heap.objs.size) { s with heap := h', toks := tk }) :
    wpAny (model G.prog G.w) A (PySem.call (.type "set") [.ref l]) Q E s := by
  obtain ⟨c, tl, hmro⟩ := PySem.F.called_set.mro
  have hmade := PySem.F.called_set.made
  have hsub := PySem.F.called_set.sub
  refine wpAny_call (codeAny_of_tree ?_)
  show wpAny _ _ (callAny (.type "set") _) _ _ _
  refine wpAny_pure ⟨Code.quiet_builtin _ (by decide +kernel), codeAny_builtin PySem.F.entry_type_call ?_⟩
  rw [Around.under_plain (weight_type_call_type "set" [.ref l] []) rfl]
  have h1 := PySem.F.called_set.notType
  have h2 := PySem.F.called_set.canCreate
  have hct := PySem.F.typeCall_set_1 (.ref l)
  repeat (any_goals (first | assumption | wp_step))
  refine codeAny_mono (code_set_new (.ref l) (E := E) (Q₁ := fun obj s₁ => obj = .ref s.heap.objs.size ∧ s₁ = { s with heap := s.heap.push (set0 (!G.w.params.followText "set-order")) }) ⟨rfl, rfl⟩) fun r s₁ hr => ?_
  cases r with
  | error e => exact hr
  | ok fl =>
    cases fl with
    | ret obj =>
      obtain ⟨rfl, rfl⟩ := hr
      generalize hled : (!G.w.params.followText "set-order") = led at h ⊢
      clear hled
      have hS : (s.heap.push (set0 led)).get? s.heap.objs.size = some (set0 led) := Heap.get?_push_size _ rfl
      have hT : Shared.TypeIs { s with heap := s.heap.push (set0 led) } (.ref s.heap.objs.size) "set" := ⟨_, hS, rfl⟩
      have hli := PySem.F.called_set.init.lookup
      have hbi := PySem.F.called_set.init.bind (.ref s.heap.objs.size)
      repeat (any_goals (first | assumption | wp_step))
      refine codeAny_mono (codeAny_call_builtin (R := wants (fun r s₂ => r = .none ∧ ∃ h' tk, s₂ = { s with heap := h', toks := tk } ∧
          h'.get? s.heap.objs.size = some (set1 ((strKind G.prog G.w).hash x) x t led) ∧ (∀ b o, b < s.heap.objs.size → s.heap.get? b = some o → h'.get? b = some o)) E) PySem.F.called_set.init.plain PySem.F.entry_set_init (check_set_init_1 hT ?_)) fun r₂ s₂ hr₂ => ?_
      · obtain ⟨ol, hol, hcl, nl, hdl⟩ := hl
        obtain ⟨ocls, odict, odata, oslots⟩ := ol
        simp only at hcl hdl
        subst hcl; subst hdl
        have hol' : (s.heap.push (set0 led)).get? l = some { cls := .type "list", dict := odict, data := .seq #[.str x t] nl, slots := oslots } := Heap.get?_push_of_some _ hol
        have hsls := PySem.F.sub_list_set
        have hslf := PySem.F.sub_list_frozenset
        have hne : (Value.type "list" == Value.type "dict") = false := by decide
        have hl1 : (s.heap.push (set0 led)).IsList l #[.str x t] := ⟨_, hol', rfl, nl, rfl⟩
        unfold Builtin.«set.__init__» noKeywords Builtin.Frozenset.updateFrom
        generalize hPI : pyIter = PI
        wp_walk
        subst hPI
        refine wpAny_pyIter_list hl1 ?_
        refine wpAny_bind (wpAny_runValue ?_)
        have hlS : l < s.heap.objs.size := Heap.lt_size hol
        have hneI : l ≠ (s.heap.push (set0 led)).objs.size := by
          rw [Heap.size_push]; exact Nat.ne_of_lt (Nat.lt_succ_of_lt hlS)
        have hSf : s.heap.objs.size ∉ [(s.heap.push (set0 led)).objs.size, l] := by
          rw [Heap.size_push]; simp only [List.mem_cons, List.mem_singleton, List.not_mem_nil, or_false, not_or]
          exact ⟨Nat.ne_of_lt (Nat.lt_succ_self _), Nat.ne_of_gt hlS⟩
        have hget : ((s.heap.push (set0 led)).push { cls := .type "list_iterator", data := .fields #[.ref l, .int 0 0] }).get? s.heap.objs.size
            = some (set0 led) := Heap.get?_push_of_some _ hS
        refine set_loop_one (G := G) (x := x) (t := t) (by simp [hh]) hSf hneI ⟨_, Heap.get?_push_size _ rfl, rfl, rfl⟩ (hl1.push _) hget fun h' tk hS' hm => ?_
        refine wpAny_pure ?_
        show wpAny _ _ (ret Value.none) _ _ _
        refine wpAny_pure ⟨rfl, h', tk, rfl, hS', fun b o hb e => ?_⟩
        have hb1 : b ≠ s.heap.objs.size := Nat.ne_of_lt hb
        have hb2 : b ≠ (s.heap.push (set0 led)).objs.size := by
          rw [Heap.size_push]; exact Nat.ne_of_lt (Nat.lt_succ_of_lt hb)
        exact hm b o (by simp only [List.mem_cons, List.mem_singleton, List.not_mem_nil, or_false, not_or]; exact ⟨hb1, hb2⟩) (Heap.get?_push_of_some _ (Heap.get?_push_of_some _ e))
      · cases r₂ with
        | error e => exact hr₂
        | ok fl₂ =>
          cases fl₂ with
          | ret r =>
            obtain ⟨rfl, h', tk, rfl, hS', hk'⟩ := hr₂
            repeat (any_goals (first | assumption | wp_step))
            exact h _ _ hS' hk'
          | _ => exact hr₂.elim
    | _ => exact hr.elim

theorem PE.newSet {V : View} {s s' : Shared} {I : MSt} {D : Addr} {o : Obj} {xs : List PySem.Str} (g : Good G V s I) (hg : s'.gens = s.gens) (ho : s'.os = s.os) (hk : ∀ b o, s.heap.get? b = some o → s'.heap.get? b = some o) (hD : s.heap.get? D = none)
    (hd : s'.heap.get? D = some o) (hs : SetIs G o xs) : PE G V s I (fun V' h v => Rep G V' h v (.sset xs)) (.ref D) s' := by
  have st : Step V s V s' := ⟨hg, ho, fun b o e _ => hk b o e, fun b o e => ⟨o, hk b o e⟩, fun _ q => q, fun _ q => .inl q, fun _ _ q => q, fun _ q => .inl q⟩
  exact ⟨V.add D, st.add hD, (g.keeps hk).add (g.notJ hD) ⟨_, hd⟩, .sset (.inr rfl) hd hs⟩

noncomputable def dSet (d : Dat) : Option Dat := (datLst d).bind fun xs => (asStrs xs).bind fun l => match l with
  | [] => none
  | x :: r => match r with
    | [] => some (.sset [x])
    | _ :: _ => none
theorem op_set : OpC1 G n (.type "set") (fun _ => dSet) := fun A V s I a da d rm g r e => by
  refine bind_go e fun xs hx e => bind_go e fun ls hl e => ?_
  cases ls with
  | nil => exact none_ne e
  | cons x ls => cases ls with
    | cons _ _ => exact none_ne e
    | nil =>
      refine some1 e ?_
      obtain ⟨l, vs, rfl, ⟨k, ho⟩, rs⟩ := (datLst_go hx ▸ r).lst
      obtain ⟨t, ht⟩ : ∃ t, vs = #[.str x t] := by
        have hs := asStrs_are rs hl
        cases hv : vs.toList with
        | nil => rw [hv] at hs; cases hs
        | cons v us =>
          rw [hv] at hs
          cases hs with | cons _ t r => cases r; exact ⟨t, by rw [← Array.toArray_toList (xs := vs), hv]⟩
      subst ht
      exact call_set_one rm.handled ⟨_, ho, rfl, k, rfl⟩ fun h' tk hS hk => PE.newSet g rfl rfl (fun b o e => hk b o (Heap.lt_size e) e) (get_size _) hS (.one x t)

theorem SoundE.set0 {p pos : Pos} (hg : GlobIs G sc "set" (.type "set"))
    (he : ∀ env : Env, eval (.Call (.Name (Str.ofString "set") p) [] [] pos) env = (do callWith pos (← eval (.Name (Str.ofString "set") p) env) [] (backTo pos (starEach [] env)) (backToKw pos (keywordEach [] env))) := by intro env; rfl) :
    SoundE G n sc (.Call (.Name (Str.ofString "set") p) [] [] pos) (evC (.sset [])) := .mk fun A env V σ I s d I' hs rm g w hf => by
  cases hf
  refine PyProof.Rows.Call_ (load_glob hs g w hg (by decide +kernel) ?_) (he env)
  refine PySem.callWith_type rfl (PySem.evalArgs_none ?_)
  refine call_set_0 fun led => ?_
  exact PE.newSet g rfl rfl (fun b o e => Heap.get?_push_of_some _ e) (get_size _) (Heap.get?_push_size _ rfl) (.nil led)
end

-- M22
section
variable {G : Cx} {n : Nat} {sc : Scope}

-- the heap changed in the frame alone, at these names
structure Bnd (G : Cx) (V : View) (env : Env) (xs : List String) (h : Heap) (σ : Sto) (h' : Heap) (σ' : Sto) : Prop where
  keep : ∀ b o, b ≠ env.locals → (∀ x ∈ xs, env.cells.lookup (Str.ofString x) ≠ some b) → h.get? b = some o → h'.get? b = some o
  ex : ∀ b o, h.get? b = some o → ∃ o', h'.get? b = some o'
  w : EnvOk G V h' env σ'
  own : ∀ b, OwnA h' env σ' b → OwnA h env σ b
  rep : KeepF V h h'

set_option tactic.hygienic true in
theorem bind_one {A : Around} {env : Env} {V : View} {σ : Sto} {s : Shared} {x : String} {v : Value} {d : Dat} {p : Pos} {Q : Unit → Shared → Prop} (w : EnvOk G V s.heap env σ) (hk : KindOk env.scope x) (r : Rep G V s.heap v d)
    (k : ∀ h' tk, Bnd G V env [x] s.heap σ h' (σ.set x (.frz d)) → Q () { s with heap := h', toks := tk }) : wpAny (Md G) A (assign (.Name (Str.ofString x) p) env v) Q No s := by
  refine wpAny_assign_Name ?_
  refine storeName_both w hk fun c oc h' tk hF hJ hc hsb ho hx hy hns hcel => ?_
  refine k h' tk ⟨fun b o h1 h2 e => (hsb.2 b fun z => ?_).trans e, fun b o e => SameBut.ex hsb ho b o e, w.stored (e := .frz d) hF (hc.imp id fun q => ⟨_, q⟩) hsb ho hx hy hns hcel r, ?_, keepF_sameBut hsb hF⟩
  · rcases hc with q | q
    · exact h1 (z.trans q)
    · exact h2 x (by simp) (z ▸ q)
  · intro b qₕ
    refine g_eeeaa qₕ fun y e u q hu hb => ?_
    unfold Sto.set at q
    split at q
    · cases q
    · rename_i hyx
      refine g_eaa (w.own y e q) fun u' hu' o f => ?_
      obtain rfl := Option.some.inj (At.unique hu (hy _ _ (fun z => hyx (ofString_inj z)) hu'))
      have hfk : foot h' u = foot s.heap u := o.foot_keep fun a ha ob q => (hsb.2 a fun z => by
        rcases hc with z' | z'
        · exact (f a ha).loc (z.trans z')
        · exact (f a ha).cel _ (z ▸ z')).trans q
      rw [hfk] at hb
      exact ⟨y, e, u, q, hu', hb⟩

noncomputable def setAll : List String → List Dat → Sto → Option Sto
  | [], ds, σ => (match ds with
    | [] => some σ
    | _ :: _ => none)
  | x :: xs, ds, σ => (match ds with
    | [] => none
    | d :: ds => setAll xs ds (σ.set x (.frz d)))

theorem bind_all {A : Around} {env : Env} {V : View} (l : List (String × Pos)) {σ σ' : Sto} {s : Shared} {vs : List Value} {ds : List Dat} {Q : Unit → Shared → Prop} (w : EnvOk G V s.heap env σ) (hk : ∀ p ∈ l, KindOk env.scope p.1) (r : Reps G V s.heap vs ds) (e : setAll (l.map (·.1)) ds σ = some σ')
    (k : ∀ h' tk, Bnd G V env (l.map (·.1)) s.heap σ h' σ' → Q () { s with heap := h', toks := tk }) : wpAny (Md G) A (assignInOrder (l.map fun p => assign (.Name (Str.ofString p.1) p.2) env) vs) Q No s := by
  induction l generalizing σ s vs ds Q with
  | nil =>
    cases ds with
    | cons _ _ => exact none_ne e
    | nil =>
      revert k
      refine some1 e fun k => ?_
      refine (r.nil_inv) ▸ ?_
      exact wpAny_assignInOrder_none (k s.heap s.toks ⟨fun _ _ _ _ e => e, fun b o e => ⟨o, e⟩, w, fun _ q => q, fun _ _ _ e => e⟩)
  | cons p l ih =>
    cases ds with
    | nil => exact none_ne e
    | cons d ds =>
      refine g_eeaa r.cons_inv fun v us ev r1 rs => ?_
      refine (ev) ▸ ?_
      refine wpAny_assignInOrder_more (bind_one w (hk _ (.head _)) r1 fun h₁ tk₁ b₁ => ?_)
      refine ih (s := { s with heap := h₁, toks := tk₁ }) b₁.w (fun q hq => hk q (.tail _ hq)) (rs.mono (fun _ q => q) (fun _ _ q => q) b₁.rep) e fun h₂ tk₂ b₂ => ?_
      refine k h₂ tk₂ ⟨fun b o h1 h2 e => b₂.keep b o h1 (fun y hy => h2 y (.tail _ hy)) (b₁.keep b o h1 (fun y hy => h2 y (List.mem_singleton.mp hy ▸ .head _)) e), fun b o e => (b₁.ex b o e).elim fun o' e' => b₂.ex b o' e', b₂.w, fun b q => b₁.own b (b₂.own b q), fun b o q e => b₂.rep b o q (b₁.rep b o q e)⟩

theorem assignEach_names (l : List (String × Pos)) (env : Env) : assignEach (l.map fun p => .Name (Str.ofString p.1) p.2) env = l.map fun p => (false, assign (.Name (Str.ofString p.1) p.2) env) := by
  induction l with
  | nil => rfl
  | cons p r ih => rw [List.map_cons, List.map_cons, ← ih]; rfl

theorem setAll_length (xs : List String) (ds : List Dat) (σ σ' : Sto) (e : setAll xs ds σ = some σ') : xs.length = ds.length := by
  induction xs generalizing ds σ with
  | nil => cases ds with
    | nil => rfl
    | cons _ _ => exact none_ne e
  | cons x xs ih => cases ds with
    | nil => exact none_ne e
    | cons d ds => exact congrArg Nat.succ (ih ds _ e)

-- a tuple is taken apart
theorem unpack_tup {A : Around} {env : Env} {V : View} {σ σ' : Sto} {s : Shared} {I : MSt} {a : Addr} {vs : Array Value} {ds : List Dat} {kk : Nat} {pos : Pos} {Q : Unit → Shared → Prop} (l : List (String × Pos)) (hh : A.handled = none) (g : Good G V s I) (w : EnvOk G V s.heap env σ) (hk : ∀ p ∈ l, KindOk env.scope p.1) (ht : s.heap.IsTuple a vs) (hs : Reps G V s.heap vs.toList ds) (e : setAll (l.map (·.1)) ds σ = some σ')
    (k : ∀ h' tk, Bnd G V env (l.map (·.1)) s.heap σ h' σ' → Q () { s with heap := h', toks := tk }) : wpAny (Md G) A (assign (.Tuple (l.map fun p => .Name (Str.ofString p.1) p.2) kk pos) env (.ref a)) Q No s := by
  have hz := size_of_reps hs
  have hn := setAll_length _ _ _ _ e
  refine assign_Tuple_tuple hh ht (by rw [assignEach_names, hz, ← hn]; simp) (by rw [assignEach_names]; simp [List.findIdx?_eq_none_iff]) fun h₁ hx => ?_
  have kp : ∀ b o, s.heap.get? b = some o → h₁.get? b = some o := fun b o e => hx b o (Nat.ne_of_lt (Heap.lt_size e)) e
  have st : Step V s V { s with heap := h₁ } := ⟨rfl, rfl, fun b o e _ => kp b o e, fun b o e => ⟨o, kp b o e⟩, fun _ q => q, fun _ q => .inl q, fun _ _ q => q, fun _ q => .inl q⟩
  rw [assignEach_names, List.map_map]
  refine bind_all l (s := { s with heap := h₁ }) (w.step st g) hk (hs.mono (fun _ q => q) (fun _ _ q => q) fun b o _ e => kp b o e) e fun h₂ tk b₂ => ?_
  exact k h₂ tk ⟨fun b o h1 h2 e => b₂.keep b o h1 h2 (kp b o e), fun b o e => b₂.ex b o (kp b o e), b₂.w, fun b q => w.own_step (s' := { s with heap := h₁ }) st (b₂.own b q), fun b o q e => b₂.rep b o q (kp b o e)⟩
theorem unpack_all {A : Around} {env : Env} {V : View} {σ σ' : Sto} {s : Shared} {I : MSt} {v : Value} {ds : List Dat} {kk : Nat} {pos : Pos} {Q : Unit → Shared → Prop} (l : List (String × Pos)) (hh : A.handled = none) (g : Good G V s I) (w : EnvOk G V s.heap env σ) (hk : ∀ p ∈ l, KindOk env.scope p.1) (r : Rep G V s.heap v (.tup ds)) (e : setAll (l.map (·.1)) ds σ = some σ')
    (k : ∀ h' tk, Bnd G V env (l.map (·.1)) s.heap σ h' σ' → Q () { s with heap := h', toks := tk }) : wpAny (Md G) A (assign (.Tuple (l.map fun p => .Name (Str.ofString p.1) p.2) kk pos) env v) Q No s := by
  obtain ⟨a, vs, rfl, hF, ⟨kt, ho⟩, hs⟩ := r.is
  · exact unpack_tup l hh g w hk ⟨_, ho, rfl, kt, rfl⟩ hs e k

-- the target of a loop or a comprehension

noncomputable def bdTup (xs : List String) : Bd := fun d σ => (datTup d).bind fun ds => setAll xs ds σ

theorem setAll_other (xs : List String) (ds : List Dat) (σ σ' : Sto) (h : setAll xs ds σ = some σ') (x : String) (hx : x ∉ xs) : σ' x = σ x := by
  induction xs generalizing ds σ with
  | nil => cases ds with
    | nil => exact Option.some.inj h ▸ rfl
    | cons _ _ => exact none_ne h
  | cons y xs ih => cases ds with
    | nil => exact none_ne h
    | cons d ds => exact (ih ds _ h fun q => hx (.tail _ q)).trans (if_neg fun (q : x = y) => hx (q ▸ .head _))
theorem setAll_frz (xs : List String) (ds : List Dat) (σ σ' : Sto) (h : setAll xs ds σ = some σ') (x : String) (hx : x ∈ xs) : ∃ e, σ' x = .frz e := by
  induction xs generalizing ds σ with
  | nil => cases hx
  | cons y xs ih => cases ds with
    | nil => exact none_ne h
    | cons d ds =>
      by_cases q : x ∈ xs
      · exact ih ds _ h q
      · have : x = y := (List.mem_cons.mp hx).resolve_right q
        exact ⟨d, (setAll_other xs ds _ _ h x q).trans (if_pos this)⟩

theorem bnd_two {scI : Scope} {x y : String} {p p' pos : Pos} {kk : Nat} (hk : KindOk scI x) (hk' : KindOk scI y) : BndOk G scI (.Tuple [.Name (Str.ofString x) p, .Name (Str.ofString y) p'] kk pos) (bdTup [x, y]) [x, y] := by
  refine ⟨fun d σ σ' h z hz => ?_, fun d σ σ' h z hz => ?_, fun A env V σ I s it v d σ' Q hs hh g w hp r h k => ?_⟩
  · exact bind_go h fun ds _ h => setAll_other _ _ _ _ h z hz
  · exact bind_go h fun ds _ h => setAll_frz _ _ _ _ h z hz
  · refine bind_go h fun ds hds h => ?_
    replace r := datTup_go hds ▸ r
    refine g_eeeaaa hp fun rr o T q3ₑ ho hc hT => ?_
    subst q3ₑ
    have hgo : wpAny (Md G) A (letOwnedTupleGo (.Tuple [.Name (Str.ofString x) p, .Name (Str.ofString y) p'] kk pos) (.ref rr) v) (fun _ s₁ => s₁ = s) No s := by
      obtain ⟨a, vs, rfl, hF, hl, hs'⟩ := r.is
      · unfold letOwnedTupleGo
        refine wpAny_bind (wpAny_load ho ?_)
        refine (hc) ▸ ?_
        cases o.data <;> try exact wpAny_pure rfl
        dsimp only
        have : (["enumerate", "zip", "dict_itemiterator", "dict_reverseitemiterator", "odict_iterator", "itertools.zip_longest", "itertools.pairwise"].contains T) = false := hT
        refine (this) ▸ ?_
        exact wpAny_pure rfl
    refine wpAny_mono hgo (fun _ s₁ q => ?_) fun _ _ x => x
    subst q
    refine unpack_all [(x, p), (y, p')] hh g w (fun q hq => ?_) r h fun h' tk b => k h' tk b.keep b.ex b.w b.own
    subst hs
    simp only [List.mem_cons, List.not_mem_nil, or_false] at hq
    rcases hq with rfl | rfl
    · exact hk
    · exact hk'
end

-- M23
section
variable {G : Cx} {n : Nat} {sc : Scope}

theorem Bnd.good {V : View} {env : Env} {xs : List String} {s : Shared} {I : MSt} {σ σ' : Sto} {h' : Heap} {tk : Nat} (b : Bnd G V env xs s.heap σ h' σ') (g : Good G V s I) (w : EnvOk G V s.heap env σ) : Good G V { s with heap := h', toks := tk } I :=
  ⟨fun a o e => ⟨(g.base a o e).1, b.rep a o (g.base a o e).1 (g.base a o e).2⟩, g.st.keeps fun a ha o e => b.keep a o (fun q => w.locJ (q ▸ ha)) (fun x _ q => (w.cex _ a q).2.2 ha) e, fun a q => let ⟨o, e⟩ := g.ex a q; ⟨o, b.rep a o q e⟩⟩

theorem Bnd.stepS {V V₁ : View} {env : Env} {xs : List String} {s₀ s : Shared} {σ σ' : Sto} {h' : Heap} {tk : Nat} (b : Bnd G V₁ env xs s.heap σ h' σ') (st : Step V s₀ V₁ s) (w₀ : EnvOk G V s₀.heap env σ) : StepS env σ V s₀ σ' V₁ { s with heap := h', toks := tk } :=
  ⟨st.gens, st.os, fun a o e hJ nf no => b.keep a o (fun q => nf (.inl q)) (fun x _ q => nf (.inr ⟨_, q⟩)) (st.keep a o e hJ), fun a o e => let ⟨o', e'⟩ := st.ex a o e; b.ex a o' e', st.fr, fun a q => (st.fnew a q).imp id .inl, st.jp, st.jnew, fun a q => .inl (w₀.own_step st (b.own a q))⟩

noncomputable def sUnp (xs : List String) (f : Ev) : Sx := fun σ I => (f σ I).bind fun p => (datTup p.1).bind fun ds => (setAll xs ds σ).bind fun σ' => some (.next, σ', p.2)

theorem SoundS.unpackL (l : List (String × Pos)) {value : Expr} {k : Nat} {tp pos : Pos} {f : Ev} (hk : ∀ p ∈ l, KindOk sc p.1) (h : SoundE G n sc value f)
    (hs1 : ∀ env, swapsWithSole [.Tuple (l.map fun p => .Name (Str.ofString p.1) p.2) k tp] value pos.line env = pure false) (hs2 : ∀ env, swappedStores [.Tuple (l.map fun p => .Name (Str.ofString p.1) p.2) k tp] value env = pure none) :
    SoundS G n sc (.Assign [.Tuple (l.map fun p => .Name (Str.ofString p.1) p.2) k tp] value pos) (sUnp (l.map (·.1)) f) := .mk fun A env V σ I s fl σ' I' hs rm g w hf => by
  refine bind_go2 hf fun d I' e1 hf => bind_go hf fun ds hd hf => bind_go hf fun σ' e2 hf => ?_
  refine some3 hf ?_
  obtain rfl := datTup_go hd
  refine Assign_Tuple (h.use hs rm g w e1 fun V₁ s₁ v st₁ g₁ w₁ r₁ => ?_) (hs1 env) (hs2 env)
  exact unpack_all l rm.handled g₁ w₁ (by subst hs; exact hk) r₁ e2 fun h' tk b => ⟨V₁, b.stepS st₁ w, b.good g₁ w₁, b.w, trivial⟩

theorem SoundS.unpack2 {x y : String} {px py : Pos} {value : Expr} {k : Nat} {tp pos : Pos} {f : Ev} (hx : KindOk sc x) (hy : KindOk sc y) (h : SoundE G n sc value f)
    (hs1 : ∀ env, swapsWithSole [.Tuple [.Name (Str.ofString x) px, .Name (Str.ofString y) py] k tp] value pos.line env = pure false := by intro _; rfl) (hs2 : ∀ env, swappedStores [.Tuple [.Name (Str.ofString x) px, .Name (Str.ofString y) py] k tp] value env = pure none := by intro _; rfl) :
    SoundS G n sc (.Assign [.Tuple [.Name (Str.ofString x) px, .Name (Str.ofString y) py] k tp] value pos) (sUnp [x, y] f) :=
  SoundS.unpackL [(x, px), (y, py)] (fun q hq => by
    simp only [List.mem_cons, List.not_mem_nil, or_false] at hq
    rcases hq with rfl | rfl
    · exact hx
    · exact hy) h hs1 hs2

theorem SoundS.unpack3 {x y z : String} {px py pz : Pos} {value : Expr} {k : Nat} {tp pos : Pos} {f : Ev} (hx : KindOk sc x) (hy : KindOk sc y) (hz : KindOk sc z) (h : SoundE G n sc value f)
    (hs1 : ∀ env, swapsWithSole [.Tuple [.Name (Str.ofString x) px, .Name (Str.ofString y) py, .Name (Str.ofString z) pz] k tp] value pos.line env = pure false := by intro _; rfl) (hs2 : ∀ env, swappedStores [.Tuple [.Name (Str.ofString x) px, .Name (Str.ofString y) py, .Name (Str.ofString z) pz] k tp] value env = pure none := by intro _; rfl) :
    SoundS G n sc (.Assign [.Tuple [.Name (Str.ofString x) px, .Name (Str.ofString y) py, .Name (Str.ofString z) pz] k tp] value pos) (sUnp [x, y, z] f) :=
  SoundS.unpackL [(x, px), (y, py), (z, pz)] (fun q hq => by
    simp only [List.mem_cons, List.not_mem_nil, or_false] at hq
    rcases hq with rfl | rfl | rfl
    · exact hx
    · exact hy
    · exact hz) h hs1 hs2

-- several targets: x = y = z = value

noncomputable def sSet3 (x y z : String) (f : Ev) : Sx := fun σ I => (f σ I).bind fun p => some (.next, ((σ.set x (.frz p.1)).set y (.frz p.1)).set z (.frz p.1), p.2)

theorem assignAll_cons {M : Model} {A : Around} {E : Value → Shared → Prop} {s : Shared} {v : Value} {t t' : Value → Sem Unit} {ts : List (Value → Sem Unit)} {Q : Unit → Shared → Prop} (h : wpAny M A (t v) (fun _ s₁ => wpAny M A (assignAll v (t' :: ts)) Q E s₁) E s) : wpAny M A (assignAll v (t :: t' :: ts)) Q E s :=
  wpAny_bind (wpAny_holding (wpAny_mono h (fun _ _ q => q) fun _ _ q => q))

theorem SoundS.set3 {x y z : String} {px py pz : Pos} {value : Expr} {pos : Pos} {f : Ev} (hx : KindOk sc x) (hy : KindOk sc y) (hz : KindOk sc z) (h : SoundE G n sc value f)
    (hs2 : ∀ env, swappedStores [.Name (Str.ofString x) px, .Name (Str.ofString y) py, .Name (Str.ofString z) pz] value env = pure none := by intro _; rfl) :
    SoundS G n sc (.Assign [.Name (Str.ofString x) px, .Name (Str.ofString y) py, .Name (Str.ofString z) pz] value pos) (sSet3 x y z f) := .mk fun A env V σ I s fl σ' I' hs rm g w hf => by
  refine bind_go2 hf fun d I' e hf => ?_
  refine some3 hf ?_
  rw [exec_Assign_arm]
  refine wpAny_bind (wpAny_standAt (wpAny_bind (m := swapsWithSole _ _ _ _) (wpAny_pure ?_)))
  refine wpAny_bind (h.use hs rm g w e fun V₁ s₁ v st₁ g₁ w₁ r₁ => ?_)
  refine (hs2 env) ▸ ?_
  refine wpAny_bind (wpAny_pure ?_)
  subst hs
  show wpAny _ _ (do assignAll v [assign (.Name (Str.ofString x) px) env, assign (.Name (Str.ofString y) py) env, assign (.Name (Str.ofString z) pz) env]; pure Flow.next) _ _ _
  refine wpAny_bind (assignAll_cons (bind_one w₁ hx r₁ fun h₁ t₁ b₁ => assignAll_cons (bind_one (s := { s₁ with heap := h₁, toks := t₁ }) b₁.w hy (r₁.mono (fun _ q => q) (fun _ _ q => q) b₁.rep) fun h₂ t₂ b₂ => ?_)))
  refine bind_one (s := { s₁ with heap := h₂, toks := t₂ }) b₂.w hz (r₁.mono (fun _ q => q) (fun _ _ q => q) fun b o q e => b₂.rep b o q (b₁.rep b o q e)) fun h₃ t₃ b₃ => wpAny_pure ?_
  have g₂ := b₁.good (tk := t₁) g₁ w₁
  have g₃ := b₂.good (s := { s₁ with heap := h₁, toks := t₁ }) (tk := t₂) g₂ b₁.w
  have g₄ := b₃.good (s := { s₁ with heap := h₂, toks := t₂ }) (tk := t₃) g₃ b₂.w
  exact ⟨V₁, ((b₁.stepS (tk := t₁) st₁ w).trans (b₂.stepS (s := { s₁ with heap := h₁, toks := t₁ }) (tk := t₂) (Step.refl _ _) b₁.w)).trans (b₃.stepS (s := { s₁ with heap := h₂, toks := t₂ }) (tk := t₃) (Step.refl _ _) b₂.w), g₄, b₃.w, trivial⟩

-- x = y.pop()

theorem SoundS.popTo {x y : String} {px p ap cp pos : Pos} (hx : KindOk sc x) (hm : MethForm (.Name (Str.ofString y) p) (Str.ofString "pop") ap [] cp := by intro env; rfl)
    (hd : (Str.ofString y == ("__debug__" : Str)) = false := by decide +kernel) (hn : (Str.ofString y == ("__classdict__" : Str)) = false := by decide +kernel) :
    SoundS G n sc (.Assign [.Name (Str.ofString x) px] (.Call (.Attribute (.Name (Str.ofString y) p) (Str.ofString "pop") ap) [] [] cp) pos) (sPop y fun d σ => σ.set x (.frz d)) := .mk fun A env V σ I s fl σ' I' hs rm g w hf => by
  refine bind_go hf fun c hx' hf => bind_go hf fun xs hc hf => bind_go hf fun d hl hf => ite_gn hf fun hz hf => ?_
  refine some3 hf ?_
  obtain rfl := datLst_go hc
  refine wpAny_Assign_Name (pop_run g w (entOwn_go hx') hl hz hm hd hn fun V' s' v ss g' w' r => ?_) rfl
  refine store_name (I₀ := I) (e := .frz d) (Step.refl V' s') w' g' w' (by subst hs; exact hx) r (fun _ q => by cases q) fun s₂ ss₂ g₂ w₂ _ => ?_
  exact ⟨V', ss.trans ss₂, g₂, w₂, trivial⟩
end

-- M24
section
variable {G : Cx} {n : Nat} {sc : Scope}

-- x, y = (a, b) with the stores in the other order

set_option tactic.hygienic true in
theorem bind_raw {A : Around} {env : Env} {V : View} {σ : Sto} {s : Shared} {x : String} {v : Value} {d : Dat} {Q : Unit → Shared → Prop} (w : EnvOk G V s.heap env σ) (hk : KindOk env.scope x) (r : Rep G V s.heap v d)
    (k : ∀ h' tk, Bnd G V env [x] s.heap σ h' (σ.set x (.frz d)) → Q () { s with heap := h', toks := tk }) : wpAny (Md G) A (bindName env (Str.ofString x) v) Q No s := by
  refine wpAny_bindName ?_
  refine storeName_both w hk fun c oc h' tk hF hJ hc hsb ho hx hy hns hcel => ?_
  refine k h' tk ⟨fun b o h1 h2 e => (hsb.2 b fun z => ?_).trans e, fun b o e => SameBut.ex hsb ho b o e, w.stored (e := .frz d) hF (hc.imp id fun q => ⟨_, q⟩) hsb ho hx hy hns hcel r, ?_, keepF_sameBut hsb hF⟩
  · rcases hc with q | q
    · exact h1 (z.trans q)
    · exact h2 x (by simp) (z ▸ q)
  · intro b qₕ
    refine g_eeeaa qₕ fun y e u q hu hb => ?_
    unfold Sto.set at q
    split at q
    · cases q
    · rename_i hyx
      refine g_eaa (w.own y e q) fun u' hu' o f => ?_
      obtain rfl := Option.some.inj (At.unique hu (hy _ _ (fun z => hyx (ofString_inj z)) hu'))
      have hfk : foot h' u = foot s.heap u := o.foot_keep fun a ha ob q => (hsb.2 a fun z => by
        rcases hc with z' | z'
        · exact (f a ha).loc (z.trans z')
        · exact (f a ha).cel _ (z ▸ z')).trans q
      rw [hfk] at hb
      exact ⟨y, e, u, q, hu', hb⟩

noncomputable def one? : List Dat → Option Dat
  | [] => none
  | a :: r => match r with
    | [] => some a
    | _ :: _ => none
theorem one?_go {l : List Dat} {a : Dat} (e : one? l = some a) : l = [a] := by
  cases l with
  | nil => exact none_ne e
  | cons x r => cases r with
    | nil => exact some1 e rfl
    | cons _ _ => exact none_ne e
noncomputable def two? : List Dat → Option (Dat × Dat)
  | [] => none
  | a :: r => match r with
    | [] => none
    | b :: r => match r with
      | [] => some (a, b)
      | _ :: _ => none
theorem two?_go {l : List Dat} {a b : Dat} (e : two? l = some (a, b)) : l = [a, b] := by
  cases l with
  | nil => exact none_ne e
  | cons x r => cases r with
    | nil => exact none_ne e
    | cons y r => cases r with
      | nil => exact some2 e rfl
      | cons _ _ => exact none_ne e
noncomputable def sSwap (x y : String) (f : Ev) : Sx := fun σ I => (f σ I).bind fun p => (datTup p.1).bind fun l => (two? l).bind fun q => some (.next, (σ.set y (.frz q.2)).set x (.frz q.1), p.2)

theorem SoundS.swap {x y : String} {px py : Pos} {value : Expr} {k : Nat} {tp pos : Pos} {f : Ev} (hx : KindOk sc x) (hy : KindOk sc y) (h : SoundE G n sc value f)
    (hs2 : ∀ env : Env, env.scope = sc → swappedStores [.Tuple [.Name (Str.ofString x) px, .Name (Str.ofString y) py] k tp] value env = pure (some [Str.ofString x, Str.ofString y]))
    (hs1 : ∀ env, swapsWithSole [.Tuple [.Name (Str.ofString x) px, .Name (Str.ofString y) py] k tp] value pos.line env = pure false := by intro _; rfl) :
    SoundS G n sc (.Assign [.Tuple [.Name (Str.ofString x) px, .Name (Str.ofString y) py] k tp] value pos) (sSwap x y f) := .mk fun A env V σ I s fl σ' I' hs rm g w hf => by
  refine bind_go2 hf fun d I' e hf => bind_go hf fun l hd hf => bind_go2 hf fun a b hl hf => ?_
  refine some3 hf ?_
  clear hf
  obtain rfl := datTup_go hd
  obtain rfl := two?_go hl
  refine Assign_Tuple_swapped (names := [Str.ofString x, Str.ofString y]) (h.use hs rm g w e fun V₁ s₁ v st₁ g₁ w₁ r₁ => ?_) (hs1 env) (hs2 env hs)
  obtain ⟨at_, vs, rfl, hF, ⟨kt, ho⟩, hr⟩ := r₁.is
  · have hz := size_of_reps hr
    refine g_eeaa hr.two fun va vb hv ra rb => ?_
    show wpAny _ _ (unpackItems _ 2 none) _ _ _
    rw [show (2 : Nat) = vs.size by rw [hz]; rfl]
    refine unpackItems_tuple rm.handled ⟨_, ho, rfl, kt, rfl⟩ fun h₁ hx₁ => ?_
    rw [hv]
    have kp : ∀ b o, s₁.heap.get? b = some o → h₁.get? b = some o := fun b o e => hx₁ b o (Nat.ne_of_lt (Heap.lt_size e)) e
    have st : Step V₁ s₁ V₁ { s₁ with heap := h₁ } := ⟨rfl, rfl, fun b o e _ => kp b o e, fun b o e => ⟨o, kp b o e⟩, fun _ q => q, fun _ q => .inl q, fun _ _ q => q, fun _ q => .inl q⟩
    have g₂ : Good G V₁ { s₁ with heap := h₁ } I' := g₁.keeps kp
    have w₂ : EnvOk G V₁ h₁ env σ := w₁.step st g₁
    have kF : KeepF V₁ s₁.heap h₁ := fun b o _ e => kp b o e
    subst hs
    show wpAny _ _ (assignInOrder [bindName env (Str.ofString y), bindName env (Str.ofString x)] [vb, va]) _ _ _
    refine wpAny_assignInOrder_more (bind_raw (s := { s₁ with heap := h₁ }) w₂ hy (rb.mono (fun _ q => q) (fun _ _ q => q) kF) fun h₃ t₃ b₃ => ?_)
    refine wpAny_assignInOrder_more (bind_raw (s := { s₁ with heap := h₃, toks := t₃ }) b₃.w hx ((ra.mono (fun _ q => q) (fun _ _ q => q) kF).mono (fun _ q => q) (fun _ _ q => q) b₃.rep) fun h₄ t₄ b₄ => wpAny_assignInOrder_none ?_)
    have g₃ := b₃.good (s := { s₁ with heap := h₁ }) (tk := t₃) g₂ w₂
    have g₄ := b₄.good (s := { s₁ with heap := h₃, toks := t₃ }) (tk := t₄) g₃ b₃.w
    exact ⟨V₁, (b₃.stepS (s := { s₁ with heap := h₁ }) (tk := t₃) (st₁.trans st) w).trans (b₄.stepS (s := { s₁ with heap := h₃, toks := t₃ }) (tk := t₄) (Step.refl _ _) b₃.w), g₄, b₄.w, trivial⟩
end

-- M25
section
variable {G : Cx} {n : Nat} {sc : Scope}

-- a plain class of the program's own
structure ClsOk (G : Cx) (K : Frag) (C : Addr) : Prop where
  inn : K.In G.base
  get : findIn K (.ref C) "__getattribute__" = some (some (.builtin "object.__getattribute__"))
  dict : ∃ cd, clsIn K C = some cd ∧ cd.hasDict = true

theorem ClsOk.at {K : Frag} {C : Addr} (c : ClsOk G K C) {V : View} {s : Shared} {I : MSt} (g : Good G V s I) : K.In s.heap := c.inn.keeps fun b o e => (g.base b o e).2

theorem isStr_eq {e : DictEntry} {x y : Str} {t : Tok} (h : e.key = .str y t) : e.key.isStr x = decide (y = x) := by
  rw [h]
  show (y == x) = _
  by_cases q : y = x
  · rw [decide_eq_true q]; exact beq_iff_eq.mpr q
  · rw [decide_eq_false q]; exact beq_eq_false_iff_ne.mpr q
theorem getL_some {V : View} {h : Heap} {es : List DictEntry} {at_ : List (Str × Dat)} (r : RepsE G V h es at_) {x : Str} {d : Dat} (q : at_.lookup x = some d) : ∃ v, getL x es = some (some v) ∧ Rep G V h v d := by
  have key : at_.lookup x = some d → ∃ e, es.find? (·.key.isStr x) = some e ∧ Rep G V h e.val d := by
    refine RepsE.ind r (fun q => none_ne q) fun e y t d' es at_ hk _ r _ ih q => ?_
    rw [List.lookup_cons] at q
    rw [List.find?_cons, isStr_eq hk]
    by_cases hxy : y = x
    · rw [decide_eq_true hxy]
      rw [beq_iff_eq.mpr hxy.symm] at q
      exact ⟨e, rfl, Option.some.inj q ▸ r⟩
    · rw [decide_eq_false hxy]
      rw [beq_eq_false_iff_ne.mpr fun z => hxy z.symm] at q
      exact ih q
  refine g_ea (key q) fun e he r => ⟨e.val, ?_, r⟩
  unfold getL
  rw [he]

noncomputable def dAttr (C : Addr) (name : Str) (d : Dat) : Option Dat := match d with
  | .obj D at_ => if D = C then at_.lookup name else none
  | .pobj _ D at_ => if D = C then at_.lookup name else none
  | _ => none

theorem dAttr_inv {C : Addr} {name : Str} {V : View} {h : Heap} {v : Value} {d r : Dat} (q : Rep1 G V h v d) (e : dAttr C name d = some r) :
    ∃ x dx es m at_, v = .ref x ∧ h.get? x = some (instObj C dx) ∧ h.get? dx = some (dictOf es m) ∧ RepsE G V h es at_ ∧ at_.lookup name = some r := by
  cases d with
  | obj D at_ =>
    refine ite_gn e fun hD e' => ?_
    clear e
    subst hD
    obtain ⟨x, dx, es, m, h1, h2, h3, h4⟩ := q.obj
    exact ⟨x, dx, es, m, _, h1, h2, h3, h4, e'⟩
  | pobj y D at_ =>
    refine ite_gn e fun hD e' => ?_
    clear e
    subst hD
    obtain ⟨x, dx, es, m, h1, h2, h3, h4⟩ := q.pobj
    exact ⟨x, dx, es, m, _, h1, h2, h3, h4, e'⟩
  | _ => exact none_ne e

-- an attribute of an object
theorem get_attr {K : Frag} {C : Addr} {name : Str} {A : Around} {V : View} {s : Shared} {I : MSt} {a : Value} {at_ : Dat} {d : Dat} {b : Bool} (c : ClsOk G K C) (hf : findIn K (.ref C) name = some none) (g : Good G V s I) (r : Rep1 G V s.heap a at_) (e : dAttr C name at_ = some d)
    {Q : Value → Shared → Prop} (k : ∀ v tk, Rep G V s.heap v d → Q v { s with toks := tk }) : wpAny (Md G) A (getAttr a name b) Q No s := by
  refine g_eeeeeaaaa (dAttr_inv r e) fun x dx es m at_ q5ₑ ho hd rs e => ?_
  subst q5ₑ
  refine g_ea (getL_some rs e) fun v e1 r1 => ?_
  refine g_ea c.dict fun cd hc hdi => ?_
  refine get_value (c.at g) (od := some (dictOf es m)) ⟨ho, rfl, rfl, hd⟩ c.get (v := v) ?_ ?_ (k v _ r1)
  · unfold findObj
    rw [hc, Option.bind_some, hf, Option.bind_some]
    simp only [Option.bind_some]
    unfold PySem.W.ownOf
    rw [hdi, if_pos rfl]
    simp only []
    rw [lookIn_dict, e1]
    rfl
  · cases r1 <;> rfl

theorem SoundE.attr {K : Frag} {C : Addr} {x : String} {name : Str} {xp pos : Pos} {fo : Ev} (c : ClsOk G K C) (hf : findIn K (.ref C) name = some none) (ho : SoundB G n sc (.Name (Str.ofString x) xp) fo)
    (he : ∀ env : Env, eval (.Attribute (.Name (Str.ofString x) xp) name pos) env = (do let o ← eval (.Name (Str.ofString x) xp) env; standAt pos.atName; let r ← holding [o] (getAttr o name true); letTemporaryGo (.Name (Str.ofString x) xp) o r; pure r) := by intro env; rfl) :
    SoundE G n sc (.Attribute (.Name (Str.ofString x) xp) name pos) (ev1 fo (dAttr C name)) := .mk fun A env V σ I s d I' hs rm g w hf' => by
  refine ev1_go hf' fun a e1 e2 => ?_
  refine Attribute_Name_ (ho.use hs rm g w e1 fun V₁ s₁ v st₁ g₁ w₁ r₁ => ?_) (he env)
  exact get_attr c hf g₁ r₁ e2 fun u tk ru => PE.trans st₁ (PE.same g₁ tk ru)
end

-- M26
section
variable {G : Cx} {n : Nat} {sc : Scope}

noncomputable def aput (x : Str) (d : Dat) : List (Str × Dat) → List (Str × Dat)
  | [] => [(x, d)]
  | (y, e) :: r => if y = x then (y, d) :: r else (y, e) :: aput x d r

theorem RepsE.put {V : View} {h : Heap} {x : Str} {t : Tok} {v : Value} {d : Dat} (rv : Rep G V h v d) {es : List DictEntry} {at_ : List (Str × Dat)} (r : RepsE G V h es at_) : RepsE G V h (putL x (PyData.keyHash G.w.params x) (.str x t) v es) (aput x d at_) := by
  refine RepsE.ind r (.cons rfl rfl rv .nil) fun e y u d' es at_ hk hh r rs ih => ?_
  unfold putL aput
  rw [isStr_eq hk]
  by_cases hxy : y = x
  · rw [if_pos (decide_eq_true hxy), if_pos hxy]
    exact .cons hk hh rv rs
  · rw [if_neg (by rw [decide_eq_false hxy]; exact Bool.false_ne_true), if_neg hxy]
    exact .cons hk hh r ih

theorem RepsE.length {V : View} {h : Heap} {es : List DictEntry} {at_ : List (Str × Dat)} (r : RepsE G V h es at_) : es.length = at_.length := RepsE.ind r rfl fun _ _ _ _ _ _ _ _ _ _ ih => congrArg (· + 1) ih

theorem RepsE.noRef {V : View} {h : Heap} {es : List DictEntry} {at_ : List (Str × Dat)} (r : RepsE G V h es at_) : es.any (·.refKey) = false := by
  refine RepsE.ind r rfl fun e y u d' es at_ hk _ _ _ ih => ?_
  rw [List.any_cons, ih, Bool.or_false]
  unfold DictEntry.refKey
  rw [hk]

theorem getL_isSome {V : View} {h : Heap} {es : List DictEntry} {at_ : List (Str × Dat)} (r : RepsE G V h es at_) (x : Str) : (getL x es).isSome = true := by
  unfold getL
  split
  · rfl
  · rw [r.noRef]; rfl

-- a store into an object's own dict, with the heap named
set_option tactic.hygienic true in
theorem osa_plain {K : Frag} {C x dx : Addr} {A : Around} {R : Result → Shared → Prop} {s : Shared} {name : Str} {tk : Tok} {v : Value} {es : List DictEntry} {m : Nat} (X : K.In s.heap) (hx : s.heap.get? x = some (instObj C dx)) (D : s.heap.get? dx = some (dictOf es m))
    (hp : plainOver K C = true) (ht : takerIn K C name = some none) (hh : hasDictIn K C = true) (hl : (getL name es).isSome = true) (hz : (putL name (PyData.keyHash G.w.params name) (.str name s.toks) v es).length ≤ 1000)
    (h : ∀ h', Heap.SameBut dx s.heap h' → h'.get? dx = some (dictOf (putL name (PyData.keyHash G.w.params name) (.str name s.toks) v es) (putN name es m)) → R (.ok (.ret .none)) { s with heap := h', toks := s.toks + 1 }) :
    codeAny (Md G) A (.call (.builtin "object.__setattr__") ⟨[.ref x, .str name tk, v], []⟩) R s := by
  refine osa_open (od := some (dictOf es m)) X ⟨hx, rfl, rfl, D⟩ hp ht fun b => ?_
  refine g_ea (any_some hh) fun cd hc hd' => ?_
  have e := putName_dict name (PyData.keyHash G.w.params name) (.str name s.toks) v es m
  have D' : (s.heap.update dx (Obj.putName name (PyData.keyHash G.w.params name) (.str name s.toks) v)).get? dx = some (dictOf (putL name (PyData.keyHash G.w.params name) (.str name s.toks) v es) (putN name es m)) := by
    rw [Heap.get?_update_self _ D (by rw [e]; rfl), e]
  refine wpAny_bind (wpAny_pure (wpAny_bind (wpAny_bind (wpAny_loadPart hx (wpAny_bind ((looks_clsIn X hc).here ?_))))))
  rw [hd']
  refine wpAny_pure (a := some dx) (wpAny_bind (wpAny_pure (wpAny_bind ?_)))
  unfold nsSet
  refine wpAny_bind (wpAny_bind (wpAny_askSetting (wpAny_pure (wpAny_bind (wpAny_mkText (wpAny_bind (wpAny_loadPart D ?_)))))))
  have c : (!es.any (·.key.isStr name) && es.any (·.refKey)) = false := by
    unfold getL at hl
    split at hl
    · rename_i en he
      rw [List.any_eq_true.mpr ⟨en, List.mem_of_find?_eq_some he, List.find?_some he⟩]; rfl
    · split at hl
      · cases hl
      · rename_i z; rw [Bool.not_eq_true] at z; rw [z, Bool.and_false]
  have c' : (!es.toArray.any (·.key.isStr name) && es.toArray.any (·.refKey)) = false := by rw [← Array.any_toList, ← Array.any_toList]; exact c
  show wpAny _ _ _ _ _ _
  dsimp only [dictOf]
  rw [aRefKeyMayBeTheName_at, c']
  refine wpAny_updatePart D ?_
  refine wpAny_bind (wpAny_lookBehind D' (by exact pastItsLine_dict (by rw [List.size_toArray, sizeLine_eq]; omega)) ?_)
  exact wpAny_pure (h _ (Heap.SameBut.update ..) D')

noncomputable def datPobj : Dat → Option (Addr × Addr × List (Str × Dat))
  | .pobj y D a => some (y, D, a)
  | _ => none
theorem datPobj_go {d : Dat} {y D : Addr} {a : List (Str × Dat)} (e : datPobj d = some (y, D, a)) : d = .pobj y D a := by
  cases d with
  | pobj z E b => exact some3 e rfl
  | _ => exact none_ne e
noncomputable def sAttr (C : Addr) (x : String) (name : Str) (f : Ev) : Sx := fun σ I => (f σ I).bind fun p => (entOwn (σ x)).bind fun c => (datPobj c).bind fun q => if q.2.1 = C ∧ q.2.2.length ≤ 100 then some (.next, σ.set x (.own (.pobj q.1 q.2.1 (aput name p.1 q.2.2))), p.2) else none

structure SetOk (K : Frag) (C : Addr) : Prop where
  set : findIn K (.ref C) "__setattr__" = some (some (.builtin "object.__setattr__"))
  over : plainOver K C = true
  dict : hasDictIn K C = true

theorem aput_length (x : Str) (d : Dat) : ∀ l, (aput x d l).length ≤ l.length + 1
  | [] => Nat.le_refl _
  | (y, e) :: r => by
    unfold aput
    split
    · simp
    · simp; exact aput_length x d r

theorem SoundS.attr {K : Frag} {C : Addr} {x : String} {name : Str} {value : Expr} {xp ap pos : Pos} {f : Ev} (c : ClsOk G K C) (so : SetOk K C) (ht : takerIn K C name = some none) (hv : SoundE G n sc value f)
    (hsw : ∀ env, swapsWith value (some (.Attribute (.Name (Str.ofString x) xp) name ap)) pos.line env = pure false := by intro _; rfl)
    (hd : (Str.ofString x == ("__debug__" : Str)) = false := by decide +kernel) (hn : (Str.ofString x == ("__classdict__" : Str)) = false := by decide +kernel) :
    SoundS G n sc (.Assign [.Attribute (.Name (Str.ofString x) xp) name ap] value pos) (sAttr C x name f) := .mk fun A env V σ I s fl σ' I' hs rm g w hf => by
  refine bind_go2 hf fun d I' ed hf => bind_go hf fun c hx hf => bind_go2 hf fun y Da hc hf => ite_gn hf fun hD hf => ?_
  refine some3 hf ?_
  clear hf
  obtain ⟨D, at_⟩ := Da
  refine g_a ((show D = C ∧ at_.length ≤ 100 from hD)) fun q0ₑ hlen => ?_
  subst q0ₑ
  obtain rfl := datPobj_go hc
  replace hx := entOwn_go hx
  refine plainObj_wpAny_Assign_Attribute (hv.use hs rm g w ed fun V₁ s₁ v st₁ g₁ w₁ r₁ => ?_) (hsw env)
  refine g_eaa (w₁.own x _ hx) fun u hu o ff => ?_
  refine load_at w₁.kind hu hd hn ?_
  obtain ⟨dx, es, m, rfl, ho, hdx, rs⟩ := o.is
  · have hm : dx ∈ foot s₁.heap (.ref y) := by simp [foot, ho, instObj]
    have nF := (ff dx hm).F
    refine set_plain (od := some (dictOf es m)) (c.at g₁) ⟨ho, rfl, rfl, hdx⟩ so.set ?_
    have X₁ : K.In s₁.heap := c.at g₁
    refine osa_plain (G := G) (s := { s₁ with toks := s₁.toks + 1 }) X₁ ho hdx so.over ht so.dict (getL_isSome rs _) ?_ fun h' hsb hnew => ?_
    · have := (RepsE.put (x := name) (t := s₁.toks + 1) r₁ rs).length
      have l2 := aput_length name d at_
      show (putL name (PyData.keyHash G.w.params name) (.str name (s₁.toks + 1)) v es).length ≤ 1000
      omega
    · have kF := keepF_sameBut hsb nF
      have hy : y ≠ dx := fun q => by
        rw [q, hdx] at ho
        cases ho
      have ho' : h'.get? y = some (instObj D dx) := (hsb.2 y hy).trans ho
      refine g_eaa (mutate (tk := s₁.toks + 1 + 1) st₁ w g₁ w₁ hx hu (c := dx) hm hsb hnew (d' := .pobj y D (aput name d at_)) (.pobj ho' hnew ((RepsE.put r₁ rs).mono (fun _ q => q) (fun _ _ q => q) kF)) (by simp [foot, ho, ho'])) fun V₂ ss g₂ w₂ => ?_
      exact ⟨V₂, ss, g₂, w₂, trivial⟩
end

-- M27
section
variable {G : Cx} {n : Nat} {sc : Scope}

set_option tactic.hygienic true in
theorem getL_none {V : View} {h : Heap} {x : Str} : ∀ {es : List DictEntry} {at_ : List (Str × Dat)}, RepsE G V h es at_ → at_.lookup x = none → getL x es = some none := by
  intro es at_ r e
  have hn : es.find? (·.key.isStr x) = none := by
    have key : ∀ {es : List DictEntry} {at_ : List (Str × Dat)}, RepsE G V h es at_ → at_.lookup x = none → es.find? (·.key.isStr x) = none := by
      intro es
      induction es with
      | nil => intro at_ r e; rfl
      | cons en es ih =>
        intro at_ r e
        cases r with
        | cons hk hh rv rs =>
          rename_i y t d ds
          rw [List.lookup_cons] at e
          by_cases hxy : x = y
          · subst hxy; simp at e
          · have h2 : (x == y) = false := by simpa using hxy
            rw [h2] at e
            have h1 : en.key.isStr x = false := by rw [hk]; simp [Value.isStr, Ne.symm hxy, hxy]
            rw [List.find?_cons, h1]
            exact ih rs e
    exact key r e
  unfold getL
  rw [hn, r.noRef]
  rfl

noncomputable def evMeth (C : Addr) (name : Str) (F : Fn) (fo : Ev) (fs : List Ev) : Ev := fun σ I => (fo σ I).bind fun p => (datObj p.1).bind fun q => if q.1 = C ∧ q.2.lookup name = none then (evs fs σ p.2).bind fun r => F (p.1 :: r.1) r.2 else none

theorem SoundE.omethod {K : Frag} {C fa : Addr} {o : Expr} {name : Str} {ap cp : Pos} {es : List Expr} {fo : Ev} {fs : List Ev} {F : Fn} {ob : Obj} {fd : FuncData} (c : ClsOk G K C) (hg : plainGet K C name = true)
    (hf : findIn K (.ref C) name = some (some (.ref fa))) (ht : isFn K (.ref fa) = true) (hob : G.base.get? fa = some ob) (hfd : ob.data = .func fd) (hF : SoundF G n fa F) (ho : SoundE G n sc o fo) (hl : SoundL G n sc es fs) (hm : MethForm o name ap es cp := by intro env; rfl) :
    SoundE G n sc (.Call (.Attribute o name ap) es [] cp) (evMeth C name F fo fs) := .mk fun A env V σ I s d I' hs rm g w hf' => by
  refine bind_go2 hf' fun do' I₁ e1 hf' => bind_go2 hf' fun D at_ hD' hf' => ite_gn hf' fun hD hf' => bind_go2 hf' fun ds I₂ e2 hf2 => ?_
  clear hf'
  refine g_a ((show D = C ∧ at_.lookup name = none from hD)) fun q0ₑ hnone => ?_
  subst q0ₑ
  obtain rfl := datObj_go hD'
  refine MethodCall_ (pl := (do return (← importBound o env).getD true)) ?_ (hm env)
  refine ho.use hs rm g w e1 fun V₁ s₁ v st₁ g₁ w₁ r₁ => ?_
  have r₁' := r₁
  obtain ⟨x, dx, es, nn, rfl, hFx, hFd, hx, hd, rs⟩ := r₁.is
  · refine method_fn (c.at g₁) (od := some (dictOf _ _)) ⟨hx, rfl, rfl, hd⟩ (plainGet_of hg).1 (plainGet_of hg).2 hf (beq_iff_eq.mp ht) (by show (lookIn name (dictOf _ _)).map _ = _; rw [lookIn_dict, getL_none rs hnone]; rfl) ?_
    refine Calls.callWith_function (o := ob) (fd := fd) (hl.args hs rm g₁ w₁ e2 fun V₂ s₂ vs st₂ g₂ w₂ r₂ => ?_)
    refine ⟨⟨(g₂.base fa ob hob).2, hfd⟩, ?_⟩
    refine wpAny_call (codeAny_mono (hF.run A V₂ s₂ I₂ (_ :: vs) (_ :: ds) d I' rm g₂ (.cons (r₁'.step st₂ g₁) r₂) hf2) fun r s' q => ?_)
    refine g_ea q fun v q1ₑ p => ?_
    subst q1ₑ
    exact p.trans (st₁.trans st₂)

-- a class's own attribute that is a text

theorem SoundE.clsAttr {K : Frag} {C : Addr} {x : String} {name : Str} {xp pos : Pos} {y : Str} {t : Tok} {mc : Value} (hin : K.In G.base) (hg : GlobIs G sc x (.ref C)) (hr : readsIn K C mc = true) (e : findCls K (.ref C) mc name = some (.val (.str y t)))
    (he : ∀ env : Env, eval (.Attribute (.Name (Str.ofString x) xp) name pos) env = (do let o ← eval (.Name (Str.ofString x) xp) env; standAt pos.atName; let r ← holding [o] (getAttr o name true); letTemporaryGo (.Name (Str.ofString x) xp) o r; pure r) := by intro env; rfl)
    (hd : (Str.ofString x == ("__debug__" : Str)) = false := by decide +kernel) :
    SoundE G n sc (.Attribute (.Name (Str.ofString x) xp) name pos) (evC (.str y)) := .mk fun A env V σ I s d I' hs rm g w hf => by
  refine some2 hf ?_
  refine Attribute_Name_ (load_glob hs g w hg hd ?_) (he env)
  exact cls_value (hin.keeps fun b o e => (g.base b o e).2) hr e rfl (PE.same g _ (.str _ _))
end

-- H03
section

-- what is known of the state at the call
structure GOk (G : Cx) : Prop where
  prog : G.prog = pw
  names : namesAre G.mg
  bui : ∀ x : Str, x ≠ "__name__" → G.mb x = bootBuiltins x
  says : HH.says G.w G.base

theorem callerRoom : Room callerA 20 := ⟨by decide +kernel, by decide +kernel, by decide +kernel⟩

theorem old_of {h h' : Heap} (k : ∀ b o, h.get? b = some o → h'.get? b = some o) : OldK h h' := .of_keep k

set_option tactic.hygienic true in
theorem whole (H : ∀ (G : Cx), GOk G → ∀ ns : List Int, ns.length ≤ 63 → ∃ F : Fn, SoundF G 20 212 F ∧ ∃ I', F [.list (ns.map .int)] [] = some (.bool true, I')) : rw0.Holds := by
  refine head ?_
  intro w s₀ s₁ mg mb G Y fa o pm cd doc dV kV ho hd hcd hD hmg hg args vals as hpre hlay hrd hwl hlo
  have T := G.T
  have X := G.X
  wrow_args hpre hlay hrd hwl hlo
  rename_i ns _ _ _ _ _ _ _ l vs _ hL _ hW _ hI _ hlen _
  have hfa : fa = 212 := by
    have := X ("law", some (.ref 212)) (by decide +kernel)
    have e : mg lawD.name = mg ("law" : Str) := congrArg mg (by decide +kernel)
    replace hmg := (e) ▸ hmg
    replace this := (hmg) ▸ this
    cases this; rfl
  subst hfa
  let GG : Cx := { prog := pw, w := w, base := s₁.heap, mg := mg, mb := mb, g := T.g, b := T.b, lim := T.nolimit }
  have ok : GOk GG := ⟨rfl, X, T.builtins, Y⟩
  refine g_eae (H GG ok ns (by omega)) fun F hF I' hr => ?_
  let V : View := ⟨fun b => ∃ o, s₁.heap.get? b = some o, []⟩
  have g : Good GG V s₁ [] := ⟨fun b o e => ⟨⟨o, e⟩, e⟩, ⟨rfl, List.nodup_nil, fun _ h => (nomatch h), fun i a kvs e => by simp [V] at e⟩, fun b h => h⟩
  have hp : ∃ vs', s₁.heap.PlainList l vs' ∧ Reps GG V s₁.heap vs'.toList (ns.map .int) := by
    cases hW with
    | list he _ =>
      refine g_eaae hL fun o' ho' _ n' hd' => ?_
      rw [he] at ho'
      cases ho'
      cases hd'
      exact ⟨_, ⟨_, he⟩, reps_ints hI⟩
  refine g_ea hp fun vs' hpl hrs => ?_
  have hrep : Reps GG V s₁.heap [.ref l] [.list (ns.map .int)] := .cons (.list (let ⟨_, e⟩ := hpl; ⟨_, e⟩) hpl hrs) .nil
  show wpAny (model pw w) callerA (PySem.call (.ref 212) [.ref l]) _ _ s₁
  refine wpAny_call (codeAny_mono (hF.run callerA V s₁ [] [.ref l] _ _ I' callerRoom g hrep hr) fun r s' q => ?_)
  obtain ⟨v, rfl, V', st, g', rv⟩ := q
  obtain rfl := rv.is
  refine ⟨.inl ⟨.bool true, .bool true, [], rfl, ?_, ?_, ?_, ?_⟩, old_of fun b o e => st.keep b o e (by simp [V]), st.os, ?_⟩
  · intro cls; rfl
  · exact .bool _
  · wrow_post
  · intro _; exact ⟨List.nodup_nil, fun a h => (nomatch h)⟩
  · rw [st.gens, hg]; exact .of_eq rfl
end

-- M28
section
variable {G : Cx} {n : Nat} {sc : Scope}

-- products

noncomputable def dMul (a b : Dat) : Option Dat := match a with
  | .int a => (datInt b).bind fun b => if -1000 ≤ a ∧ a ≤ 1000 then some (.int (a * b)) else none
  | .str x => dMulS (.str x) b
  | .list x => (dMulL (.list x) b).map .list
  | _ => none

set_option tactic.hygienic true in
theorem op_mul : OpS G n (binaryOp .Mult) (fun _ => dMul) := fun A V s I a b da db d rm g ra rb e => by
  cases da with
  | int x =>
    refine bind_go e fun y hy e => ite_go e fun hb => ?_
    obtain ⟨t, rfl⟩ := ra.int; obtain ⟨u, rfl⟩ := (datInt_go hy ▸ rb).int
    refine mul_int (PE.same g _ (.int _ _)) (IntMulOk.of_left ?_)
    unfold Builtin.Int.intBits
    split
    · lia
    · rename_i ha
      have h0 : Int.natAbs x ≠ 0 := by simpa using ha
      have : Nat.log2 (Int.natAbs x) < 10 := (Nat.log2_lt h0).mpr (by lia)
      lia
  | str x => exact op_mulS (n := n) A V s I a b _ _ d rm g ra rb e
  | list x => exact map_go e fun l el => wpAny_mono (op_mulL A V s I a b _ _ l rm g ra rb el) (fun _ _ p => p.freeze) fun _ _ x => x
  | _ => exact none_ne e

-- dicts

noncomputable def evDict0 : Ev := fun _ I => some (.idict [], I)

noncomputable abbrev HasMods (G : Cx) : Prop := ∃ o, G.base.get? sysModules = some o

theorem Good.notMods {V : View} {s : Shared} {I : MSt} {a : Addr} (g : Good G V s I) (hM : HasMods G) (h : s.heap.get? a = none) : a ≠ sysModules := fun q => by
  refine g_e hM fun o e => ?_
  rw [q, (g.base _ _ e).2] at h; cases h

theorem SoundO.dict0 {pos : Pos} (hM : HasMods G) : SoundO G n sc (.Dict [] [] pos) evDict0 := .mk fun A env V σ I s d I' hs rm g w hf => by
  refine some2 hf ?_
  refine wpAny_Dict_empty ?_
  have e := get_size s.heap
  have ho : (s.heap.push { cls := .type "dict", data := .dict #[] }).get? s.heap.objs.size = some { cls := .type "dict", data := .dict #[] } := Heap.get?_push_size _ rfl
  refine ⟨V, Step.push V s _ s.toks, g.push _ s.toks, .idict (vs := []) (Heap.DictOf.new s.heap) (g.notMods hM e) trivial, fun a ha => ?_⟩
  have ha' : a ∈ foot (s.heap.push { cls := .type "dict", data := .dict #[] }) (.ref s.heap.objs.size) := ha
  simp only [foot, ho, Option.toList, List.mem_cons, List.not_mem_nil, or_false] at ha'
  subst ha'
  exact ⟨e, g.notF e, g.notJ e⟩

noncomputable def evMdict (k : Str) (i : Int) : Ev := fun _ I => some (.mdict I.length, I ++ [[(k, i)]])

theorem Good.newJ {V : View} {s s' : Shared} {I : MSt} {D : Addr} {vs : List (Str × Value)} {kvs : List (Str × Int)} (g : Good G V s I) (hk : ∀ b o, s.heap.get? b = some o → s'.heap.get? b = some o) (hD : s.heap.get? D = none) (hM : HasMods G)
    (hd : s'.heap.DictOf (strKind G.prog G.w) D vs) (hv : Vals vs kvs) : Good G ⟨V.F, V.J ++ [D]⟩ s' (I ++ [kvs]) := by
  have g' := g.keeps hk
  refine ⟨g'.base, ⟨by simp [g.st.len], ?_, fun b hb => ?_, fun i a kv e q => ?_⟩, g'.ex⟩
  · refine List.nodup_append.mpr ⟨g.st.nodup, by simp, fun a ha b hb => ?_⟩
    have : b = D := by simpa using hb
    subst this
    intro q
    exact g.notJ hD (q ▸ ha)
  · rcases List.mem_append.mp hb with hb | hb
    · exact g.st.apart b hb
    · have : b = D := by simpa using hb
      subst this
      exact g.notF hD
  · dsimp only at e
    have hlen := g.st.len
    by_cases hi : i < V.J.length
    · rw [List.getElem?_append_left hi] at e
      rw [List.getElem?_append_left (by lia)] at q
      exact g'.st.at_ i a kv e q
    · rw [List.getElem?_append_right (by lia)] at e
      rw [List.getElem?_append_right (by lia)] at q
      have h0 : i - V.J.length = 0 := by
        have := (List.getElem?_eq_some_iff.mp e).1
        simp at this; lia
      have h1 : i - I.length = 0 := by lia
      rw [h0] at e; rw [h1] at q
      simp at e q
      subst e; subst q
      exact ⟨vs, hd, g.notMods hM hD, hv⟩

theorem SoundE.mdict {k : Str} {i : Int} {c1 c2 : Nat} {p1 p2 pos : Pos} (hM : HasMods G) : SoundE G n sc (.Dict [some (.Constant (.str k) c1 p1)] [.Constant (.int i) c2 p2] pos) (evMdict k i) := .mk fun A env V σ I s d I' hs rm g w hf => by
  refine some2 hf ?_
  have e := get_size s.heap
  refine wpAny_Dict_walk (knd := strKind G.prog G.w) rfl rfl (by simp) (by simp) ?_
  refine evalPairs_cons (wpAny_mkText (wpAny_bind (wpAny_mkInt (wpAny_bind (wpAny_standAt (wpAny_pure (evalPairs_nil ?_)))))))
  refine ⟨[(k, .int i _)], ⟨strKind_is _ _ k _, rfl, trivial⟩, (Heap.DictOf.new s.heap), fun h' hd hsb => ?_⟩
  have kp : ∀ b o, s.heap.get? b = some o → h'.get? b = some o := fun b o q => by
    have hne : b ≠ s.heap.objs.size := fun z => by rw [z, e] at q; cases q
    exact (hsb.2 b hne).trans (Heap.get?_push_of_some _ q)
  refine ⟨⟨V.F, V.J ++ [s.heap.objs.size]⟩, ⟨rfl, rfl, fun b o q _ => kp b o q, fun b o q => ⟨o, kp b o q⟩, fun _ q => q, fun _ q => .inl q, fun j a q => ?_, fun b q => ?_⟩, g.newJ (s' := { s with heap := h', toks := _ }) kp e hM hd (kvs := [(k, i)]) ⟨⟨rfl, _, rfl⟩, trivial⟩, .mdict ?_⟩
  · have := (List.getElem?_eq_some_iff.mp q).1
    exact (List.getElem?_append_left this).trans q
  · rcases List.mem_append.mp q with q | q
    · exact .inl q
    · have : b = s.heap.objs.size := by simpa using q
      exact .inr (this ▸ e)
  · show (V.J ++ [s.heap.objs.size])[I.length]? = _
    rw [← g.st.len]; simp

-- a store into one of them

noncomputable def sPutM (fv fc fi : Ev) : Sx := fun σ I => (fv σ I).bind fun v => (fc σ v.2).bind fun c => (fi σ c.2).bind fun i => (datInt v.1).bind fun j => (datMdi c.1).bind fun m => (datStr i.1).bind fun k => (i.2[m]?).bind fun kvs =>
  if kvs.length ≤ sizeLine then some (.next, σ, i.2.set m (dput kvs k j)) else none

theorem Good.putJ {V : View} {s : Shared} {I : MSt} {a : Addr} {m tk : Nat} {h' : Heap} {vs : List (Str × Value)} {kvs : List (Str × Int)} {oc : Obj} (g : Good G V s I) (hJ : V.J[m]? = some a) (hsb : Heap.SameBut a s.heap h') (hc : h'.get? a = some oc) (hm : a ≠ sysModules)
    (hd : h'.DictOf (strKind G.prog G.w) a vs) (hv : Vals vs kvs) : Good G V { s with heap := h', toks := tk } (I.set m kvs) := by
  have haJ := List.mem_of_getElem? hJ
  have nF := g.st.apart a haJ
  refine ⟨fun b o e => ⟨(g.base b o e).1, (hsb.2 b fun q => nF (q ▸ (g.base b o e).1)).trans (g.base b o e).2⟩, ⟨by rw [List.length_set]; exact g.st.len, g.st.nodup, g.st.apart, fun i b kv e q => ?_⟩, fun b e => let ⟨o, q⟩ := g.ex b e; SameBut.ex hsb hc b o q⟩
  by_cases hi : i = m
  · subst hi
    rw [hJ] at e; cases e
    have hlt := (List.getElem?_eq_some_iff.mp hJ).1
    rw [List.getElem?_set_self (by rw [← g.st.len]; exact hlt)] at q
    cases q
    exact ⟨vs, hd, hm, hv⟩
  · rw [List.getElem?_set_ne (fun z => hi z.symm)] at q
    refine g_eaa (g.st.at_ i b kv e q) fun vs' hd' hm' hv' => ?_
    refine ⟨vs', hd'.sameBut hsb fun z => hi ?_, hm', hv'⟩
    subst z
    have h1 := (List.getElem?_eq_some_iff.mp e)
    have h2 := (List.getElem?_eq_some_iff.mp hJ)
    exact (List.getElem_inj (h₀ := h1.1) (h₁ := h2.1) g.st.nodup).mp (h1.2.trans h2.2.symm)

theorem SoundS.putM {value c i : Expr} {sp pos : Pos} {fv fc fi : Ev} (hv : SoundE G n sc value fv) (hc : SoundB G n sc c fc) (hi : SoundE G n sc i fi) (hsw : ∀ env, swapsWith value (some (.Subscript c i sp)) pos.line env = pure false := by intro _; rfl) :
    SoundS G n sc (.Assign [.Subscript c i sp] value pos) (sPutM fv fc fi) := .mk fun A env V σ I s fl σ' I' hs rm g w hf => by
  refine bind_go2 hf fun dv I₁ e1 hf => bind_go2 hf fun dc I₂ e2 hf => bind_go2 hf fun di I₃ e3 hf => bind_go hf fun j hj hf => bind_go hf fun m hm hf => bind_go hf fun k hk hf => bind_go hf fun kvs e4 hf => ite_gn hf fun e5 hf => ?_
  refine some3 hf ?_
  clear hf
  obtain rfl := datInt_go hj
  obtain rfl := datMdi_go hm
  obtain rfl := datStr_go hk
  refine wpAny_Assign_Subscript (hv.use hs rm g w e1 fun V₁ s₁ v st₁ g₁ w₁ r₁ => hc.use hs rm g₁ w₁ e2 fun V₂ s₂ cv st₂ g₂ w₂ r₂ => hi.use hs rm g₂ w₂ e3 fun V₃ s₃ iv st₃ g₃ w₃ r₃ => ?_) (hsw env)
  have st := (st₁.trans st₂).trans st₃
  refine g_e r₁.is fun _ q1ₑ => ?_
  subst q1ₑ
  refine g_e r₃.is fun _ q1ₑ => ?_
  subst q1ₑ
  refine g_ea ((r₂.step st₃ g₂).mdict) fun a q1ₑ hJ => ?_
  subst q1ₑ
  refine g_eaa (g₃.st.at_ m a kvs hJ e4) fun vs hd hm hvs => ?_
  refine wpAny_setItem_pairs (strKind_is _ _ _ _) hd (fun h' hd' hsb => ?_) (by rw [hvs.length]; exact e5)
  refine g_eeea (id hd') fun oc _ _ hoc _ => ?_
  have haJ := List.mem_of_getElem? hJ
  have nF := g₃.st.apart a haJ
  have hk : ∀ b o, b ∉ [a] → s₃.heap.get? b = some o → h'.get? b = some o := fun b o q e => (hsb.2 b (by simpa using q)).trans e
  have one : ∀ {b}, b ∈ [a] → b = a := fun {b} q => by simpa using q
  have oo : ∀ b, OwnA s₃.heap env σ b → b ∉ [a] := fun b q z => by
    refine g_eeeaa q fun x d u q1 q2 q3 => ?_
    refine g_eaa (w₃.own x d q1) fun u' hu' o f => ?_
    obtain rfl := Option.some.inj (At.unique q2 hu')
    exact (f b q3).J (one z ▸ haJ)
  have wl : env.locals ∉ [a] := fun z => w₃.locJ (one z ▸ haJ)
  have wc : ∀ y c, env.cells.lookup y = some c → c ∉ [a] := fun y c q z => (w₃.cex y c q).2.2 (one z ▸ haJ)
  have w₄ : EnvOk G V₃ h' env σ := w₃.other hk (fun b q z => nF (one q ▸ z)) wl wc oo
  have ss := st.toS w
  refine ⟨V₃, ⟨ss.gens, ss.os, fun b o e nJ nf no => ?_, fun b o e => ?_, ss.fr, ss.fnew, ss.jp, ss.jnew, fun b q => ss.onew b (OwnA.other w₃ hk wl wc oo q)⟩, g₃.putJ hJ hsb hoc hm hd' (hvs.put k j _), w₄, trivial⟩
  · refine (hsb.2 b fun z => ?_).trans (ss.keep b o e nJ nf no)
    rcases st.jnew a haJ with q | q
    · exact nJ (z ▸ q)
    · rw [← z, e] at q; cases q
  · refine g_e (ss.ex b o e) fun o' e' => ?_
    exact SameBut.ex hsb hoc b o' e'
end

-- M29
section
variable {G : Cx} {n : Nat} {sc : Scope}

noncomputable abbrev In0 := List Dat → MSt → Option (List (Str × Dat) × MSt)

-- an __init__ that fills its object
structure SoundInit (G : Cx) (n : Nat) (fa C : Addr) (F : In0) : Prop where
  run : ∀ (A : Around) (V : View) (s : Shared) (I : MSt) (x dx : Addr) (args : List Value) (ds : List Dat) (attrs : List (Str × Dat)) (I' : MSt), Room A n → Good G V s I → s.heap.get? x = some (instObj C dx) → s.heap.get? dx = some (dictOf [] 0) →
    ¬ V.F x → x ∉ V.J → ¬ V.F dx → dx ∉ V.J → Reps G V s.heap args ds → F ds I = some (attrs, I') →
    codeAny (Md G) A (.call (.ref fa) ⟨.ref x :: args, []⟩) (fun r s' => r = .ok (.ret .none) ∧ ∃ V', StepO (fun b => b = x ∨ b = dx) V s V' s' ∧ Good G V' s' I' ∧ Rep G V' s'.heap (.ref x) (.obj C attrs)) s

set_option tactic.hygienic true in
theorem SoundInit.of {fa C : Addr} {fd : FuncData} {body : List Stmt} {ps : List String} {gx : Sx} {dfl : List Value} {dd : List Dat} {F : In0} (D : DefOk G fa fd sc body) (hnd : (("self" :: ps).map Str.ofString).Nodup) (hkind : ∀ x ∈ "self" :: ps, KindOk sc x)
    (hbind : ∀ (V : View) (s : Shared) (I : MSt) (x : Addr) (vs : List Value), Good G V s I → vs.length + dfl.length = ps.length → ∀ (A' : Around) (E : Value → Shared → Prop) (Q : List (Str × Value) → Shared → Prop), Q ((Str.ofString "self", .ref x) :: (ps.map Str.ofString).zip (vs ++ dfl)) s → wpAny (Md G) A' (bindArgs fd ⟨.ref x :: vs, []⟩) Q E s)
    (hd : ∀ (V : View) (h : Heap), Reps G V h dfl dd) (h : SoundSs G n sc body gx)
    (hF : ∀ ds I attrs I', F ds I = some (attrs, I') → ds.length + dfl.length = ps.length ∧ ∀ x, ∃ σ', gx ((sto0 ps ((ds ++ dd).map .frz)).set "self" (.own (.pobj x C []))) I = some (.next, σ', I') ∧ σ' "self" = .own (.pobj x C attrs)) : SoundInit G (n + 1) fa C F := .mk fun A V s I x dx args ds attrs I' rm g hx hdx nFx nJx nFd nJd r hf => by
  refine g_a (hF ds I attrs I' hf) fun hlen hg => ?_
  refine g_ea (hg x) fun σ' e es => ?_
  have hal : args.length = ds.length := r.length
  have hvl : (args ++ dfl).length = ps.length := by rw [List.length_append]; lia
  have rr : Reps G V s.heap (args ++ dfl) (ds ++ dd) := r.append (hd V s.heap)
  rw [List.map_cons, List.nodup_cons] at hnd
  have gv := given_frz (G := G) (V := V) (h := s.heap) hnd.2 hvl rr
  have ne : ∀ {y : String} {v : Value}, (Str.ofString y, v) ∈ (ps.map Str.ofString).zip (args ++ dfl) → y ≠ "self" := fun {y v} hm q => by
    subst q; exact hnd.1 (List.of_mem_zip hm).1
  have hfoot : foot s.heap (.ref x) = [x, dx] := by simp [foot, hx, instObj]
  have own1 : ∀ {y : String} {d : Dat}, ((sto0 ps ((ds ++ dd).map .frz)).set "self" (.own (.pobj x C []))) y = .own d → y = "self" ∧ d = .pobj x C [] := fun {y d} q => by
    unfold Sto.set at q
    split at q
    · rename_i hy; cases q; exact ⟨hy, rfl⟩
    · obtain ⟨i, d', _, _, h3⟩ := sto0_frz q (by intro e; cases e)
      cases h3
  have B : Given G V s.heap ((Str.ofString "self", .ref x) :: (ps.map Str.ofString).zip (args ++ dfl)) ((sto0 ps ((ds ++ dd).map .frz)).set "self" (.own (.pobj x C []))) := by
    refine ⟨?_, fun y d q => ?_, fun y d q => ?_, fun y z d d' q q' => (own1 q).1.trans (own1 q').1.symm⟩
    · rw [List.map_cons, List.nodup_cons, List.map_fst_zip (by simp [hvl])]; exact hnd
    · unfold Sto.set at q
      split at q
      · cases q
      · refine g_ea (gv.frz y d q) fun v hm rv => ?_
        exact ⟨v, .tail _ hm, rv⟩
    · refine g_a (own1 q) fun q0ₑ q1ₑ => ?_
      subst q0ₑ
      subst q1ₑ
      refine ⟨.ref x, .head _, .pobj hx hdx .nil, fun a ha => ?_⟩
      rw [hfoot] at ha
      simp only [List.mem_cons, List.not_mem_nil, or_false] at ha
      rcases ha with rfl | rfl
      · exact ⟨nFx, nJx⟩
      · exact ⟨nFd, nJd⟩
  have lent : ∀ b, Lent s.heap ((Str.ofString "self", .ref x) :: (ps.map Str.ofString).zip (args ++ dfl)) ((sto0 ps ((ds ++ dd).map .frz)).set "self" (.own (.pobj x C []))) b → b = x ∨ b = dx := by
    intro b qₕ
    refine g_eeeaa qₕ fun y d v q hm hb => ?_
    clear qₕ
    refine g_a (own1 q) fun q0ₑ q1ₑ => ?_
    subst q0ₑ
    subst q1ₑ
    have hv : v = .ref x := by
      rcases List.mem_cons.mp hm with q | q
      · exact congrArg Prod.snd q
      · exact absurd rfl (ne q)
    rw [hv, hfoot] at hb
    simpa using hb
  refine codeAny_mono (run_def D rm g g (fun A' E Q q => hbind V s I x args g (by lia) A' E Q q) B (fun p hp => ?_) h e (.inl rfl)) fun r s' q => ?_
  · rcases List.mem_cons.mp hp with rfl | hp
    · exact hkind "self" (.head _)
    · refine g_a (List.of_mem_zip hp) fun hm _ => ?_
      refine g_ea (List.mem_map.mp hm) fun y hy e => ?_
      rw [← e]; exact hkind y (.tail _ hy)
  · refine g_eeeaaaaa q fun v env V' q3ₑ st g' w' on ro => ?_
    clear q
    subst q3ₑ
    obtain rfl : v = .none := ro
    refine g_eaa (freeze_one "self" g' w') fun V'' ss g'' w'' => ?_
    have hfz : σ'.freeze "self" "self" = .frz (.pobj x C attrs) := by
      unfold Sto.freeze
      refine (es) ▸ ?_
      exact if_pos rfl
    refine g_ea (w''.frz "self" _ hfz) fun u hu ru => ?_
    refine ⟨rfl, V'', ⟨st.gens, st.os, fun b o e nJ nO => ?_, st.ex, fun b q => ss.fr b (st.fr b q), fun b q => ?_, fun i a q => ss.jp i a (st.jp i a q), fun b q => ?_⟩, g'', ?_⟩
    · exact st.keep b o e nJ fun q => nO (lent b q)
    · rcases ss.fnew b q with z | z | z
      · exact (st.fnew b z).imp id (Or.imp id (lent b))
      · exact .inr (.inl (none_back st.ex z))
      · exact .inr ((on b z).elim (fun q => .inr (lent b q)) .inl)
    · rcases ss.jnew b q with z | z
      · exact st.jnew b z
      · exact .inr (none_back st.ex z)
    · obtain ⟨rfl, x, dx, es, nn, q, a, b, c, d, e⟩ := ru.is
      cases q
      exact .obj a b c d e

theorem SoundL.plain {es : List Expr} {fs : List Ev} (h : SoundL G n sc es fs) {env : Env} {pos : Pos} : (backTo pos (starEach es env)).any (·.1) = false := by
  induction h with
  | nil => rfl
  | cons hst he _ ih => rw [backTo_cons hst, List.any_cons, ih]; rfl

noncomputable def evNew (C : Addr) (F : In0) (fs : List Ev) : Ev := fun σ I => (evs fs σ I).bind fun p => (F p.1 p.2).bind fun q => some (.obj C q.1, q.2)

theorem Room.underCls {A : Around} {m : Nat} {C : Addr} {rest : List Value} (r : Room A (m + 1)) : Room (A.under (.builtin "type.__call__" ⟨.ref C :: rest, []⟩)) m := by
  have h1 : (Code.builtin "type.__call__" ⟨.ref C :: rest, []⟩).weight = 1 := by kernel_rfl
  have h2 : (Code.builtin "type.__call__" ⟨.ref C :: rest, []⟩).cUnits ≤ 1 := by
    have : (Code.builtin "type.__call__" ⟨.ref C :: rest, []⟩).cUnits = 1 := by kernel_rfl
    lia
  refine ⟨r.handled, ?_, ?_⟩
  · have := r.depth
    show A.depth + (Code.builtin "type.__call__" ⟨.ref C :: rest, []⟩).weight + m < _
    lia
  · have := r.units
    show A.units + (Code.builtin "type.__call__" ⟨.ref C :: rest, []⟩).cUnits + 20 * m + 100 < _
    lia

theorem SoundE.new {K : Frag} {C fa : Addr} {f : String} {p pos : Pos} {es : List Expr} {fs : List Ev} {F : In0} {m : Nat} (hin : K.In G.base) (hm : makesIn K C = true) (hi : findIn K (.ref C) "__init__" = some (some (.ref fa))) (hf : typeIn K (.ref fa) = some (.type "function")) (hk : keepIn K (.ref C) = true)
    (hg : GlobIs G sc f (.ref C)) (hF : SoundInit G m fa C F) (hmn : m + 1 ≤ n) (hl : SoundL G n sc es fs) (hne : es ≠ [])
    (he : ∀ env : Env, eval (.Call (.Name (Str.ofString f) p) es [] pos) env = (do callWith pos (← eval (.Name (Str.ofString f) p) env) [] (backTo pos (starEach es env)) (backToKw pos (keywordEach [] env))) := by intro env; rfl)
    (hd : (Str.ofString f == ("__debug__" : Str)) = false := by decide +kernel) : SoundE G n sc (.Call (.Name (Str.ofString f) p) es [] pos) (evNew C F fs) := .mk fun A env V σ I s d I' hs rm g w hfe => by
  refine bind_go2 hfe fun ds I₁ e1 hfe => bind_go2 hfe fun attrs I' e2 hfe => ?_
  refine some2 hfe ?_
  clear hfe
  refine PyProof.Rows.Call_ (load_glob hs g w hg hd ?_) (he env)
  cases hl with
  | nil => exact absurd rfl hne
  | cons hst he' hes =>
    have X : K.In s.heap := hin.keeps fun b o e => (g.base b o e).2
    refine callWith_K (K := K) X hk ?_ (starEach_plain hst) (SoundL.plain hes)
    refine SoundL.run (.cons hst he' hes) hs rm g w e1 fun V₁ s₁ vs st₁ g₁ w₁ r₁ => ?_
    have X₁ : K.In s₁.heap := hin.keeps fun b o e => (g₁.base b o e).2
    refine ⟨X₁, wpAny_call ?_⟩
    obtain ⟨hh, gg, dd, tt, oo⟩ := s₁
    have hn1 : hh.get? hh.objs.size = none := get_size hh
    have hn2 : hh.get? (hh.objs.size + 1) = none := fresh_none (Nat.le_succ _)
    have kp : ∀ b o, hh.get? b = some o → ((hh.push emptyDict).push (instObj C hh.objs.size)).get? b = some o := fun b o e => Heap.get?_push_of_some _ (Heap.get?_push_of_some _ e)
    have hx : ((hh.push emptyDict).push (instObj C hh.objs.size)).get? (hh.objs.size + 1) = some (instObj C hh.objs.size) := by
      have := Heap.get?_push_size (hh.push emptyDict) (o := instObj C hh.objs.size) rfl
      rwa [Heap.size_push] at this
    have hdx : ((hh.push emptyDict).push (instObj C hh.objs.size)).get? hh.objs.size = some (dictOf [] 0) := Heap.get?_push_of_some _ (Heap.get?_push_size _ rfl)
    have g₂ : Good G V₁ ⟨(hh.push emptyDict).push (instObj C hh.objs.size), gg, dd, tt, oo⟩ I₁ := g₁.keeps kp
    refine make_core (makes_of X₁ hm) (looks_findIn X₁ hi) (fun self => bind_fn X₁ self hf) (.inl rfl) ?_
    refine codeAny_mono (hF.run _ V₁ _ I₁ _ _ vs ds attrs I' (rm.le hmn).underCls g₂ hx hdx (g₁.notF hn2) (g₁.notJ hn2) (g₁.notF hn1) (g₁.notJ hn1) (r₁.mono (fun _ q => q) (fun _ _ q => q) fun b o _ e => kp b o e) e2) fun r s' q => ?_
    refine g_aeaa q fun q0ₑ V' st g' ro => ?_
    clear q
    subst q0ₑ
    refine ⟨rfl, V', st₁.trans ⟨st.gens, st.os, fun b o e nJ => st.keep b o (kp b o e) nJ fun z => ?_, fun b o e => st.ex b o (kp b o e), st.fr, fun b q => ?_, st.jp, fun b q => ?_⟩, g', ro⟩
    · rcases z with rfl | rfl
      · exact none_ne ((hn2).symm.trans e)
      · exact none_ne ((hn1).symm.trans e)
    · rcases st.fnew b q with z | z | rfl | rfl
      · exact .inl z
      · exact .inr (none_back (fun b o e => ⟨o, kp b o e⟩) z)
      · exact .inr hn2
      · exact .inr hn1
    · rcases st.jnew b q with z | z
      · exact .inl z
      · exact .inr (none_back (fun b o e => ⟨o, kp b o e⟩) z)
end

-- M30
section
variable {G : Cx} {n : Nat} {sc : Scope}

noncomputable def scB (sc : Scope) : Bool := !sc.isCoroutine && !sc.isGenerator && sc.kind == .function && sc.names.all (fun p => p.2 != .free) && decide ((cellsFrom 0 sc.names []).map (·.1)).Nodup

theorem defOk (ok : GOk G) {a c : Addr} {nm qual : Str} {p : Def3} {df pm : Value} (j : Nat) (h1 : (KK G.w.params).lookup a = some (fobj nm qual p df pm c)) (h2 : codes[j]? = some (c, qual)) (h3 : scB p.2.2 = true) : DefOk G a (fdat nm qual p df pm c) p.2.2 p.2.1 := by
  unfold scB at h3
  simp only [Bool.and_eq_true, Bool.not_eq_true', List.all_eq_true, beq_iff_eq, decide_eq_true_eq, bne_iff_ne, ne_eq] at h3
  refine g_a h3 fun q0ₜ a5 => ?_
  obtain ⟨⟨⟨a1, a2⟩, a3⟩, a4⟩ := q0ₜ
  refine ⟨⟨_, ok.says.1 _ _ h1, rfl⟩, ok.says.2.1 _ (List.mem_of_getElem? h2), rfl, rfl, rfl, rfl, rfl, a1, a2, a3, fun x hx => ?_, a5⟩
  exact a4 _ (lookup_mem hx) rfl

theorem glob_ref (ok : GOk G) {x : String} {v : Value} (i : Nat) (h : gnames[i]? = some (Str.ofString x, some v)) (hk : sc.names.lookup (Str.ofString x) = some .globalImplicit) : GlobIs G sc x v :=
  ⟨hk, .inl (ok.names _ (List.mem_of_getElem? h))⟩
theorem glob_bui (ok : GOk G) {x : String} {v : Value} (i : Nat) (h : gnames[i]? = some (Str.ofString x, none)) (hb : bootBuiltins (Str.ofString x) = some v) (hn : Str.ofString x ≠ "__name__") (hk : sc.names.lookup (Str.ofString x) = some .globalImplicit) : GlobIs G sc x v :=
  ⟨hk, .inr ⟨ok.names _ (List.mem_of_getElem? h), (ok.bui _ hn).trans hb⟩⟩
theorem gU_kind (ok : GOk G) (hk : sc.names.lookup (Str.ofString "_kind") = some .globalImplicit := by decide +kernel) : GlobIs G sc "_kind" (.ref 28) := glob_ref ok 0 rfl hk
theorem gU_c_path (ok : GOk G) (hk : sc.names.lookup (Str.ofString "_c_path") = some .globalImplicit := by decide +kernel) : GlobIs G sc "_c_path" (.ref 35) := glob_ref ok 1 rfl hk
theorem gU_splitroot (ok : GOk G) (hk : sc.names.lookup (Str.ofString "_splitroot") = some .globalImplicit := by decide +kernel) : GlobIs G sc "_splitroot" (.ref 42) := glob_ref ok 2 rfl hk
theorem gU_normpath (ok : GOk G) (hk : sc.names.lookup (Str.ofString "_normpath") = some .globalImplicit := by decide +kernel) : GlobIs G sc "_normpath" (.ref 49) := glob_ref ok 3 rfl hk
theorem g_normpath (ok : GOk G) (hk : sc.names.lookup (Str.ofString "normpath") = some .globalImplicit := by decide +kernel) : GlobIs G sc "normpath" (.ref 56) := glob_ref ok 4 rfl hk
theorem gL_drawn (ok : GOk G) (hk : sc.names.lookup (Str.ofString "_law_drawn") = some .globalImplicit := by decide +kernel) : GlobIs G sc "_law_drawn" (.ref 156) := glob_ref ok 5 rfl hk
theorem gL_blocks (ok : GOk G) (hk : sc.names.lookup (Str.ofString "_law_blocks") = some .globalImplicit := by decide +kernel) : GlobIs G sc "_law_blocks" (.ref 161) := glob_ref ok 6 rfl hk
theorem gL_answers (ok : GOk G) (hk : sc.names.lookup (Str.ofString "_law_answers") = some .globalImplicit := by decide +kernel) : GlobIs G sc "_law_answers" (.ref 166) := glob_ref ok 7 rfl hk
theorem gL_partners (ok : GOk G) (hk : sc.names.lookup (Str.ofString "_law_partners") = some .globalImplicit := by decide +kernel) : GlobIs G sc "_law_partners" (.ref 171) := glob_ref ok 8 rfl hk
theorem gL_anew (ok : GOk G) (hk : sc.names.lookup (Str.ofString "_law_anew") = some .globalImplicit := by decide +kernel) : GlobIs G sc "_law_anew" (.ref 176) := glob_ref ok 9 rfl hk
theorem gL_counts (ok : GOk G) (hk : sc.names.lookup (Str.ofString "_law_counts") = some .globalImplicit := by decide +kernel) : GlobIs G sc "_law_counts" (.ref 183) := glob_ref ok 10 rfl hk
theorem gL_uneven (ok : GOk G) (hk : sc.names.lookup (Str.ofString "_law_uneven") = some .globalImplicit := by decide +kernel) : GlobIs G sc "_law_uneven" (.ref 190) := glob_ref ok 11 rfl hk
theorem gL_shared (ok : GOk G) (hk : sc.names.lookup (Str.ofString "_law_shared") = some .globalImplicit := by decide +kernel) : GlobIs G sc "_law_shared" (.ref 195) := glob_ref ok 12 rfl hk
theorem gL_column (ok : GOk G) (hk : sc.names.lookup (Str.ofString "_law_column") = some .globalImplicit := by decide +kernel) : GlobIs G sc "_law_column" (.ref 202) := glob_ref ok 13 rfl hk
theorem gL_outline (ok : GOk G) (hk : sc.names.lookup (Str.ofString "_law_outline") = some .globalImplicit := by decide +kernel) : GlobIs G sc "_law_outline" (.ref 207) := glob_ref ok 14 rfl hk
theorem g_law (ok : GOk G) (hk : sc.names.lookup (Str.ofString "law") = some .globalImplicit := by decide +kernel) : GlobIs G sc "law" (.ref 212) := glob_ref ok 15 rfl hk
theorem gU_Ignore (ok : GOk G) (hk : sc.names.lookup (Str.ofString "_Ignore") = some .globalImplicit := by decide +kernel) : GlobIs G sc "_Ignore" (.ref 79) := glob_ref ok 16 rfl hk
theorem g_Whitespace (ok : GOk G) (hk : sc.names.lookup (Str.ofString "Whitespace") = some .globalImplicit := by decide +kernel) : GlobIs G sc "Whitespace" (.ref 145) := glob_ref ok 17 rfl hk
theorem g_len (ok : GOk G) (hk : sc.names.lookup (Str.ofString "len") = some .globalImplicit := by decide +kernel) : GlobIs G sc "len" (.builtin "len") := glob_bui ok 18 rfl (by decide +kernel) (by decide +kernel) hk
theorem g_max (ok : GOk G) (hk : sc.names.lookup (Str.ofString "max") = some .globalImplicit := by decide +kernel) : GlobIs G sc "max" (.builtin "max") := glob_bui ok 19 rfl (by decide +kernel) (by decide +kernel) hk
theorem g_min (ok : GOk G) (hk : sc.names.lookup (Str.ofString "min") = some .globalImplicit := by decide +kernel) : GlobIs G sc "min" (.builtin "min") := glob_bui ok 20 rfl (by decide +kernel) (by decide +kernel) hk
theorem g_sum (ok : GOk G) (hk : sc.names.lookup (Str.ofString "sum") = some .globalImplicit := by decide +kernel) : GlobIs G sc "sum" (.builtin "sum") := glob_bui ok 21 rfl (by decide +kernel) (by decide +kernel) hk
theorem g_sorted (ok : GOk G) (hk : sc.names.lookup (Str.ofString "sorted") = some .globalImplicit := by decide +kernel) : GlobIs G sc "sorted" (.builtin "sorted") := glob_bui ok 22 rfl (by decide +kernel) (by decide +kernel) hk
theorem g_range (ok : GOk G) (hk : sc.names.lookup (Str.ofString "range") = some .globalImplicit := by decide +kernel) : GlobIs G sc "range" (.type "range") := glob_bui ok 23 rfl (by decide +kernel) (by decide +kernel) hk
theorem g_list (ok : GOk G) (hk : sc.names.lookup (Str.ofString "list") = some .globalImplicit := by decide +kernel) : GlobIs G sc "list" (.type "list") := glob_bui ok 24 rfl (by decide +kernel) (by decide +kernel) hk
theorem g_set (ok : GOk G) (hk : sc.names.lookup (Str.ofString "set") = some .globalImplicit := by decide +kernel) : GlobIs G sc "set" (.type "set") := glob_bui ok 25 rfl (by decide +kernel) (by decide +kernel) hk
theorem g_tuple (ok : GOk G) (hk : sc.names.lookup (Str.ofString "tuple") = some .globalImplicit := by decide +kernel) : GlobIs G sc "tuple" (.type "tuple") := glob_bui ok 26 rfl (by decide +kernel) (by decide +kernel) hk
theorem g_zip (ok : GOk G) (hk : sc.names.lookup (Str.ofString "zip") = some .globalImplicit := by decide +kernel) : GlobIs G sc "zip" (.type "zip") := glob_bui ok 27 rfl (by decide +kernel) (by decide +kernel) hk
theorem g_type (ok : GOk G) (hk : sc.names.lookup (Str.ofString "type") = some .globalImplicit := by decide +kernel) : GlobIs G sc "type" (.type "type") := glob_bui ok 28 rfl (by decide +kernel) (by decide +kernel) hk
theorem g_str (ok : GOk G) (hk : sc.names.lookup (Str.ofString "str") = some .globalImplicit := by decide +kernel) : GlobIs G sc "str" (.type "str") := glob_bui ok 29 rfl (by decide +kernel) (by decide +kernel) hk
theorem g_sep (ok : GOk G) (hk : sc.names.lookup (Str.ofString "sep") = some .globalImplicit := by decide +kernel) : GlobIs G sc "sep" (.str (Str.ofString "/") 194) := glob_ref ok 30 rfl hk
theorem SoundE.gstr {x : String} {y : Str} {t : Tok} {p : Pos} (hg : GlobIs G sc x (.str y t)) (hd : (Str.ofString x == ("__debug__" : Str)) = false := by decide +kernel) : SoundE G n sc (.Name (Str.ofString x) p) (evC (.str y)) := .mk fun A env V σ I s d I' hs rm g w hf => by
  cases hf
  exact load_glob hs g w hg hd (PE.same0 g (.str _ _))
end

-- E01
section

-- what the pure functions of the walk yield

noncomputable def RunS (f : Sx) (σ : Sto) (I : MSt) (Q : AFlow → Sto → MSt → Prop) : Prop := ∃ fl σ' I', f σ I = some (fl, σ', I') ∧ Q fl σ' I'
noncomputable def RunE (f : Ev) (σ : Sto) (I : MSt) (K : Dat → MSt → Prop) : Prop := ∃ d I', f σ I = some (d, I') ∧ K d I'
noncomputable def RunT (f : Bv) (σ : Sto) (I : MSt) (K : Bool → MSt → Prop) : Prop := ∃ b I', f σ I = some (b, I') ∧ K b I'
noncomputable def RunL (fs : List Ev) (σ : Sto) (I : MSt) (K : List Dat → MSt → Prop) : Prop := ∃ ds I', evs fs σ I = some (ds, I') ∧ K ds I'
noncomputable def RunI (f : Iv) (σ : Sto) (I : MSt) (K : List Dat → MSt → Prop) : Prop := ∃ ds I', f σ I = some (ds, I') ∧ K ds I'
-- a step of an operator
noncomputable abbrev Op {α : Type} (o : Option α) (K : α → Prop) : Prop := ∃ d, o = some d ∧ K d

theorem set_same {σ : Sto} {x : String} {e : Ent} : (σ.set x e) x = e := if_pos rfl
theorem set_ne {σ : Sto} {x y : String} {e r : Ent} (h : (decide (y = x)) = false) (k : σ y = r) : (σ.set x e) y = r := (if_neg (of_decide_eq_false h)).trans k

theorem sto_hit {x : String} {ps : List String} {e : Ent} {es : List Ent} : sto0 (x :: ps) (e :: es) x = e := by
  unfold sto0
  simp
theorem sto_miss {x y : String} {ps : List String} {e r : Ent} {es : List Ent} (h : (decide (y = x)) = false) (k : sto0 ps es y = r) : sto0 (x :: ps) (e :: es) y = r := by
  have hne : (y == x) = false := by simpa using of_decide_eq_false h
  refine (k) ▸ ?_
  unfold sto0
  simp only [List.zip_cons_cons, List.lookup_cons, hne]

section
variable {σ : Sto} {I : MSt} {K : Dat → MSt → Prop} {Q : AFlow → Sto → MSt → Prop} {x : String}

theorem RunE.mono {f : Ev} {K' : Dat → MSt → Prop} (h : RunE f σ I K') (k : ∀ d I', K' d I' → K d I') : RunE f σ I K := let ⟨d, I', e, q⟩ := h; ⟨d, I', e, k _ _ q⟩
theorem RunS.mono {f : Sx} {Q' : AFlow → Sto → MSt → Prop} (h : RunS f σ I Q') (k : ∀ fl σ' I', Q' fl σ' I' → Q fl σ' I') : RunS f σ I Q := let ⟨a, b, c, e, q⟩ := h; ⟨a, b, c, e, k _ _ _ q⟩
theorem RunE.name {d : Dat} (h : σ x = .frz d) (k : K d I) : RunE (evName x) σ I K := ⟨d, I, bind_eq (congrArg entFrz h) rfl, k⟩
theorem RunE.nameF {d : Dat} (h : σ x = .frz d) (k : K d I) : RunE (evNameB x) σ I K := ⟨d, I, bind_eq (congrArg entVal h) rfl, k⟩
theorem RunE.nameO {d : Dat} (h : σ x = .own d) (k : K d I) : RunE (evNameB x) σ I K := ⟨d, I, bind_eq (congrArg entVal h) rfl, k⟩
theorem RunE.c {d : Dat} (k : K d I) : RunE (evC d) σ I K := ⟨d, I, rfl, k⟩
theorem RunE.two {fl fr : Ev} {p : MSt → Dat → Dat → Option Dat} (h : RunE fl σ I fun a I₁ => RunE fr σ I₁ fun b I₂ => Op (p I₂ a b) fun d => K d I₂) : RunE (ev2 fl fr p) σ I K := by
  refine g_eeaeeaea h fun a I₁ e1 b I₂ e2 d e3 k => ?_
  exact ⟨d, I₂, bind_eq e1 (bind_eq e2 (bind_eq e3 rfl)), k⟩
theorem RunE.one {f : Ev} {p : Dat → Option Dat} (h : RunE f σ I fun a I₁ => Op (p a) fun d => K d I₁) : RunE (ev1 f p) σ I K := by
  refine g_eeaea h fun a I₁ e1 d e3 k => ?_
  exact ⟨d, I₁, bind_eq e1 (bind_eq e3 rfl), k⟩
theorem RunE.fn1 {f : Ev} {p : MSt → Dat → Option Dat} (h : RunE f σ I fun a I₁ => Op (p I₁ a) fun d => K d I₁) : RunE (evC1 f p) σ I K := by
  refine g_eeaea h fun a I₁ e1 d e3 k => ?_
  exact ⟨d, I₁, bind_eq e1 (bind_eq e3 rfl), k⟩
theorem RunE.asL {a b : Dat} {p : Dat → Dat → Option (List Dat)} {J : MSt} {k : Dat → Prop} (h : Op (p a b) fun l => k (.list l)) : Op (asL p J a b) k := by
  refine g_ea h fun l e q => ?_
  exact ⟨.list l, congrArg (Option.map Dat.list) e, q⟩
theorem RunL.nil {K : List Dat → MSt → Prop} (k : K [] I) : RunL [] σ I K := ⟨[], I, rfl, k⟩
theorem RunL.cons {f : Ev} {fs : List Ev} {K : List Dat → MSt → Prop} (h : RunE f σ I fun d I₁ => RunL fs σ I₁ fun ds I₂ => K (d :: ds) I₂) : RunL (f :: fs) σ I K := by
  refine g_eeaeea h fun d I₁ e1 ds I₂ e2 k => ?_
  exact ⟨d :: ds, I₂, bind_eq e1 (bind_eq e2 rfl), k⟩
theorem evs_length {fs : List Ev} {σ : Sto} {I I' : MSt} {ds : List Dat} (e : evs fs σ I = some (ds, I')) : ds.length = fs.length := by
  induction fs generalizing I I' ds with
  | nil => exact some2 (P := fun ds _ => ds.length = 0) e rfl
  | cons f fs ih => exact bind_go2 e fun d I₁ e1 e => bind_go2 e fun ds' I₂ e2 e => some2 (P := fun ds _ => ds.length = fs.length + 1) e (congrArg (· + 1) (ih e2))
theorem RunE.list {fs : List Ev} (h : RunL fs σ I fun ds I' => K (.list ds) I') (hl : fs.length ≤ 1000 := by simp) : RunE (evList fs) σ I K := by
  refine g_eea h fun ds I' e k => ?_
  exact ⟨_, I', bind_eq e (if_pos (evs_length e ▸ Nat.le_trans hl (by decide))), k⟩
theorem RunE.tup {fs : List Ev} (h : RunL fs σ I fun ds I' => K (.tup ds) I') (hl : fs.length ≤ 1000 := by simp) : RunE (evTup fs) σ I K := by
  refine g_eea h fun ds I' e k => ?_
  exact ⟨_, I', bind_eq e (if_pos (evs_length e ▸ Nat.le_trans hl (by decide))), k⟩
theorem RunE.fn {F : Fn} {fs : List Ev} (h : RunL fs σ I fun ds I₁ => ∃ d I', F ds I₁ = some (d, I') ∧ K d I') : RunE (evFn F fs) σ I K := by
  refine g_eeaeea h fun ds I₁ e d I' e2 k => ?_
  exact ⟨d, I', bind_eq e e2, k⟩
theorem RunE.new {C : Addr} {F : In0} {fs : List Ev} (h : RunL fs σ I fun ds I₁ => ∃ d I', F ds I₁ = some (d, I') ∧ K (.obj C d) I') : RunE (evNew C F fs) σ I K := by
  refine g_eeaeea h fun ds I₁ e d I' e2 k => ?_
  exact ⟨_, I', bind_eq e (bind_eq e2 rfl), k⟩
theorem RunE.meth {C : Addr} {name : Str} {F : Fn} {fo : Ev} {fs : List Ev} (h : RunE fo σ I fun d I₁ => ∃ at_, d = .obj C at_ ∧ at_.lookup name = none ∧ RunL fs σ I₁ fun ds I₂ => ∃ r I', F (.obj C at_ :: ds) I₂ = some (r, I') ∧ K r I') : RunE (evMeth C name F fo fs) σ I K := by
  refine g_eeaeaaeeaeea h fun d I₁ e at_ q4ₑ hn ds I₂ e2 r I' e3 k => ?_
  subst q4ₑ
  exact ⟨r, I', bind_eq e (bind_eq (a := (C, at_)) rfl ((if_pos ⟨rfl, hn⟩).trans (bind_eq e2 e3))), k⟩

theorem RunT.of {f : Ev} {K : Bool → MSt → Prop} (h : RunE f σ I fun d I' => Op (dTruth d) fun b => K b I') : RunT (evT f) σ I K := by
  refine g_eeaea h fun d I' e b e2 k => ?_
  exact ⟨b, I', bind_eq e (bind_eq e2 rfl), k⟩
theorem RunT.not {f : Bv} {K : Bool → MSt → Prop} (h : RunT f σ I fun b I' => K (!b) I') : RunT (evNot f) σ I K := by
  refine g_eea h fun b I' e k => ?_
  exact ⟨!b, I', bind_eq e rfl, k⟩
theorem RunT.c {b : Bool} {K : Bool → MSt → Prop} (k : K b I) : RunT (bvC b) σ I K := ⟨b, I, rfl, k⟩
theorem RunT.and {f g : Bv} {K : Bool → MSt → Prop} (h : RunT f σ I fun b I' => if b = true then RunT g σ I' K else K false I') : RunT (evAnd f g) σ I K := by
  refine g_eea h fun b I' e k => ?_
  cases b with
  | true => obtain ⟨c, I₂, e2, q⟩ := k; exact ⟨c, I₂, bind_eq e e2, q⟩
  | false => exact ⟨false, I', bind_eq e rfl, k⟩
theorem RunT.or {f g : Bv} {K : Bool → MSt → Prop} (h : RunT f σ I fun b I' => if b = true then K true I' else RunT g σ I' K) : RunT (evOr f g) σ I K := by
  refine g_eea h fun b I' e k => ?_
  cases b with
  | false => obtain ⟨c, I₂, e2, q⟩ := k; exact ⟨c, I₂, bind_eq e e2, q⟩
  | true => exact ⟨true, I', bind_eq e rfl, k⟩
theorem RunE.ite {t : Bv} {f g : Ev} (h : RunT t σ I fun b I' => if b = true then RunE f σ I' K else RunE g σ I' K) : RunE (evIf t f g) σ I K := by
  refine g_eea h fun b I' e k => ?_
  cases b with
  | true => obtain ⟨c, I₂, e2, q⟩ := k; exact ⟨c, I₂, bind_eq e e2, q⟩
  | false => obtain ⟨c, I₂, e2, q⟩ := k; exact ⟨c, I₂, bind_eq e e2, q⟩
theorem RunE.andV {f g : Ev} (h : RunE f σ I fun d I' => Op (dTruth d) fun b => if b = true then RunE g σ I' K else K d I') : RunE (evAndV f g) σ I K := by
  refine g_eeaea h fun d I' e b e2 k => ?_
  cases b with
  | true => obtain ⟨c, I₂, e3, q⟩ := k; exact ⟨c, I₂, bind_eq e (bind_eq e2 e3), q⟩
  | false => exact ⟨d, I', bind_eq e (bind_eq e2 rfl), k⟩
theorem RunE.orV {f g : Ev} (h : RunE f σ I fun d I' => Op (dTruth d) fun b => if b = true then K d I' else RunE g σ I' K) : RunE (evOrV f g) σ I K := by
  refine g_eeaea h fun d I' e b e2 k => ?_
  cases b with
  | false => obtain ⟨c, I₂, e3, q⟩ := k; exact ⟨c, I₂, bind_eq e (bind_eq e2 e3), q⟩
  | true => exact ⟨d, I', bind_eq e (bind_eq e2 rfl), k⟩

-- statements

theorem RunS.nil (k : Q .next σ I) : RunS sNil σ I Q := ⟨.next, σ, I, rfl, k⟩
-- f goes on
theorem RunS.seq {f g : Sx} (h : RunS f σ I fun fl σ' I' => fl = .next ∧ RunS g σ' I' Q) : RunS (sCons f g) σ I Q := by
  refine g_eeeaaeeea h fun fl σ' I' e q4ₑ a b c e2 k => ?_
  subst q4ₑ
  exact ⟨a, b, c, bind_eq e e2, k⟩
-- f may leave
theorem RunS.seq' {f g : Sx} (h : RunS f σ I fun fl σ' I' => (fl = .next ∧ RunS g σ' I' Q) ∨ (fl ≠ .next ∧ Q fl σ' I')) : RunS (sCons f g) σ I Q := by
  refine g_eeea h fun fl σ' I' e h => ?_
  rcases h with ⟨rfl, a, b, c, e2, k⟩ | ⟨hn, k⟩
  · exact ⟨a, b, c, bind_eq e e2, k⟩
  · refine ⟨fl, σ', I', bind_eq e ?_, k⟩
    cases fl with
    | next => exact absurd rfl hn
    | _ => rfl
-- the last one
theorem RunS.last {f : Sx} (h : RunS f σ I Q) : RunS (sCons f sNil) σ I Q := by
  refine g_eeea h fun fl σ' I' e k => ?_
  exact ⟨fl, σ', I', bind_eq e (by cases fl <;> rfl), k⟩
theorem RunS.set {f : Ev} (h : RunE f σ I fun d I' => Q .next (σ.set x (.frz d)) I') : RunS (sSet x f) σ I Q := by
  refine g_eea h fun d I' e k => ?_
  exact ⟨_, _, _, bind_eq e rfl, k⟩
theorem RunS.own {f : Ev} (h : RunE f σ I fun d I' => Q .next (σ.set x (.own d)) I') : RunS (sOwn x f) σ I Q := by
  refine g_eea h fun d I' e k => ?_
  exact ⟨_, _, _, bind_eq e rfl, k⟩
theorem RunS.set3 {y z : String} {f : Ev} (h : RunE f σ I fun d I' => Q .next (((σ.set x (.frz d)).set y (.frz d)).set z (.frz d)) I') : RunS (sSet3 x y z f) σ I Q := by
  refine g_eea h fun d I' e k => ?_
  exact ⟨_, _, _, bind_eq e rfl, k⟩
theorem RunS.ret {f : Ev} (h : RunE f σ I fun d I' => Q (.ret d) σ I') : RunS (sRet f) σ I Q := by
  refine g_eea h fun d I' e k => ?_
  exact ⟨_, _, _, bind_eq e rfl, k⟩
theorem RunS.brk (k : Q .brk σ I) : RunS sBrk σ I Q := ⟨_, _, _, rfl, k⟩
theorem RunS.cont (k : Q .cont σ I) : RunS sCont σ I Q := ⟨_, _, _, rfl, k⟩
theorem RunS.ite {t : Bv} {a b : Sx} (h : RunT t σ I fun c I' => if c = true then RunS a σ I' Q else RunS b σ I' Q) : RunS (sIf t a b) σ I Q := by
  refine g_eea h fun c I' e k => ?_
  cases c with
  | true => obtain ⟨u, v, w, e2, q⟩ := k; exact ⟨u, v, w, bind_eq e e2, q⟩
  | false => obtain ⟨u, v, w, e2, q⟩ := k; exact ⟨u, v, w, bind_eq e e2, q⟩
theorem RunS.app {f : Ev} (h : RunE f σ I fun d I' => ∃ xs, σ x = .own (.list xs) ∧ xs.length ≤ 1000 ∧ Q .next (σ.set x (.own (.list (xs ++ [d])))) I') : RunS (sApp x f) σ I Q := by
  refine g_eeaeaa h fun d I' e xs h1 h2 k => ?_
  exact ⟨_, _, _, bind_eq e (bind_eq (congrArg entOwn h1) (bind_eq (a := xs) rfl (if_pos (Nat.le_trans h2 (by decide))))), k⟩
theorem RunS.put {fi fv : Ev} (h : RunE fv σ I fun v I₁ => RunE fi σ I₁ fun i I₂ => ∃ c, σ x = .own c ∧ Op (dSetItem c i v) fun c' => Q .next (σ.set x (.own c')) I₂) : RunS (sPut x fi fv) σ I Q := by
  refine g_eeaeeaeaea h fun v I₁ e1 i I₂ e2 c hx c' e3 k => ?_
  exact ⟨_, _, _, bind_eq e1 (bind_eq e2 (bind_eq (congrArg entOwn hx) (bind_eq e3 rfl))), k⟩
theorem RunS.pop {g : Dat → Sto → Sto} {xs : List Dat} {d : Dat} (hx : σ x = .own (.list xs)) (hl : xs.getLast? = some d) (hz : xs.length ≤ 1000) (k : Q .next (g d (σ.set x (.own (.list xs.dropLast)))) I) : RunS (sPop x g) σ I Q :=
  ⟨_, _, _, bind_eq (congrArg entOwn hx) (bind_eq (a := xs) rfl (bind_eq hl (if_pos (Nat.le_trans hz (by decide))))), k⟩
theorem RunS.unp {xs : List String} {f : Ev} (h : RunE f σ I fun d I' => ∃ ds, d = .tup ds ∧ Op (setAll xs ds σ) fun σ' => Q .next σ' I') : RunS (sUnp xs f) σ I Q := by
  refine g_eeaeaea h fun d I' e ds q4ₑ σ' e2 k => ?_
  subst q4ₑ
  exact ⟨_, _, _, bind_eq e (bind_eq (a := ds) rfl (bind_eq e2 rfl)), k⟩
theorem RunS.swap {y : String} {f : Ev} (h : RunE f σ I fun d I' => ∃ a b, d = .tup [a, b] ∧ Q .next ((σ.set y (.frz b)).set x (.frz a)) I') : RunS (sSwap x y f) σ I Q := by
  refine g_eeaeea h fun d I' e a b q5ₑ k => ?_
  subst q5ₑ
  exact ⟨_, _, _, bind_eq e (bind_eq (a := [a, b]) rfl (bind_eq (a := (a, b)) rfl rfl)), k⟩
theorem RunS.attr {C : Addr} {name : Str} {f : Ev} (h : RunE f σ I fun d I' => ∃ y at_, σ x = .own (.pobj y C at_) ∧ at_.length ≤ 100 ∧ Q .next (σ.set x (.own (.pobj y C (aput name d at_)))) I') : RunS (sAttr C x name f) σ I Q := by
  refine g_eeaeeaa h fun d I' e y at_ h1 h2 k => ?_
  exact ⟨_, _, _, bind_eq e (bind_eq (congrArg entOwn h1) (bind_eq (a := (y, C, at_)) rfl (if_pos ⟨rfl, h2⟩))), k⟩
theorem RunS.putM {fv fc fi : Ev} (h : RunE fv σ I fun v I₁ => RunE fc σ I₁ fun c I₂ => RunE fi σ I₂ fun i I₃ => ∃ j m k kvs, v = .int j ∧ c = .mdict m ∧ i = .str k ∧ I₃[m]? = some kvs ∧ kvs.length ≤ 1000 ∧ Q .next σ (I₃.set m (dput kvs k j))) : RunS (sPutM fv fc fi) σ I Q := by
  obtain ⟨v, I₁, e1, c, I₂, e2, i, I₃, e3, j, m, k, kvs, rfl, rfl, rfl, e4, hz, q⟩ := h
  exact ⟨_, _, _, bind_eq e1 (bind_eq e2 (bind_eq e3 (bind_eq (a := j) rfl (bind_eq (a := m) rfl (bind_eq (a := k) rfl (bind_eq e4 (if_pos (Nat.le_trans hz (by decide))))))))), q⟩
theorem RunS.frz {xs : List String} {f : Sx} (h : RunS f (σ.freezes xs) I Q) : RunS (sFrz xs f) σ I Q := h
theorem freeze_own {d : Dat} (h : σ x = .own d) : σ.freeze x = σ.set x (.frz d) := by unfold Sto.freeze; rw [h]
theorem RunS.frz1 {f : Sx} {d : Dat} (h : σ x = .own d) (k : RunS f (σ.set x (.frz d)) I Q) : RunS (sFrz [x] f) σ I Q := by
  show RunS f (σ.freeze x) I Q
  rw [freeze_own h]; exact k

-- a loop by an invariant
theorem forL_inv {α : Type} (f : α → Dat) {fb : Sx} (P : List α → Sto → MSt → Prop) (l : List α) (h0 : P [] σ I)
    (step : ∀ pre a post σ I, l = pre ++ a :: post → P pre σ I → RunS fb (σ.set x (.frz (f a))) I fun fl σ' I' => (fl = .next ∨ fl = .cont) ∧ P (pre ++ [a]) σ' I') :
    ∃ σ' I', forL x fb (l.map f) σ I = some (.next, σ', I') ∧ P l σ' I' := by
  have key : ∀ (post pre : List α) (σ : Sto) (I : MSt), l = pre ++ post → P pre σ I → ∃ σ' I', forL x fb (post.map f) σ I = some (.next, σ', I') ∧ P l σ' I' := by
    intro post
    induction post with
    | nil => intro pre σ I e h; rw [List.append_nil] at e; subst e; exact ⟨σ, I, rfl, h⟩
    | cons a post ih =>
      intro pre σ I e h
      refine g_eeeaa (step pre a post σ I e h) fun fl σ' I' hb hfl hp => ?_
      obtain ⟨σ₂, I₂, h1, h2⟩ := ih (pre ++ [a]) σ' I' (by rw [e]; simp) hp
      refine ⟨σ₂, I₂, bind_eq hb ?_, h2⟩
      rcases hfl with rfl | rfl <;> exact h1
  exact key l [] σ I rfl h0
theorem RunS.loop {α : Type} (f : α → Dat) (l : List α) (P : List α → Sto → MSt → Prop) {fi : Iv} {fb : Sx} (hi : RunI fi σ I fun ds I' => ds = l.map f ∧ P [] σ I')
    (step : ∀ pre a post σ I, l = pre ++ a :: post → P pre σ I → RunS fb (σ.set x (.frz (f a))) I fun fl σ' I' => (fl = .next ∨ fl = .cont) ∧ P (pre ++ [a]) σ' I')
    (k : ∀ σ' I', P l σ' I' → Q .next σ' I') : RunS (sFor x fi fb) σ I Q := by
  refine g_eeaa hi fun ds I₁ e q3ₑ h0 => ?_
  subst q3ₑ
  refine g_eea (forL_inv f P l h0 step) fun σ' I' e2 h => ?_
  exact ⟨_, σ', I', bind_eq e e2, k _ _ h⟩

-- a loop that may leave with a value
theorem RunS.find {α : Type} (f : α → Dat) (l : List α) (P : Sto → MSt → Prop) (r : α → Option Dat) {fi : Iv} {fb : Sx} (hi : RunI fi σ I fun ds I' => ds = l.map f ∧ P σ I')
    (step : ∀ a ∈ l, ∀ σ I, P σ I → RunS fb (σ.set x (.frz (f a))) I fun fl σ' I' => fl = (match r a with | some d => .ret d | none => .next) ∧ P σ' I')
    (k : ∀ σ' I', P σ' I' → Q (match l.findSome? r with | some d => .ret d | none => .next) σ' I') : RunS (sFor x fi fb) σ I Q := by
  refine g_eeaa hi fun ds I₁ e q3ₑ h0 => ?_
  subst q3ₑ
  have key : ∀ (l : List α) (σ : Sto) (I : MSt), P σ I → (∀ a ∈ l, ∀ σ I, P σ I → RunS fb (σ.set x (.frz (f a))) I fun fl σ' I' => fl = (match r a with | some d => .ret d | none => .next) ∧ P σ' I') →
      ∃ σ' I', forL x fb (l.map f) σ I = some ((match l.findSome? r with | some d => .ret d | none => .next), σ', I') ∧ P σ' I' := by
    intro l
    induction l with
    | nil => intro σ I h _; exact ⟨σ, I, rfl, h⟩
    | cons a l ih =>
      intro σ I h step
      refine g_eeeaa (step a (.head _) σ I h) fun fl σ' I' hb q4ₑ hp => ?_
      subst q4ₑ
      refine (List.findSome?_cons) ▸ ?_
      cases e : r a with
      | some d => rw [e] at hb; exact ⟨σ', I', bind_eq hb rfl, hp⟩
      | none => rw [e] at hb; exact g_eea (ih σ' I' hp fun b hb => step b (.tail _ hb)) fun σ₂ I₂ e2 h2 => ⟨σ₂, I₂, bind_eq hb e2, h2⟩
  refine g_eea (key l σ I₁ h0 step) fun σ' I' e2 h => ?_
  exact ⟨_, σ', I', bind_eq e e2, k _ _ h⟩

-- sources

theorem RunI.list {f : Ev} {K : List Dat → MSt → Prop} (h : RunE f σ I fun d I' => ∃ xs, d = .list xs ∧ K xs I') : RunI (ivList f) σ I K := by
  refine g_eeaea h fun d I' e xs q4ₑ k => ?_
  subst q4ₑ
  exact ⟨xs, I', bind_eq e (bind_eq (a := xs) rfl rfl), k⟩
theorem RunI.range {fs : List Ev} {K : List Dat → MSt → Prop} (h : RunL fs σ I fun ds I' => Op (rngArgs ds) fun r => K (rngL r.1 r.2.1 r.2.2) I') : RunI (ivRange (rvOf fs)) σ I K := by
  refine g_eeaea h fun ds I' e q3ₜ e2 k => ?_
  obtain ⟨a, b, c⟩ := q3ₜ
  exact ⟨_, I', bind_eq (bind_eq e (bind_eq e2 rfl)) rfl, k⟩
theorem RunE.listR {fs : List Ev} (h : RunL fs σ I fun ds I' => Op (rngArgs ds) fun r => K (.list (rngL r.1 r.2.1 r.2.2)) I') : RunE (evListR (rvOf fs)) σ I K := by
  refine g_eeaea h fun ds I' e q3ₜ e2 k => ?_
  obtain ⟨a, b, c⟩ := q3ₜ
  exact ⟨_, I', bind_eq (bind_eq e (bind_eq e2 rfl)) rfl, k⟩
theorem RunI.str {f : Ev} {K : List Dat → MSt → Prop} (h : RunE f σ I fun d I' => ∃ x, d = .str x ∧ K (x.cps.toList.map fun c => .str ⟨#[c]⟩) I') : RunI (ivStr f) σ I K := by
  refine g_eeaea h fun d I' e x q4ₑ k => ?_
  subst q4ₑ
  exact ⟨_, I', bind_eq e (bind_eq (a := x) rfl rfl), k⟩

-- comprehensions

theorem RunI.one {fe : Ev} {K : List Dat → MSt → Prop} (h : RunE fe σ I fun d I' => K [d] I') : RunI (fm1 fe) σ I K := by
  refine g_eea h fun d I' e k => ?_
  exact ⟨[d], I', bind_eq e rfl, k⟩
theorem compG_inv {α : Type} (f : α → Dat) {bd : Bd} {ft : Bv} {fm : Iv} (P : List α → List Dat → MSt → Prop) (l : List α) (h0 : P [] [] I)
    (step : ∀ pre a post out I, l = pre ++ a :: post → P pre out I → ∃ σ', bd (f a) σ = some σ' ∧ RunT ft σ' I fun b I₁ => if b = true then RunI fm σ' I₁ fun ds I₂ => P (pre ++ [a]) (out ++ ds) I₂ else P (pre ++ [a]) out I₁) :
    ∃ out I', compG bd ft fm σ (l.map f) I = some (out, I') ∧ P l out I' := by
  have key : ∀ (post pre : List α) (out : List Dat) (I : MSt), l = pre ++ post → P pre out I → ∃ rest I', compG bd ft fm σ (post.map f) I = some (rest, I') ∧ P l (out ++ rest) I' := by
    intro post
    induction post with
    | nil => intro pre out I e h; rw [List.append_nil] at e; subst e; exact ⟨[], I, rfl, by rw [List.append_nil]; exact h⟩
    | cons a post ih =>
      intro pre out I e h
      refine g_eaeea (step pre a post out I e h) fun σ' hb b I₁ ht hk => ?_
      have e' : l = (pre ++ [a]) ++ post := by rw [e]; simp
      cases b with
      | true =>
        refine g_eea hk fun ds I₂ he hp => g_eea (ih _ _ _ e' hp) fun rest I' e2 h2 => ?_
        exact ⟨ds ++ rest, I', bind_eq hb (bind_eq ht (bind_eq he (bind_eq e2 rfl))), List.append_assoc .. ▸ h2⟩
      | false => exact g_eea (ih _ _ _ e' hk) fun rest I' e2 h2 => ⟨rest, I', bind_eq hb (bind_eq ht e2), h2⟩
  refine g_eea (key l [] [] I rfl h0) fun rest I' e h => ?_
  exact ⟨rest, I', e, h⟩
theorem RunE.comp {α : Type} (f : α → Dat) (l : List α) (P : List α → List Dat → MSt → Prop) {scope : Scope} {fi : Iv} {bd : Bd} {ft : Bv} {fm : Iv} (hi : RunI fi σ I fun ds I' => ds = l.map f ∧ P [] [] I')
    (step : ∀ pre a post out I, l = pre ++ a :: post → P pre out I → ∃ σ', bd (f a) (inner scope σ) = some σ' ∧ RunT ft σ' I fun b I₁ => if b = true then RunI fm σ' I₁ fun ds I₂ => P (pre ++ [a]) (out ++ ds) I₂ else P (pre ++ [a]) out I₁)
    (k : ∀ out I', P l out I' → out.length ≤ 10000 ∧ K (.list out) I') : RunE (evComp scope fi bd ft fm) σ I K := by
  refine g_eeaa hi fun ds I₁ e q3ₑ h0 => ?_
  subst q3ₑ
  refine g_eea (compG_inv f P l h0 step) fun out I' e2 h => ?_
  exact ⟨_, I', bind_eq e (bind_eq e2 (if_pos (k _ _ h).1)), (k _ _ h).2⟩
-- one that changes nothing, without a test
theorem RunE.map {α : Type} (f g : α → Dat) (l : List α) {scope : Scope} {fi : Iv} {bd : Bd} {fe : Ev} (hl : l.length ≤ 64) (hi : RunI fi σ I fun ds I' => ds = l.map f ∧ I' = I)
    (step : ∀ a ∈ l, ∃ σ', bd (f a) (inner scope σ) = some σ' ∧ RunE fe σ' I fun d I₂ => d = g a ∧ I₂ = I)
    (k : K (.list (l.map g)) I) : RunE (evComp scope fi bd (bvC true) (fm1 fe)) σ I K := by
  refine RunE.comp f l (fun pre out I' => out = pre.map g ∧ I' = I) (let ⟨ds, I', e, h1, h2⟩ := hi; ⟨ds, I', e, h1, rfl, h2⟩) (fun pre a post out I' e ⟨h1, h2⟩ => ?_) fun out I' ⟨h1, h2⟩ => by rw [h1, h2]; exact ⟨by simp; lia, k⟩
  subst h1; subst h2
  obtain ⟨σ', hb, hs⟩ := step a (by rw [e]; simp)
  refine ⟨σ', hb, RunT.c ?_⟩
  rw [if_pos rfl]
  exact RunI.one (hs.mono fun d I₂ ⟨h1, h2⟩ => ⟨by rw [h1]; simp, h2⟩)
theorem RunE.filter {α : Type} (f g : α → Dat) (t : α → Bool) (l : List α) {scope : Scope} {fi : Iv} {bd : Bd} {ft : Bv} {fe : Ev} (hl : l.length ≤ 64) (hi : RunI fi σ I fun ds I' => ds = l.map f ∧ I' = I)
    (step : ∀ a ∈ l, ∃ σ', bd (f a) (inner scope σ) = some σ' ∧ (RunT ft σ' I fun b I₁ => b = t a ∧ I₁ = I) ∧ (t a = true → RunE fe σ' I fun d I₂ => d = g a ∧ I₂ = I))
    (k : K (.list ((l.filter t).map g)) I) : RunE (evComp scope fi bd ft (fm1 fe)) σ I K := by
  refine RunE.comp f l (fun pre out I' => out = (pre.filter t).map g ∧ I' = I) (let ⟨ds, I', e, h1, h2⟩ := hi; ⟨ds, I', e, h1, rfl, h2⟩) (fun pre a post out I' e ⟨h1, h2⟩ => ?_) fun out I' ⟨h1, h2⟩ => by rw [h1, h2]; exact ⟨by have := List.length_filter_le t l; simp; lia, k⟩
  subst h1; subst h2
  obtain ⟨σ', hb, ⟨b, I₁, ht, rfl, rfl⟩, hs⟩ := step a (by rw [e]; simp)
  refine ⟨σ', hb, t a, I₁, ht, ?_⟩
  cases q : t a with
  | true =>
    rw [if_pos rfl]
    exact RunI.one ((hs q).mono fun d I₂ ⟨h1, h2⟩ => ⟨by rw [h1]; simp [q], h2⟩)
  | false => rw [if_neg Bool.false_ne_true]; simp [q]
end

theorem inner_free {scope : Scope} {σ : Sto} {x : String} {e : Ent} (h : scope.names.lookup (Str.ofString x) = some .free) (k : σ x = e) : inner scope σ x = e := by
  unfold inner; rw [h]; exact k

theorem runF_ret {ps : List String} {f : Sx} {ds : List Dat} {I I' : MSt} {d : Dat} (hl : ds.length = ps.length) (e : RunS f (sto0 ps (ds.map .frz)) I fun fl _ J => fl = .ret d ∧ J = I') : runF ps f ds I = some (d, I') := by
  obtain ⟨fl, σ', J, e, rfl, rfl⟩ := e
  exact (if_pos hl).trans (bind_eq e (bind_eq (a := d) rfl rfl))
end

-- E02
section

-- plain data of the walk

noncomputable abbrev nD (k : Nat) : Dat := .int k
noncomputable abbrev nL (l : List Nat) : Dat := .list (l.map nD)
noncomputable abbrev nLL (l : List (List Nat)) : Dat := .list (l.map nL)
noncomputable abbrev sL (l : List Str) : Dat := .list (l.map .str)
noncomputable abbrev sLL (l : List (List Str)) : Dat := .list (l.map sL)

section
variable {K : Dat → Prop} {B : Bool → Prop}
theorem Op.addI {a b : Int} (k : K (.int (a + b))) : Op (dAdd (.int a) (.int b)) K := ⟨_, rfl, k⟩
theorem Op.subI {a b : Int} (k : K (.int (a - b))) : Op (dSub (.int a) (.int b)) K := ⟨_, rfl, k⟩
theorem Op.modI {a b : Int} (h : b ≠ 0) (k : K (.int (a.fmod b))) : Op (dMod (.int a) (.int b)) K := ⟨_, if_neg h, k⟩
theorem Op.divI {a b : Int} (h : 0 < b ∧ b ≤ 1000) (k : K (.int (a.fdiv b))) : Op (dDiv (.int a) (.int b)) K := ⟨_, if_pos h, k⟩
theorem Op.mulI {a b : Int} (h : -1000 ≤ a ∧ a ≤ 1000) (k : K (.int (a * b))) : Op (dMul (.int a) (.int b)) K := ⟨_, if_pos h, k⟩
theorem Op.negI {a : Int} (k : K (.int (-a))) : Op (dNeg (.int a)) K := ⟨_, rfl, k⟩
theorem Op.ltI {a b : Int} (k : K (.bool (decide (a < b)))) : Op (dLt (.int a) (.int b)) K := ⟨_, rfl, k⟩
theorem Op.leI {a b : Int} (k : K (.bool (decide (a ≤ b)))) : Op (dLe (.int a) (.int b)) K := ⟨_, rfl, k⟩
theorem Op.gtI {a b : Int} (k : K (.bool (decide (b < a)))) : Op (dGt (.int a) (.int b)) K := ⟨_, rfl, k⟩
theorem Op.geI {a b : Int} (k : K (.bool (decide (a ≥ b)))) : Op (dGe (.int a) (.int b)) K := ⟨_, rfl, k⟩
theorem Op.eqI {a b : Int} (k : K (.bool (a == b))) : Op (dEq (.int a) (.int b)) K := ⟨_, rfl, k⟩
theorem Op.neI {a b : Int} (k : K (.bool (!(a == b)))) : Op (dNe (.int a) (.int b)) K := ⟨_, rfl, k⟩
theorem Op.trB {b : Bool} (k : B b) : Op (dTruth (.bool b)) B := ⟨_, rfl, k⟩
theorem Op.trN (k : B false) : Op (dTruth .none) B := ⟨_, rfl, k⟩
theorem Op.trI {i : Int} (k : B (i != 0)) : Op (dTruth (.int i)) B := ⟨_, rfl, k⟩
theorem Op.trL {xs : List Dat} (h : xs.length ≤ 1000) (k : B (!xs.isEmpty)) : Op (dTruth (.list xs)) B := ⟨_, if_pos (Nat.le_trans h (by decide)), k⟩
theorem Op.trS {x : Str} (h : x.length ≤ 1000) (k : B ((x.length : Int) != 0)) : Op (dTruth (.str x)) B := ⟨_, if_pos (Nat.le_trans h (by decide)), k⟩
theorem Op.lenL {xs : List Dat} (h : xs.length ≤ 1000) (k : K (nD xs.length)) : Op (dLen (.list xs)) K := ⟨_, if_pos h, k⟩
theorem Op.lenT {xs : List Dat} (h : xs.length ≤ 1000) (k : K (nD xs.length)) : Op (dLen (.tup xs)) K := ⟨_, if_pos h, k⟩
theorem Op.addL {xs ys : List Dat} (h : xs.length + ys.length ≤ 1000) (k : K (.list (xs ++ ys))) : Op (dAdd (.list xs) (.list ys)) K := ⟨_, if_pos (Nat.le_trans h (by decide)), k⟩
theorem Op.addS {x y : Str} (h : x.length + y.length ≤ 1000) (k : K (.str (x ++ y))) : Op (dAdd (.str x) (.str y)) K := ⟨_, if_pos (Nat.le_trans h (by decide)), k⟩
theorem Op.isNS {x : Str} (k : K (.bool false)) : Op (dIs (.str x) .none) K := ⟨_, rfl, k⟩
theorem Op.isNN (k : K (.bool true)) : Op (dIs .none .none) K := ⟨_, rfl, k⟩
end

theorem seqIndex_nat {k l : Nat} (h : k < l) : seqIndex? (k : Int) l = some k := by
  unfold seqIndex?
  have h0 : ¬ ((k : Int) < 0) := by lia
  simp [h0, h]
theorem dGet_list (I : MSt) (xs : List Dat) (k : Int) : dGet I (.list xs) (.int k) = if -(2 ^ 63) ≤ k ∧ k < 2 ^ 63 then (seqIndex? k xs.length).bind fun j => xs[j]? else none := rfl
theorem dGet_tup (I : MSt) (xs : List Dat) (k : Int) : dGet I (.tup xs) (.int k) = if -(2 ^ 63) ≤ k ∧ k < 2 ^ 63 then (seqIndex? k xs.length).bind fun j => xs[j]? else none := rfl
theorem Op.get {K : Dat → Prop} {I : MSt} {xs : List Dat} {k : Nat} {d : Dat} (h : xs[k]? = some d) (hl : xs.length ≤ 1000) (q : K d) : Op (dGet I (.list xs) (.int k)) K := by
  refine g_e (List.getElem?_eq_some_iff.mp h) fun hk _ => ?_
  refine ⟨d, ?_, q⟩
  exact (dGet_list ..).trans <| (if_pos (by lia)).trans (bind_eq (seqIndex_nat hk) h)
theorem Op.getT {K : Dat → Prop} {I : MSt} {xs : List Dat} {k : Nat} {d : Dat} (h : xs[k]? = some d) (hl : xs.length ≤ 1000) (q : K d) : Op (dGet I (.tup xs) (.int k)) K := by
  refine g_e (List.getElem?_eq_some_iff.mp h) fun hk _ => ?_
  refine ⟨d, ?_, q⟩
  exact (dGet_tup ..).trans <| (if_pos (by lia)).trans (bind_eq (seqIndex_nat hk) h)
-- the last item
theorem Op.getLast {K : Dat → Prop} {I : MSt} {xs : List Dat} {d : Dat} (h : xs.getLast? = some d) (hl : xs.length ≤ 1000) (q : K d) : Op (dGet I (.list xs) (.int (-1))) K := by
  rw [List.getLast?_eq_getElem?] at h
  refine g_e (List.getElem?_eq_some_iff.mp h) fun hk _ => ?_
  have : seqIndex? (-1) xs.length = some (xs.length - 1) := by
    unfold seqIndex?
    simp
    lia
  refine ⟨d, ?_, q⟩
  exact (dGet_list ..).trans <| (if_pos (by lia)).trans (bind_eq this h)
theorem Op.getN {K : Dat → Prop} {I : MSt} {l : List Nat} {k : Nat} (h : k < l.length) (hl : l.length ≤ 1000) (q : K (nD (l.getD k 0))) : Op (dGet I (nL l) (.int k)) K := by
  refine Op.get ?_ (by simpa using hl) q
  rw [List.getElem?_map, List.getElem?_eq_getElem h]; simp [h]
theorem Op.setN {K : Dat → Prop} {l : List Nat} {k v : Nat} (h : k < l.length) (hl : l.length ≤ 1000) (q : K (nL (l.set k v))) : Op (dSetItem (nL l) (.int k) (.int v)) K := by
  refine ⟨_, bind_eq (a := (k : Int)) rfl ((if_pos (by have : sizeLine = 16777216 := rfl; simp; lia)).trans ?_), q⟩
  simp [List.map_set]

-- lists of numbers

theorem asInts_n : ∀ l : List Nat, asInts (l.map nD) = some (l.map fun k : Nat => (k : Int))
  | [] => rfl
  | k :: l => bind_eq (a := (k : Int)) rfl (congrArg (Option.map ((k : Int) :: ·)) (asInts_n l))

theorem hI_index (I I' : MSt) (a b : Dat) : dIndex I a b = dIndex I' a b := rfl
theorem hI_join (I I' : MSt) (a b : Dat) : dJoin I a b = dJoin I' a b := rfl
theorem hI_split (I I' : MSt) (a b : Dat) : dSplit I a b = dSplit I' a b := rfl
theorem hI_starts (I I' : MSt) (a b : Dat) : dStarts I a b = dStarts I' a b := rfl
theorem len1 {α : Type} {l : List α} (h : l.length = 1) : ∃ a, l = [a] := List.length_eq_one_iff.mp h
theorem len2 {α : Type} {l : List α} (h : l.length = 2) : ∃ a b, l = [a, b] := by
  cases l with
  | nil => cases h
  | cons a l => obtain ⟨b, rfl⟩ := len1 (Nat.succ.inj h); exact ⟨a, b, rfl⟩
theorem len3 {α : Type} {l : List α} (h : l.length = 3) : ∃ a b c, l = [a, b, c] := by
  cases l with
  | nil => cases h
  | cons a l => obtain ⟨b, c, rfl⟩ := len2 (Nat.succ.inj h); exact ⟨a, b, c, rfl⟩
theorem len4 {α : Type} {l : List α} (h : l.length = 4) : ∃ a b c d, l = [a, b, c, d] := by
  cases l with
  | nil => cases h
  | cons a l => obtain ⟨b, c, d, rfl⟩ := len3 (Nat.succ.inj h); exact ⟨a, b, c, d, rfl⟩
theorem len5 {α : Type} {l : List α} (h : l.length = 5) : ∃ a b c d e, l = [a, b, c, d, e] := by
  cases l with
  | nil => cases h
  | cons a l => obtain ⟨b, c, d, e, rfl⟩ := len4 (Nat.succ.inj h); exact ⟨a, b, c, d, e, rfl⟩

-- the greatest and the least

noncomputable def mx : List Nat → Nat
  | [] => 0
  | a :: l => max a (mx l)
noncomputable def mn : List Nat → Nat
  | [] => 0
  | [a] => a
  | a :: l => min a (mn l)
theorem mx_le : ∀ {l : List Nat} {a : Nat}, a ∈ l → a ≤ mx l
  | b :: l, a, h => by
    unfold mx
    rcases List.mem_cons.mp h with rfl | h
    · lia
    · have := mx_le h; lia
theorem mx_mem : ∀ {l : List Nat}, 0 < l.length → mx l ∈ l
  | [a], _ => by simp [mx]
  | a :: b :: l, _ => by
    have ih := mx_mem (l := b :: l) (by simp)
    unfold mx
    rcases Nat.le_total a (mx (b :: l)) with h | h
    · rw [Nat.max_eq_right h]; exact .tail _ ih
    · rw [Nat.max_eq_left h]; exact .head _
theorem mn_le : ∀ {l : List Nat} {a : Nat}, a ∈ l → mn l ≤ a
  | [b], a, h => by
    rcases List.mem_cons.mp h with rfl | h
    · exact Nat.le_refl _
    · cases h
  | b :: c :: l, a, h => by
    unfold mn
    rcases List.mem_cons.mp h with rfl | h
    · lia
    · have := mn_le h; lia
theorem mn_mem : ∀ {l : List Nat}, 0 < l.length → mn l ∈ l
  | [a], _ => by simp [mn]
  | a :: b :: l, _ => by
    have ih := mn_mem (l := b :: l) (by simp)
    unfold mn
    rcases Nat.le_total a (mn (b :: l)) with h | h
    · rw [Nat.min_eq_left h]; exact .head _
    · rw [Nat.min_eq_right h]; exact .tail _ ih
theorem maxI_n (a : Nat) (l : List Nat) : maxI (a : Int) (l.map fun k : Nat => (k : Int)) = (mx (a :: l) : Nat) := by
  refine g_a (maxI_le (a : Int) (l.map fun k : Nat => (k : Int))) fun h1 h2 => ?_
  refine Int.le_antisymm ?_ (h1 _ ?_)
  · obtain ⟨b, hb, e⟩ : ∃ b ∈ a :: l, ((b : Nat) : Int) = maxI (a : Int) (l.map fun k : Nat => (k : Int)) := by
      rcases List.mem_cons.mp h2 with q | q
      · exact ⟨a, .head _, q.symm⟩
      · obtain ⟨b, hb, e⟩ := List.mem_map.mp q; exact ⟨b, .tail _ hb, e⟩
    have := mx_le hb
    lia
  · rcases List.mem_cons.mp (mx_mem (l := a :: l) (by simp)) with q | q
    · rw [q]; exact .head _
    · exact .tail _ (List.mem_map.mpr ⟨_, q, rfl⟩)
theorem minI_n (a : Nat) (l : List Nat) : minI (a : Int) (l.map fun k : Nat => (k : Int)) = (mn (a :: l) : Nat) := by
  refine g_a (minI_le (a : Int) (l.map fun k : Nat => (k : Int))) fun h1 h2 => ?_
  refine Int.le_antisymm (h1 _ ?_) ?_
  · rcases List.mem_cons.mp (mn_mem (l := a :: l) (by simp)) with q | q
    · rw [q]; exact .head _
    · exact .tail _ (List.mem_map.mpr ⟨_, q, rfl⟩)
  · obtain ⟨b, hb, e⟩ : ∃ b ∈ a :: l, ((b : Nat) : Int) = minI (a : Int) (l.map fun k : Nat => (k : Int)) := by
      rcases List.mem_cons.mp h2 with q | q
      · exact ⟨a, .head _, q.symm⟩
      · obtain ⟨b, hb, e⟩ := List.mem_map.mp q; exact ⟨b, .tail _ hb, e⟩
    have := mn_le hb
    lia
theorem Op.maxN {K : Dat → Prop} {l : List Nat} (h : 0 < l.length) (q : K (nD (mx l))) : Op (dMaxL (nL l)) K := by
  cases l with
  | nil => cases h
  | cons a l =>
    refine ⟨.int (mx (a :: l) : Nat), bind_eq (a := (a :: l).map nD) rfl (bind_eq (asInts_n (a :: l)) ?_), q⟩
    show some (Dat.int (maxI a (l.map fun k : Nat => (k : Int)))) = _
    rw [maxI_n]
theorem Op.minN {K : Dat → Prop} {l : List Nat} (h : 0 < l.length) (q : K (nD (mn l))) : Op (dMinL (nL l)) K := by
  cases l with
  | nil => cases h
  | cons a l =>
    refine ⟨.int (mn (a :: l) : Nat), bind_eq (a := (a :: l).map nD) rfl (bind_eq (asInts_n (a :: l)) ?_), q⟩
    show some (Dat.int (minI a (l.map fun k : Nat => (k : Int)))) = _
    rw [minI_n]
set_option tactic.hygienic true in
theorem layI : ∀ (l : List Int), (∀ x ∈ l, 0 ≤ x ∧ x ≤ 1000) → PyData.canLayAll0 (l.map .int) = true ∧ PyData.depthAll (l.map .int) = 0 ∧ PyData.weightAll (l.map .int) ≤ 12 * l.length
  | [], _ => by
    refine ⟨?_, ?_, ?_⟩
    · unfold List.map PyData.canLayAll0; rfl
    · unfold List.map PyData.depthAll; rfl
    · unfold List.map PyData.weightAll; simp
  | x :: l, h => by
    refine g_aa (layI l fun y hy => h y (.tail _ hy)) fun h1 h2 h3 => ?_
    have hx := h x (.head _)
    refine (List.map_cons) ▸ ?_
    refine ⟨?_, ?_, ?_⟩
    · unfold PyData.canLayAll0 PyData.canLay0; rw [h1]; rfl
    · unfold PyData.depthAll PyData.depth; rw [h2]; rfl
    · unfold PyData.weightAll PyData.weight
      have : (if x == 0 then 0 else x.natAbs.log2 + 1) ≤ 10 := by
        split
        · lia
        · rename_i h0
          have h0' : x.natAbs ≠ 0 := by simpa using h0
          have := (Nat.log2_lt h0' (k := 10)).mpr (by lia)
          lia
      rw [List.length_cons]; lia
theorem Op.idxN {K : Dat → Prop} {J : MSt} {l : List Nat} {k : Nat} (h : k ∈ l) (hl : l.length ≤ 1000) (hb : ∀ x ∈ l, x ≤ 1000) (q : K (nD (l.idxOf k))) : Op (dIndex J (nL l) (nD k)) K := by
  refine ⟨.int (l.idxOf k : Nat), bind_eq (a := l.map nD) rfl (bind_eq (a := (k : Int)) rfl (bind_eq (asInts_n l) ?_)), q⟩
  have hi : ∀ (l : List Nat), (l.map fun k : Nat => (k : Int)).idxOf (k : Int) = l.idxOf k := by
    intro l
    induction l with
    | nil => rfl
    | cons a l ih =>
      rw [List.map_cons, List.idxOf_cons, List.idxOf_cons, ih]
      have : ((a : Int) == (k : Int)) = (a == k) := by
        by_cases e : a = k
        · subst e; rw [beq_self_eq_true, beq_self_eq_true]
        · have : (a : Int) ≠ k := by lia
          rw [beq_eq_false_iff_ne.mpr this, beq_eq_false_iff_ne.mpr e]
      rw [this]
  have hlay : PyData.layable0 (.list ((l.map fun k : Nat => (k : Int)).map .int)) = true := by
    obtain ⟨h1, h2, h3⟩ := layI (l.map fun k : Nat => (k : Int)) (fun x hx => by
      refine g_ea (List.mem_map.mp hx) fun y hy q2ₑ => ?_
      subst q2ₑ
      have := hb y hy
      lia)
    unfold PyData.layable0 PyData.canLay0 PyData.depth PyData.weight
    rw [h1, h2]
    rw [List.length_map] at h3
    have : PyData.weightAll ((l.map fun k : Nat => (k : Int)).map .int) ≤ 2 ^ 20 := by lia
    rw [decide_eq_true this]
    rfl
  rw [if_pos ⟨hlay, List.mem_map.mpr ⟨k, h, rfl⟩⟩, hi]

-- data that is compared as it is
structure Enc {α : Type} [DecidableEq α] (f : α → Dat) (g : α → PyData) (k : Nat) (p : α → Prop) : Prop where
  py : ∀ a, toPy (f a) = some (g a)
  lay : ∀ a, p a → (g a).canLay0 = true
  dep : ∀ a, (g a).depth ≤ k
  eqv : ∀ a b, PyData.eqv (g a) (g b) = decide (a = b)

theorem enc_n : Enc nD (fun k : Nat => PyData.int k) 0 fun _ => True where
  py := fun _ => rfl
  lay := fun a _ => by unfold PyData.canLay0; rfl
  dep := fun a => by unfold PyData.depth; exact Nat.le_refl _
  eqv := fun a b => by
    unfold PyData.eqv
    by_cases h : a = b
    · subst h; simp
    · have : ¬ ((a : Int) = b) := by lia
      simp [h, this]
theorem enc_s : Enc Dat.str PyData.str 0 fun x => PyData.strOk x = true where
  py := fun _ => rfl
  lay := fun a h => by unfold PyData.canLay0; exact h
  dep := fun a => by unfold PyData.depth; exact Nat.le_refl _
  eqv := fun a b => by
    unfold PyData.eqv
    by_cases h : a = b
    · subst h; simp
    · simp [h]
section
variable {α : Type} [DecidableEq α] {f : α → Dat} {g : α → PyData} {k : Nat} {p : α → Prop}
theorem Enc.pys (E : Enc f g k p) : ∀ l : List α, toPys (l.map f) = some (l.map g)
  | [] => rfl
  | a :: l => by rw [List.map_cons, List.map_cons]; unfold toPys; rw [E.pys l, E.py a]
theorem Enc.lays (E : Enc f g k p) : ∀ l : List α, (∀ a ∈ l, p a) → PyData.canLayAll0 (l.map g) = true
  | [], _ => by unfold List.map PyData.canLayAll0; rfl
  | a :: l, h => by
    rw [List.map_cons]; unfold PyData.canLayAll0
    rw [E.lay a (h a (.head _)), E.lays l fun b hb => h b (.tail _ hb)]; rfl
theorem Enc.deps (E : Enc f g k p) : ∀ l : List α, PyData.depthAll (l.map g) ≤ k
  | [] => by unfold List.map PyData.depthAll; exact Nat.zero_le _
  | a :: l => by
    rw [List.map_cons]; unfold PyData.depthAll
    exact Nat.max_le.mpr ⟨E.dep a, E.deps l⟩
theorem Enc.eqvs (E : Enc f g k p) : ∀ l m : List α, PyData.eqvAll (l.map g) (m.map g) = decide (l = m)
  | [], [] => by unfold List.map PyData.eqvAll; rfl
  | [], _ :: _ => by unfold List.map PyData.eqvAll; rfl
  | _ :: _, [] => by unfold List.map PyData.eqvAll; rfl
  | a :: l, b :: m => by
    rw [List.map_cons, List.map_cons]; unfold PyData.eqvAll
    rw [E.eqv, E.eqvs l m]
    by_cases h1 : a = b <;> by_cases h2 : l = m <;> simp [h1, h2]
theorem Enc.list (E : Enc f g k p) : Enc (fun l : List α => Dat.list (l.map f)) (fun l => PyData.list (l.map g)) (k + 1) (fun l => ∀ a ∈ l, p a) where
  py := fun l => by unfold toPy; rw [E.pys l]
  lay := fun l h => by unfold PyData.canLay0; exact E.lays l h
  dep := fun l => by unfold PyData.depth; exact Nat.succ_le_succ (E.deps l)
  eqv := fun l m => by unfold PyData.eqv; exact E.eqvs l m
theorem Enc.shaped (E : Enc f g k p) (hk : k ≤ 64) {a : α} (h : p a) : SeqAt.shaped (g a) = true := by
  unfold SeqAt.shaped
  rw [E.lay a h, decide_eq_true (Nat.le_trans (E.dep a) hk)]; rfl
theorem Enc.eqd (E : Enc f g k p) (hk : k ≤ 64) {a b : α} (ha : p a) (hb : p b) : dEqv (f a) (f b) = some (decide (a = b)) := by
  refine bind_eq (E.py a) (bind_eq (E.py b) ?_)
  rw [E.shaped hk ha, E.shaped hk hb, E.eqv]; rfl
theorem Op.eq {K : Dat → Prop} (E : Enc f g k p) (hk : k ≤ 64) {a b : α} (ha : p a) (hb : p b) (q : K (.bool (decide (a = b)))) : Op (dEq (f a) (f b)) K := ⟨_, congrArg (Option.map Dat.bool) (E.eqd hk ha hb), q⟩
theorem Op.ne {K : Dat → Prop} (E : Enc f g k p) (hk : k ≤ 64) {a b : α} (ha : p a) (hb : p b) (q : K (.bool (!decide (a = b)))) : Op (dNe (f a) (f b)) K := ⟨_, congrArg (Option.map fun b => Dat.bool (!b)) (E.eqd hk ha hb), q⟩
theorem Enc.inB (E : Enc f g k p) (hk : k ≤ 64) {I : MSt} {a : α} {l : List α} (ha : p a) (hl : ∀ b ∈ l, p b) : dInB I (f a) (.list (l.map f)) = some (decide (a ∈ l)) := by
  refine bind_eq (E.py a) (bind_eq (E.pys l) ?_)
  rw [E.lays l hl, E.lay a ha, decide_eq_true (Nat.le_trans (E.dep a) hk)]
  have : ∀ l : List α, ((l.map g).any fun y => PyData.eqv y (g a)) = decide (a ∈ l) := by
    intro l
    induction l with
    | nil => rfl
    | cons b l ih =>
      rw [List.map_cons, List.any_cons, ih, E.eqv]
      by_cases h1 : b = a
      · subst h1; simp
      · have h2 : ¬ a = b := fun q => h1 q.symm
        simp [h1, h2]
  rw [this]; rfl
theorem Op.in_ {K : Dat → Prop} (E : Enc f g k p) (hk : k ≤ 64) {I : MSt} {a : α} {l : List α} (ha : p a) (hl : ∀ b ∈ l, p b) (q : K (.bool (decide (a ∈ l)))) : Op (dIn I (f a) (.list (l.map f))) K := ⟨_, congrArg (Option.map Dat.bool) (E.inB hk ha hl), q⟩
end
end

-- E03
section

-- dicts of numbers

noncomputable abbrev ND := List (Nat × Nat)
noncomputable abbrev dD (l : ND) : Dat := .idict (l.map fun p => ((p.1 : Int), (p.2 : Int)))
noncomputable def nget (l : ND) (k : Nat) : Option Nat := (l.find? fun p => p.1 == k).map (·.2)
noncomputable def nput (l : ND) (k v : Nat) : ND := if (l.any fun p => p.1 == k) then l.map (fun p => if p.1 == k then (p.1, v) else p) else l ++ [(k, v)]

theorem int_beq (a k : Nat) : decide ((a : Int) = (k : Int)) = (a == k) := by
  by_cases e : a = k
  · subst e; simp
  · have : ¬ (a : Int) = k := by lia
    rw [beq_eq_false_iff_ne.mpr e, decide_eq_false this]
theorem dget_n (k : Nat) : ∀ l : ND, dget (l.map fun p => ((p.1 : Int), (p.2 : Int))) (k : Int) = (nget l k).map fun v : Nat => (v : Int)
  | [] => rfl
  | p :: l => by
    have ih := dget_n k l
    unfold dget nget at ih ⊢
    rw [List.map_cons, List.find?_cons, List.find?_cons]
    rw [int_beq]
    cases p.1 == k
    · exact ih
    · rfl
theorem dput_n (k v : Nat) (l : ND) : dput (l.map fun p => ((p.1 : Int), (p.2 : Int))) (k : Int) (v : Int) = (nput l k v).map fun p => ((p.1 : Int), (p.2 : Int)) := by
  unfold dput nput
  have h : ((l.map fun p => ((p.1 : Int), (p.2 : Int))).any fun kv => decide (kv.1 = (k : Int))) = l.any fun p => p.1 == k := by
    refine (List.any_map) ▸ ?_
    refine congrArg (fun f => l.any f) (funext fun p => ?_)
    exact int_beq _ _
  refine (h) ▸ ?_
  split
  · rw [List.map_map, List.map_map]
    refine List.map_congr_left fun p _ => ?_
    simp only [Function.comp]
    have := int_beq p.1 k
    by_cases e : p.1 = k
    · subst e; simp
    · have e2 : ¬ ((p.1 : Int) = (k : Int)) := by lia
      simp [e, e2]
  · simp
theorem nput_len (l : ND) (k v : Nat) : (nput l k v).length ≤ l.length + 1 := by
  unfold nput
  split
  · simp
  · simp
section
variable {K : Dat → Prop} {J : MSt}
theorem Op.inD {l : ND} {k : Nat} (q : K (.bool (nget l k).isSome)) : Op (dIn J (nD k) (dD l)) K := by
  refine ⟨_, ?_, q⟩
  show some (Dat.bool (dget (l.map fun p => ((p.1 : Int), (p.2 : Int))) (k : Int)).isSome) = _
  rw [dget_n, Option.isSome_map]
theorem Op.notInD {l : ND} {k : Nat} (q : K (.bool (!(nget l k).isSome))) : Op (dNotIn J (nD k) (dD l)) K := by
  refine ⟨_, ?_, q⟩
  show some (Dat.bool (!(dget (l.map fun p => ((p.1 : Int), (p.2 : Int))) (k : Int)).isSome)) = _
  rw [dget_n, Option.isSome_map]
theorem Op.getD {l : ND} {k v : Nat} (h : nget l k = some v) (q : K (nD v)) : Op (dGet J (dD l) (nD k)) K := by
  refine ⟨_, ?_, q⟩
  show Option.map Dat.int (dget (l.map fun p => ((p.1 : Int), (p.2 : Int))) (k : Int)) = _
  rw [dget_n, h]
  rfl
theorem Op.putD {l : ND} {k v : Nat} (h : l.length ≤ 10000) (q : K (dD (nput l k v))) : Op (dSetItem (dD l) (nD k) (nD v)) K := by
  exact ⟨_, bind_eq (a := (k : Int)) rfl (bind_eq (a := (v : Int)) rfl ((if_pos (by rw [List.length_map]; exact Nat.le_trans h (by decide))).trans (by rw [dput_n]))), q⟩
theorem Op.getNi {l : List Nat} {j : Int} {k : Nat} (e : j = k) (h : k < l.length) (hl : l.length ≤ 1000) (q : K (nD (l.getD k 0))) : Op (dGet J (nL l) (.int j)) K := by
  subst e; exact Op.getN h hl q
end

theorem rng_size1 (a b : Nat) (h : a ≤ b) : Builtin.Range.rangeSize (a : Int) (b : Int) 1 = ((b - a : Nat) : Int) := by
  rw [rangeSize_one]
  split <;> lia
theorem rngL_one {a b : Nat} (h : a ≤ b) : rngL (a : Int) (b : Int) 1 = (List.range (b - a)).map fun i => nD (a + i) := by
  unfold rngL
  rw [rng_size1 a b h]
  simp
theorem rngL_gt {a b : Nat} (h : b ≤ a) : rngL (a : Int) (b : Int) 1 = [] := by
  unfold rngL
  rw [rangeSize_one]
  have : (if (a : Int) < (b : Int) then (b : Int) - a else 0).toNat = 0 := by split <;> lia
  rw [this]; rfl
theorem rngL_n (b : Nat) : rngL 0 (b : Int) 1 = (List.range b).map nD := by
  have := rngL_one (a := 0) (b := b) (Nat.zero_le _)
  simpa using this
theorem rngL_two (b : Nat) : rngL 1 (b : Int) 2 = (List.range (b / 2)).map fun i => nD (1 + 2 * i) := by
  unfold rngL
  have : (Builtin.Range.rangeSize 1 (b : Int) 2).toNat = b / 2 := by
    unfold Builtin.Range.rangeSize
    simp only [show (2 : Int) > 0 by decide, if_true]
    split <;> lia
  refine (this) ▸ ?_
  refine List.map_congr_left fun i _ => ?_
  show Dat.int _ = Dat.int _
  congr 1
  simp
  lia
theorem Op.rng1 {K : Int × Int × Int → Prop} {b : Nat} (h : b ≤ 1000) (q : K (0, b, 1)) : Op (rngArgs [nD b]) K := ⟨_, if_pos (by lia), q⟩
theorem Op.rng2 {K : Int × Int × Int → Prop} {a b : Nat} (ha : a ≤ 1000) (h : b ≤ 1000) (q : K (a, b, 1)) : Op (rngArgs [nD a, nD b]) K := ⟨_, if_pos (by lia), q⟩
theorem Op.rng3 {K : Int × Int × Int → Prop} {b : Nat} (h : b ≤ 1000) (q : K (1, b, 2)) : Op (rngArgs [.int 1, nD b, .int 2]) K := ⟨_, if_pos (by lia), q⟩
end

-- E04
section

-- the statement behind a block is not told again at each of its steps
theorem RunS.gen {σ : Sto} {I : MSt} {Q : AFlow → Sto → MSt → Prop} {f : Sx} (h : ∀ Q' : AFlow → Sto → MSt → Prop, (∀ fl σ' I', Q fl σ' I' → Q' fl σ' I') → RunS f σ I Q') : RunS f σ I Q := h Q fun _ _ _ q => q

theorem nget_cons (p : Nat × Nat) (l : ND) (k : Nat) : nget (p :: l) k = if p.1 = k then some p.2 else nget l k := by
  unfold nget
  refine (List.find?_cons) ▸ ?_
  cases hb : p.1 == k with
  | true => rw [if_pos (eq_of_beq hb)]; rfl
  | false => rw [if_neg (beq_eq_false_iff_ne.mp hb)]
theorem nget_map (k v j : Nat) : ∀ l : ND, nget (l.map fun p => if p.1 == k then (p.1, v) else p) j = if j = k then (nget l j).map (fun _ => v) else nget l j
  | [] => by simp [nget]
  | p :: l => by
    rw [List.map_cons, nget_cons, nget_cons, nget_map k v j l]
    by_cases h1 : p.1 = k <;> by_cases h2 : j = k <;> by_cases h3 : p.1 = j <;> simp_all
theorem nget_app (l : ND) (k v j : Nat) : nget (l ++ [(k, v)]) j = (nget l j).or (if j = k then some v else none) := by
  induction l with
  | nil => rw [List.nil_append, nget_cons]; by_cases h : k = j <;> simp [nget, h]; intro q; exact absurd q.symm h
  | cons p l ih =>
    rw [List.cons_append, nget_cons, nget_cons, ih]
    by_cases h : p.1 = j <;> simp [h]
theorem any_nget (l : ND) (k : Nat) : (l.any fun p => p.1 == k) = (nget l k).isSome := by
  induction l with
  | nil => rfl
  | cons p l ih =>
    rw [List.any_cons, nget_cons, ih]
    by_cases h : p.1 = k <;> simp [h]
theorem nget_nput (l : ND) (k v j : Nat) : nget (nput l k v) j = if j = k then some v else nget l j := by
  unfold nput
  rw [any_nget]
  by_cases hs : (nget l k).isSome = true
  · rw [if_pos hs, nget_map]
    by_cases h : j = k
    · subst h
      rw [if_pos rfl, if_pos rfl]
      refine g_e (Option.isSome_iff_exists.mp hs) fun w hw => ?_
      rw [hw]; rfl
    · rw [if_neg h, if_neg h]
  · rw [if_neg hs, nget_app]
    by_cases h : j = k
    · subst h
      rw [if_pos rfl, if_pos rfl]
      have : nget l j = none := by simpa using hs
      rw [this]; rfl
    · rw [if_neg h, if_neg h]; simp

theorem countP_lt {α : Type} {p q : α → Bool} : ∀ {l : List α} {a : α}, (∀ x ∈ l, p x = true → q x = true) → a ∈ l → q a = true → p a = false → l.countP p < l.countP q
  | b :: l, a, h, ha, hq, hp => by
    rw [List.countP_cons, List.countP_cons]
    have hle : l.countP p ≤ l.countP q := List.countP_mono_left fun x hx => h x (.tail _ hx)
    rcases List.mem_cons.mp ha with rfl | ha
    · rw [hq, hp]; simp; lia
    · have ih := countP_lt (fun x hx => h x (.tail _ hx)) ha hq hp
      have hb := h b (.head _)
      cases e1 : p b <;> cases e2 : q b <;> simp [e1, e2] at hb ⊢ <;> lia

-- how many numbers below L have no value
noncomputable def un (L : Nat) (d : ND) : Nat := (List.range L).countP fun k => (nget d k).isNone
theorem un_le (L : Nat) (d : ND) : un L d ≤ L := by
  unfold un
  have := List.countP_le_length (l := List.range L) (p := fun k => (nget d k).isNone)
  rwa [List.length_range] at this
theorem un_put {L : Nat} {d : ND} {p v : Nat} (hp : p < L) (h : nget d p = none) : un L (nput d p v) < un L d := by
  refine countP_lt (a := p) (fun x _ hx => ?_) (List.mem_range.mpr hp) (by rw [h]; rfl) (by rw [nget_nput, if_pos rfl]; rfl)
  rw [nget_nput] at hx
  split at hx
  · cases hx
  · exact hx

theorem RunS.while' {N : Nat} {ft : Bv} {fb : Sx} {Q : AFlow → Sto → MSt → Prop} (P : Nat → Sto → MSt → Prop) (step : ∀ k σ I, P k σ I → RunT ft σ I fun b I₁ => if b = true then ∃ k', k = k' + 1 ∧ RunS fb σ I₁ fun fl σ' I' => fl = .next ∧ P k' σ' I' else Q .next σ I₁) :
    ∀ (k : Nat) (σ : Sto) (I : MSt), k < N → P k σ I → RunS (whileN ft fb N) σ I Q := by
  induction N with
  | zero => intro k σ I h; lia
  | succ N ih =>
    intro k σ I hk hp
    refine g_eea (step k σ I hp) fun b I₁ ht hb => ?_
    cases b with
    | false => exact ⟨_, _, _, bind_eq ht rfl, hb⟩
    | true =>
      refine g_eaeeeaa hb fun k' q1ₑ fl σ' I' e q6ₑ hp' => ?_
      subst q1ₑ
      subst q6ₑ
      refine g_eeea (ih k' σ' I' (by lia) hp') fun a b c e2 q => ?_
      exact ⟨a, b, c, bind_eq ht (bind_eq e e2), q⟩
end

-- M31
section
variable {G : Cx} {n : Nat} {sc : Scope}

noncomputable def zipD (as bs : List Dat) : List Dat := List.zipWith (fun a b => .tup [a, b]) as bs
theorem zipD_get {as bs : List Dat} {i : Nat} {d : Dat} (h : (zipD as bs)[i]? = some d) : ∃ a b, as[i]? = some a ∧ bs[i]? = some b ∧ d = .tup [a, b] := by
  unfold zipD at h
  replace h := (List.getElem?_zipWith) ▸ h
  cases ha : as[i]? with
  | none => rw [ha] at h; cases h
  | some a =>
    cases hb : bs[i]? with
    | none => rw [ha, hb] at h; cases h
    | some b => rw [ha, hb] at h; cases h; exact ⟨a, b, rfl, rfl, rfl⟩

theorem reps_get {V : View} {h : Heap} {vs : List Value} {ds : List Dat} (r : Reps G V h vs ds) (i : Nat) (v : Value) (d : Dat) (e : vs[i]? = some v) (e' : ds[i]? = some d) : Rep G V h v d := by
  refine g_ea (r.get e') fun w hw r => ?_
  exact Option.some.inj (hw.symm.trans e) ▸ r

-- a loop over pairs
theorem Itr.walkT {A : Around} {V V₂ : View} {s s₂ : Shared} {eI : Env} {D : Addr} {xs : List String} {σx : Sto} {x y : String} {p p' pos : Pos} {kk : Nat} {scI : Scope} {z : Addr} {Fp Sr Wr : List Addr} {Pt : Nat → Array Value → Prop} {St : Nat → Heap → Prop} {Mid : Nat → Addr → Heap → Prop} {ds : List Dat}
    (cb : CB s eI D xs) (hx1 : ∀ v ∈ [x, y], v ∈ xs) (hsI : eI.scope = scI) (hh : A.handled = none) (hk : KindOk scI x) (hk' : KindOk scI y) (W : WalksT G.prog G.w A z Fp Sr ds.length Pt St Mid) (hst : St 0 s₂.heap)
    (sub : ∀ b, b ∈ Sr → b ∈ Wr) (fpF : ∀ b, b ∈ Fp → V₂.F b ∨ b ∈ Wr) (ex : ∀ i h, St i h → ∀ b, b ∈ Wr → ∃ o, h.get? b = some o)
    (hwr : ∀ b ∈ Wr, ¬ V₂.F b ∧ b ∉ V₂.J ∧ s.heap.get? b = none ∧ b ≠ D ∧ b ≠ eI.locals ∧ ∀ y, eI.cells.lookup y ≠ some b)
    (hP : ∀ i vals d, Pt i vals → ds[i]? = some d → ∃ va vb da db, (vals = #[va, vb] ∧ d = .tup [da, db]) ∧ Rep G V₂ s₂.heap va da ∧ Rep G V₂ s₂.heap vb db) (g₂ : ∃ I₂, Good G V₂ s₂ I₂) :
    Itr G A V s eI D xs σx (.Tuple [.Name (Str.ofString x) p, .Name (Str.ofString y) p'] kk pos) (bdTup [x, y]) (.ref z) ds V₂ s₂ (· ∈ Wr) := by
  have wr5 : ∀ {V₅ : View} {s₅ : Shared}, StepC (fun b => Tmp eI D xs b ∨ b ∈ Wr) V₂ s₂ V₅ s₅ → ∀ b ∈ Wr, ¬ V₅.F b ∧ b ∉ V₅.J := fun {V₅ s₅} a b hb' => by
    refine g_e (ex 0 _ hst b hb') fun o e => ?_
    have no : ∀ {P : Prop}, P ∨ s₂.heap.get? b = none → P := fun h => h.elim id fun q => none_ne (q.symm.trans e)
    exact ⟨fun q => (hwr b hb').1 (no (a.fnew b q)), fun q => (hwr b hb').2.1 (no (a.jnew b q))⟩
  have notT : ∀ b ∈ Wr, ¬ Tmp eI D xs b := fun b hb' q => by
    have h := (hwr b hb').2.2.2
    rcases q with q | q | ⟨x, _, q⟩
    · exact h.1 q
    · exact h.2.1 q
    · exact h.2.2 _ q
  have wl : eI.locals ∉ Sr := fun q => (hwr _ (sub _ q)).2.2.2.2.1 rfl
  have wc : ∀ y c, eI.cells.lookup y = some c → c ∉ Sr := fun y c e q => (hwr c (sub _ q)).2.2.2.2.2 y e
  have wD : D ∉ Sr := fun q => (hwr D (sub _ q)).2.2.2.1 rfl
  have ownW : ∀ {σ₅ : Sto} {V₅ : View} {s₅ : Shared} {I₅ : MSt} {out : List Dat}, CS G V s eI D σ₅ V₅ s₅ I₅ out → ∀ b, OwnA s₅.heap eI σ₅ b → b ∉ Sr := fun {σ₅ V₅ s₅ I₅ out} c b q z => by
    refine g_e (c.oo b q) fun o e => ?_
    exact none_ne ((hwr b (sub _ z)).2.2.1.symm.trans e)
  have fr7 : ∀ {V₅ V₆ : View} {s₅ s₆ : Shared} {σ₅ : Sto} {I₅ : MSt} {out : List Dat} {i : Nat}, CS G V s eI D σ₅ V₅ s₅ I₅ out → StepC (fun b => Tmp eI D xs b ∨ b ∈ Wr) V₂ s₂ V₅ s₅ → StepC (Tmp eI D xs) V₅ s₅ V₆ s₆ → St i s₅.heap → St i s₆.heap := fun c a₀ a hs => W.frame _ _ _ hs fun b hb' o e =>
    (fpF b hb').elim (fun q => a.keep b o e (fun z => c.g.st.apart b z (a₀.fr b q)) fun z => (c.tmp z).1 (a₀.fr b q)) fun q => a.keep b o e (wr5 a₀ b q).2 (notT b q)
  refine g_e g₂ fun I₂ g₂ => ?_
  refine ⟨St, hst, fun i V₅ s₅ I₅ σ₅ out V₆ s₆ c a₀ a hs => fr7 c a₀ a hs, fun i d V₅ s₅ I₅ out σ' Q' hd hbd hs c a kk => ?_, fun V₅ s₅ I₅ out Q hs c a k => ?_, fun i s' Q E hs q => W.self i s' Q E hs q⟩
  · refine W.item i s₅ _ _ (List.getElem?_eq_some_iff.mp hd).1 hs fun T vals h₆ tk₆ hPt _ hT hmid hk₆ => kk (.ref T) _ fun Q k => ?_
    obtain ⟨va, vb, da, db, ⟨rfl, rfl⟩, ra, rb⟩ := hP i vals d hPt hd
    refine W.go _ _ _ i T { s₅ with heap := h₆, toks := tk₆ } _ _ hmid fun h₇ hst₇ hk₇ => ?_
    have kk7 : ∀ b o, b ∉ Sr → s₅.heap.get? b = some o → h₇.get? b = some o := fun b o q e => hk₇ b o q (hk₆ b o q e)
    have hT₇ : h₇.IsTuple T #[va, vb] := by obtain ⟨o, ho, r⟩ := hT; exact ⟨o, hk₇ T o (W.apart i T h₆ hmid) ho, r⟩
    have w₇ : EnvOk G V₅ h₇ eI σx := c.w.other kk7 (fun b q => (wr5 a b (sub _ q)).1) wl wc (ownW c)
    have x₇ : ∀ b o, s₅.heap.get? b = some o → ∃ o', h₇.get? b = some o' := fun b o e => by
      by_cases q : b ∈ Sr
      · exact ex _ _ hst₇ b (sub b q)
      · exact ⟨o, kk7 b o q e⟩
    have c₇ : CS G V s eI D σx V₅ { s₅ with heap := h₇, toks := tk₆ } I₅ out := c.moved (wr := (· ∈ Sr)) kk7 (fun b q => wr5 a b (sub _ q)) (fun b q => (hwr b (sub _ q)).2.2.1) wD w₇ fun b q => c.oo b (OwnA.other c.w kk7 wl wc (ownW c) q)
    have a₇ : StepC (fun b => Tmp eI D xs b ∨ b ∈ Wr) V₂ s₂ V₅ { s₅ with heap := h₇, toks := tk₆ } := a.trans ⟨fun b o e _ nT => kk7 b o (fun z => nT (.inr (sub _ z))) e, x₇, fun _ q => q, fun _ q => .inl q, fun _ _ q => q, fun _ q => .inl q⟩
    have kF27 : KeepF V₂ s₂.heap h₇ := fun b o q e => a₇.keep b o e (fun z => g₂.st.apart b z q) fun z => z.elim (fun z => (c₇.tmp z).1 (a.fr b q)) fun z => (hwr b z).1 q
    refine unpack_tup [(x, p), (y, p')] hh c₇.g w₇ (fun q hq => ?_) hT₇ (.cons (ra.mono a.fr a.jp kF27) (.cons (rb.mono a.fr a.jp kF27) .nil)) hbd fun h₈ tk₈ b₈ => ?_
    · subst hsI
      simp only [List.mem_cons, List.not_mem_nil, or_false] at hq
      rcases hq with rfl | rfl
      · exact hk
      · exact hk'
    have toT : ∀ b, (b = eI.locals ∨ ∃ v ∈ [x, y], eI.cells.lookup (Str.ofString v) = some b) → Tmp eI D xs b := fun b h => .inr (h.imp id fun ⟨x, hx, e⟩ => ⟨x, hx1 x hx, e⟩)
    have k₈ : ∀ b o, ¬ (b = eI.locals ∨ ∃ v ∈ [x, y], eI.cells.lookup (Str.ofString v) = some b) → h₇.get? b = some o → h₈.get? b = some o := fun b o nb e => b₈.keep b o (fun q => nb (.inl q)) (fun v hv q => nb (.inr ⟨v, hv, q⟩)) e
    have c₈ := c₇.moved (tk := tk₈) (wr := fun b => b = eI.locals ∨ ∃ v ∈ [x, y], eI.cells.lookup (Str.ofString v) = some b) k₈ (fun b q => c₇.tmp (toT b q)) (fun b q => cb.tmp (toT b q))
      (fun q => q.elim cb.dl fun ⟨x, _, q⟩ => cb.dc _ q) b₈.w fun b q => c₇.oo b (b₈.own b q)
    have s78 : StepC (Tmp eI D xs) V₅ { s₅ with heap := h₇, toks := tk₆ } V₅ { s₅ with heap := h₈, toks := tk₈ } := ⟨fun b o e _ nT => k₈ b o (fun q => nT (toT b q)) e, b₈.ex, fun _ q => q, fun _ q => .inl q, fun _ _ q => q, fun _ q => .inl q⟩
    exact k h₈ tk₈ c₈ (fr7 c₇ a₇ s78 hst₇) (a₇.trans (s78.mono fun b q => .inl q))
  · refine W.done s₅ _ _ hs fun h₆ tk₆ hk₆ => ?_
    have w₆ : EnvOk G V₅ h₆ eI σx := c.w.other hk₆ (fun b q => (wr5 a b (sub _ q)).1) wl wc (ownW c)
    exact k h₆ tk₆ (c.moved (wr := (· ∈ Sr)) hk₆ (fun b q => wr5 a b (sub _ q)) (fun b q => (hwr b (sub _ q)).2.2.1) wD w₆ fun b q => c.oo b (OwnA.other c.w hk₆ wl wc (ownW c) q)) fun b o q e => hk₆ b o (fun z => q (sub _ z)) e

theorem all5 {P : Addr → Prop} {a b c d e : Addr} (ha : P a) (hb : P b) (hc : P c) (hd : P d) (he : P e) : ∀ x, x ∈ [a, b, c, d, e] → P x := fun x h => by
  simp only [List.mem_cons, List.not_mem_nil, or_false] at h
  rcases h with rfl | rfl | rfl | rfl | rfl
  · exact ha
  · exact hb
  · exact hc
  · exact hd
  · exact he
noncomputable def ZipSt (z TI TO i1 i2 l1 l2 : Addr) (as bs : Array Value) (i : Nat) (h : Heap) : Prop := IsZip h z TI TO .none ∧ IsPair h TI (.ref i1) (.ref i2) ∧ (∃ a b, IsPair h TO a b) ∧ h.IsListIter i1 l1 i ∧ h.IsListIter i2 l2 i ∧ h.IsList l1 as ∧ h.IsList l2 bs
theorem ZipSt.ex {z TI TO i1 i2 l1 l2 : Addr} {as bs : Array Value} {i : Nat} {h : Heap} (q : ZipSt z TI TO i1 i2 l1 l2 as bs i h) : ∀ b, b ∈ [z, TI, TO, i1, i2] → ∃ o, h.get? b = some o :=
  g_aaaaa q fun a b c d e _ => all5 ⟨_, a⟩ ⟨_, b⟩ (g_ee c fun _ _ c => ⟨_, c⟩) (g_ea d fun _ d _ => ⟨_, d⟩) (g_ea e fun _ e _ => ⟨_, e⟩)

theorem Itr.zip2 {A : Around} {V V₂ : View} {s s₂ : Shared} {eI : Env} {D : Addr} {xs : List String} {σx : Sto} {x y : String} {p p' pos : Pos} {kk : Nat} {scI : Scope} {z TI TO i1 i2 l1 l2 : Addr} {as bs : Array Value} {ds1 ds2 : List Dat}
    (cb : CB s eI D xs) (hx1 : ∀ v ∈ [x, y], v ∈ xs) (hsI : eI.scope = scI) (hh : A.handled = none) (hk : KindOk scI x) (hk' : KindOk scI y) (Z : ZipApart z TI TO i1 i2 l1 l2)
    (hst : ZipSt z TI TO i1 i2 l1 l2 as bs 0 s₂.heap)
    (hl1 : V₂.F l1) (hl2 : V₂.F l2) (hwr : ∀ b ∈ [z, TI, TO, i1, i2], ¬ V₂.F b ∧ b ∉ V₂.J ∧ s.heap.get? b = none ∧ b ≠ D ∧ b ≠ eI.locals ∧ ∀ y, eI.cells.lookup y ≠ some b)
    (r1 : Reps G V₂ s₂.heap as.toList ds1) (r2 : Reps G V₂ s₂.heap bs.toList ds2) (g₂ : ∃ I₂, Good G V₂ s₂ I₂) :
    Itr G A V s eI D xs σx (.Tuple [.Name (Str.ofString x) p, .Name (Str.ofString y) p'] kk pos) (bdTup [x, y]) (.ref z) (zipD ds1 ds2) V₂ s₂ (· ∈ [z, TI, TO, i1, i2]) := by
  have W := WalksT.zip2 (prog := G.prog) (w := G.w) hh z TI TO i1 i2 l1 l2 Z as bs
  have hlen : min as.size bs.size = (zipD ds1 ds2).length := by unfold zipD; rw [List.length_zipWith, size_of_reps r1, size_of_reps r2]
  rw [hlen] at W
  refine Itr.walkT cb hx1 hsI hh hk hk' W hst (fun b hb => ?_) (fun b hb => ?_) (fun i h q => ZipSt.ex q) hwr (fun i vals d q hd => ?_) g₂
  · rcases List.mem_cons.mp hb with q | q
    · exact q ▸ .head _
    · exact .tail _ (.tail _ q)
  · rcases List.mem_append.mp (show b ∈ [z, TI, TO, i1, i2] ++ [l1, l2] from hb) with q | q
    · exact .inr q
    · rcases List.mem_cons.mp q with q | q
      · exact .inl (q ▸ hl1)
      · exact .inl (List.mem_singleton.mp q ▸ hl2)
  · refine g_eeaa q fun va vb hva hvb e => ?_
    refine g_eeaa (zipD_get hd) fun da db ea eb e' => ?_
    exact ⟨va, vb, da, db, ⟨e, e'⟩, reps_get r1 i va da (by rw [Array.getElem?_toList]; exact hva) ea, reps_get r2 i vb db (by rw [Array.getElem?_toList]; exact hvb) eb⟩

noncomputable def lst2 : List Dat → Option (List Dat × List Dat)
  | [] => none
  | a :: r => match r with
    | [] => none
    | b :: r => match r with
      | [] => (datLst a).bind fun a => (datLst b).bind fun b => some (a, b)
      | _ :: _ => none
theorem lst2_go {l a b : List Dat} (e : lst2 l = some (a, b)) : l = [.list a, .list b] := by
  cases l with
  | nil => exact none_ne e
  | cons x r => cases r with
    | nil => exact none_ne e
    | cons y r => cases r with
      | cons _ _ => exact none_ne e
      | nil => exact bind_go e fun a hx e => bind_go e fun b hy e => some2 e (datLst_go hx ▸ datLst_go hy ▸ rfl)
noncomputable def ivZip (f₁ f₂ : Ev) : Iv := fun σ I => (evs [f₁, f₂] σ I).bind fun p => (lst2 p.1).bind fun q => some (zipD q.1 q.2, p.2)

theorem SoundIt.zip {scI : Scope} {x y : String} {p p' pos zp zpos : Pos} {kk : Nat} {e₁ e₂ : Expr} {f₁ f₂ : Ev} (hk : KindOk scI x) (hk' : KindOk scI y) (hg : GlobIs G sc "zip" (.type "zip")) (hl : SoundL G n sc [e₁, e₂] [f₁, f₂])
    (he : ∀ env : Env, eval (.Call (.Name (Str.ofString "zip") zp) [e₁, e₂] [] zpos) env = (do callWith zpos (← eval (.Name (Str.ofString "zip") zp) env) [] (backTo zpos (starEach [e₁, e₂] env)) (backToKw zpos (keywordEach [] env))) := by intro env; rfl)
    (hpl : ∀ env, (backTo zpos (starEach [e₁, e₂] env)).any (·.1) = false := by intro env; rfl) :
    SoundIt G n sc scI (.Call (.Name (Str.ofString "zip") zp) [e₁, e₂] [] zpos) (.Tuple [.Name (Str.ofString x) p, .Name (Str.ofString y) p'] kk pos) (ivZip f₁ f₂) (bdTup [x, y]) [x, y] where
  other := fun d σ σ' h z hz => by
    exact bind_go h fun ds _ h => setAll_other _ _ _ _ h z hz
  run := fun A env V σ I s ds I' hs rm g w hf => by
    refine bind_go2 hf fun ds I' e hf => bind_go2 hf fun as bs hq hf => ?_
    refine some2 hf ?_
    obtain rfl := lst2_go hq
    refine PyProof.Rows.Call_ (load_glob hs g w hg (by decide +kernel) ?_) (he env)
    refine PySem.callWith_type (hpl env) (hl.args hs rm g w e fun V₁ s₁ vs st₁ g₁ w₁ r₁ => ?_)
    rw [List.nil_append]
    refine g_eeaa r₁.two fun _ _ q2ₑ r1 r2 => ?_
    subst q2ₑ
    obtain ⟨a1, vs1, rfl, hF1, ⟨k1, o1⟩, hs1⟩ := r1.is
    obtain ⟨a2, vs2, rfl, hF2, ⟨k2, o2⟩, hs2⟩ := r2.is
    refine call_zip_2 ⟨_, o1, rfl, _, rfl⟩ ⟨_, o2, rfl, _, rfl⟩ fun h' hz hTI hTO h1 h2 hsz hk3 => ?_
    have st₂ : Step V₁ s₁ V₁ { s₁ with heap := h' } := ⟨rfl, rfl, fun b o e _ => hk3 b o e, fun b o e => ⟨o, hk3 b o e⟩, fun _ q => q, fun _ q => .inl q, fun _ _ q => q, fun _ q => .inl q⟩
    have g₂ : Good G V₁ { s₁ with heap := h' } I' := g₁.keeps fun b o e => hk3 b o e
    have big : ∀ {b}, s₁.heap.objs.size ≤ b → s.heap.get? b = none ∧ ¬ V₁.F b ∧ b ∉ V₁.J := fun {b} hb => ⟨none_back st₁.ex (fresh_none hb), g₁.notF (fresh_none hb), g₁.notJ (fresh_none hb)⟩
    refine wpAny_pyIter_zip hz ⟨V₁, (· ∈ [s₁.heap.objs.size + 4, s₁.heap.objs.size + 2, s₁.heap.objs.size + 3, s₁.heap.objs.size, s₁.heap.objs.size + 1]), st₁.trans st₂, g₂, fun b hb => ?_, fun V₀ s₀ eI D ys σx s₄ cb hx hsI hW st₄ g₄ => ?_⟩
    · exact all5 (P := fun b => s.heap.get? b = none ∧ ∃ o, h'.get? b = some o) ⟨(big (by lia)).1, _, hz⟩ ⟨(big (by lia)).1, _, hTI⟩ ⟨(big (by lia)).1, _, hTO⟩ (let ⟨o, e, _⟩ := h1; ⟨(big (by lia)).1, _, e⟩) (let ⟨o, e, _⟩ := h2; ⟨(big (by lia)).1, _, e⟩) b hb
    · have nw : ∀ b ∈ [s₁.heap.objs.size + 4, s₁.heap.objs.size + 2, s₁.heap.objs.size + 3, s₁.heap.objs.size, s₁.heap.objs.size + 1], s₁.heap.objs.size ≤ b := all5 (by lia) (by lia) (by lia) (by lia) (by lia)
      have kf := st₄.keepF g₂
      have kw : ∀ b o, s₁.heap.objs.size ≤ b → h'.get? b = some o → s₄.heap.get? b = some o := fun b o hb e => st₄.keep b o e (big hb).2.2
      refine g_ea h1 fun oi1 ei1 ri1 => ?_
      refine g_ea h2 fun oi2 ei2 ri2 => ?_
      refine Itr.zip2 cb hx hsI rm.handled hk hk' (zipApart_new (Heap.lt_size o1) (Heap.lt_size o2)) ⟨kw _ _ (by lia) hz, kw _ _ (by lia) hTI, ⟨_, _, kw _ _ (by lia) hTO⟩, ⟨oi1, kw _ _ (by lia) ei1, ri1⟩, ⟨oi2, kw _ _ (by lia) ei2, ri2⟩, ⟨_, kf _ _ hF1 (hk3 _ _ o1), rfl, _, rfl⟩, ⟨_, kf _ _ hF2 (hk3 _ _ o2), rfl, _, rfl⟩⟩
        hF1 hF2 (fun b hb => ⟨(big (nw b hb)).2.1, (big (nw b hb)).2.2, hW b hb⟩) ((hs1.step st₂ g₁).step st₄ g₂) ((hs2.step st₂ g₁).step st₄ g₂) g₄
end

-- M32
section
variable {G : Cx} {n : Nat} {sc : Scope}

-- a clause within a clause starts
theorem compStart_two {A : Around} {R : Result → Shared → Prop} {s : Shared} {elt t1 i1 t2 i2 : Expr} {ifs1 ifs2 : List Expr} {scope : Scope} {pos : Pos} {it acc : Value} {env : Env}
    (h0 : codeAny (Md G) A (.compLoop (.ListComp elt [⟨t1, i1, ifs1, 0⟩, ⟨t2, i2, ifs2, 0⟩] scope pos) 1 it acc env) R s)
    (h : wpAny (Md G) A (pyIter it) (fun it' s' => codeAny (Md G) A (.compLoop (.ListComp elt [⟨t1, i1, ifs1, 0⟩, ⟨t2, i2, ifs2, 0⟩] scope pos) 1 it' acc env) R s') (notedBy (Md G) A env fun x s' => R (.error x) s') s) :
    codeAny (Md G) A (.compStart (.ListComp elt [⟨t1, i1, ifs1, 0⟩, ⟨t2, i2, ifs2, 0⟩] scope pos) 1 it acc env) R s := by
  refine codeAny_of_tree ?_
  show wpAny _ _ ((compStart (.ListComp elt [⟨t1, i1, ifs1, 0⟩, ⟨t2, i2, ifs2, 0⟩] scope pos) 1 it acc env).onRaise (fun x => do noteFrame x env; standAt theWindowsPlace)) _ _ s
  refine wpAny_notedAt ?_
  unfold compStart
  show wpAny _ _ (ask >>= _) _ _ s
  refine wpAny_bind (wpAny_askSetting (wpAny_ite ?_))
  split
  · first
      | exact wpAny_bind (wpAny_pure (wpAny_pure (And.intro rfl h0)))
      | exact wpAny_pure (And.intro rfl h0)
  · first
      | exact wpAny_bind (wpAny_rule (wpAny_bind (wpAny_standAt (wpAny_bind (wpAny_mono h (fun it' s' h' => wpAny_pure (And.intro rfl h')) fun _ _ x => x)))))
      | (refine wpAny_bind (wpAny_rule ?_); show wpAny _ _ (standAt i2.pos >>= _) _ _ s; exact wpAny_bind (wpAny_standAt (wpAny_bind (wpAny_mono h (fun it' s' h' => wpAny_pure (And.intro rfl h')) fun _ _ x => x))))

noncomputable abbrev LC2 (elt t1 i1 : Expr) (ifs1 : List Expr) (t2 i2 : Expr) (ifs2 : List Expr) (scope : Scope) (pos : Pos) : Expr := .ListComp elt [⟨t1, i1, ifs1, 0⟩, ⟨t2, i2, ifs2, 0⟩] scope pos
noncomputable abbrev emit2 (e i2 : Expr) (acc : Value) (eI : Env) : Sem Unit := do
  let x ← eval i2 eI
  standAt i2.pos
  let x ← foldedSetIterable i2 eI x
  let y ← holding [x] (pyIter x)
  let _ ← runOwn (.compStart e 1 y acc eI) eI
noncomputable abbrev turn2 (e t1 : Expr) (ifs1 : List Expr) (i1 i2 : Expr) (it acc : Value) (eI : Env) : Sem Fin := do
  standAt i1.pos
  match ← pyNext it with
  | none => pure (.done .next)
  | some v =>
    letOwnedTupleGo t1 it v
    assign t1 eI v
    let ok ← testsOf ifs1 eI
    if ok then
      let x ← eval i2 eI
      standAt i2.pos
      let x ← foldedSetIterable i2 eI x
      let y ← holding [x] (pyIter x)
      let _ ← runOwn (.compStart e 1 y acc eI) eI
      again (.compLoop e 0 it acc eI)
    else again (.compLoop e 0 it acc eI)
theorem turn2_eq (e t1 : Expr) (ifs1 : List Expr) (i1 i2 : Expr) (it acc : Value) (eI : Env) : turnOf e 0 t1 ifs1 i1.pos (emit2 e i2 acc eI) it acc eI = turn2 e t1 ifs1 i1 i2 it acc eI := by
  simp only [turnOf, bodyOf, turn2, emit2, bind_assoc, pure_bind] <;> rfl

-- two clauses
theorem SoundC.two {elt t1 i1 t2 i2 : Expr} {ifs1 ifs2 : List Expr} {scope : Scope} {pos : Pos} {bd1 bd2 : Bd} {xs1 xs2 : List String} {fi1 fi2 : Iv} {ft1 ft2 : Bv} {fe : Ev} (hc : compB scope sc (xs1 ++ xs2) = true) (hap : ∀ x ∈ xs2, x ∉ xs1)
    (hi1 : SoundIt G n sc (relab scope sc) i1 t1 fi1 bd1 xs1) (ht1 : SoundTs G n (relab scope sc) ifs1 ft1) (hi2 : SoundIt G n (relab scope sc) (relab scope sc) i2 t2 fi2 bd2 xs2) (ht2 : SoundTs G n (relab scope sc) ifs2 ft2) (he : SoundE G n (relab scope sc) elt fe)
    (hfs : ∀ env v, foldedSetIterable i2 env v = pure v := by intro _ _; rfl) :
    SoundC G n sc (.ListComp elt [⟨t1, i1, ifs1, 0⟩, ⟨t2, i2, ifs2, 0⟩] scope pos) scope i1 fi1 bd1 ft1 (fm2 fi2 bd2 ft2 fe) where
  C := (compB_of hc).1
  run := fun A env V σ I s ds res I₁ I' Q hs rm g w e1 e2 hz hQ => by
    refine g_a (compB_of hc) fun C hxs => ?_
    refine wpAny_mono (hi1.run A env V σ I s ds I₁ hs rm g w e1) (fun xv s₁ q => wpAny_mono q (fun it s₂ q => ?_) fun _ _ x => x.elim) fun _ _ x => x.elim
    refine g_eeaaa q fun V₂ W st₂ g₂ hW mk => ?_
    refine comp_start C hs g w st₂ g₂ hxs fun eI D s₄ cb hsI st₄ c₄ hap' hun => ?_
    have itr := mk V s eI D (xs1 ++ xs2) (inner scope σ) s₄ cb (fun _ h => List.mem_append_left _ h) hsI (fun b hb => ⟨(hW b hb).1, hap' b _ (hW b hb).1 (hW b hb).2.choose_spec⟩) st₄ ⟨_, c₄.g⟩
    have lp : codeAny (Md G) A (.compLoop (.ListComp elt [⟨t1, i1, ifs1, 0⟩, ⟨t2, i2, ifs2, 0⟩] scope pos) 0 it (.ref D) eI) (Q (.ref D) eI.locals) s₄ := by
      refine loop_gen (emit := emit2 (LC2 elt t1 i1 ifs1 t2 i2 ifs2 scope pos) i2 (.ref D) eI) (target := t1) (ifs := ifs1) (ip := i1.pos) (by rfl) (by rw [turn2_eq]; rfl) rm hsI (fun d σ' h => hi1.other d _ _ h) (fun x hx => hun x (List.mem_append_left _ hx)) ht1 c₄ itr e2 (fun d σ' J₁ rs J₃ V₈ s₈ out8 hb hm c₈ hl => ?_) fun V₅ s₅ h tk _ _ c₅ => hQ V₅ _ eI.locals D (c₅.fin cb)
      refine bind_go2 hm fun ds2 J₂ e3 hm => ?_
      refine wpAny_bind (wpAny_mono (hi2.run A eI V₈ σ' J₁ s₈ ds2 J₂ hsI rm c₈.g c₈.w e3) (fun xv s₁ q => wpAny_bind (wpAny_standAt ?_)) fun _ _ x => x)
      rw [hfs]
      refine wpAny_bind (wpAny_pure (wpAny_bind (wpAny_holding (wpAny_mono q (fun it2 s₂' q => ?_) fun _ _ x => x))))
      refine g_eeaaa q fun V₂' W' st' g' hW' mk' => ?_
      have c₂ := c₈.step st' g'
      refine g_eea c₈.acc fun ys8 k8 hD8 _ => ?_
      have itr2 := mk' V s eI D (xs1 ++ xs2) σ' s₂' cb (fun _ h => List.mem_append_right _ h) hsI (fun b hb => ⟨none_back c₈.st.ex (hW' b hb).1, (fun q => by rw [q] at hb; have := (hW' D hb).1; rw [hD8] at this; cases this),
        (fun q => by obtain ⟨o, eo⟩ := c₈.w.locEx; have := (hW' b hb).1; rw [q, eo] at this; cases this), fun y q => (by obtain ⟨⟨o, eo⟩, _⟩ := c₈.w.cex y b q; have := (hW' b hb).1; rw [eo] at this; cases this)⟩) (Step.refl _ _) ⟨_, g'⟩
      have lp2 : codeAny (Md G) A (.compLoop (.ListComp elt [⟨t1, i1, ifs1, 0⟩, ⟨t2, i2, ifs2, 0⟩] scope pos) 1 it2 (.ref D) eI) (fun r s' => match r with | .ok f => wpAny (Md G) A (pure ()) (fun _ s₉ => ∃ V₉, CS G V s eI D σ' V₉ s₉ J₃ (out8 ++ rs) ∧ StepC (Tmp eI D (xs1 ++ xs2)) V₈ s₈ V₉ s₉) No s' | .error e => cameBackBy (Md G) A eI No e s') s₂' := by
        refine loop_gen (emit := do let _ ← call (.builtin "list.append") [.ref D, ← eval elt eI]) (target := t2) (ifs := ifs2) (ip := i2.pos) (by rfl) (by rfl) rm hsI (fun d σ' h => hi2.other d _ _ h) (fun x hx => ?_) ht2 c₂ itr2 hm (fun d2 σ2 L₁ rs2 L₃ V₉ s₉ out9 hb2 hm2 c₉ hl2 => ?_) fun V₅ s₅ h tk a₅ hk₅ c₅ => wpAny_pure ⟨V₅, c₅, ?_⟩
        · refine (hi1.other _ _ _ hb x (hap x hx)) ▸ ?_
          exact hun x (List.mem_append_right _ hx)
        · refine bind_go2 hm2 fun d' L₂ hfe hm2 => ?_
          revert hl2
          refine some2 hm2 fun hl2 => ?_
          exact emit_one cb hsI rm he hfe c₉ (by simp at hl hl2; have : sizeLine = 16777216 := rfl; omega)
        · have nW : ∀ b o, s₈.heap.get? b = some o → ¬ W' b := fun b o e q => by rw [(hW' b q).1] at e; cases e
          have a1 := (st'.toC (T := Tmp eI D (xs1 ++ xs2))).mono (T' := fun b => Tmp eI D (xs1 ++ xs2) b ∨ W' b) fun b q => .inl q
          have a2 := a1.trans a₅
          exact ⟨fun b o e hJ nT => hk₅ b o (nW b o e) (a2.keep b o e hJ fun z => z.elim nT (nW b o e)), fun b o e => by
            refine g_e (a2.ex b o e) fun o' e' => ?_
            exact ⟨o', hk₅ b o' (nW b o e) e'⟩, a2.fr, a2.fnew, a2.jp, a2.jnew⟩
      refine wpAny_bind (wpAny_runOwn ?_)
      refine g_eaaaa itr2 fun St h0 _ _ _ hself => ?_
      exact compStart_two lp2 (hself 0 _ _ _ h0 lp2)
    refine g_eaaaa itr fun St h0 _ _ _ hself => ?_
    exact codeAny_compStart_list lp (hself 0 _ _ _ h0 lp)
end

-- E05
section

noncomputable def rg (a b : Nat) : List Nat := (List.range (b - a)).map fun i => a + i
theorem rngL_rg (a b : Nat) : rngL (a : Int) (b : Int) 1 = (rg a b).map nD := by
  by_cases h : a ≤ b
  · rw [rngL_one h]; unfold rg; rw [List.map_map]; rfl
  · rw [rngL_gt (by lia)]; unfold rg; rw [show b - a = 0 by lia]; rfl
theorem mem_rg {a b x : Nat} : x ∈ rg a b ↔ a ≤ x ∧ x < b := by
  unfold rg
  rw [List.mem_map]
  constructor
  · rintro ⟨i, hi, rfl⟩; have := List.mem_range.mp hi; lia
  · intro h; exact ⟨x - a, List.mem_range.mpr (by lia), by lia⟩
theorem rg_len (a b : Nat) : (rg a b).length = b - a := by unfold rg; simp

section
variable {σ : Sto} {I : MSt} {K : Dat → MSt → Prop}
theorem RunI.zip {f₁ f₂ : Ev} {K : List Dat → MSt → Prop} (h : RunL [f₁, f₂] σ I fun ds I' => ∃ as bs, ds = [.list as, .list bs] ∧ K (zipD as bs) I') : RunI (ivZip f₁ f₂) σ I K := by
  refine g_eeaeea h fun ds I' e as bs q5ₑ k => ?_
  subst q5ₑ
  exact ⟨_, I', bind_eq e (bind_eq (a := (as, bs)) rfl rfl), k⟩
noncomputable def RunP (f : Option Ev) (σ : Sto) (I : MSt) (K : Option Int → MSt → Prop) : Prop := ∃ p I', evPart f σ I = some (p, I') ∧ K p I'
theorem RunP.no {K : Option Int → MSt → Prop} (k : K none I) : RunP none σ I K := ⟨_, _, rfl, k⟩
theorem RunP.yes {f : Ev} {K : Option Int → MSt → Prop} (h : RunE f σ I fun d I' => ∃ i, d = .int i ∧ K (some i) I') : RunP (some f) σ I K := by
  refine g_eeaea h fun d I' e i q4ₑ k => ?_
  subst q4ₑ
  exact ⟨_, I', bind_eq e (bind_eq (a := i) rfl rfl), k⟩
theorem RunE.slice {fv : Ev} {fl fu : Option Ev} (h : RunE fv σ I fun d I₁ => RunP fl σ I₁ fun lo I₂ => RunP fu σ I₂ fun hi I₃ => Op (dSlice d lo hi) fun r => K r I₃) : RunE (evSlice fv fl fu) σ I K := by
  refine g_eeaeeaeeaea h fun d I₁ e1 lo I₂ e2 hi I₃ e3 r e4 k => ?_
  exact ⟨r, I₃, bind_eq e1 (bind_eq e2 (bind_eq e3 (bind_eq e4 rfl))), k⟩
end

-- slices

theorem sliceRange_n (a b : Nat) : sliceRange (a : Int) (b : Int) 1 = rg a b := by
  unfold sliceRange rg
  dsimp only
  rw [if_pos (by decide)]
  have e : (if (a : Int) < b then ((b : Int) - a + 1 - 1) / 1 else 0).toNat = b - a := by split <;> simp <;> lia
  rw [e]
  refine List.map_congr_left fun k _ => ?_
  lia
theorem rg_pick {α : Type} (l : List α) (a : Nat) : ∀ b, b ≤ l.length → (rg a b).filterMap (l[·]?) = (l.drop a).take (b - a) := by
  intro b hb
  unfold rg
  generalize hn : b - a = n
  have hn' : n = 0 ∨ a + n ≤ l.length := by lia
  clear hn hb
  induction n with
  | zero => simp
  | succ n ih =>
    have h1 : a + n < l.length := by lia
    rw [List.range_succ, List.map_append, List.filterMap_append, ih (by lia)]
    simp only [List.map_cons, List.map_nil, List.filterMap_cons, List.filterMap_nil, List.getElem?_eq_getElem h1]
    rw [List.take_succ_eq_append_getElem (by rw [List.length_drop]; lia)]
    simp
theorem clip_n (k n : Nat) : (max 0 (min (if (k : Int) < 0 then (k : Int) + n else k) (n : Int))) = ((min k n : Nat) : Int) := by
  rw [if_neg (by lia)]; lia
set_option tactic.hygienic true in
theorem pickS_of {l : List Nat} {lo hi : Option Int} {a b : Nat} (e : Builtin.Str.strSliceIndices lo hi 1 l.length = rg a b) (hb : b ≤ l.length) (ha : a ≤ l.length) : pickS ⟨l.toArray⟩ lo hi = ⟨((l.drop a).take (b - a)).toArray⟩ := by
  unfold pickS
  have hl : (⟨l.toArray⟩ : Str).length = l.length := rfl
  rw [hl, e, rg_len]
  split
  · rename_i h
    have h : b - a = l.length := by simpa using h
    by_cases h0 : l.length = 0
    · have : l = [] := List.length_eq_zero_iff.mp h0
      subst this; simp
    · have : a = 0 := by lia
      subst this
      rw [List.drop_zero, h, List.take_length]
  · have : ∀ j : Nat, (⟨l.toArray⟩ : Str).cps[j]? = l[j]? := fun j => by simp
    simp only [this]
    rw [rg_pick l a b hb]
theorem pickS_to (l : List Nat) (k : Nat) : pickS ⟨l.toArray⟩ none (some (k : Int)) = ⟨(l.take k).toArray⟩ := by
  rw [pickS_of (a := 0) (b := min k l.length) (by unfold Builtin.Str.strSliceIndices; dsimp only; rw [if_pos (by decide), if_pos (by decide), clip_n]; exact sliceRange_n 0 _) (by lia) (by lia)]
  simp
theorem pickS_from (l : List Nat) (k : Nat) : pickS ⟨l.toArray⟩ (some (k : Int)) none = ⟨(l.drop k).toArray⟩ := by
  rw [pickS_of (a := min k l.length) (b := l.length) (by unfold Builtin.Str.strSliceIndices; dsimp only; rw [clip_n, if_pos (by decide), if_pos (by decide)]; exact sliceRange_n _ _) (by lia) (by lia)]
  congr 2
  rw [List.take_of_length_le (by rw [List.length_drop]; lia)]
  by_cases h : k ≤ l.length
  · rw [Nat.min_eq_left h]
  · rw [Nat.min_eq_right (by lia), List.drop_eq_nil_of_le (by lia), List.drop_eq_nil_of_le (by lia)]
theorem pickS_mid (l : List Nat) (a b : Nat) : pickS ⟨l.toArray⟩ (some (a : Int)) (some (b : Int)) = ⟨((l.drop a).take (b - a)).toArray⟩ := by
  rw [pickS_of (a := min a l.length) (b := min b l.length) (by unfold Builtin.Str.strSliceIndices; dsimp only; rw [if_pos (by decide), clip_n, clip_n]; exact sliceRange_n _ _) (by lia) (by lia)]
  congr 2
  by_cases h : a ≤ l.length
  · rw [Nat.min_eq_left h]
    by_cases h2 : b ≤ l.length
    · rw [Nat.min_eq_left h2]
    · rw [List.take_of_length_le (by rw [List.length_drop]; lia), List.take_of_length_le (by rw [List.length_drop]; lia)]
  · rw [Nat.min_eq_right (show l.length ≤ a by lia), List.drop_eq_nil_of_le (Nat.le_refl _), List.drop_eq_nil_of_le (show l.length ≤ a by lia)]
    simp
theorem pickL_to (l : List Dat) (k : Nat) : pickL l none (some (k : Int)) = l.take k := by
  unfold pickL sliceBounds
  dsimp only [Option.getD]
  rw [if_pos (by decide), if_pos (by decide), clip_n]
  rw [show sliceRange 0 ((min k l.length : Nat) : Int) 1 = rg 0 (min k l.length) from sliceRange_n 0 _, rg_pick l 0 _ (by lia)]
  simp
theorem pickL_from (l : List Dat) (k : Nat) : pickL l (some (k : Int)) none = l.drop k := by
  unfold pickL sliceBounds
  dsimp only [Option.getD]
  rw [clip_n, if_pos (by decide), if_pos (by decide), sliceRange_n, rg_pick l _ _ (by lia)]
  rw [List.take_of_length_le (by rw [List.length_drop]; lia)]
  by_cases h : k ≤ l.length
  · rw [Nat.min_eq_left h]
  · rw [Nat.min_eq_right (by lia), List.drop_eq_nil_of_le (by lia), List.drop_eq_nil_of_le (by lia)]

theorem Op.sliceS {K : Dat → Prop} {x : Str} {lo hi : Option Int} (r : Str) (e : pickS x lo hi = r) (h : r.length ≤ 1000) (k : K (.str r)) : Op (dSlice (.str x) lo hi) K := ⟨_, by unfold dSlice; dsimp only; rw [e, if_pos (Nat.le_trans h (by decide))], k⟩
theorem Op.sliceL {K : Dat → Prop} {x : List Dat} {lo hi : Option Int} (r : List Dat) (e : pickL x lo hi = r) (h : x.length ≤ 1000) (k : K (.list r)) : Op (dSlice (.list x) lo hi) K := ⟨_, by unfold dSlice; dsimp only; rw [e, if_pos (Nat.le_trans h (by decide))], k⟩

-- a text by its signs
noncomputable def tx (l : List Nat) : Str := ⟨l.toArray⟩
theorem tx_app (a b : List Nat) : tx a ++ tx b = tx (a ++ b) := by
  show Str.append _ _ = _
  unfold Str.append tx
  simp
theorem tx_len (a : List Nat) : (tx a).length = a.length := by unfold tx Str.length; simp
theorem tx_inj {a b : List Nat} (h : tx a = tx b) : a = b := by unfold tx at h; simpa using h
theorem tx_ok {l : List Nat} (h : ∀ c ∈ l, c < 0x110000) : PyData.strOk (tx l) = true := by
  unfold PyData.strOk tx
  simpa using h
set_option tactic.hygienic true in
theorem mul_tx (c : Nat) (k : Nat) : Txt.mul (tx [c]) (k : Int) = tx (List.replicate k c) := by
  unfold Txt.mul
  split
  · have : k = 0 := by lia
    subst this; rfl
  · split
    · rename_i h
      have : k = 1 := by
        have h : ((k : Int) == 1) = true := by simpa [tx, Str.length] using h
        have := eq_of_beq h
        lia
      subst this; rfl
    · rw [Int.toNat_natCast]
      unfold tx
      congr 1
      have : ∀ (n : Nat) (acc : Array Nat), (List.replicate n #[c]).foldl (· ++ ·) acc = acc ++ (List.replicate n c).toArray := by
        intro n
        induction n with
        | zero => intro acc; simp
        | succ n ih => intro acc; rw [List.replicate_succ, List.foldl_cons, ih, List.replicate_succ]; apply Array.ext'; simp
      rw [this]; simp

theorem RunE.to {f : Ev} {σ : Sto} {I : MSt} {K : Dat → MSt → Prop} (d₀ : Dat) (h : RunE f σ I fun d I' => d = d₀ ∧ I' = I) (k : K d₀ I) : RunE f σ I K := by
  refine g_eeaa h fun d I' e q3ₑ q4ₑ => ?_
  clear h
  subst q3ₑ
  subst q4ₑ
  exact ⟨_, _, e, k⟩
theorem RunT.to {f : Bv} {σ : Sto} {I : MSt} {K : Bool → MSt → Prop} (b : Bool) (h : RunT f σ I fun d I' => d = b ∧ I' = I) (k : K b I) : RunT f σ I K := by
  refine g_eeaa h fun d I' e q3ₑ q4ₑ => ?_
  clear h
  subst q3ₑ
  subst q4ₑ
  exact ⟨_, _, e, k⟩
theorem Op.getI {K : Dat → Prop} {I : MSt} {xs : List Dat} {j : Int} {k : Nat} {d : Dat} (e : j = k) (h : xs[k]? = some d) (hl : xs.length ≤ 1000) (q : K d) : Op (dGet I (.list xs) (.int j)) K := by
  subst e; exact Op.get h hl q
theorem Op.mulS {K : Dat → Prop} {x : Str} {k : Int} (h : -1000 ≤ k ∧ k ≤ 1000 ∧ x.length ≤ 1000) (q : K (.str (Txt.mul x k))) : Op (dMul (.str x) (.int k)) K := ⟨_, if_pos h, q⟩
theorem Op.rngE {K : Int × Int × Int → Prop} {a b : Int} (x y : Nat) (ha : a = x) (hb : b = y) (hx : x ≤ 1000) (hy : y ≤ 1000) (q : K (x, y, 1)) : Op (rngArgs [.int a, .int b]) K := by
  subst ha; subst hb; exact Op.rng2 hx hy q
end

-- M33
section
variable {G : Cx} {n : Nat} {sc : Scope}

noncomputable abbrev GK (G : Cx) : Frag := KK G.w.params
theorem clsIs {K : Frag} {C : Addr} (h : hasDictIn K C = true) : ∃ cd, clsIn K C = some cd ∧ cd.hasDict = true := by
  unfold hasDictIn at h
  rwa [Option.any_eq_true] at h
theorem wCls (ok : GOk G) : ClsOk G (GK G) 145 := ⟨ok.says.1, by kernel_rfl, clsIs (by kernel_rfl)⟩
theorem iCls (ok : GOk G) : ClsOk G (GK G) 79 := ⟨ok.says.1, by kernel_rfl, clsIs (by kernel_rfl)⟩
theorem wSet (G : Cx) : SetOk (GK G) 145 := ⟨by kernel_rfl, by kernel_rfl, by kernel_rfl⟩
theorem iSet (G : Cx) : SetOk (GK G) 79 := ⟨by kernel_rfl, by kernel_rfl, by kernel_rfl⟩
theorem wRead (G : Cx) : readsIn (GK G) 145 (.type "type") = true := by kernel_rfl
theorem wFindS (G : Cx) : findCls (GK G) (.ref 145) (.type "type") "S" = some (.val (.str (Str.ofString " ") 309)) := by kernel_rfl
theorem wFindT (G : Cx) : findCls (GK G) (.ref 145) (.type "type") "T" = some (.val (.str (Str.ofString "\t") 310)) := by kernel_rfl
theorem wFree (G : Cx) : ∀ x ∈ ["raw", "n", "nt", "norm", "is_simple"], findIn (GK G) (.ref 145) (Str.ofString x) = some none ∧ takerIn (GK G) 145 (Str.ofString x) = some none := fun x hx => by
  simp only [List.mem_cons, List.not_mem_nil, or_false] at hx
  rcases hx with rfl | rfl | rfl | rfl | rfl <;> exact ⟨by kernel_rfl, by kernel_rfl⟩
theorem iFree (G : Cx) : ∀ x ∈ ["_mods", "_dirs", "_ignore"], findIn (GK G) (.ref 79) (Str.ofString x) = some none ∧ takerIn (GK G) 79 (Str.ofString x) = some none := fun x hx => by
  simp only [List.mem_cons, List.not_mem_nil, or_false] at hx
  rcases hx with rfl | rfl | rfl <;> exact ⟨by kernel_rfl, by kernel_rfl⟩
section
variable {x : String} {name : Str} {xp ap pos : Pos} {fo f : Ev} {value : Expr}
theorem SoundE.wattr (ok : GOk G) (nm : String) (hn : name = Str.ofString nm) (hx : nm ∈ ["raw", "n", "nt", "norm", "is_simple"]) (ho : SoundB G n sc (.Name (Str.ofString x) xp) fo) :
    SoundE G n sc (.Attribute (.Name (Str.ofString x) xp) name pos) (ev1 fo (dAttr 145 name)) := by
  subst hn; exact SoundE.attr (wCls ok) (wFree G nm hx).1 ho
theorem SoundE.iattr (ok : GOk G) (nm : String) (hn : name = Str.ofString nm) (hx : nm ∈ ["_mods", "_dirs", "_ignore"]) (ho : SoundB G n sc (.Name (Str.ofString x) xp) fo) :
    SoundE G n sc (.Attribute (.Name (Str.ofString x) xp) name pos) (ev1 fo (dAttr 79 name)) := by
  subst hn; exact SoundE.attr (iCls ok) (iFree G nm hx).1 ho
theorem SoundE.wnew {p : Pos} {es : List Expr} {fs : List Ev} {F : In0} {m : Nat} (ok : GOk G) (hg : GlobIs G sc "Whitespace" (.ref 145)) (hF : SoundInit G m 100 145 F) (hmn : m + 1 ≤ n) (hl : SoundL G n sc es fs) (hne : es ≠ [])
    (he : ∀ env : Env, eval (.Call (.Name (Str.ofString "Whitespace") p) es [] pos) env = (do callWith pos (← eval (.Name (Str.ofString "Whitespace") p) env) [] (backTo pos (starEach es env)) (backToKw pos (keywordEach [] env))) := by intro env; rfl) :
    SoundE G n sc (.Call (.Name (Str.ofString "Whitespace") p) es [] pos) (evNew 145 F fs) := SoundE.new (K := GK G) ok.says.1 (by kernel_rfl) (by kernel_rfl) (by kernel_rfl) (by kernel_rfl) hg hF hmn hl hne he
theorem SoundE.inew {p : Pos} {es : List Expr} {fs : List Ev} {F : In0} {m : Nat} (ok : GOk G) (hg : GlobIs G sc "_Ignore" (.ref 79)) (hF : SoundInit G m 69 79 F) (hmn : m + 1 ≤ n) (hl : SoundL G n sc es fs) (hne : es ≠ [])
    (he : ∀ env : Env, eval (.Call (.Name (Str.ofString "_Ignore") p) es [] pos) env = (do callWith pos (← eval (.Name (Str.ofString "_Ignore") p) env) [] (backTo pos (starEach es env)) (backToKw pos (keywordEach [] env))) := by intro env; rfl) :
    SoundE G n sc (.Call (.Name (Str.ofString "_Ignore") p) es [] pos) (evNew 79 F fs) := SoundE.new (K := GK G) ok.says.1 (by kernel_rfl) (by kernel_rfl) (by kernel_rfl) (by kernel_rfl) hg hF hmn hl hne he
end
theorem wMeth (G : Cx) : plainGet (GK G) 145 "less" = true ∧ findIn (GK G) (.ref 145) "less" = some (some (.ref 135)) ∧ isFn (GK G) (.ref 135) = true ∧ findIn (GK G) (.ref 145) "longest_run_of_spaces" = some (some (.ref 107)) ∧ isFn (GK G) (.ref 107) = true ∧ findIn (GK G) (.ref 145) "indent_level" = some (some (.ref 114)) ∧ isFn (GK G) (.ref 114) = true :=
  ⟨by kernel_rfl, by kernel_rfl, by kernel_rfl, by kernel_rfl, by kernel_rfl, by kernel_rfl, by kernel_rfl⟩
theorem iMeth (G : Cx) : plainGet (GK G) 79 "names" = true ∧ findIn (GK G) (.ref 79) "names" = some (some (.ref 76)) ∧ isFn (GK G) (.ref 76) = true := ⟨by kernel_rfl, by kernel_rfl, by kernel_rfl⟩
end

-- E06
section
variable {x : String} {fb : Sx} {Q : AFlow → Sto → MSt → Prop} {σ : Sto} {I : MSt}

-- a loop that may break
theorem RunS.loopW {α : Type} (f : α → Dat) (l : List α) (t : α → Bool) (P : List α → Sto → MSt → Prop) {fi : Iv} (hi : RunI fi σ I fun ds I' => ds = l.map f ∧ P [] σ I')
    (step : ∀ pre a post σ I, l = pre ++ a :: post → P pre σ I → (t a = true → RunS fb (σ.set x (.frz (f a))) I fun fl σ' I' => (fl = .next ∨ fl = .cont) ∧ P (pre ++ [a]) σ' I') ∧ (t a = false → RunS fb (σ.set x (.frz (f a))) I fun fl σ' I' => fl = .brk ∧ P pre σ' I'))
    (k : ∀ σ' I', P (l.takeWhile t) σ' I' → Q .next σ' I') : RunS (sFor x fi fb) σ I Q := by
  refine g_eeaa hi fun ds I₁ e q3ₑ h0 => ?_
  subst q3ₑ
  have key : ∀ (post pre : List α) (σ : Sto) (I : MSt), l = pre ++ post → P pre σ I → ∃ σ' I', forL x fb (post.map f) σ I = some (.next, σ', I') ∧ P (pre ++ post.takeWhile t) σ' I' := by
    intro post
    induction post with
    | nil => intro pre σ I e h; exact ⟨σ, I, rfl, by simpa using h⟩
    | cons a post ih =>
      intro pre σ I e h
      refine g_a (step pre a post σ I e h) fun s1 s2 => ?_
      refine (List.takeWhile_cons) ▸ ?_
      cases ht : t a with
      | true =>
        refine g_eeeaa (s1 ht) fun fl σ' I' hb hfl hp => ?_
        obtain ⟨σ₂, I₂, h1, h2⟩ := ih (pre ++ [a]) σ' I' (by rw [e]; simp) hp
        refine ⟨σ₂, I₂, bind_eq hb ?_, by simpa using h2⟩
        rcases hfl with rfl | rfl <;> exact h1
      | false =>
        refine g_eeeaa (s2 ht) fun fl σ' I' hb q4ₑ hp => ?_
        subst q4ₑ
        exact ⟨σ', I', bind_eq hb rfl, by simpa using hp⟩
  refine g_eea (key l [] σ I₁ rfl h0) fun σ' I' e2 h => ?_
  exact ⟨_, σ', I', bind_eq e e2, k _ _ h⟩

theorem RunS.attrTo {C : Addr} {name : Str} {f : Ev} (h : RunE f σ I fun d I' => ∃ y at_ at', σ x = .own (.pobj y C at_) ∧ at_.length ≤ 100 ∧ aput name d at_ = at' ∧ Q .next (σ.set x (.own (.pobj y C at'))) I') : RunS (sAttr C x name f) σ I Q := by
  refine g_eeaeeeaaa h fun d I' e y at_ at' h1 h2 h3 h4 => ?_
  subst h3
  exact RunS.attr ⟨d, I', e, y, at_, h1, h2, h4⟩
theorem Op.attrP {K : Dat → Prop} {C y : Addr} {name : Str} {at_ : List (Str × Dat)} {d : Dat} (h : at_.lookup name = some d) (k : K d) : Op (dAttr C name (.pobj y C at_)) K := ⟨d, (if_pos rfl).trans h, k⟩
theorem Op.attrO {K : Dat → Prop} {C : Addr} {name : Str} {at_ : List (Str × Dat)} {d : Dat} (h : at_.lookup name = some d) (k : K d) : Op (dAttr C name (.obj C at_)) K := ⟨d, (if_pos rfl).trans h, k⟩
theorem Op.addLL {xs ys : List Dat} {K : List Dat → Prop} (h : xs.length + ys.length ≤ 1000) (k : K (xs ++ ys)) : Op (dAddL (.list xs) (.list ys)) K := ⟨_, bind_eq (a := xs) rfl (bind_eq (a := ys) rfl (if_pos (Nat.le_trans h (by decide)))), k⟩
theorem Op.mulLL {d : Dat} {n : Nat} {j : Int} {K : List Dat → Prop} (e : j = n) (h : n ≤ 1000) (k : K (List.replicate n d)) : Op (dMulL (.list [d]) (.int j)) K := by
  subst e
  refine ⟨_, bind_eq (a := [d]) rfl (bind_eq (a := (n : Int)) rfl ((if_pos ⟨by omega, by omega, by simp; omega⟩).trans ?_)), k⟩
  rw [Int.toNat_natCast, List.flatten_replicate_singleton]
theorem Op.mulL {d : Dat} {n : Nat} {j : Int} {K : Dat → Prop} (e : j = n) (h : n ≤ 1000) (k : K (.list (List.replicate n d))) : Op (dMul (.list [d]) (.int j)) K := by
  refine g_ea (Op.mulLL (K := fun l => K (.list l)) e h k) fun l e k => ?_
  exact ⟨_, congrArg (Option.map Dat.list) e, k⟩
end

-- M34
section
variable {G : Cx} {n : Nat} {sc : Scope}

-- what is not reached
theorem SoundS.dead {st : Stmt} : SoundS G n sc st (fun _ _ => none) := .mk fun _ _ _ _ _ _ _ _ _ _ _ _ _ hf => nomatch hf
theorem SoundSs.dead {st : List Stmt} : SoundSs G n sc st (fun _ _ => none) := .mk fun _ _ _ _ _ _ _ _ _ _ _ _ _ hf => nomatch hf

theorem Step.freezes {V : View} {s : Shared} {a : Addr} (h : s.heap.get? a = none) {s' : Shared} {V' : View} (st : Step V s V' s') : Step V s (V'.add a) s' :=
  ⟨st.gens, st.os, st.keep, st.ex, fun b q => .inl (st.fr b q), fun b q => q.elim (st.fnew b) fun e => .inr (e ▸ h), st.jp, st.jnew⟩

-- a def with *args and **kwargs, handed one thing
set_option tactic.hygienic true in
theorem SoundF.star {a : Addr} {fd : FuncData} {body : List Stmt} {x y : String} {gx : Sx} (hM : HasMods G) (D : DefOk G a fd sc body) (hnd : ([x, y].map Str.ofString).Nodup) (hkind : ∀ z ∈ [x, y], KindOk sc z)
    (hbind : ∀ v : Value, bindArgs fd ⟨[v], []⟩ = (newTuple [v] >>= fun t => alloc { cls := .type "dict", data := .dict #[] } >>= fun d => pure [(Str.ofString x, t), (Str.ofString y, .ref d)])) (h : SoundSs G n sc body gx) :
    SoundF G (n + 1) a (fun ds I => match ds with | [d] => runF [x, y] gx [.tup [d], .idict []] I | _ => none) := .mk fun A V s I args ds d I' rm g r hf => by
  split at hf
  · rename_i d0
    refine g_ea r.one fun v q1ₑ rv => ?_
    subst q1ₑ
    refine g_aeea (runF_inv hf) fun _ fl σ' e hd => ?_
    have g1 := g.push { cls := .type "tuple", data := .seq ([v] : List Value).toArray } s.toks
    have t1 := Step.push V s { cls := .type "tuple", data := .seq ([v] : List Value).toArray } s.toks
    have z0 : s.heap.get? s.heap.objs.size = none := get_size _
    generalize hTe : s.heap.objs.size = T at z0
    have hT : (s.heap.push { cls := .type "tuple", data := .seq ([v] : List Value).toArray }).get? T = some { cls := .type "tuple", data := .seq ([v] : List Value).toArray } := by rw [← hTe]; exact Heap.get?_push_size _ rfl
    generalize hH1 : s.heap.push { cls := .type "tuple", data := .seq ([v] : List Value).toArray } = H1 at g1 t1 hT
    have gT : Good G (V.add T) { s with heap := H1 } I := g1.add (g.notJ z0) ⟨_, hT⟩
    have tT := t1.freezes z0
    have g2 := gT.push { cls := .type "dict", data := .dict #[] } s.toks
    have t2 := Step.push (V.add T) { s with heap := H1 } { cls := .type "dict", data := .dict #[] } s.toks
    have z1 : H1.get? H1.objs.size = none := get_size _
    generalize hDe : H1.objs.size = D' at z1
    have hD : (H1.push { cls := .type "dict", data := .dict #[] }).get? D' = some { cls := .type "dict", data := .dict #[] } := by rw [← hDe]; exact Heap.get?_push_size _ rfl
    have hTD : (H1.push { cls := .type "dict", data := .dict #[] }).get? T = some { cls := .type "tuple", data := .seq ([v] : List Value).toArray } := Heap.get?_push_of_some _ hT
    have hDO : (H1.push { cls := .type "dict", data := .dict #[] }).DictOf (intKind G.prog G.w) D' [] := by rw [← hDe]; exact Heap.DictOf.new H1
    have nD : D' ≠ sysModules := gT.notMods hM z1
    generalize hH2 : H1.push { cls := .type "dict", data := .dict #[] } = H2 at g2 t2 hD hTD hDO
    have gD : Good G ((V.add T).add D') { s with heap := H2 } I := g2.add (gT.notJ z1) ⟨_, hD⟩
    have st : Step V s ((V.add T).add D') { s with heap := H2 } := tT.trans (t2.freezes z1)
    have rs : Reps G ((V.add T).add D') H2 [.ref T, .ref D'] [.tup [d0], .idict []] :=
      .cons (.tup (vs := #[v]) (.inl (.inr rfl)) ⟨_, hTD⟩ (.cons (rv.step st g) .nil)) (.cons (.idict (vs := []) (.inr rfl) hDO nD trivial) .nil)
    refine codeAny_mono (run_def (s := { s with heap := H2 }) D rm g gD (fun A' E Q q => ?_) (given_frz hnd rfl rs) (fun z hz => ?_) h e (hd.imp And.left fun q => ⟨_, q⟩)) fun r s' q => ?_
    · rw [hbind]
      refine wpAny_bind (wpAny_newObj_type (wpAny_bind (wpAny_alloc (wpAny_pure ?_))))
      rw [hTe, hH1, hDe, hH2]
      exact q
    · refine g_a (List.of_mem_zip hz) fun hm _ => ?_
      refine g_ea (List.mem_map.mp hm) fun y hy e => ?_
      rw [← e]; exact hkind y hy
    · refine g_eeeaaaaa q fun v env V' q3ₑ st' g' w' _ ro => ?_
      subst q3ₑ
      have no : ∀ b, ¬ Lent H2 (([x, y].map Str.ofString).zip [.ref T, .ref D']) (sto0 [x, y] ([.tup [d0], .idict []].map .frz)) b := by
        intro b qₕ
        refine g_eeea qₕ fun y dd v q _ => ?_
        obtain ⟨i, d', h1, h2, h3⟩ := sto0_frz q (by intro e; cases e)
        cases h3
      exact ⟨v, rfl, V', st.trans ⟨st'.gens, st'.os, fun b o e hJ => st'.keep b o e hJ (no b), st'.ex, st'.fr, fun b q => (st'.fnew b q).imp id fun z => z.resolve_right (no b), st'.jp, st'.jnew⟩, g', ro.rep hd⟩
  · exact none_ne hf
end

-- M35
section
variable {G : Cx} {n : Nat} {sc : Scope}

theorem slot_si_next : Slot "set_iterator" "__next__" "set_iterator.__next__" :=
  .of (owner := "set_iterator") (n := "__next__") (by rw [typeLookup_type, builtinLookup_eq_fast]; kernel_rfl) (by decide +kernel) (by decide +kernel) (by decide +kernel)
    (by first | exact .inl (by decide +kernel) | exact .inr (by decide +kernel)) (by rw [isSubtype_type]; kernel_rfl)
theorem entry_si_next : entryFor table "set_iterator.__next__" = some Builtin.«set_iterator.__next__» := entryFor_of_tree (by kernel_rfl)
theorem args_si_next_1 (a : Value) : argsOk "set_iterator.__next__" ⟨[a], []⟩ := by
  unfold argsOk; kernel_rfl
theorem slot_si_iter : Slot "set_iterator" "__iter__" "set_iterator.__iter__" :=
  .of (owner := "set_iterator") (n := "__iter__") (by rw [typeLookup_type, builtinLookup_eq_fast]; kernel_rfl) (by decide +kernel) (by decide +kernel) (by decide +kernel)
    (by first | exact .inl (by decide +kernel) | exact .inr (by decide +kernel)) (by rw [isSubtype_type]; kernel_rfl)
theorem entry_si_iter : entryFor table "set_iterator.__iter__" = some Builtin.«dict_keyiterator.__iter__» :=
  entryFor_alias (id' := "dict_keyiterator.__iter__") (by rw [fastTable_eq_tree]; kernel_rfl) (by decide +kernel) (by decide +kernel) (by rw [fastTable_eq_tree]; kernel_rfl)
theorem args_si_iter_1 (a : Value) : argsOk "set_iterator.__iter__" ⟨[a], []⟩ := by
  unfold argsOk; kernel_rfl
theorem entry_s_iter : entryFor table "set.__iter__" = some Builtin.«frozenset.__iter__» :=
  entryFor_alias (id' := "frozenset.__iter__") (by rw [fastTable_eq_tree]; kernel_rfl) (by decide +kernel) (by decide +kernel) (by rw [fastTable_eq_tree]; kernel_rfl)

theorem ite_fw {α : Type} {M : Model} {A : Around} {c : Bool} {a b : Sem α} {Q : α → Shared → Prop} {E : Value → Shared → Prop} {s : Shared} (h : c = false) (k : wpAny M A b Q E s) : wpAny M A (if c = true then a else b) Q E s := by
  rw [h, if_neg Bool.false_ne_true]; exact k
theorem not_and_f {b c : Bool} (h : c = false) : (!b && c) = false := by rw [h, Bool.and_false]
theorem below1 (j k : Nat) : SetTable.below #[j] k = if j < k then 1 else 0 := by
  unfold SetTable.below
  show SetTable.below.go #[j] k 1 0 1 = _
  simp [SetTable.below.go]
theorem pick1 {α : Type} (f : Nat → Nat) (e : α) : pickOrder f #[e] = #[e] := by
  unfold pickOrder
  show pickOrder.go f 1 0 [e] #[] = _
  simp [pickOrder.go, Nat.mod_one]

section
variable {A : Around} {s : Shared} {S : Addr} {x : PySem.Str} {t : Tok} {h : Int} {E : Value → Shared → Prop}
-- the walk by text
theorem walk_text {o : Obj} {es : Array (Int × Value)} {ep : Nat} {tb : SetTable} {Q : Array (Int × Value) → Shared → Prop} (hS : s.heap.get? S = some o) (hd : o.data = .set es ep tb) (hf : tb.fits es.size = true) (hb : G.w.params.followText "set-order" = true)
    (k : Q (pickOrder (G.w.params.setOrder S ep) es) s) : wpAny (Md G) A (setWalk S) Q E s := by
  unfold setWalk
  refine wpAny_bind (wpAny_setState_of hS hd hf ?_)
  unfold setsByText
  refine wpAny_bind (wpAny_bind (wpAny_askSetting (wpAny_pure ?_)))
  show wpAny _ _ (if (G.w.params.followText "set-order") = true then _ else _) _ _ _
  rw [hb, if_pos rfl]
  exact wpAny_bind (wpAny_askSetting (wpAny_pure k))
theorem sn_item {Q : Option (Value × Nat) → Shared → Prop} (hS : s.heap.get? S = some (set1 h x t (!G.w.params.followText "set-order")))
    (k : ∀ next, (G.w.params.followText "set-order" = true ∨ next = SetTable.bits h % 8 + 1) → Q (some (.str x t, next)) s) : wpAny (Md G) A (setNext S 0 0 1) Q E s := by
  unfold setNext
  refine wpAny_bind (wpAny_setState_of hS rfl (by rfl) ?_)
  unfold setsByText
  refine wpAny_bind (wpAny_bind (wpAny_askSetting (wpAny_pure ?_)))
  show wpAny _ _ (if (G.w.params.followText "set-order") = true then _ else _) _ _ _
  cases hb : G.w.params.followText "set-order" with
  | true =>
    refine (if_pos rfl) ▸ ?_
    refine ite_fw rfl (wpAny_bind (walk_text hS rfl (by rfl) hb ?_))
    rw [pick1]
    exact wpAny_pure (k 0 (.inl hb))
  | false =>
    rw [if_neg (by decide)]
    refine ite_fw rfl (wpAny_bind (wpAny_pure (wpAny_pure ?_)))
    rw [below1, if_neg (Nat.not_lt_zero _)]
    exact k _ (.inr rfl)
theorem sn_end1 {Q : Option (Value × Nat) → Shared → Prop} {slot : Nat} (hS : s.heap.get? S = some (set1 h x t (!G.w.params.followText "set-order"))) (hs : G.w.params.followText "set-order" = true ∨ slot = SetTable.bits h % 8 + 1)
    (k : Q none s) : wpAny (Md G) A (setNext S slot 1 1) Q E s := by
  unfold setNext
  refine wpAny_bind (wpAny_setState_of hS rfl (by rfl) ?_)
  unfold setsByText
  refine wpAny_bind (wpAny_bind (wpAny_askSetting (wpAny_pure ?_)))
  show wpAny _ _ (if (G.w.params.followText "set-order") = true then _ else _) _ _ _
  cases hb : G.w.params.followText "set-order" with
  | true =>
    rw [if_pos rfl]
    refine ite_fw rfl (wpAny_bind (walk_text hS rfl (by rfl) hb ?_))
    rw [pick1]
    exact wpAny_pure k
  | false =>
    rw [if_neg (by decide)]
    rcases hs with hs | rfl
    · rw [hb] at hs; cases hs
    refine ite_fw rfl (wpAny_bind (wpAny_pure (wpAny_pure ?_)))
    rw [below1, if_pos (Nat.lt_succ_self _)]
    exact k
theorem sn_end0 {Q : Option (Value × Nat) → Shared → Prop} {led : Bool} (hS : s.heap.get? S = some (set0 led)) (k : Q none s) : wpAny (Md G) A (setNext S 0 0 0) Q E s := by
  unfold setNext
  refine wpAny_bind (wpAny_setState_of hS rfl (by rfl) ?_)
  unfold setsByText
  refine wpAny_bind (wpAny_bind (wpAny_askSetting (wpAny_pure ?_)))
  show wpAny _ _ (if (G.w.params.followText "set-order") = true then _ else _) _ _ _
  cases hb : G.w.params.followText "set-order" with
  | true =>
    refine (if_pos rfl) ▸ ?_
    exact ite_fw rfl (wpAny_bind (walk_text hS rfl (by rfl) hb (wpAny_pure k)))
  | false =>
    rw [if_neg (by decide)]
    refine ite_fw rfl (wpAny_bind ?_)
    cases led <;> exact wpAny_pure (wpAny_pure k)
end

noncomputable def siO (S : Addr) (slot i n ep : Nat) (live : Bool) : Obj := { cls := .type "set_iterator", dict := none, data := .fields #[rawInt slot, rawInt i, if live then .ref S else .none, rawInt n, rawInt ep], slots := #[] }
section
variable {A : Around} {s : Shared} {S Ia : Addr} {x : PySem.Str} {t : Tok} {h : Int} {E : Value → Shared → Prop}
theorem si_type {slot i n ep : Nat} {live : Bool} (hI : s.heap.get? Ia = some (siO S slot i n ep live)) : s.TypeIs (.ref Ia) "set_iterator" := ⟨_, hI, rfl⟩
theorem si_item {Q : Option Value → Shared → Prop} (hI : s.heap.get? Ia = some (siO S 0 0 1 1 true)) (hS : s.heap.get? S = some (set1 h x t (!G.w.params.followText "set-order")))
    (k : ∀ h' next, (G.w.params.followText "set-order" = true ∨ next = SetTable.bits h % 8 + 1) → h'.get? Ia = some (siO S next 1 1 1 true) → Heap.SameBut Ia s.heap h' → Q (some (.str x t)) { s with heap := h' }) : wpAny (Md G) A (pyNext (.ref Ia)) Q E s := by
  unfold pyNext
  refine wpAny_bind (wpAny_attempt (wpAny_callSpecial?_slot (name := Str.ofString "__next__") (si_type hI) slot_si_next (wpAny_call_entry slot_si_next (si_type hI) entry_si_next ?_ (args_si_next_1 _))))
  show wpAny _ _ (fieldsOf (.ref Ia) >>= _) _ _ s
  refine wpAny_bind (wpAny_fieldsOf hI rfl ?_)
  show wpAny _ _ (setEntries S >>= _) _ _ s
  refine wpAny_bind (wpAny_setEntries_of hS rfl (by rfl) ?_)
  refine ite_fw rfl ?_
  show wpAny _ _ (setNext S 0 0 1 >>= _) _ _ s
  refine wpAny_bind (sn_item hS fun next hn => ?_)
  refine wpAny_bind (wpAny_setField_rec hI (by simp) fun h₁ h1 s1 => ?_)
  refine wpAny_bind (wpAny_setField_rec (s := { s with heap := h₁ }) h1 (by simp) fun h₂ h2 s2 => ?_)
  exact wpAny_pure ⟨_, rfl, wpAny_pure (k h₂ next hn h2 (s1.trans s2))⟩
theorem si_end {Q : Option Value → Shared → Prop} {slot i n ep : Nat} {o : Obj} {es : Array (Int × Value)} {tb : SetTable} (hh : A.handled = none) (hI : s.heap.get? Ia = some (siO S slot i n ep true)) (hS : s.heap.get? S = some o) (hd : o.data = .set es ep tb) (hf : tb.fits es.size = true) (hn : es.size = n)
    (hz : ∀ {Q : Option (Value × Nat) → Shared → Prop} {E : Value → Shared → Prop}, Q none s → wpAny (Md G) A.in1 (setNext S slot i ep) Q E s)
    (k : ∀ h', Heap.ExtBut Ia s.heap h' → Q none { s with heap := h' }) : wpAny (Md G) A (pyNext (.ref Ia)) Q E s := by
  unfold pyNext
  refine wpAny_bind (wpAny_attempt (wpAny_callSpecial?_slot (name := Str.ofString "__next__") (si_type hI) slot_si_next (wpAny_call_entry slot_si_next (si_type hI) entry_si_next ?_ (args_si_next_1 _))))
  show wpAny _ _ (fieldsOf (.ref Ia) >>= _) _ _ s
  refine wpAny_bind (wpAny_fieldsOf hI rfl ?_)
  show wpAny _ _ (setEntries S >>= _) _ _ s
  refine wpAny_bind (wpAny_setEntries_of hS hd hf ?_)
  refine ite_fw (by rw [hn]; simp) ?_
  show wpAny _ _ (setNext S slot i ep >>= _) _ _ s
  refine wpAny_bind (hz ?_)
  refine wpAny_bind (wpAny_setField_rec hI (by simp) fun h₁ h1 s1 => ?_)
  show wpAny _ _ (newExc (.type "StopIteration") [] >>= _) _ _ _
  refine wpAny_bind ?_
  simp only [newExc, newTuple]
  refine wpAny_bind (wpAny_newObj_type ?_ (by size_fits))
  refine wpAny_bind (m := firstArgMember _ _) (wpAny_of_eq (a := Value.none) (by first | rfl | (simp only [firstArgMember]; rfl)) ?_)
  refine wpAny_newObj_type ?_ (by size_fits)
  simp only [raiseNew]
  refine wpAny_bind (wpAny_handled ?_)
  first | rw [show A.in1.handled = none from hh] | rw [hh]
  refine wpAny_bind (wpAny_pure (wpAny_throw ?_))
  refine wpAny_bind (wpAny_isInstance (T := "StopIteration") (b := true) ⟨_, Heap.get?_push_size _ rfl, rfl⟩ isSubtype_stop ?_)
  exact wpAny_pure (k _ ((s1.extBut.push _).push _))
-- iter of a set
theorem pyIter_set {Q : Value → Shared → Prop} {xs : List PySem.Str} {o : Obj} (hS : s.heap.get? S = some o) (hs : SetIs G o xs) (k : Q (.ref s.heap.objs.size) { s with heap := s.heap.push (siO S 0 0 xs.length xs.length true) }) : wpAny (Md G) A (pyIter (.ref S)) Q E s := by
  have hT : s.TypeIs (.ref S) "set" := by cases hs <;> exact ⟨_, hS, rfl⟩
  refine wpAny_pyIter_slot hT PySem.F.slot_set_iter (wpAny_call_entry PySem.F.slot_set_iter hT entry_s_iter ?_ (PySem.F.args_set_iter_1 _))
  unfold Builtin.«frozenset.__iter__» Builtin.Frozenset.sizeOf
  refine wpAny_bind (wpAny_of_eq (a := S) (by rfl) ?_)
  cases hs
  all_goals
    refine wpAny_bind (wpAny_bind (wpAny_setEntries_of hS rfl (by rfl) (wpAny_pure ?_)))
    refine wpAny_bind ?_
    unfold setDrawn setsByText
    refine wpAny_bind (wpAny_setState_of hS rfl (by rfl) ?_)
    refine wpAny_bind (wpAny_bind (wpAny_askSetting (wpAny_pure (wpAny_pure ?_))))
    refine ite_fw (not_and_f rfl) (wpAny_bind (wpAny_pure ?_))
    unfold setEpoch
    refine wpAny_bind (wpAny_bind (wpAny_setState_of hS rfl (by rfl) (wpAny_pure ?_)))
    exact wpAny_bind (wpAny_newObj_type (wpAny_pure ⟨_, rfl, "set_iterator", _, ⟨_, Heap.get?_push_size _ rfl, rfl⟩, slot_si_next.lookup, k⟩) (by size_fits))
end

theorem Walks.set {A : Around} (hh : A.handled = none) (Ia S : Addr) (hne : S ≠ Ia) {o : Obj} {xs : List PySem.Str} (hs : SetIs G o xs) {m : Nat} (hm : xs.length = m) :
    Walks G.prog G.w A Ia [Ia, S] [Ia] m (fun i v => ∃ x t, xs[i]? = some x ∧ v = .str x t)
      (fun i h => h.get? S = some o ∧ ∃ slot, h.get? Ia = some (siO S slot i xs.length xs.length true) ∧ ((i = 0 ∧ slot = 0) ∨ (i = 1 ∧ ∀ x, xs = [x] → G.w.params.followText "set-order" = true ∨ slot = SetTable.bits ((strKind G.prog G.w).hash x) % 8 + 1))) where
  sub := fun b hb => by simp at hb; simp [hb]
  frame := fun i h h' st hk => let ⟨h1, slot, h2, h3⟩ := st; ⟨hk S (by simp) _ h1, slot, hk Ia (by simp) _ h2, h3⟩
  item := fun i s Q E hi st hQ => by
    obtain ⟨h1, slot, h2, h3⟩ := st
    subst hm
    cases hs with
    | nil led => exact absurd hi (Nat.not_lt_zero _)
    | one x t =>
      have hi0 : i = 0 := by simp at hi; exact hi
      subst hi0
      obtain ⟨_, rfl⟩ : (0 : Nat) = 0 ∧ slot = 0 := h3.elim id fun q => absurd q.1 (by decide)
      refine si_item h2 h1 fun h' next hn hI' hsb => ?_
      exact hQ _ h' s.toks ⟨x, t, rfl, rfl⟩ ⟨(hsb.2 S hne).trans h1, next, hI', .inr ⟨rfl, fun y e => by cases e; exact hn⟩⟩ fun b o hb e => (hsb.2 b (by simpa using hb)).trans e
  done := fun s Q E st hQ => by
    obtain ⟨h1, slot, h2, h3⟩ := st
    subst hm
    cases hs with
    | nil led =>
      obtain ⟨_, rfl⟩ : (0 : Nat) = 0 ∧ slot = 0 := h3.elim id fun q => absurd q.1 (by decide)
      exact si_end hh h2 h1 rfl (by rfl) rfl (fun q => sn_end0 h1 q) fun h' hx => hQ h' s.toks fun b o hb e => hx b o (by simpa using hb) e
    | one x t =>
      have hc := h3.elim (fun q => absurd q.1 (by decide : ¬ (1 : Nat) = 0)) fun q => q.2 x rfl
      exact si_end hh h2 h1 rfl (by rfl) rfl (fun q => sn_end1 h1 hc q) fun h' hx => hQ h' s.toks fun b o hb e => hx b o (by simpa using hb) e
  self := fun i s Q E st hQ => by
    obtain ⟨_, slot, h2, _⟩ := st
    refine wpAny_pyIter_slot (si_type h2) slot_si_iter (wpAny_call_entry slot_si_iter (si_type h2) entry_si_iter ?_ (args_si_iter_1 _))
    show wpAny _ _ (ret (.ref Ia)) _ _ s
    exact wpAny_pure ⟨_, rfl, "set_iterator", _, si_type h2, slot_si_next.lookup, hQ⟩

noncomputable def ivSet (f : Ev) : Iv := fun σ I => (f σ I).bind fun p => (datSst p.1).bind fun xs => some (xs.map .str, p.2)
theorem SoundI.set {e : Expr} {f : Ev} (h : SoundE G n sc e f) : SoundI G n sc e (ivSet f) := .mk fun A env V σ I s ds I' hs rm g w hf => by
  refine bind_go2 hf fun d I' e1 hf => bind_go hf fun xs hx hf => ?_
  refine some2 hf ?_
  refine h.use hs rm g w e1 fun V₁ s₁ v st₁ g₁ w₁ r₁ => ?_
  obtain ⟨S, o, rfl, hF, ho, hset⟩ := (datSst_go (d := d) hx ▸ r₁).is
  · have hn : s₁.heap.get? s₁.heap.objs.size = none := get_size _
    have hne : S ≠ s₁.heap.objs.size := Nat.ne_of_lt (Heap.lt_size ho)
    refine pyIter_set ho hset ⟨V₁, st₁.trans (Step.push V₁ s₁ _ s₁.toks), g₁.push _ s₁.toks, s₁.heap.objs.size, _, _, _, _, rfl, Walks.set rm.handled _ S hne hset (List.length_map ..).symm, ?_, fun b hb => ?_, fun b hb => ?_, fun i h' hst b hb => ?_, fun i v hv => ?_, fun i h' hst => ?_⟩
    · exact ⟨Heap.get?_push_of_some _ ho, 0, Heap.get?_push_size _ rfl, .inl ⟨rfl, rfl⟩⟩
    · simp only [List.mem_cons, List.not_mem_nil, or_false] at hb ⊢
      rcases hb with rfl | rfl
      · exact .inr rfl
      · exact .inl hF
    · have : b = s₁.heap.objs.size := by simpa using hb
      subst this
      exact ⟨none_back st₁.ex hn, g₁.notF hn, g₁.notJ hn⟩
    · have : b = s₁.heap.objs.size := by simpa using hb
      subst this
      refine g_aea hst fun _ slot h2 _ => ?_
      exact ⟨_, h2⟩
    · refine g_eea hv fun x t hx q3ₑ => ?_
      subst q3ₑ
      exact ⟨.str x, by rw [List.getElem?_map, hx]; rfl, .str _ _⟩
    · refine g_aea hst fun _ slot h2 _ => ?_
      exact ⟨_, _, "set_iterator", rfl, h2, rfl, by decide⟩
end

-- C01
section

-- a matching: who is whose partner
structure Mat (f : Nat → Option Nat) : Prop where
  inv : ∀ u v, f u = some v → f v = some u
  irr : ∀ u, f u ≠ some u

noncomputable abbrev Adj (es : List (Nat × Nat)) (a b : Nat) : Prop := (a, b) ∈ es ∨ (b, a) ∈ es
-- no place stands in two pairs
noncomputable def Apart : List (Nat × Nat) → Prop
  | [] => True
  | (u, v) :: es => u ≠ v ∧ (∀ w, ¬ Adj es u w) ∧ (∀ w, ¬ Adj es v w) ∧ Apart es

theorem Adj.symm {es : List (Nat × Nat)} {a b : Nat} (h : Adj es a b) : Adj es b a := h.elim .inr .inl
theorem Adj.cons {u v : Nat} {es : List (Nat × Nat)} {a b : Nat} (h : Adj ((u, v) :: es) a b) : (a = u ∧ b = v) ∨ (a = v ∧ b = u) ∨ Adj es a b := by
  rcases h with h | h
  · rcases List.mem_cons.mp h with e | h
    · cases e; exact .inl ⟨rfl, rfl⟩
    · exact .inr (.inr (.inl h))
  · rcases List.mem_cons.mp h with e | h
    · cases e; exact .inr (.inl ⟨rfl, rfl⟩)
    · exact .inr (.inr (.inr h))
theorem Apart.uniq : ∀ {es : List (Nat × Nat)}, Apart es → ∀ {a b b' : Nat}, Adj es a b → Adj es a b' → b = b'
  | [], _, _, _, _, h, _ => by rcases h with h | h <;> cases h
  | (u, v) :: es, ⟨h0, h1, h2, h3⟩, a, b, b', x, y => by
    rcases x.cons with ⟨rfl, rfl⟩ | ⟨rfl, rfl⟩ | x2
    · rcases y.cons with ⟨_, rfl⟩ | ⟨e, _⟩ | y2
      · rfl
      · exact absurd e h0
      · exact absurd y2 (h1 _)
    · rcases y.cons with ⟨e, _⟩ | ⟨_, rfl⟩ | y2
      · exact absurd e.symm h0
      · rfl
      · exact absurd y2 (h2 _)
    · rcases y.cons with ⟨rfl, _⟩ | ⟨rfl, _⟩ | y2
      · exact absurd x2 (h1 _)
      · exact absurd x2 (h2 _)
      · exact h3.uniq x2 y2

-- the walk from u, by turns over B and over the pairs
inductive Way (es : List (Nat × Nat)) (B : Nat → Option Nat) (u : Nat) : Bool → Nat → Prop
  | start : Way es B u true u
  | b {w w' : Nat} : Way es B u true w → B w = some w' → Way es B u false w'
  | a {w w' : Nat} : Way es B u false w → Adj es w w' → Way es B u true w'

theorem Way.closB {es : List (Nat × Nat)} {B : Nat → Option Nat} {u : Nat} (hB : Mat B) {s : Bool} {w w' : Nat} (h : Way es B u s w) (e : B w = some w') : Way es B u (!s) w' := by
  cases s with
  | true => exact .b h e
  | false =>
    cases h with
    | b h0 e0 =>
      have := hB.inv _ _ e0
      rw [e] at this
      cases this
      exact h0
theorem Way.closA {es : List (Nat × Nat)} {B : Nat → Option Nat} {u : Nat} (hA : Apart es) (hu : ∀ w, ¬ Adj es u w) {s : Bool} {w w' : Nat} (h : Way es B u s w) (e : Adj es w w') : Way es B u (!s) w' := by
  cases s with
  | false => exact .a h e
  | true =>
    cases h with
    | start => exact absurd e (hu _)
    | a h0 e0 => exact hA.uniq e e0.symm ▸ h0
theorem Way.col {es : List (Nat × Nat)} {B : Nat → Option Nat} {u : Nat} {c : Nat → Bool} (ha : ∀ a b, Adj es a b → c a ≠ c b) (hb : ∀ a b, B a = some b → c a ≠ c b) {s : Bool} {w : Nat} (h : Way es B u s w) : c w = if s = true then c u else !c u := by
  induction h with
  | start => rfl
  | @b w w' _ e ih =>
    have := hb _ _ e
    rw [ih] at this
    revert this
    simp
    cases c u <;> cases c w' <;> simp
  | @a w w' _ e ih =>
    have := ha _ _ e
    rw [ih] at this
    revert this
    simp
    cases c u <;> cases c w' <;> simp

-- two matchings can be coloured with two colours
theorem two_col (B : Nat → Option Nat) (hB : Mat B) : ∀ es : List (Nat × Nat), Apart es → ∃ c : Nat → Bool, (∀ a b, Adj es a b → c a ≠ c b) ∧ ∀ a b, B a = some b → c a ≠ c b
  | [], _ => by
    refine ⟨(fun a => match B a with | some b => decide (a < b) | none => true), (fun a b h => by rcases h with h | h <;> cases h), fun a b e => ?_⟩
    have e' := hB.inv _ _ e
    have hne : a ≠ b := fun q => hB.irr a (q ▸ e)
    show (match B a with | some b => decide (a < b) | none => true) ≠ (match B b with | some b => decide (_ < b) | none => true)
    rw [e, e']
    simp only [ne_eq, decide_eq_decide]
    lia
  | (u, v) :: es, ⟨h0, h1, h2, h3⟩ => by
    refine g_ea (two_col B hB es h3) fun c ca cb => ?_
    by_cases huv : c u = c v
    · have nv : ∀ s, ¬ Way es B u s v := fun s h => by
        cases s with
        | false =>
          have := h.col ca cb
          rw [if_neg (by decide), ← huv] at this
          revert this
          cases c u <;> simp
        | true =>
          cases h with
          | start => exact h0 rfl
          | a _ e => exact h2 _ e.symm
      classical
      have key : ∀ a b, (∀ s, Way es B u s a → Way es B u (!s) b) → (∀ s, Way es B u s b → Way es B u (!s) a) → c a ≠ c b → (if ∃ s, Way es B u s a then !c a else c a) ≠ (if ∃ s, Way es B u s b then !c b else c b) := by
        intro a b hab hba hne
        by_cases ha : ∃ s, Way es B u s a
        · have hb : ∃ s, Way es B u s b := let ⟨s, h⟩ := ha; ⟨_, hab s h⟩
          rw [if_pos ha, if_pos hb]
          intro q; exact hne (by simpa using q)
        · have hb : ¬ ∃ s, Way es B u s b := fun ⟨s, h⟩ => ha ⟨_, hba s h⟩
          rw [if_neg ha, if_neg hb]
          exact hne
      refine ⟨fun w => if ∃ s, Way es B u s w then !c w else c w, fun a b h => ?_, fun a b e => key a b (fun s w => w.closB hB e) (fun s w => w.closB hB (hB.inv _ _ e)) (cb a b e)⟩
      have hu : ∃ s, Way es B u s u := ⟨_, .start⟩
      have hv : ¬ ∃ s, Way es B u s v := fun ⟨s, h⟩ => nv s h
      rcases h.cons with ⟨rfl, rfl⟩ | ⟨rfl, rfl⟩ | h
      · show (if ∃ s, Way es B a s a then !c a else c a) ≠ (if ∃ s, Way es B a s b then !c b else c b)
        rw [if_pos hu, if_neg hv, huv]
        cases c b <;> decide
      · show (if ∃ s, Way es B b s a then !c a else c a) ≠ (if ∃ s, Way es B b s b then !c b else c b)
        rw [if_pos hu, if_neg hv, huv]
        cases c a <;> decide
      · exact key a b (fun s w => w.closA h3 h1 h) (fun s w => w.closA h3 h1 h.symm) (ca a b h)
    · refine ⟨c, fun a b h => ?_, cb⟩
      rcases h.cons with ⟨rfl, rfl⟩ | ⟨rfl, rfl⟩ | h
      · exact huv
      · exact fun q => huv q.symm
      · exact ca a b h
end

-- M36
section
variable {G : Cx} {n : Nat} {sc : Scope}

-- statements whose outcome is not settled

structure SoundW (G : Cx) (n : Nat) (sc : Scope) (sts : List Stmt) (P : Sto → MSt → Prop) (Q : AFlow → Sto → MSt → Prop) : Prop where
  run : ∀ (A : Around) (env : Env) (V : View) (σ : Sto) (I : MSt) (s : Shared), env.scope = sc → Room A n → Good G V s I → EnvOk G V s.heap env σ → P σ I →
    wpAny (Md G) A (execs sts env) (fun f s' => ∃ fl σ' I', Q fl σ' I' ∧ PS G env σ V s fl σ' I' f s') No s

theorem SoundW.of {sts : List Stmt} {f : Sx} {Q : AFlow → Sto → MSt → Prop} (h : SoundSs G n sc sts f) : SoundW G n sc sts (fun σ I => RunS f σ I Q) Q := .mk fun A env V σ I s hs rm g w hp => by
  refine g_eeea hp fun fl σ' I' e q => ?_
  exact wpAny_mono (h.run A env V σ I s fl σ' I' hs rm g w e) (fun f s' p => ⟨fl, σ', I', q, p⟩) fun _ _ x => x
theorem SoundW.cons {st : Stmt} {rest : List Stmt} {f : Sx} {M : Sto → MSt → Prop} {Q : AFlow → Sto → MSt → Prop} (h : SoundS G n sc st f) (r : SoundW G n sc rest M Q) :
    SoundW G n sc (st :: rest) (fun σ I => RunS f σ I fun fl σ' I' => fl = .next ∧ M σ' I') Q := .mk fun A env V σ I s hs rm g w hp => by
  refine g_eeeaa hp fun fl σ₁ I₁ e q4ₑ m => ?_
  subst q4ₑ
  refine wpAny_execs_cons (wpAny_mono (h.run A env V σ I s _ _ _ hs rm g w e) (fun f s₁ q => ?_) fun _ _ x => x)
  obtain ⟨V₁, st₁, g₁, w₁, fo⟩ := q
  cases f <;> first | exact fo.elim | skip
  exact wpAny_mono (r.run A env V₁ σ₁ I₁ s₁ hs rm g₁ w₁ m) (fun _ _ ⟨fl, σ', I', q, p⟩ => ⟨fl, σ', I', q, p.trans st₁⟩) fun _ _ x => x

open Classical in
-- what it gives back is settled all the same
set_option tactic.hygienic true in
theorem SoundW.forget {sts : List Stmt} {P : Sto → MSt → Prop} {d : Dat} {J : MSt} (h : SoundW G n sc sts P fun fl _ I => fl = .ret d ∧ I = J) : SoundSs G n sc sts (fun σ I => if P σ I then some (.ret d, fun _ => .unb, J) else none) := .mk fun A env V σ I s fl σ' I' hs rm g w hf => by
  split at hf <;> cases hf
  rename_i hp
  refine wpAny_mono (h.run A env V σ I s hs rm g w hp) (fun f s' ⟨fl, σ', I', ⟨e1, e2⟩, V', ss, g', w', fo⟩ => ?_) fun _ _ x => x
  subst e1; subst e2
  have no : ∀ b, ¬ OwnA s'.heap env (fun _ => Ent.unb) b := fun b ⟨_, _, _, q, _⟩ => nomatch q
  exact ⟨V', ⟨ss.gens, ss.os, ss.keep, ss.ex, ss.fr, ss.fnew, ss.jp, ss.jnew, fun b q => absurd q (no b)⟩, g', ⟨w'.kind, w'.glob, w'.bui, w'.loc, w'.locF, w'.locJ, w'.cel, w'.cex, w'.inj, fun _ _ q => (nomatch q), fun _ _ q => (nomatch q), fun _ _ _ _ _ _ _ q => (nomatch q)⟩, fo⟩

-- sorted by length

noncomputable def Rel {α β : Type} (R : α → β → Prop) : List α → List β → Prop
  | [], [] => True
  | a :: as, b :: bs => R a b ∧ Rel R as bs
  | _, _ => False
theorem Rel.perm {α β : Type} {R : α → β → Prop} {as bs : List α} (p : as.Perm bs) : ∀ {ys : List β}, Rel R bs ys → ∃ xs, xs.Perm ys ∧ Rel R as xs := by
  induction p with
  | nil => intro ys h; exact ⟨ys, .refl _, h⟩
  | cons a _ ih =>
    intro ys h
    cases ys with
    | nil => exact h.elim
    | cons y ys =>
      refine g_ea (ih h.2) fun xs q r => ?_
      exact ⟨y :: xs, q.cons y, h.1, r⟩
  | swap a b l =>
    intro ys h
    cases ys with
    | nil => exact h.elim
    | cons y ys =>
      cases ys with
      | nil => exact h.2.elim
      | cons z ys => exact ⟨z :: y :: ys, .swap y z ys, h.2.1, h.1, h.2.2⟩
  | trans _ _ ih1 ih2 =>
    intro ys h
    refine g_ea (ih2 h) fun xs q r => ?_
    refine g_ea (ih1 r) fun zs q' r' => ?_
    exact ⟨zs, q'.trans q, r'⟩
theorem Rel.mem {α β : Type} {R : α → β → Prop} : ∀ {as : List α} {bs : List β}, Rel R as bs → ∀ b ∈ bs, ∃ a ∈ as, R a b
  | [], [], _, _, hx => (nomatch hx)
  | [], _ :: _, h, _, _ => h.elim
  | a :: as, b :: bs, h, x, hx => by
    rcases List.mem_cons.mp hx with rfl | hx
    · exact ⟨a, .head _, h.1⟩
    · refine g_ea (h.2.mem x hx) fun y hy r => ?_
      exact ⟨y, .tail _ hy, r⟩
theorem Rel.pw {α β : Type} {R : α → β → Prop} {S : α → α → Prop} {T : β → β → Prop} (k : ∀ a b x y, R a x → R b y → S a b → T x y) : ∀ {as : List α} {bs : List β}, Rel R as bs → as.Pairwise S → bs.Pairwise T
  | [], [], _, _ => .nil
  | a :: as, b :: bs, h, p => by
    refine g_a (List.pairwise_cons.mp p) fun p1 p2 => ?_
    refine List.pairwise_cons.mpr ⟨fun y hy => ?_, Rel.pw k h.2 p2⟩
    refine g_ea (h.2.mem y hy) fun z hz r => ?_
    exact k a z b y h.1 r (p1 z hz)

-- all the objects of a heap, but one's
noncomputable def others (h : Heap) (L : Addr) : List (Addr × Obj) := (List.range h.objs.size).filterMap fun b => if b = L then none else (h.get? b).map fun o => (b, o)
set_option tactic.hygienic true in
theorem mem_others {h : Heap} {L b : Addr} {o : Obj} : (b, o) ∈ others h L ↔ b ≠ L ∧ h.get? b = some o := by
  unfold others
  rw [List.mem_filterMap]
  constructor
  · intro qₕ
    refine g_ea qₕ fun c _ e => ?_
    split at e
    · exact none_ne e
    · rename_i hne
      refine g_ea (Option.map_eq_some_iff.mp e) fun o' e1 e2 => ?_
      cases e2
      exact ⟨hne, e1⟩
  · intro qₕ
    refine g_a qₕ fun h1 h2 => ?_
    exact ⟨b, List.mem_range.mpr (Heap.lt_size h2), by rw [if_neg h1, h2]; rfl⟩
noncomputable def heap0 : Heap := { objs := #[] }
theorem heap0_get (b : Addr) : heap0.get? b = none := by simp [heap0, Heap.get?]

theorem rel_lens {V : View} {h : Heap} : ∀ {vs : List Value} {l : List (List Nat)}, Reps G V h vs (l.map nL) → Rel (fun (p : Int × Value) (g : List Nat) => p.1 = g.length ∧ Rep G V h p.2 (nL g)) ((l.map fun g => (g.length : Int)).zip vs) l
  | _, [], .nil => trivial
  | _, g :: l, .cons r rs => ⟨⟨rfl, r⟩, rel_lens rs⟩
theorem rel_reps {V V' : View} {h h' : Heap} (k : ∀ {v d}, Rep G V h v d → Rep G V' h' v d) : ∀ {ps : List (Int × Value)} {l : List (List Nat)}, Rel (fun (p : Int × Value) (g : List Nat) => p.1 = g.length ∧ Rep G V h p.2 (nL g)) ps l → Reps G V' h' (ps.map Prod.snd) (l.map nL)
  | [], [], _ => .nil
  | _ :: _, _ :: _, h => .cons (k h.1.2) (rel_reps k h.2)

-- all is as it was, but the frame's own object, which says the same
theorem EnvOk.frame {V V' : View} {s s' : Shared} {I : MSt} {env : Env} {σ : Sto} {m : Str → Option Value} {D : Addr} (w : EnvOk G V s.heap env σ) (g : Good G V s I) (hm : s.heap.Ns env.locals m) (hm' : s'.heap.Ns env.locals m) (hk : ∀ b o, b ≠ env.locals → s.heap.get? b = some o → s'.heap.get? b = some o)
    (hD : s.heap.get? D = none) (hDo : ∃ o, s'.heap.get? D = some o) (hg : s'.gens = s.gens) (ho : s'.os = s.os) (hV : V' = V.add D) : StepS env σ V s σ V' s' ∧ Good G V' s' I ∧ EnvOk G V' s'.heap env σ := by
  subst hV
  have neF : ∀ {b}, V.F b → b ≠ env.locals := fun q e => w.locF (e ▸ q)
  have neJ : ∀ {b}, b ∈ V.J → b ≠ env.locals := fun q e => w.locJ (e ▸ q)
  have kF : KeepF V s.heap s'.heap := fun b o q e => hk b o (neF q) e
  have ex : ∀ b o, s.heap.get? b = some o → ∃ o', s'.heap.get? b = some o' := fun b o e => by
    by_cases q : b = env.locals
    · obtain ⟨o', _, _, e', _⟩ := hm'; exact ⟨o', q ▸ e'⟩
    · exact ⟨o, hk b o q e⟩
  have neD : ∀ {b o}, s.heap.get? b = some o → b ≠ D := fun e q => by rw [q, hD] at e; cases e
  have at_ : ∀ {x : Str} {ov}, At s.heap env x ov → At s'.heap env x ov := fun {x ov} a => by
    rcases a with ⟨k, m', n, e⟩ | ⟨k, c, hc, o, ho, hd⟩
    · exact .inl ⟨k, m, hm', by rw [Ns.unique hm n]; exact e⟩
    · refine g_eeaaaa (w.cel x k) fun c' _ hc' _ _ _ hl => ?_
      rw [hc] at hc'; cases hc'
      exact .inr ⟨k, c, hc, o, hk c o hl ho, hd⟩
  have ow : ∀ {x : String} {d v}, σ x = .own d → At s'.heap env (Str.ofString x) (some v) → At s.heap env (Str.ofString x) (some v) ∧ Own G V s.heap v d ∧ (∀ a ∈ foot s.heap v, Free V env a) ∧ (∀ a ∈ foot s.heap v, ∀ o, s.heap.get? a = some o → s'.heap.get? a = some o) ∧ foot s'.heap v = foot s.heap v := fun {x d v} e a => by
    refine g_eaa (w.own x d e) fun u hu o f => ?_
    obtain rfl := Option.some.inj (At.unique a (at_ hu))
    have q : ∀ a ∈ foot s.heap v, ∀ o, s.heap.get? a = some o → s'.heap.get? a = some o := fun a ha o e => hk a o (f a ha).loc e
    exact ⟨hu, o, f, q, o.foot_keep q⟩
  have g' : Good G V s' I := ⟨fun b o e => ⟨(g.base b o e).1, hk b o (neF (g.base b o e).1) (g.base b o e).2⟩, g.st.keeps fun b q o e => hk b o (neJ q) e, fun b q => let ⟨o, e⟩ := g.ex b q; ex b o e⟩
  refine ⟨⟨hg, ho, fun b o e _ nf _ => hk b o (fun q => nf (.inl q)) e, ex, fun _ q => .inl q, fun b q => q.elim .inl fun e => .inr (.inl (e ▸ hD)), fun _ _ q => q, fun _ q => .inl q, ?_⟩, g'.add (g.notJ hD) hDo, ?_⟩
  · intro b qₕ
    refine g_eeeaa qₕ fun x d v e hv hb => ?_
    refine g_aaaa (ow e hv) fun h1 _ _ _ h5 => ?_
    exact .inl ⟨x, d, v, e, h1, h5 ▸ hb⟩
  · refine ⟨w.kind, w.glob, w.bui, ⟨m, hm'⟩, fun q => ?_, w.locJ, fun x hx => ?_, fun y c q => ?_, w.inj, fun x d q => ?_, fun x d q => ?_, fun x y d d' v u hxy ex ey hv hu b hb hb' => ?_⟩
    · rcases q with q | q
      · exact w.locF q
      · obtain ⟨o, ho⟩ := w.locEx; exact neD ho q
    · refine g_eeaaaa (w.cel x hx) fun c ov hc q3ₜ hF hJ hl => ?_
      refine g_ea q3ₜ fun o ho hd => ?_
      exact ⟨c, ov, hc, ⟨o, hk c o hl ho, hd⟩, fun q => q.elim hF (neD ho), hJ, hl⟩
    · refine g_aa (w.cex y c q) fun q0ₜ hF hJ => ?_
      refine g_e q0ₜ fun o ho => ?_
      exact ⟨ex c o ho, fun q => q.elim hF (neD ho), hJ⟩
    · refine g_ea (w.frz x d q) fun v hv r => ?_
      exact ⟨v, at_ hv, r.mono (V' := V.add D) (fun _ q => .inl q) (fun _ _ q => q) kF⟩
    · refine g_eaa (w.own x d q) fun v hv _ _ => ?_
      refine g_aaaa (ow q (at_ hv)) fun _ o f q1 q2 => ?_
      refine ⟨v, at_ hv, o.keep (V' := V.add D) (fun _ q => .inl q) (fun _ _ q => q) kF q1, fun a ha => ?_⟩
      replace ha := (q2) ▸ ha
      refine g_e (o.foot_ex a ha) fun ob hob => ?_
      exact ⟨fun q => q.elim (f a ha).F (neD hob), (f a ha).J, (f a ha).loc, (f a ha).cel⟩
    · refine g_aaaa (ow ex hv) fun h1 _ _ _ h5 => ?_
      refine g_aaaa (ow ey hu) fun k1 _ _ _ k5 => ?_
      rw [h5] at hb; rw [k5] at hb'
      exact w.dis x y d d' v u hxy ex ey h1 k1 b hb hb'

theorem SoundW.sorted {x : String} {p p1 p2 kp pos spos : Pos} {e : Expr} {fe : Ev} {rest : List Stmt} {M : Sto → MSt → Prop} {Q : AFlow → Sto → MSt → Prop} (hk : KindOk sc x) (hg : GlobIs G sc "sorted" (.builtin "sorted")) (hg2 : GlobIs G sc "len" (.builtin "len")) (he : SoundE G n sc e fe) (r : SoundW G n sc rest M Q)
    (hst : isStarred e = false := by rfl)
    (hsw : ∀ env, swapsWith (.Call (.Name (Str.ofString "sorted") p1) [e] [⟨some (Str.ofString "key"), .Name (Str.ofString "len") p2, kp⟩] pos) (some (.Name (Str.ofString x) p)) spos.line env = pure false := by intro _; rfl) :
    SoundW G n sc (.Assign [.Name (Str.ofString x) p] (.Call (.Name (Str.ofString "sorted") p1) [e] [⟨some (Str.ofString "key"), .Name (Str.ofString "len") p2, kp⟩] pos) spos :: rest)
      (fun σ I => RunE fe σ I fun d I' => ∃ l, d = nLL l ∧ l.length < 64 ∧ (∀ g ∈ l, g.length ≤ 1000) ∧ ∀ l' : List (List Nat), l'.Perm l → l'.Pairwise (fun a b => a.length ≤ b.length) → M (σ.set x (.frz (nLL l'))) I') Q := .mk fun A env V σ I s hs rm g w hp => by
  refine g_eeaeaaa hp fun d I' e1 l q4ₑ h64 hsz k => ?_
  subst q4ₑ
  refine wpAny_execs_cons (wpAny_Assign_Name ?_ (hsw env))
  refine wpAny_Call_Name_kw (load_glob hs g w hg (by decide +kernel) ?_)
  refine callWith_kw ?_ (backTo_cons hst) (by rw [backTo_cons hst]; rfl) rfl rfl
  refine (backTo_cons hst) ▸ ?_
  refine Calls.spliced_cons (he.use hs rm g w e1 fun V₁ s₁ v st₁ g₁ w₁ r₁ => Calls.spliced_nil ?_)
  refine kws_cons (load_glob hs g₁ w₁ hg2 (by decide +kernel) (kws_nil ?_))
  show wpAny (Md G) A (PySem.call (.builtin "sorted") [v] [(Str.ofString "key", .builtin "len")]) _ _ s₁
  obtain ⟨a, vs, rfl, ⟨c0, hl0⟩, rs⟩ := (Rep1.of r₁).lst
  refine g_e w₁.loc fun m hm => ?_
  have hlen : vs.toList.length = l.length := by rw [rs.length, List.length_map]
  have nF : ∀ b, V₁.F b → b ≠ env.locals := fun b q e => w₁.locF (e ▸ q)
  refine ksk_sorted (b := false) (h₀ := heap0) (L := env.locals) (m := m) (news := others s₁.heap env.locals) (vs := vs.toList) (kz := l.map fun g => (g.length : Int)) (f := .builtin "len")
    ⟨hm, fun b o q => (by rw [heap0_get] at q; cases q), Nat.zero_le _⟩ (fun q hq => ⟨(mem_others.mp hq).2, (mem_others.mp hq).1, heap0_get _⟩)
    ⟨_, hl0, rfl, c0, by rw [Array.toArray_toList]⟩ (by rw [List.length_map, hlen]) (by lia) (ksk_s1 _ _) (fun _ => ksk_l1 _ _) (fun _ => ksk_t4 _ _) (fun i u kk hu hkk h tk own F' N' => ?_) fun D h' tk out c F' N' hD ko => ?_
  · obtain ⟨gl, hgl⟩ : ∃ gl, l[i]? = some gl := by
      have hi := (List.getElem?_eq_some_iff.mp hu).1
      exact ⟨_, List.getElem?_eq_getElem (by lia)⟩
    rw [List.getElem?_map, hgl] at hkk
    refine some1 hkk ?_
    obtain ⟨u', hu', ru⟩ := rs.get (i := i) (d := nL gl) (by rw [List.getElem?_map, hgl]; rfl)
    rw [hu] at hu'; cases hu'
    have hgm := hsz gl (List.mem_of_getElem? hgl)
    obtain ⟨a1, vs1, rfl, hF, ⟨c1, hl1⟩, hs'⟩ := ru.is
    · have hz := size_of_reps hs'
      rw [List.length_map] at hz
      refine Calls.call_len_list (items := _) ⟨_, (N' (_, _) (List.mem_append_left _ (mem_others.mpr ⟨nF _ hF, hl1⟩))).1, rfl, c1, rfl⟩ (by lia) ?_
      refine (hz) ▸ ?_
      exact ⟨h, _, _, rfl, rfl, F', N'⟩
  · have kp : ∀ b o, b ≠ env.locals → s₁.heap.get? b = some o → h'.get? b = some o := fun b o q e => (N' (b, o) (.tail _ (mem_others.mpr ⟨q, e⟩))).1
    have hDo := (N' _ (.head _)).1
    have hDL := (N' _ (.head _)).2.1
    have hDn : s₁.heap.get? D = none := by
      cases q : s₁.heap.get? D with
      | none => rfl
      | some o => exact absurd (hD _ (mem_others.mpr ⟨hDL, q⟩)) (Nat.lt_irrefl _)
    refine g_aa (w₁.frame (s' := { s₁ with heap := h', toks := tk }) g₁ hm F'.ns kp hDn ⟨_, hDo⟩ rfl rfl rfl) fun ss g₂ w₂ => ?_
    refine g_eaa ko fun ps pp po pw => ?_
    refine g_ea (Rel.perm pp (rel_lens rs)) fun l' lp lr => ?_
    have lw : l'.Pairwise (fun a b => a.length ≤ b.length) := Rel.pw (fun a b x y h1 h2 h3 => by
      have h3 : a.1 ≤ b.1 := by simpa using h3
      rw [h1.1, h2.1] at h3
      lia) lr pw
    have ro : Rep G (V₁.add D) h' (.ref D) (nLL l') := by
      refine .list (.inr rfl) ⟨c, hDo⟩ ?_
      refine (po) ▸ ?_
      exact rel_reps (fun r => r.mono (V' := V₁.add D) (fun _ q => .inl q) (fun _ _ q => q) fun b o q e => kp b o (nF b q) e) lr
    refine store_name (I₀ := I') (e := .frz (nLL l')) (Step.refl _ _) w₂ g₂ w₂ (by subst hs; exact hk) ro (fun _ q => by cases q) fun s₃ ss₃ g₃ w₃ _ => ?_
    refine wpAny_mono (r.run A env _ _ I' s₃ hs rm g₃ w₃ (k l' lp lw)) (fun _ _ ⟨fl, σ', J, q, p⟩ => ⟨fl, σ', J, q, ?_⟩) fun _ _ x => x
    exact p.trans (((st₁.toS w).trans ss).trans ss₃)
end

section
set_option compiler.extract_closed false
local macro_rules | `(tactic| walk_at "LOOK") => do
  let tmOf (s : String) : Lean.MacroM Lean.Term := do
    let app (a : Array Lean.Term) : Lean.Term := if a.size = 1 then a[0]! else Lean.Syntax.mkApp a[0]! (a.extract 1 a.size)
    let q ← `(?_)
    let d ← `(by decide +kernel)
    let as ← `(by assumption)
    let l ← `(.inl ⟨_, rfl⟩)
    let st := (s.splitOn " ").foldl (fun (st : List (Array Lean.Term)) w =>
      if w = "(" then #[] :: st else if w = ")" then (match st with
        | a :: b :: r => b.push (app a) :: r
        | r => r)
      else match st with
        | a :: r => a.push (if w = "?_" then q else if w = "D" then d else if w = "A" then as else if w = "L" then l else if w.isNat then Lean.Syntax.mkNumLit w else Lean.mkIdent w.toName) :: r
        | [] => []) [#[]]
    return app (st.headD #[])
  let tsOf (s : String) : Lean.MacroM (Array (Lean.TSyntax `Lean.Parser.Tactic.tacticSeq)) :=
    (s.splitOn "|").toArray.mapM fun x => do
      let t ← tmOf (x.drop 2).toString
      if x.startsWith "a" then `(Lean.Parser.Tactic.tacticSeq| apply $t) else if x.startsWith "e" then `(Lean.Parser.Tactic.tacticSeq| exact $t) else if x.startsWith "q" then `(Lean.Parser.Tactic.tacticSeq| refine $t) else `(Lean.Parser.Tactic.tacticSeq| refine' $t)
  let fst1 (a : Array (Lean.TSyntax `Lean.Parser.Tactic.tacticSeq)) : Lean.MacroM (Lean.TSyntax `tactic) := `(tactic| first $[| $a]*)
  let a ← fst1 (← tsOf "e set_same")
  let b ← fst1 (← tsOf "q set_ne D ?_|q inner_free D ?_|e sto_hit|q sto_miss D ?_")
  `(tactic| (repeat' (first | with_reducible $a:tactic | assumption | with_reducible $b:tactic | with_reducible rfl | fail "look")))
local macro_rules | `(tactic| walk_at "LOOK2") => `(tactic| (walk_at "LOOK"; exact set_same))
local macro_rules | `(tactic| walk_at "RUN1") => do
  let tmOf (s : String) : Lean.MacroM Lean.Term := do
    let app (a : Array Lean.Term) : Lean.Term := if a.size = 1 then a[0]! else Lean.Syntax.mkApp a[0]! (a.extract 1 a.size)
    let q ← `(?_)
    let d ← `(by decide +kernel)
    let as ← `(by assumption)
    let l ← `(.inl ⟨_, rfl⟩)
    let st := (s.splitOn " ").foldl (fun (st : List (Array Lean.Term)) w =>
      if w = "(" then #[] :: st else if w = ")" then (match st with
        | a :: b :: r => b.push (app a) :: r
        | r => r)
      else match st with
        | a :: r => a.push (if w = "?_" then q else if w = "D" then d else if w = "A" then as else if w = "L" then l else if w.isNat then Lean.Syntax.mkNumLit w else Lean.mkIdent w.toName) :: r
        | [] => []) [#[]]
    return app (st.headD #[])
  let tsOf (s : String) : Lean.MacroM (Array (Lean.TSyntax `Lean.Parser.Tactic.tacticSeq)) :=
    (s.splitOn "|").toArray.mapM fun x => do
      let t ← tmOf (x.drop 2).toString
      if x.startsWith "a" then `(Lean.Parser.Tactic.tacticSeq| apply $t) else if x.startsWith "e" then `(Lean.Parser.Tactic.tacticSeq| exact $t) else if x.startsWith "q" then `(Lean.Parser.Tactic.tacticSeq| refine $t) else `(Lean.Parser.Tactic.tacticSeq| refine' $t)
  let fst1 (a : Array (Lean.TSyntax `Lean.Parser.Tactic.tacticSeq)) : Lean.MacroM (Lean.TSyntax `tactic) := `(tactic| first $[| $a]*)
  let t ← fst1 (← tsOf "q RunS.last ?_|q RunS.seq ( RunS.set ?_ )|q RunS.seq ( RunS.own ?_ )|q RunS.seq ( RunS.put ?_ )|q RunS.seq ( RunS.app ?_ )|q RunS.seq ( RunS.unp ?_ )|q RunE.two ?_|q RunE.one ?_|q RunE.c ?_|q RunE.list ?_|q RunE.tup ?_|q RunE.fn ?_|q RunL.cons ?_|q RunL.nil ?_|q RunE.meth ?_|q RunE.fn1 ?_|q RunE.ite ?_|q RunT.of ?_|q RunT.not ?_|q RunT.and ?_|q RunT.or ?_|q RunT.c ?_|q RunS.nil ?_|q RunS.ite ?_|q RunS.ret ?_|q RunS.set ?_|q RunS.own ?_|q RunS.put ?_|q RunS.app ?_|q RunS.unp ?_|q RunE.asL ?_|q RunE.slice ?_|q RunP.no ?_|q RunP.yes ?_|q RunI.list ?_|q RunI.range ?_|q RunE.listR ?_|q Op.addI ?_|q Op.subI ?_|q Op.negI ?_|q Op.ltI ?_|q Op.leI ?_|q Op.gtI ?_|q Op.geI ?_|q Op.trB ?_|q Op.trI ?_")
  let c ← #["name", "nameF", "nameO"].mapM fun s => `(Lean.Parser.Tactic.tacticSeq| (with_reducible refine' $(Lean.mkIdent ("RunE." ++ s).toName) ?h ?k; (case h => walk_at "LOOK")))
  let u ← `(Lean.Parser.Tactic.tacticSeq| with_reducible $t:tactic)
  let v ← `(Lean.Parser.Tactic.tacticSeq| first | with_reducible refine ⟨rfl, ?_⟩ | fail "run")
  fst1 (#[u] ++ c ++ #[v])
local macro_rules | `(tactic| walk_at "RUN") => `(tactic| (repeat' (walk_at "RUN1")))
local macro_rules | `(tactic| walk_at "STEP") => do
  let tmOf (s : String) : Lean.MacroM Lean.Term := do
    let app (a : Array Lean.Term) : Lean.Term := if a.size = 1 then a[0]! else Lean.Syntax.mkApp a[0]! (a.extract 1 a.size)
    let q ← `(?_)
    let d ← `(by decide +kernel)
    let as ← `(by assumption)
    let l ← `(.inl ⟨_, rfl⟩)
    let st := (s.splitOn " ").foldl (fun (st : List (Array Lean.Term)) w =>
      if w = "(" then #[] :: st else if w = ")" then (match st with
        | a :: b :: r => b.push (app a) :: r
        | r => r)
      else match st with
        | a :: r => a.push (if w = "?_" then q else if w = "D" then d else if w = "A" then as else if w = "L" then l else if w.isNat then Lean.Syntax.mkNumLit w else Lean.mkIdent w.toName) :: r
        | [] => []) [#[]]
    return app (st.headD #[])
  let tsOf (s : String) : Lean.MacroM (Array (Lean.TSyntax `Lean.Parser.Tactic.tacticSeq)) :=
    (s.splitOn "|").toArray.mapM fun x => do
      let t ← tmOf (x.drop 2).toString
      if x.startsWith "a" then `(Lean.Parser.Tactic.tacticSeq| apply $t) else if x.startsWith "e" then `(Lean.Parser.Tactic.tacticSeq| exact $t) else if x.startsWith "q" then `(Lean.Parser.Tactic.tacticSeq| refine $t) else `(Lean.Parser.Tactic.tacticSeq| refine' $t)
  let fst1 (a : Array (Lean.TSyntax `Lean.Parser.Tactic.tacticSeq)) : Lean.MacroM (Lean.TSyntax `tactic) := `(tactic| first $[| $a]*)
  let a ← tsOf "e SoundSs.nil|a SoundSs.cons|r SoundS.compC D D ( SoundC.one D ( SoundIt.plain ?_ ( bnd_name D ) ) ?_ ?_ )|r SoundS.compC D D ( SoundC.one D ( SoundIt.plain ?_ ( bnd_two D D ) ) ?_ ?_ )|a SoundS.popTo|r SoundS.setC D ?_ D|a SoundS.set|a SoundS.loop|a SoundS.put|a SoundS.append|a SoundS.ite|a SoundS.ret|r SoundS.while' 300 ?_ ?_|a SoundS.unpack2|a SoundS.unpack3|e SoundO.dict0 A|e SoundS.brk|e SoundS.cont|a SoundT.and0|a SoundT.or0|a SoundT.and|a SoundT.or|a SoundT.not|a SoundT.cmp op_gt|a SoundT.cmp op_lt|a SoundT.cmp op_ge|a SoundT.cmp op_le|a SoundT.cmp op_eq|a SoundT.cmp op_ne|a SoundT.cmp op_in|a SoundT.cmp op_notIn|a SoundT.cmp op_is|a SoundT.plain|e SoundB.name|e SoundE.name|e SoundE.int|e SoundE.cstr|e SoundE.cnone|e SoundE.cbool|a SoundE.bin op_add|a SoundE.bin op_sub|a SoundE.bin op_mod|a SoundE.bin op_div|a SoundE.bin op_mul|a SoundE.cmp op_gt|a SoundE.cmp op_lt|a SoundE.cmp op_ge|a SoundE.cmp op_le|a SoundE.cmp op_eq|a SoundE.cmp op_ne|a SoundE.neg|a SoundE.ite|a SoundE.slice|a SoundP.yes|e SoundP.no|a SoundE.sub|a SoundE.list|a SoundE.tup|a SoundL.cons rfl|e SoundL.nil|r SoundE.compC ( SoundC.one D ( SoundIt.plain ?_ ( bnd_name D ) ) ?_ ?_ )|r SoundE.compC ( SoundC.one D ( SoundIt.plain ?_ ( bnd_two D D ) ) ?_ ?_ )|e SoundTs.nil|r SoundTs.one ?_|r SoundE.listRange A ( SoundR.mk' A ?_ )|r SoundI.range ( SoundR.mk' A ?_ )|r SoundE.call1 L A op_len ?_|r SoundE.call1 L A op_max ?_|r SoundE.call1 L A op_min ?_|r SoundE.call1 L A op_sum ?_|r SoundE.call1 L A op_sorted ?_"
  let e ← #["index", "join", "split", "starts"].mapM fun s => `(Lean.Parser.Tactic.tacticSeq| refine' SoundE.meth $(Lean.mkIdent ("op_" ++ s).toName) ?_ ?_ (hI := $(Lean.mkIdent ("hI_" ++ s).toName)))
  let c ← tsOf "a SoundI.list|a SoundE.toB"
  let j ← `(Lean.Parser.Tactic.tacticSeq| first | assumption | decide +kernel | (intro _; rfl) | (intro _ _; rfl))
  fst1 (a ++ e ++ c ++ #[j])
set_option compiler.extract_closed true
variable {G : Cx}

-- W01

-- _law_counts

theorem def_counts (ok : GOk G) : DefOk G 183 (fdat "_law_counts" "_law_counts" (fI 18) .none vLw 182) (fI 18).2.2 (fI 18).2.1 := defOk ok 10 rfl rfl (by decide +kernel)

noncomputable def bump (hs : List Nat) (c : List Nat) (k : Nat) : List Nat := c.set (hs.getD k 0) (c.getD (hs.getD k 0) 0 + 1)
noncomputable def counts (g hs : List Nat) (m : Nat) : List Nat := g.foldl (bump hs) (List.replicate m 0)

theorem bump_len (hs c : List Nat) (k : Nat) : (bump hs c k).length = c.length := List.length_set
theorem fold_len (hs : List Nat) : ∀ (g c : List Nat), (g.foldl (bump hs) c).length = c.length
  | [], c => rfl
  | k :: g, c => by rw [List.foldl_cons, fold_len hs g, bump_len]
theorem counts_len (g hs : List Nat) (m : Nat) : (counts g hs m).length = m := by unfold counts; rw [fold_len, List.length_replicate]

theorem dMulL_zero {m : Nat} (hm : m ≤ 1000) : dMulL (.list [.int 0]) (nD m) = some ((List.replicate m 0).map nD) := by
  refine bind_eq (a := [.int 0]) rfl (bind_eq (a := (m : Int)) rfl ((if_pos (by simp; lia)).trans ?_))
  simp

set_option maxHeartbeats 1000000 in
theorem T_counts (ok : GOk G) : ∃ F, SoundF G 3 183 F ∧ ∀ (g hs : List Nat) (m : Nat) I, m ≤ 1000 → hs.length ≤ 1000 → (∀ k ∈ g, k < hs.length) → (∀ h ∈ hs, h < m) → F [nL g, nL hs, nD m] I = some (nL (counts g hs m), I) := by
  have h : ∃ f, SoundSs G 2 (fI 18).2.2 (fI 18).2.1 f ∧ ∀ (g hs : List Nat) (m : Nat) I, m ≤ 1000 → hs.length ≤ 1000 → (∀ k ∈ g, k < hs.length) → (∀ h ∈ hs, h < m) → RunS f (sto0 ["group", "hands", "many"] [.frz (nL g), .frz (nL hs), .frz (nD m)]) I fun fl _ J => fl = .ret (nL (counts g hs m)) ∧ J = I := by
    apply Exists.intro
    constructor
    · repeat' (first
        | apply SoundS.own (x := "counts")
        | apply SoundO.bin op_mulL
        | apply SoundS.freeze ["counts"] (SoundS.ret _)
        | walk_at "STEP")
    · intro g hs m I hm hl hg hh
      walk_at "RUN"
      refine ⟨_, dMulL_zero hm, rfl, ?_⟩
      refine RunS.seq (RunS.loop nD g (fun pre σ J => σ "counts" = .own (nL (pre.foldl (bump hs) (List.replicate m 0))) ∧ σ "hands" = .frz (nL hs) ∧ J = I) ?_ ?_ ?_)
      · walk_at "RUN"
        exact ⟨_, rfl, rfl, set_same, rfl, rfl⟩
      · intro pre k post σ _ e qₕ
        refine g_aa qₕ fun h1 h2 q2ₑ => ?_
        clear qₕ
        subst q2ₑ
        have hk := hg k (by rw [e]; simp)
        have hk' := hh (hs.getD k 0) (by simp [hk])
        have hlen := fold_len hs pre (List.replicate m 0)
        rw [List.length_replicate] at hlen
        walk_at "RUN"
        refine Op.getN hk hl ?_
        refine Op.getN (by lia) (by lia) ?_
        walk_at "RUN"
        refine Op.getN hk hl ⟨_, by walk_at "LOOK", ?_⟩
        refine Op.setN (v := _ + 1) (by lia) (by lia) ?_
        walk_at "RUN"
        refine ⟨.inl rfl, ?_, by walk_at "LOOK", rfl⟩
        rw [List.foldl_append]
        exact set_same
      · intro σ _ qₕ
        refine g_aa qₕ fun h1 h2 q2ₑ => ?_
        clear qₕ
        subst q2ₑ
        refine ⟨rfl, RunS.last (RunS.frz1 h1 ?_)⟩
        walk_at "RUN"
        rfl
  refine g_ea h fun f hs he => ?_
  clear h
  refine ⟨runF ["group", "hands", "many"] f, SoundF.of (def_counts ok) (by decide +kernel) (by decide +kernel) (fun s vs hv => ?_) hs, fun g hs m I h1 h2 h3 h4 => runF_ret rfl (he g hs m I h1 h2 h3 h4)⟩
  refine g_eee (len3 hv) fun a b c q3ₑ => ?_
  subst q3ₑ
  exact BindsTo.of_eq (by kernel_rfl)

-- _law_uneven

theorem findSome_map {α β γ : Type} (u : α → Option β) (f : β → γ) : ∀ l : List α, (l.findSome? fun a => (u a).map f) = (l.findSome? u).map f
  | [] => rfl
  | a :: l => by
    rw [List.findSome?_cons, List.findSome?_cons]
    cases u a with
    | some b => rfl
    | none => exact findSome_map u f l

theorem def_uneven (ok : GOk G) : DefOk G 190 (fdat "_law_uneven" "_law_uneven" (fI 19) .none vLw 189) (fI 19).2.2 (fI 19).2.1 := defOk ok 11 rfl rfl (by decide +kernel)

noncomputable def unevenIn (c : List Nat) : Option (List Nat) := if mn c + 1 < mx c then some [c.idxOf (mx c), c.idxOf (mn c)] else none
noncomputable def uneven (gs : List (List Nat)) (hs : List Nat) (m : Nat) : List Nat := (gs.findSome? fun g => unevenIn (counts g hs m)).getD []

theorem bump_le (hs c : List Nat) (k B : Nat) (h : ∀ x ∈ c, x ≤ B) : ∀ x ∈ bump hs c k, x ≤ B + 1 := fun x hx => by
  unfold bump at hx
  rcases List.mem_or_eq_of_mem_set hx with q | q
  · have := h x q; lia
  · subst q
    by_cases hk : hs.getD k 0 < c.length
    · have := h (c.getD (hs.getD k 0) 0) (by rw [List.getD_eq_getElem?_getD, List.getElem?_eq_getElem hk]; exact List.getElem_mem _)
      lia
    · have : c.getD (hs.getD k 0) 0 = 0 := by simp at hk; simp [hk]
      lia
theorem fold_le (hs : List Nat) : ∀ (g c : List Nat) (B : Nat), (∀ x ∈ c, x ≤ B) → ∀ x ∈ g.foldl (bump hs) c, x ≤ B + g.length
  | [], c, B, h => h
  | k :: g, c, B, h => fun x hx => by
    have := fold_le hs g _ (B + 1) (bump_le hs c k B h) x hx
    rw [List.length_cons]; lia
theorem counts_le (g hs : List Nat) (m : Nat) : ∀ x ∈ counts g hs m, x ≤ g.length := fun x hx => by
  have := fold_le hs g (List.replicate m 0) 0 (by simp) x hx
  lia

set_option maxHeartbeats 1000000 in
theorem T_uneven (ok : GOk G) : ∃ F, SoundF G 4 190 F ∧ ∀ (gs : List (List Nat)) (hs : List Nat) (m : Nat) I, 0 < m → m ≤ 1000 → hs.length ≤ 1000 → (∀ g ∈ gs, g.length ≤ 1000 ∧ ∀ k ∈ g, k < hs.length) → (∀ h ∈ hs, h < m) →
    F [nLL gs, nL hs, nD m] I = some (nL (uneven gs hs m), I) := by
  refine g_ea (T_counts ok) fun Fc hFc eFc => ?_
  have h : ∃ f, SoundSs G 3 (fI 19).2.2 (fI 19).2.1 f ∧ ∀ (gs : List (List Nat)) (hs : List Nat) (m : Nat) I, 0 < m → m ≤ 1000 → hs.length ≤ 1000 → (∀ g ∈ gs, g.length ≤ 1000 ∧ ∀ k ∈ g, k < hs.length) → (∀ h ∈ hs, h < m) →
      RunS f (sto0 ["groups", "hands", "many"] [.frz (nLL gs), .frz (nL hs), .frz (nD m)]) I fun fl _ J => fl = .ret (nL (uneven gs hs m)) ∧ J = I := by
    have g1 := g_max ok (sc := (fI 19).2.2)
    have g2 := g_min ok (sc := (fI 19).2.2)
    have g3 := gL_counts ok (sc := (fI 19).2.2)
    refine g_ea ((def_counts ok).at_) fun o ho hfd => ?_
    apply Exists.intro
    constructor
    · repeat' (first
        | refine' SoundE.call g3 ho hfd hFc ?_
        | walk_at "STEP")
    · intro gs hs m I hm0 hm hl hg hh
      refine RunS.seq' (RunS.find nL gs (fun σ J => σ "hands" = .frz (nL hs) ∧ σ "many" = .frz (nD m) ∧ J = I) (fun g => (unevenIn (counts g hs m)).map nL) ?_ ?_ ?_)
      · walk_at "RUN"
        exact ⟨_, rfl, rfl, by walk_at "LOOK", by walk_at "LOOK", rfl⟩
      · intro g hgm σ _ qₕ
        refine g_aa qₕ fun h1 h2 q2ₑ => ?_
        clear qₕ
        subst q2ₑ
        have hc := counts_len g hs m
        have hle := counts_le g hs m
        have hgl := (hg g hgm).1
        walk_at "RUN"
        refine ⟨_, _, eFc g hs m _ hm hl (hg g hgm).2 hh, ?_⟩
        walk_at "RUN"
        refine Op.maxN (by lia) ?_
        walk_at "RUN"
        refine Op.minN (by lia) ?_
        walk_at "RUN"
        unfold unevenIn
        by_cases hb : mn (counts g hs m) + 1 < mx (counts g hs m)
        · rw [if_pos (decide_eq_true (by lia)), if_pos hb]
          walk_at "RUN"
          refine Op.maxN (by lia) ?_
          walk_at "RUN"
          refine Op.idxN (mx_mem (by lia)) (by lia) (fun x hx => by have := hle x hx; lia) ?_
          walk_at "RUN"
          refine Op.minN (by lia) ?_
          walk_at "RUN"
          refine Op.idxN (mn_mem (by lia)) (by lia) (fun x hx => by have := hle x hx; lia) ?_
          walk_at "RUN"
          exact ⟨by walk_at "LOOK", by walk_at "LOOK", rfl⟩
        · rw [if_neg (by rw [decide_eq_true_iff]; lia), if_neg hb]
          walk_at "RUN"
          exact ⟨by walk_at "LOOK", by walk_at "LOOK", rfl⟩
      · intro σ _ qₕ
        refine g_aa qₕ fun h1 h2 q2ₑ => ?_
        clear qₕ
        subst q2ₑ
        unfold uneven
        rw [findSome_map]
        cases gs.findSome? (fun g => unevenIn (counts g hs m)) with
        | some r => exact .inr ⟨(by intro e; cases e), rfl, rfl⟩
        | none =>
          refine .inl ⟨rfl, ?_⟩
          walk_at "RUN"
          rfl
  refine g_ea h fun f hs he => ?_
  clear h
  refine ⟨runF ["groups", "hands", "many"] f, SoundF.of (def_uneven ok) (by decide +kernel) (by decide +kernel) (fun s vs hv => ?_) hs, fun gs hs m I h0 h1 h2 h3 h4 => runF_ret rfl (he gs hs m I h0 h1 h2 h3 h4)⟩
  refine g_eee (len3 hv) fun a b c q3ₑ => ?_
  subst q3ₑ
  exact BindsTo.of_eq (by kernel_rfl)

-- W02

theorem mods (ok : GOk G) : HasMods G := ok.says.2.2

-- _law_partners

theorem def_partners (ok : GOk G) : DefOk G 171 (fdat "_law_partners" "_law_partners" (fI 16) .none vLw 170) (fI 16).2.2 (fI 16).2.1 := defOk ok 8 rfl rfl (by decide +kernel)

noncomputable def pstep (free : List Nat) (d : ND) (i : Nat) : ND := nput (nput d (free.getD (2 * i) 0) (free.getD (1 + 2 * i) 0)) (free.getD (1 + 2 * i) 0) (free.getD (2 * i) 0)
noncomputable def pairUp (d : ND) (free : List Nat) : ND := (List.range (free.length / 2)).foldl (pstep free) d
noncomputable def freeOf (rows : List Nat) (d : ND) (g : List Nat) : List Nat := g.filter fun k => decide (k ∈ rows) && !(nget d k).isSome
noncomputable def pturn (rows : List Nat) (d : ND) (g : List Nat) : ND := pairUp d (freeOf rows d g)
noncomputable def partners (gs : List (List Nat)) (rows : List Nat) : ND := gs.foldl (pturn rows) []

theorem pfold_len (free : List Nat) : ∀ (l : List Nat) (d : ND), (l.foldl (pstep free) d).length ≤ d.length + 2 * l.length
  | [], d => by simp
  | i :: l, d => by
    rw [List.foldl_cons, List.length_cons]
    have h1 := pfold_len free l (pstep free d i)
    have h2 : (pstep free d i).length ≤ d.length + 2 := by
      unfold pstep
      have := nput_len (nput d (free.getD (2 * i) 0) (free.getD (1 + 2 * i) 0)) (free.getD (1 + 2 * i) 0) (free.getD (2 * i) 0)
      have := nput_len d (free.getD (2 * i) 0) (free.getD (1 + 2 * i) 0)
      lia
    lia
theorem pturn_len (rows : List Nat) (d : ND) (g : List Nat) (hg : g.length ≤ 64) : (pturn rows d g).length ≤ d.length + 64 := by
  unfold pturn pairUp
  have h1 := pfold_len (freeOf rows d g) (List.range ((freeOf rows d g).length / 2)) d
  have h2 : (freeOf rows d g).length ≤ g.length := List.length_filter_le _ _
  rw [List.length_range] at h1
  lia
theorem partners_len (rows : List Nat) : ∀ (gs : List (List Nat)) (d : ND), (∀ g ∈ gs, g.length ≤ 64) → (gs.foldl (pturn rows) d).length ≤ d.length + 64 * gs.length
  | [], d, _ => by simp
  | g :: gs, d, h => by
    rw [List.foldl_cons, List.length_cons]
    have h1 := partners_len rows gs (pturn rows d g) fun x hx => h x (.tail _ hx)
    have h2 := pturn_len rows d g (h g (.head _))
    lia

set_option maxHeartbeats 1000000 in
theorem T_partners (ok : GOk G) : ∃ F, SoundF G 4 171 F ∧ ∀ (gs : List (List Nat)) (rows : List Nat) I, gs.length ≤ 64 → (∀ g ∈ gs, g.length ≤ 64) → F [nLL gs, nL rows] I = some (dD (partners gs rows), I) := by
  have h : ∃ f, SoundSs G 3 (fI 16).2.2 (fI 16).2.1 f ∧ ∀ (gs : List (List Nat)) (rows : List Nat) I, gs.length ≤ 64 → (∀ g ∈ gs, g.length ≤ 64) →
      RunS f (sto0 ["groups", "rows"] [.frz (nLL gs), .frz (nL rows)]) I fun fl _ J => fl = .ret (dD (partners gs rows)) ∧ J = I := by
    have g1 := g_len ok (sc := (fI 16).2.2)
    have g2 := g_range ok (sc := (fI 16).2.2)
    have hM := mods ok
    apply Exists.intro
    constructor
    · repeat' (first
        | apply SoundS.own (x := "partners")
        | apply SoundS.freeze ["partners"] (SoundS.ret _)
        | walk_at "STEP")
    · intro gs rows I hgs hg
      refine RunS.seq (RunS.own ⟨_, _, rfl, rfl, ?_⟩)
      refine RunS.seq (RunS.loop nL gs (fun pre σ J => σ "partners" = .own (dD (pre.foldl (pturn rows) [])) ∧ σ "rows" = .frz (nL rows) ∧ J = I) ?_ ?_ ?_)
      · walk_at "RUN"
        exact ⟨_, rfl, rfl, set_same, by walk_at "LOOK", rfl⟩
      · intro pre g post σ J e qₕ
        refine g_aa qₕ fun h1 h2 q2ₑ => ?_
        clear qₕ
        subst q2ₑ
        have hgl := hg g (by rw [e]; simp)
        have hpl := partners_len rows pre [] (fun x hx => hg x (by rw [e]; exact List.mem_append_left _ hx))
        have hpre : pre.length ≤ 64 := by have := congrArg List.length e; simp at this; lia
        refine RunS.seq (RunS.set (RunE.filter nD nD (fun k => decide (k ∈ rows) && !(nget (pre.foldl (pturn rows) []) k).isSome) g hgl ?_ ?_ ?_))
        · walk_at "RUN"
          exact ⟨_, rfl, rfl, rfl⟩
        · intro k hk
          refine ⟨_, rfl, ?_, fun _ => ?_⟩
          · walk_at "RUN"
            refine Op.in_ enc_n (by decide) trivial (fun _ _ => trivial) ?_
            walk_at "RUN"
            by_cases hr : k ∈ rows
            · refine (if_pos (decide_eq_true hr)) ▸ ?_
              walk_at "RUN"
              refine Op.notInD ?_
              walk_at "RUN"
              cases hx : (nget (pre.foldl (pturn rows) []) k).isSome with
              | true => rw [if_neg (by simp)]; exact ⟨by simp [hr], rfl⟩
              | false => rw [if_pos (by simp)]; refine RunT.c ⟨by simp [hr], rfl⟩
            · rw [if_neg (by simp [hr])]
              exact ⟨by simp [hr], rfl⟩
          · walk_at "RUN"
            rfl
        · show _ ∧ _
          refine ⟨rfl, RunS.last ?_⟩
          generalize hfree : freeOf rows (pre.foldl (pturn rows) []) g = free
          have hfl : free.length ≤ 64 := by rw [← hfree]; exact Nat.le_trans (List.length_filter_le _ _) hgl
          refine (show (g.filter fun k => decide (k ∈ rows) && !(nget (pre.foldl (pturn rows) []) k).isSome) = free from hfree) ▸ ?_
          refine RunS.loop (fun i : Nat => nD (1 + 2 * i)) (List.range (free.length / 2)) (fun is σ' J' => σ' "partners" = .own (dD (is.foldl (pstep free) (pre.foldl (pturn rows) []))) ∧ σ' "rows" = .frz (nL rows) ∧ σ' "free" = .frz (nL free) ∧ J' = J) ?_ ?_ ?_
          · walk_at "RUN"
            refine Op.lenL (by simp; lia) ?_
            walk_at "RUN"
            rw [List.length_map]
            refine Op.rng3 (by lia) ⟨rngL_two _, by walk_at "LOOK", by walk_at "LOOK", set_same, rfl⟩
          · intro is i post' σ' J' e' qₕ
            refine g_aaa qₕ fun k1 k2 k3 q3ₑ => ?_
            clear qₕ
            subst q3ₑ
            have hi : i < free.length / 2 := by
              have : i ∈ List.range (free.length / 2) := by rw [e']; simp
              exact List.mem_range.mp this
            have hlen := pfold_len free is (pre.foldl (pturn rows) [])
            have hil : is.length ≤ 32 := by have := congrArg List.length e'; simp at this; lia
            have hl0 : ([] : ND).length = 0 := rfl
            walk_at "RUN"
            refine Op.getN (k := 1 + 2 * i) (by lia) (by lia) ?_
            walk_at "RUN"
            refine Op.getNi (k := 2 * i) (by lia) (by lia) (by lia) ⟨_, by walk_at "LOOK", ?_⟩
            refine Op.putD (by lia) ?_
            walk_at "RUN"
            refine Op.getNi (k := 2 * i) (by lia) (by lia) (by lia) ?_
            walk_at "RUN"
            refine Op.getN (k := 1 + 2 * i) (by lia) (by lia) ⟨_, by walk_at "LOOK", ?_⟩
            refine Op.putD (by have := nput_len (is.foldl (pstep free) (pre.foldl (pturn rows) [])) (free.getD (2 * i) 0) (free.getD (1 + 2 * i) 0); lia) ?_
            walk_at "RUN"
            refine ⟨.inl rfl, ?_, by walk_at "LOOK", by walk_at "LOOK", rfl⟩
            refine (List.foldl_append) ▸ ?_
            exact set_same
          · intro σ' J' qₕ
            refine g_aaa qₕ fun k1 k2 k3 q3ₑ => ?_
            clear qₕ
            subst q3ₑ
            refine ⟨.inl rfl, ?_, k2, rfl⟩
            rw [k1, List.foldl_append]
            show _ = Ent.own (dD (pairUp (pre.foldl (pturn rows) []) (freeOf rows (pre.foldl (pturn rows) []) g)))
            rw [hfree]; rfl
      · intro σ _ qₕ
        refine g_aa qₕ fun h1 h2 q2ₑ => ?_
        clear qₕ
        subst q2ₑ
        refine ⟨rfl, RunS.last (RunS.frz1 h1 ?_)⟩
        walk_at "RUN"
        rfl
  refine g_ea h fun f hs he => ?_
  clear h
  refine ⟨runF ["groups", "rows"] f, SoundF.of (def_partners ok) (by decide +kernel) (by decide +kernel) (fun s vs hv => ?_) hs, fun gs rows I h0 h1 => runF_ret rfl (he gs rows I h0 h1)⟩
  refine g_ee (len2 hv) fun a b q2ₑ => ?_
  subst q2ₑ
  exact BindsTo.of_eq (by kernel_rfl)

-- W03

-- _law_anew

theorem def_anew (ok : GOk G) : DefOk G 176 (fdat "_law_anew" "_law_anew" (fI 17) .none vLw 175) (fI 17).2.2 (fI 17).2.1 := defOk ok 9 rfl rfl (by decide +kernel)

noncomputable def tstep (s here : Nat) (st : ND × List Nat) (P : ND) : ND × List Nat := match nget P here with
  | none => st
  | some p => if (nget st.1 p).isSome then st else (nput st.1 p (s - (nget st.1 here).getD 0), st.2 ++ [p])
noncomputable def walkN (s : Nat) (A B : ND) : Nat → ND × List Nat → ND
  | 0, st => st.1
  | n + 1, st => match st.2.getLast? with
    | none => st.1
    | some here => walkN s A B n ([A, B].foldl (tstep s here) (st.1, st.2.dropLast))
noncomputable def start (one row : Nat) (given : ND) : ND × List Nat := if (nget given row).isSome then (given, []) else (nput given row one, [row])
noncomputable def rturn (one s : Nat) (A B : ND) (given : ND) (row : Nat) : ND := walkN s A B 200 (start one row given)
noncomputable def rowsOf (hs : List Nat) (one other : Nat) : List Nat := (List.range hs.length).filter fun k => hs.getD k 0 == one || hs.getD k 0 == other
noncomputable def givenOf (bs ps : List (List Nat)) (hs : List Nat) (one other : Nat) : ND :=
  (rowsOf hs one other).foldl (rturn one (one + other) (partners bs (rowsOf hs one other)) (partners ps (rowsOf hs one other))) []
noncomputable def anew (bs ps : List (List Nat)) (hs : List Nat) (one other : Nat) : List Nat := (List.range hs.length).map fun k => (nget (givenOf bs ps hs one other) k).getD (hs.getD k 0)

-- what holds between the steps of the walk
structure WOk (L s : Nat) (st : ND × List Nat) : Prop where
  len : st.1.length + un L st.1 ≤ L
  go : ∀ x ∈ st.2, (nget st.1 x).isSome = true
  val : ∀ k v, nget st.1 k = some v → v ≤ s

noncomputable def Below (L : Nat) (P : ND) : Prop := ∀ k p, nget P k = some p → p < L
noncomputable def mu (L : Nat) (st : ND × List Nat) : Nat := st.2.length + 2 * un L st.1

theorem nput_new {d : ND} {k v : Nat} (h : nget d k = none) : (nput d k v).length = d.length + 1 := by
  unfold nput
  rw [any_nget, h]
  simp
set_option tactic.hygienic true in
theorem WOk.put {L s : Nat} {st : ND × List Nat} {p v : Nat} (h : WOk L s st) (hp : p < L) (hn : nget st.1 p = none) (hv : v ≤ s) : WOk L s (nput st.1 p v, st.2 ++ [p]) ∧ mu L (nput st.1 p v, st.2 ++ [p]) + 1 ≤ mu L st := by
  have hu := un_put (v := v) hp hn
  refine ⟨⟨?_, fun x hx => ?_, fun k w hw => ?_⟩, ?_⟩
  · have := h.len
    have := nput_new (v := v) hn
    dsimp only
    lia
  · dsimp only at hx ⊢
    rw [nget_nput]
    split
    · rfl
    · rename_i hne
      rcases List.mem_append.mp hx with q | q
      · exact h.go x q
      · exact absurd (by simpa using q) hne
  · dsimp only at hw
    rw [nget_nput] at hw
    split at hw
    · cases hw; exact hv
    · exact h.val k w hw
  · unfold mu
    dsimp only
    rw [List.length_append, List.length_singleton]
    lia
set_option tactic.hygienic true in
theorem WOk.tstep {L s here : Nat} {st : ND × List Nat} {P : ND} (h : WOk L s st) (hP : Below L P) (hh : (nget st.1 here).isSome = true) :
    WOk L s (Mine.tstep s here st P) ∧ mu L (Mine.tstep s here st P) ≤ mu L st ∧ (nget (Mine.tstep s here st P).1 here).isSome = true := by
  unfold Mine.tstep
  split
  · exact ⟨h, Nat.le_refl _, hh⟩
  · rename_i p hp
    split
    · exact ⟨h, Nat.le_refl _, hh⟩
    · rename_i hn
      have hn' : nget st.1 p = none := by simpa using hn
      refine g_a (h.put (v := s - (nget st.1 here).getD 0) (hP _ _ hp) hn' (Nat.sub_le _ _)) fun h1 h2 => ?_
      refine ⟨h1, by lia, ?_⟩
      rw [nget_nput]
      split
      · rfl
      · exact hh

theorem pstep_vals {free : List Nat} {L : Nat} (hf : ∀ x ∈ free, x < L) {d : ND} (hd : Below L d) {i : Nat} (hi : i < free.length / 2) : Below L (pstep free d i) := by
  intro k p hp
  have h1 : free.getD (2 * i) 0 < L := hf _ (by rw [List.getD_eq_getElem?_getD, List.getElem?_eq_getElem (by lia)]; exact List.getElem_mem _)
  have h2 : free.getD (1 + 2 * i) 0 < L := hf _ (by rw [List.getD_eq_getElem?_getD, List.getElem?_eq_getElem (by lia)]; exact List.getElem_mem _)
  unfold pstep at hp
  rw [nget_nput, nget_nput] at hp
  split at hp
  · cases hp; exact h1
  · split at hp
    · cases hp; exact h2
    · exact hd _ _ hp
theorem partners_below {gs : List (List Nat)} {rows : List Nat} {L : Nat} (h : ∀ x ∈ rows, x < L) : Below L (partners gs rows) := by
  unfold partners
  have key : ∀ (gs : List (List Nat)) (d : ND), Below L d → Below L (gs.foldl (pturn rows) d) := by
    intro gs
    induction gs with
    | nil => intro d hd; exact hd
    | cons g gs ih =>
      intro d hd
      rw [List.foldl_cons]
      refine ih _ ?_
      unfold pturn pairUp
      have hfree : ∀ x ∈ freeOf rows d g, x < L := fun x hx => by
        unfold freeOf at hx
        rw [List.mem_filter] at hx
        have := hx.2
        simp at this
        exact h x this.1
      have key2 : ∀ (is : List Nat) (d' : ND), (∀ i ∈ is, i < (freeOf rows d g).length / 2) → Below L d' → Below L (is.foldl (pstep (freeOf rows d g)) d') := by
        intro is
        induction is with
        | nil => intro d' _ hd'; exact hd'
        | cons i is ih2 => intro d' hi hd'; rw [List.foldl_cons]; exact ih2 _ (fun j hj => hi j (.tail _ hj)) (pstep_vals hfree hd' (hi i (.head _)))
      exact key2 _ d (fun i hi => List.mem_range.mp hi) hd
  exact key gs [] fun k p hp => by cases hp

theorem walkN_ok {L s : Nat} {A B : ND} (hA : Below L A) (hB : Below L B) : ∀ (n : Nat) (st : ND × List Nat), WOk L s st → WOk L s (walkN s A B n st, [])
  | 0, st, h => ⟨h.len, fun _ hx => (nomatch hx), h.val⟩
  | n + 1, st, h => by
    unfold walkN
    cases hl : st.2.getLast? with
    | none => exact ⟨h.len, fun _ hx => (nomatch hx), h.val⟩
    | some here =>
      have hm : here ∈ st.2 := List.mem_of_getLast? hl
      have h0 : WOk L s (st.1, st.2.dropLast) := ⟨h.len, fun x hx => h.go x (List.dropLast_subset _ hx), h.val⟩
      refine g_aa (h0.tstep hA (h.go here hm)) fun h1 _ g1 => ?_
      refine g_aa (h1.tstep hB g1) fun h2 _ _ => ?_
      exact walkN_ok hA hB n _ h2
set_option tactic.hygienic true in
theorem start_ok {L s one row : Nat} {d : ND} (h : WOk L s (d, [])) (hr : row < L) (ho : one ≤ s) : WOk L s (start one row d) ∧ mu L (start one row d) ≤ 1 + 2 * L := by
  have hu := un_le L d
  unfold start
  split
  · exact ⟨h, by unfold mu; simp; lia⟩
  · rename_i hn
    have hn' : nget d row = none := by simpa using hn
    refine g_a (h.put (v := one) hr hn' ho) fun h1 h2 => ?_
    refine ⟨h1, ?_⟩
    have : mu L (d, []) ≤ 2 * L := by unfold mu; simp; lia
    simp at h2 ⊢
    lia

set_option maxHeartbeats 2000000 in
theorem T_anew (ok : GOk G) : ∃ F, SoundF G 5 176 F ∧ ∀ (bs ps : List (List Nat)) (hs : List Nat) (one other : Nat) I, bs.length ≤ 64 → (∀ g ∈ bs, g.length ≤ 64) → ps.length ≤ 64 → (∀ g ∈ ps, g.length ≤ 64) → hs.length ≤ 64 →
    F [nLL bs, nLL ps, nL hs, nD one, nD other] I = some (nL (anew bs ps hs one other), I) := by
  refine g_ea (T_partners ok) fun Fp hFp eFp => ?_
  have h : ∃ f, SoundSs G 4 (fI 17).2.2 (fI 17).2.1 f ∧ ∀ (bs ps : List (List Nat)) (hs : List Nat) (one other : Nat) I, bs.length ≤ 64 → (∀ g ∈ bs, g.length ≤ 64) → ps.length ≤ 64 → (∀ g ∈ ps, g.length ≤ 64) → hs.length ≤ 64 →
      RunS f (sto0 ["blocks", "packages", "hands", "one", "other"] [.frz (nLL bs), .frz (nLL ps), .frz (nL hs), .frz (nD one), .frz (nD other)]) I fun fl _ J => fl = .ret (nL (anew bs ps hs one other)) ∧ J = I := by
    have g1 := g_len ok (sc := (fI 17).2.2)
    have g2 := g_range ok (sc := (fI 17).2.2)
    have g3 := gL_partners ok (sc := (fI 17).2.2)
    refine g_ea ((def_partners ok).at_) fun o ho hfd => ?_
    have hM := mods ok
    apply Exists.intro
    constructor
    · repeat' (first
        | apply SoundS.own (x := "given")
        | apply SoundS.own (x := "going")
        | apply SoundO.list
        | apply SoundS.freeze ["given"] (SoundS.ret _)
        | refine' SoundE.call g3 ho hfd hFp ?_
        | walk_at "STEP")
    · intro bs ps hs one other I h1 h2 h3 h4 h5
      refine RunS.seq (RunS.set (RunE.filter nD nD (fun k => hs.getD k 0 == one || hs.getD k 0 == other) (List.range hs.length) (by simpa using h5) ?_ ?_ ?_))
      · walk_at "RUN"
        refine Op.lenL (by simp; lia) ?_
        rw [List.length_map]
        walk_at "RUN"
        exact Op.rng1 (by lia) ⟨rngL_n _, rfl⟩
      · intro k hk
        have hk := List.mem_range.mp hk
        refine ⟨_, rfl, ?_, fun _ => ?_⟩
        · walk_at "RUN"
          refine Op.getN hk (by lia) ?_
          walk_at "RUN"
          refine Op.eq enc_n (by decide) trivial trivial ?_
          walk_at "RUN"
          by_cases e1 : hs.getD k 0 = one
          · rw [if_pos (decide_eq_true e1)]
            exact ⟨by rw [beq_iff_eq.mpr e1]; rfl, rfl⟩
          · rw [if_neg (by rw [decide_eq_true_iff]; exact e1)]
            walk_at "RUN"
            refine Op.getN hk (by lia) ?_
            walk_at "RUN"
            refine Op.eq enc_n (by decide) trivial trivial ?_
            walk_at "RUN"
            by_cases e2 : hs.getD k 0 = other
            · rw [if_pos (decide_eq_true e2)]
              exact ⟨by rw [beq_iff_eq.mpr e2, Bool.or_true], rfl⟩
            · rw [if_neg (by rw [decide_eq_true_iff]; exact e2)]
              walk_at "RUN"
              exact ⟨by rw [beq_eq_false_iff_ne.mpr e1, beq_eq_false_iff_ne.mpr e2]; rfl, rfl⟩
        · walk_at "RUN"
          rfl
      · refine ⟨rfl, ?_⟩
        rw [show ((List.range hs.length).filter fun k => hs.getD k 0 == one || hs.getD k 0 == other) = rowsOf hs one other from rfl]
        generalize hrows : rowsOf hs one other = rows
        have hrL : ∀ x ∈ rows, x < hs.length := fun x hx => by
          rw [← hrows] at hx
          exact List.mem_range.mp (List.mem_filter.mp hx).1
        walk_at "RUN"
        refine ⟨_, _, eFp bs rows _ h1 h2, ?_⟩
        walk_at "RUN"
        refine ⟨_, _, eFp ps rows _ h3 h4, ?_⟩
        walk_at "RUN"
        generalize hA : partners bs rows = A
        generalize hB : partners ps rows = B
        have bA : Below hs.length A := hA ▸ partners_below hrL
        have bB : Below hs.length B := hB ▸ partners_below hrL
        refine ⟨_, _, rfl, rfl, ?_⟩
        refine RunS.seq (RunS.loop nD rows (fun pre σ J => (σ "given" = .own (dD (pre.foldl (rturn one (one + other) A B) [])) ∧ WOk hs.length (one + other) (pre.foldl (rturn one (one + other) A B) [], [])) ∧ σ "ties" = .frz (.list [dD A, dD B]) ∧ σ "one" = .frz (nD one) ∧ σ "other" = .frz (nD other) ∧ σ "hands" = .frz (nL hs) ∧ J = I) ?_ ?_ ?_)
        · walk_at "RUN"
          refine ⟨_, rfl, rfl, ⟨set_same, ?_, fun x hx => (nomatch hx), fun k v hk => (nomatch hk)⟩, by walk_at "LOOK", by walk_at "LOOK", by walk_at "LOOK", by walk_at "LOOK", rfl⟩
          have := un_le hs.length []
          simpa using this
        · intro pre row post σ J e qₕ
          refine g_aaaaa qₕ fun kw k2 k3 k4 k5 eJ => g_a kw fun k1 wk => ?_
          clear qₕ kw
          subst eJ
          have hrow := hrL row (by rw [e]; simp)
          generalize hgv : pre.foldl (rturn one (one + other) A B) [] = gv at k1 wk
          refine g_a (start_ok wk hrow (Nat.le_add_right one other)) fun sk smu => ?_
          have hlen := wk.len
          dsimp only at hlen
          -- the walk
          have hw : ∀ σ', σ' "given" = .own (dD (start one row gv).1) → σ' "going" = .own (nL (start one row gv).2) → σ' "ties" = .frz (.list [dD A, dD B]) → σ' "one" = .frz (nD one) → σ' "other" = .frz (nD other) → σ' "hands" = .frz (nL hs) →
              RunS (whileN (evT (ev2 (evNameB "going") (evList []) fun x => dNe))
                      (sCons (sPop "going" fun d σ => σ.set "here" (Ent.frz d))
                        (sCons
                          (sFor "partners" (ivList (evName "ties"))
                            (sCons
                              (sIf
                                (evAnd (evT (ev2 (evNameB "here") (evNameB "partners") dIn))
                                  (evAnd
                                    (evT (ev2 (ev2 (evNameB "partners") (evName "here") dGet) (evNameB "given") dNotIn))
                                    (bvC true)))
                                (sCons
                                  (sPut "given" (ev2 (evNameB "partners") (evName "here") dGet)
                                    (ev2 (ev2 (evNameB "one") (evNameB "other") fun x => dAdd)
                                      (ev2 (evNameB "given") (evName "here") dGet) fun x => dSub))
                                  (sCons (sApp "going" (ev2 (evNameB "partners") (evName "here") dGet)) sNil))
                                sNil)
                              sNil))
                          sNil))
                      300) σ' J fun fl σ' I' => (fl = AFlow.next ∨ fl = AFlow.cont) ∧ (σ' "given" = .own (dD (rturn one (one + other) A B gv row)) ∧ WOk hs.length (one + other) (rturn one (one + other) A B gv row, [])) ∧ σ' "ties" = .frz (.list [dD A, dD B]) ∧ σ' "one" = .frz (nD one) ∧ σ' "other" = .frz (nD other) ∧ σ' "hands" = .frz (nL hs) ∧ I' = J := by
            intro σ' l1 l2 l3 l4 l5 l6
            refine RunS.while' (fun k σ' J' => ∃ st, WOk hs.length (one + other) st ∧ (mu hs.length st ≤ k ∧ k ≤ 200) ∧ walkN (one + other) A B k st = rturn one (one + other) A B gv row ∧ σ' "given" = .own (dD st.1) ∧ σ' "going" = .own (nL st.2) ∧ σ' "ties" = .frz (.list [dD A, dD B]) ∧ σ' "one" = .frz (nD one) ∧ σ' "other" = .frz (nD other) ∧ σ' "hands" = .frz (nL hs) ∧ J' = J) ?_ 200 σ' J (by decide) ⟨_, sk, ⟨by lia, by lia⟩, rfl, l1, l2, l3, l4, l5, l6, rfl⟩
            intro k σ' J' qₕ
            refine g_eaaaaaaaaa qₕ fun st ws hm2 hR l1 l2 l3 l4 l5 l6 eJ => g_a hm2 fun hmu hk2 => ?_
            clear qₕ hm2
            subst eJ
            walk_at "RUN"
            refine Op.ne (a := st.2) (b := []) enc_n.list (by decide) (fun _ _ => trivial) (fun _ _ => trivial) ?_
            walk_at "RUN"
            have hgo : st.2.length ≤ 200 := by
              have := hmu
              unfold mu at this
              lia
            cases hl : st.2.getLast? with
            | none =>
              have h0 : st.2 = [] := List.getLast?_eq_none_iff.mp hl
              refine ite_f (by simp [h0]) ?_
              have hRr : st.1 = rturn one (one + other) A B gv row := by
                rw [← hR]
                cases k with
                | zero => rfl
                | succ k => unfold walkN; rw [hl]
              refine ⟨.inl rfl, ⟨by rw [← hRr]; exact l1, ?_⟩, l3, l4, l5, l6, rfl⟩
              rw [← hRr]
              exact ⟨ws.len, fun _ hx => (nomatch hx), ws.val⟩
            | some here =>
              have h0 : st.2 ≠ [] := fun q => by rw [q] at hl; cases hl
              refine ite_t (by simp [h0]) ?_
              have hpos : 0 < st.2.length := List.length_pos_iff.mpr h0
              obtain ⟨k', rfl⟩ : ∃ k', k = k' + 1 := ⟨k - 1, by unfold mu at hmu; lia⟩
              refine ⟨k', rfl, ?_⟩
              have hh : (nget st.1 here).isSome = true := ws.go here (List.mem_of_getLast? hl)
              have w0 : WOk hs.length (one + other) (st.1, st.2.dropLast) := ⟨ws.len, fun x hx => ws.go x (List.dropLast_subset _ hx), ws.val⟩
              have m0 : mu hs.length (st.1, st.2.dropLast) + 1 ≤ mu hs.length st := by unfold mu; simp; lia
              refine RunS.seq (RunS.pop l2 (d := nD here) (by rw [List.getLast?_map, hl]; rfl) (by simp; lia) ⟨rfl, RunS.last ?_⟩)
              refine RunS.loop dD [A, B] (fun pr σ' K' => (σ' "given" = .own (dD (pr.foldl (tstep (one + other) here) (st.1, st.2.dropLast)).1) ∧ σ' "going" = .own (nL (pr.foldl (tstep (one + other) here) (st.1, st.2.dropLast)).2)) ∧ (WOk hs.length (one + other) (pr.foldl (tstep (one + other) here) (st.1, st.2.dropLast)) ∧ mu hs.length (pr.foldl (tstep (one + other) here) (st.1, st.2.dropLast)) + 1 ≤ mu hs.length st ∧ (nget (pr.foldl (tstep (one + other) here) (st.1, st.2.dropLast)).1 here).isSome = true) ∧ σ' "here" = .frz (nD here) ∧ σ' "ties" = .frz (.list [dD A, dD B]) ∧ σ' "one" = .frz (nD one) ∧ σ' "other" = .frz (nD other) ∧ σ' "hands" = .frz (nL hs) ∧ K' = J') ?_ ?_ ?_
              · walk_at "RUN"
                refine ⟨_, rfl, rfl, ⟨by walk_at "LOOK", ?_⟩, ⟨w0, m0, hh⟩, set_same, by walk_at "LOOK", by walk_at "LOOK", by walk_at "LOOK", by walk_at "LOOK", rfl⟩
                refine set_ne (by decide +kernel) ?_
                rw [set_same]
                show Ent.own (.list (List.map nD st.2).dropLast) = Ent.own (.list (List.map nD st.2.dropLast))
                rw [List.map_dropLast]
              · intro pr P ps' σ' J' e' qₕ
                refine g_aaaaaaa qₕ fun na nb n3 n4 n5 n6 n7 eJ => g_a na fun n1 n2 => g_aa nb fun w1 m1 g1' => ?_
                clear qₕ na nb
                subst eJ
                have hP : Below hs.length P := by
                  have hm : P ∈ [A, B] := by rw [e']; simp
                  simp only [List.mem_cons, List.not_mem_nil, or_false] at hm
                  rcases hm with rfl | rfl
                  · exact bA
                  · exact bB
                refine g_aa (w1.tstep hP g1') fun w2 m2 g2' => ?_
                rw [List.foldl_append]
                show RunS _ _ _ fun fl σ' I' => _ ∧ (σ' "given" = .own (dD (tstep (one + other) here _ P).1) ∧ σ' "going" = .own (nL (tstep (one + other) here _ P).2)) ∧ (WOk _ _ (tstep (one + other) here _ P) ∧ mu _ (tstep (one + other) here _ P) + 1 ≤ _ ∧ (nget (tstep (one + other) here _ P).1 here).isSome = true) ∧ _
                generalize pr.foldl (tstep (one + other) here) (st.1, st.2.dropLast) = s1 at n1 n2 w1 m1 g1' w2 m2 g2'
                refine RunS.gen fun Q' hQ => ?_
                have hsl := w1.len
                have hgl : s1.2.length ≤ 1000 := by unfold mu at m1 hmu; lia
                walk_at "RUN"
                refine Op.inD ?_
                walk_at "RUN"
                cases hp : nget P here with
                | none =>
                  have ht : tstep (one + other) here s1 P = s1 := by unfold tstep; rw [hp]
                  rw [ht] at w2 m2 g2' hQ
                  rw [if_neg (by simp), if_neg Bool.false_ne_true]
                  walk_at "RUN"
                  exact hQ _ _ _ ⟨.inl rfl, ⟨by walk_at "LOOK", by walk_at "LOOK"⟩, ⟨w2, by lia, g2'⟩, by walk_at "LOOK", by walk_at "LOOK", by walk_at "LOOK", by walk_at "LOOK", by walk_at "LOOK", rfl⟩
                | some p =>
                  refine ite_t (show (some p).isSome = true from rfl) ?_
                  walk_at "RUN"
                  refine Op.getD hp ?_
                  walk_at "RUN"
                  refine Op.notInD ?_
                  walk_at "RUN"
                  cases hq : nget s1.1 p with
                  | some q =>
                    have ht : tstep (one + other) here s1 P = s1 := by unfold tstep; rw [hp]; dsimp only; rw [hq]; rfl
                    rw [ht] at w2 m2 g2' hQ
                    rw [if_neg (by simp), if_neg Bool.false_ne_true]
                    walk_at "RUN"
                    exact hQ _ _ _ ⟨.inl rfl, ⟨by walk_at "LOOK", by walk_at "LOOK"⟩, ⟨w2, by lia, g2'⟩, by walk_at "LOOK", by walk_at "LOOK", by walk_at "LOOK", by walk_at "LOOK", by walk_at "LOOK", rfl⟩
                  | none =>
                    refine g_e (Option.isSome_iff_exists.mp g1') fun v hv => ?_
                    have hvs := w1.val _ _ hv
                    have ht : tstep (one + other) here s1 P = (nput s1.1 p (one + other - v), s1.2 ++ [p]) := by unfold tstep; rw [hp]; dsimp only; rw [hq, hv]; rfl
                    rw [ht] at w2 m2 g2' hQ
                    refine ite_t (by simp) ?_
                    refine RunT.c ?_
                    refine ite_t rfl ?_
                    walk_at "RUN"
                    refine Op.getD hv ?_
                    walk_at "RUN"
                    rw [show ((one : Int) + other - v) = ((one + other - v : Nat) : Int) by lia]
                    refine Op.getD hp ?_
                    refine ⟨_, by walk_at "LOOK", ?_⟩
                    refine Op.putD (by lia) ?_
                    walk_at "RUN"
                    refine Op.getD hp ?_
                    refine ⟨_, by walk_at "LOOK", by simpa using hgl, ?_⟩
                    exact hQ _ _ _ ⟨.inl rfl, ⟨by walk_at "LOOK", by rw [set_same]; simp⟩, ⟨w2, by lia, g2'⟩, by walk_at "LOOK", by walk_at "LOOK", by walk_at "LOOK", by walk_at "LOOK", by walk_at "LOOK", rfl⟩
              · intro σ' J' qₕ
                refine g_aaaaaaa qₕ fun na nb n3 n4 n5 n6 n7 eJ => g_a na fun n1 n2 => g_aa nb fun w1 m1 g1' => ?_
                clear qₕ na nb
                subst eJ
                refine ⟨rfl, _, w1, ⟨by lia, by lia⟩, ?_, n1, n2, n4, n5, n6, n7, rfl⟩
                rw [← hR]
                have hu : walkN (one + other) A B (k' + 1) st = walkN (one + other) A B k' ([A, B].foldl (tstep (one + other) here) (st.1, st.2.dropLast)) := by
                  show (match st.2.getLast? with | none => st.1 | some here => walkN (one + other) A B k' ([A, B].foldl (tstep (one + other) here) (st.1, st.2.dropLast))) = _
                  rw [hl]
                exact hu.symm
          rw [List.foldl_append]
          show RunS _ _ _ fun fl σ' I' => _ ∧ (σ' "given" = .own (dD (rturn one (one + other) A B (pre.foldl (rturn one (one + other) A B) []) row)) ∧ WOk _ _ (rturn one (one + other) A B (pre.foldl (rturn one (one + other) A B) []) row, [])) ∧ _
          rw [hgv]
          refine RunS.gen fun Q' hQ => ?_
          walk_at "RUN"
          refine RunS.seq (RunS.ite ?_)
          walk_at "RUN"
          refine Op.notInD ?_
          walk_at "RUN"
          cases hq : nget gv row with
          | some q =>
            have hst : start one row gv = (gv, []) := by unfold start; rw [hq]; rfl
            rw [hst] at hw
            refine ite_f (by simp) ?_
            walk_at "RUN"
            exact RunS.last (RunS.mono (hw _ (by walk_at "LOOK") set_same (by walk_at "LOOK") (by walk_at "LOOK") (by walk_at "LOOK") (by walk_at "LOOK")) hQ)
          | none =>
            have hst : start one row gv = (nput gv row one, [row]) := by unfold start; rw [hq]; rfl
            rw [hst] at hw
            refine ite_t (by simp) ?_
            walk_at "RUN"
            refine ⟨_, by walk_at "LOOK", ?_⟩
            refine Op.putD (by lia) ?_
            walk_at "RUN"
            refine ⟨_, by walk_at "LOOK", by simp, ?_⟩
            exact ⟨rfl, RunS.last (RunS.mono (hw _ (by walk_at "LOOK") set_same (by walk_at "LOOK") (by walk_at "LOOK") (by walk_at "LOOK") (by walk_at "LOOK")) hQ)⟩
        · intro σ J qₕ
          refine g_aaaaa qₕ fun kw k2 k3 k4 k5 eJ => g_a kw fun k1 wk => ?_
          clear qₕ kw
          subst eJ
          refine ⟨rfl, RunS.last (RunS.frz1 k1 (RunS.ret ?_))⟩
          refine RunE.map nD (fun k => nD ((nget (rows.foldl (rturn one (one + other) A B) []) k).getD (hs.getD k 0))) (List.range hs.length) (by simpa using h5) ?_ ?_ ?_
          · walk_at "RUN"
            refine Op.lenL (by simp; lia) ?_
            rw [List.length_map]
            walk_at "RUN"
            exact Op.rng1 (by lia) ⟨rngL_n _, rfl⟩
          · intro k hk
            have hk := List.mem_range.mp hk
            refine ⟨_, rfl, ?_⟩
            walk_at "RUN"
            refine Op.inD ?_
            walk_at "RUN"
            cases hx : nget (rows.foldl (rturn one (one + other) A B) []) k with
            | none =>
              refine ite_f (by simp) ?_
              walk_at "RUN"
              refine Op.getN hk (by lia) ?_
              exact ⟨rfl, rfl⟩
            | some v =>
              refine ite_t (show (some v).isSome = true from rfl) ?_
              walk_at "RUN"
              refine Op.getD hx ?_
              exact ⟨rfl, rfl⟩
          · refine ⟨?_, rfl⟩
            unfold anew givenOf
            rw [hrows, hA, hB]
            show AFlow.ret (.list _) = AFlow.ret (.list (List.map nD (List.map _ _)))
            rw [List.map_map]
            rfl
  refine g_ea h fun f hs he => ?_
  refine ⟨runF ["blocks", "packages", "hands", "one", "other"] f, SoundF.of (def_anew ok) (by decide +kernel) (by decide +kernel) (fun s vs hv => ?_) hs, fun bs ps hs one other I h1 h2 h3 h4 h5 => runF_ret rfl (he bs ps hs one other I h1 h2 h3 h4 h5)⟩
  refine g_eeeee (len5 hv) fun a b c d e q5ₑ => ?_
  subst q5ₑ
  exact BindsTo.of_eq (by kernel_rfl)

-- W04

-- what a re-dealing keeps

set_option tactic.hygienic true in
theorem walkN_vals {s : Nat} {A B : ND} {p : Nat → Prop} (hp : ∀ v, p v → p (s - v)) : ∀ (n : Nat) (st : ND × List Nat), (∀ x ∈ st.2, (nget st.1 x).isSome = true) → (∀ k v, nget st.1 k = some v → p v) → ∀ k v, nget (walkN s A B n st) k = some v → p v
  | 0, st, _, h => h
  | n + 1, st, hg, h => by
    unfold walkN
    cases hl : st.2.getLast? with
    | none => exact h
    | some here =>
      have step : ∀ (st' : ND × List Nat) (P : ND), (∀ x ∈ st'.2, (nget st'.1 x).isSome = true) ∧ (nget st'.1 here).isSome = true ∧ (∀ k v, nget st'.1 k = some v → p v) →
          (∀ x ∈ (tstep s here st' P).2, (nget (tstep s here st' P).1 x).isSome = true) ∧ (nget (tstep s here st' P).1 here).isSome = true ∧ (∀ k v, nget (tstep s here st' P).1 k = some v → p v) := by
        intro st' P qₕ
        refine g_aa qₕ fun a b c => ?_
        unfold tstep
        split
        · exact ⟨a, b, c⟩
        · rename_i q hq
          split
          · exact ⟨a, b, c⟩
          · refine g_e (Option.isSome_iff_exists.mp b) fun v hv => ?_
            refine ⟨fun x hx => ?_, ?_, fun k w hw => ?_⟩
            · dsimp only at hx ⊢
              rw [nget_nput]
              split
              · rfl
              · rename_i hne
                rcases List.mem_append.mp hx with z | z
                · exact a x z
                · exact absurd (by simpa using z) hne
            · dsimp only; rw [nget_nput]; split
              · rfl
              · exact b
            · dsimp only at hw
              rw [nget_nput] at hw
              split at hw
              · cases hw; rw [hv]; exact hp _ (c _ _ hv)
              · exact c _ _ hw
      have h0 := step (st.1, st.2.dropLast) A ⟨fun x hx => hg x (List.dropLast_subset _ hx), hg here (List.mem_of_getLast? hl), h⟩
      have h1 := step _ B h0
      exact walkN_vals hp n _ h1.1 h1.2.2
set_option tactic.hygienic true in
theorem given_vals {bs ps : List (List Nat)} {hs : List Nat} {one other : Nat} : ∀ k v, nget (givenOf bs ps hs one other) k = some v → v = one ∨ v = other := by
  unfold givenOf
  generalize rowsOf hs one other = rows
  generalize partners bs rows = A
  generalize partners ps rows = B
  have key : ∀ (rows : List Nat) (d : ND), (∀ k v, nget d k = some v → v = one ∨ v = other) → ∀ k v, nget (rows.foldl (rturn one (one + other) A B) d) k = some v → v = one ∨ v = other := by
    intro rows
    induction rows with
    | nil => intro d h; exact h
    | cons r rows ih =>
      intro d h
      refine (List.foldl_cons) ▸ ?_
      refine ih _ ?_
      unfold rturn
      refine walkN_vals (p := fun v => v = one ∨ v = other) (fun v hv => by lia) 200 _ (fun x hx => ?_) fun k v hk => ?_
      · unfold start at hx ⊢
        split at hx
        · cases hx
        · rename_i hn
          refine (if_neg hn) ▸ ?_
          have : x = r := by simpa using hx
          subst this
          dsimp only
          rw [nget_nput, if_pos rfl]; rfl
      · unfold start at hk
        split at hk
        · exact h _ _ hk
        · dsimp only at hk
          rw [nget_nput] at hk
          split at hk
          · cases hk; exact .inl rfl
          · exact h _ _ hk
  exact key rows [] fun k v hk => by cases hk
theorem anew_len (bs ps : List (List Nat)) (hs : List Nat) (one other : Nat) : (anew bs ps hs one other).length = hs.length := by unfold anew; simp
theorem anew_lt {bs ps : List (List Nat)} {hs : List Nat} {one other m : Nat} (h : ∀ x ∈ hs, x < m) (h1 : one < m) (h2 : other < m) : ∀ x ∈ anew bs ps hs one other, x < m := fun x hx => by
  unfold anew at hx
  refine g_ea (List.mem_map.mp hx) fun k hk q2ₑ => ?_
  subst q2ₑ
  have hk := List.mem_range.mp hk
  cases hv : nget (givenOf bs ps hs one other) k with
  | none => exact h _ (by rw [List.getD_eq_getElem?_getD, List.getElem?_eq_getElem hk]; exact List.getElem_mem _)
  | some v =>
    show v < m
    rcases given_vals k v hv with rfl | rfl
    · exact h1
    · exact h2
theorem uneven_two {gs : List (List Nat)} {hs : List Nat} {m : Nat} (hm : 0 < m) : uneven gs hs m = [] ∨ ∃ a b, uneven gs hs m = [a, b] ∧ a < m ∧ b < m := by
  unfold uneven
  cases h : gs.findSome? fun g => unevenIn (counts g hs m) with
  | none => exact .inl rfl
  | some r =>
    refine g_ea (List.exists_of_findSome?_eq_some h) fun g _ hg => ?_
    unfold unevenIn at hg
    split at hg
    · cases hg
      have hl := counts_len g hs m
      refine .inr ⟨_, _, rfl, ?_, ?_⟩
      · have := List.idxOf_lt_length_of_mem (mx_mem (l := counts g hs m) (by lia)); lia
      · have := List.idxOf_lt_length_of_mem (mn_mem (l := counts g hs m) (by lia)); lia
    · exact none_ne hg

-- _law_shared

theorem def_shared (ok : GOk G) : DefOk G 195 (fdat "_law_shared" "_law_shared" (fI 20) .none vLw 194) (fI 20).2.2 (fI 20).2.1 := defOk ok 12 rfl rfl (by decide +kernel)

noncomputable def hands0 (size m : Nat) : List Nat := (List.range size).map (· % m)
noncomputable def shareN (bs ps : List (List Nat)) (m : Nat) : Nat → List Nat → Option (List Nat)
  | 0, _ => none
  | n + 1, hs => match uneven (bs ++ ps) hs m with
    | a :: b :: _ => shareN bs ps m n (anew bs ps hs a b)
    | _ => some hs

theorem fmod_n (k m : Nat) : (k : Int).fmod (m : Int) = ((k % m : Nat) : Int) := by
  rw [Int.fmod_eq_emod_of_nonneg _ (Int.natCast_nonneg m)]; rfl

set_option maxHeartbeats 2000000 in
theorem T_shared (ok : GOk G) : ∃ F, SoundF G 6 195 F ∧ ∀ (bs ps : List (List Nat)) (size m : Nat) (r : List Nat) I, 0 < m → m ≤ 1000 → size ≤ 64 → bs.length ≤ 64 → (∀ g ∈ bs, g.length ≤ 64 ∧ ∀ k ∈ g, k < size) → ps.length ≤ 64 → (∀ g ∈ ps, g.length ≤ 64 ∧ ∀ k ∈ g, k < size) →
    shareN bs ps m 4000 (hands0 size m) = some r → F [nLL bs, nLL ps, nD size, nD m] I = some (nL r, I) := by
  refine g_ea (T_uneven ok) fun Fu hFu eFu => ?_
  refine g_ea (T_anew ok) fun Fa hFa eFa => ?_
  have h : ∃ f, SoundSs G 5 (fI 20).2.2 (fI 20).2.1 f ∧ ∀ (bs ps : List (List Nat)) (size m : Nat) (r : List Nat) I, 0 < m → m ≤ 1000 → size ≤ 64 → bs.length ≤ 64 → (∀ g ∈ bs, g.length ≤ 64 ∧ ∀ k ∈ g, k < size) → ps.length ≤ 64 → (∀ g ∈ ps, g.length ≤ 64 ∧ ∀ k ∈ g, k < size) →
      shareN bs ps m 4000 (hands0 size m) = some r →
      RunS f (sto0 ["blocks", "packages", "size", "many"] [.frz (nLL bs), .frz (nLL ps), .frz (nD size), .frz (nD m)]) I fun fl _ J => fl = .ret (nL r) ∧ J = I := by
    have g2 := g_range ok (sc := (fI 20).2.2)
    have g3 := gL_uneven ok (sc := (fI 20).2.2)
    have g4 := gL_anew ok (sc := (fI 20).2.2)
    refine g_ea ((def_uneven ok).at_) fun o3 ho3 hfd3 => ?_
    refine g_ea ((def_anew ok).at_) fun o4 ho4 hfd4 => ?_
    have hFu5 := hFu.le (Nat.le_succ 4)
    apply Exists.intro
    constructor
    · repeat' (first
        | refine' SoundE.call g3 ho3 hfd3 hFu5 ?_
        | refine' SoundE.call g4 ho4 hfd4 hFa ?_
        | refine' SoundS.while' 5000 ?_ ?_
        | walk_at "STEP")
    · intro bs ps size m r I hm0 hm hsz hb hbg hp hpg hr
      have hnz : (m : Int) ≠ 0 := by lia
      have hz0 : (hands0 size m).length = size := by unfold hands0; simp
      have hz1 : ∀ x ∈ hands0 size m, x < m := fun x hx => by
        unfold hands0 at hx
        refine g_ea (List.mem_map.mp hx) fun k _ q2ₑ => ?_
        subst q2ₑ
        exact Nat.mod_lt _ hm0
      have hgs : ∀ g ∈ bs ++ ps, g.length ≤ 1000 ∧ ∀ k ∈ g, k < size := fun g hg => by
        rcases List.mem_append.mp hg with q | q
        · exact ⟨Nat.le_trans (hbg g q).1 (by decide), (hbg g q).2⟩
        · exact ⟨Nat.le_trans (hpg g q).1 (by decide), (hpg g q).2⟩
      have happ : (List.map nL bs ++ List.map nL ps) = List.map nL (bs ++ ps) := (List.map_append ..).symm
      refine RunS.seq (RunS.set (RunE.map nD (fun k => nD (k % m)) (List.range size) (by simpa using hsz) ?_ ?_ ?_))
      · walk_at "RUN"
        exact Op.rng1 (by lia) ⟨rngL_n _, rfl⟩
      · intro k hk
        refine ⟨_, rfl, ?_⟩
        walk_at "RUN"
        refine Op.modI hnz ?_
        rw [fmod_n]
        exact ⟨rfl, rfl⟩
      · refine ⟨rfl, ?_⟩
        rw [show (List.range size).map (fun k => nD (k % m)) = List.map nD (hands0 size m) by unfold hands0; rw [List.map_map]; rfl]
        walk_at "RUN"
        refine Op.addL (by simp; lia) ?_
        refine (happ) ▸ ?_
        walk_at "RUN"
        refine ⟨_, _, eFu (bs ++ ps) (hands0 size m) m _ hm0 hm (by lia) (by rw [hz0]; exact hgs) hz1, ?_⟩
        refine ⟨rfl, RunS.seq (RunS.while' (fun k σ J => ∃ hs, (hs.length = size ∧ ∀ x ∈ hs, x < m) ∧ shareN bs ps m (k + 1) hs = some r ∧ σ "hands" = .frz (nL hs) ∧ σ "pair" = .frz (nL (uneven (bs ++ ps) hs m)) ∧ σ "blocks" = .frz (nLL bs) ∧ σ "packages" = .frz (nLL ps) ∧ σ "many" = .frz (nD m) ∧ J = I) ?_ 3999 _ I (by decide)
          ⟨_, ⟨hz0, hz1⟩, hr, by walk_at "LOOK", set_same, by walk_at "LOOK", by walk_at "LOOK", by walk_at "LOOK", rfl⟩)⟩
        intro k σ J qₕ
        refine g_eaaaaaaa qₕ fun hs q1ₜ hR k1 k2 k3 k4 k5 q8ₑ => ?_
        clear qₕ
        obtain ⟨l0, l1⟩ := q1ₜ
        subst q8ₑ
        walk_at "RUN"
        refine Op.ne (a := uneven (bs ++ ps) hs m) (b := []) enc_n.list (by decide) (fun _ _ => trivial) (fun _ _ => trivial) ?_
        walk_at "RUN"
        unfold shareN at hR
        rcases uneven_two (gs := bs ++ ps) (hs := hs) hm0 with e | ⟨a, b, e, ha, hb'⟩
        · rw [e] at hR
          refine ite_f (by simp [e]) ?_
          cases hR
          refine ⟨rfl, ?_⟩
          walk_at "RUN"
          rfl
        · rw [e] at hR k2
          refine ite_t (by simp [e]) ?_
          dsimp only at hR
          cases k with
          | zero => cases hR
          | succ k =>
            refine ⟨k, rfl, ?_⟩
            walk_at "RUN"
            refine Op.getN (l := [a, b]) (k := 0) (by simp) (by simp) ?_
            walk_at "RUN"
            refine Op.getN (l := [a, b]) (k := 1) (by simp) (by simp) ?_
            walk_at "RUN"
            refine ⟨_, _, eFa bs ps hs a b _ hb (fun g hg => (hbg g hg).1) hp (fun g hg => (hpg g hg).1) (by lia), ?_⟩
            walk_at "RUN"
            refine Op.addL (by simp; lia) ?_
            refine (happ) ▸ ?_
            walk_at "RUN"
            have al := anew_len bs ps hs a b
            have av := anew_lt (bs := bs) (ps := ps) l1 ha hb'
            refine ⟨_, _, eFu (bs ++ ps) (anew bs ps hs a b) m _ hm0 hm (by lia) (by rw [al, l0]; exact hgs) av, ?_⟩
            exact ⟨rfl, _, ⟨by lia, av⟩, hR, by walk_at "LOOK", set_same, by walk_at "LOOK", by walk_at "LOOK", by walk_at "LOOK", rfl⟩
  refine g_ea h fun f hs he => ?_
  clear h
  refine ⟨runF ["blocks", "packages", "size", "many"] f, SoundF.of (def_shared ok) (by decide +kernel) (by decide +kernel) (fun s vs hv => ?_) hs, fun bs ps size m r I h0 h1 h2 h3 h4 h5 h6 h7 => runF_ret rfl (he bs ps size m r I h0 h1 h2 h3 h4 h5 h6 h7)⟩
  refine g_eeee (len4 hv) fun a b c d q4ₑ => ?_
  subst q4ₑ
  exact BindsTo.of_eq (by kernel_rfl)

-- W05

-- leads

noncomputable def sg (b : Bool) : Nat := if b then 9 else 32
noncomputable def sB (l : List Bool) : Str := tx (l.map sg)
noncomputable abbrev bL (l : List (List Bool)) : Dat := .list (l.map fun b => .str (sB b))
noncomputable def colStep (s c : Nat) (b : Bool) : Nat := if b then c + s - c % s else c + 1
noncomputable def col (s : Nat) (l : List Bool) : Nat := l.foldl (colStep s) 0

-- _law_column

theorem def_column (ok : GOk G) : DefOk G 202 (fdat "_law_column" "_law_column" (fI 21) .none vLw 201) (fI 21).2.2 (fI 21).2.1 := defOk ok 13 rfl rfl (by decide +kernel)

set_option maxHeartbeats 1000000 in
theorem T_column (ok : GOk G) : ∃ F, SoundF G 2 202 F ∧ ∀ (l : List Bool) (s : Nat) I, 0 < s → F [.str (sB l), nD s] I = some (nD (col s l), I) := by
  have h : ∃ f, SoundSs G 1 (fI 21).2.2 (fI 21).2.1 f ∧ ∀ (l : List Bool) (s : Nat) I, 0 < s →
      RunS f (sto0 ["lead", "size"] [.frz (.str (sB l)), .frz (nD s)]) I fun fl _ J => fl = .ret (nD (col s l)) ∧ J = I := by
    apply Exists.intro
    constructor
    · repeat' (first
        | refine' SoundI.str ?_
        | walk_at "STEP")
    · intro l s I hs
      walk_at "RUN"
      refine RunS.seq (RunS.loop (fun b => .str (tx [sg b])) l (fun pre σ J => σ "column" = .frz (nD (col s pre)) ∧ σ "size" = .frz (nD s) ∧ J = I) ?_ ?_ ?_)
      · refine RunI.str ?_
        walk_at "RUN"
        refine ⟨_, rfl, ?_, set_same, by walk_at "LOOK", rfl⟩
        unfold sB tx
        simp
      · intro pre a post σ _ _ qₕ
        refine g_aa qₕ fun h1 h2 q2ₑ => ?_
        clear qₕ
        subst q2ₑ
        walk_at "RUN"
        refine Op.eq enc_s (by decide) (by cases a <;> decide +kernel) (by decide +kernel) ?_
        walk_at "RUN"
        have hc : col s (pre ++ [a]) = colStep s (col s pre) a := by unfold col; rw [List.foldl_append]; rfl
        refine (hc) ▸ ?_
        have hz : (s : Int) ≠ 0 := by lia
        cases a with
        | false =>
          refine ite_t (by decide +kernel) ?_
          walk_at "RUN"
          exact ⟨.inl rfl, set_same, by walk_at "LOOK", rfl⟩
        | true =>
          refine ite_f (by decide +kernel) ?_
          walk_at "RUN"
          refine Op.modI hz ?_
          rw [fmod_n]
          walk_at "RUN"
          refine ⟨.inl rfl, ?_, by walk_at "LOOK", rfl⟩
          have hm := Nat.mod_le (col s pre) s
          have e : ((col s pre : Int) + (s : Int) - ((col s pre % s : Nat) : Int)) = ((colStep s (col s pre) true : Nat) : Int) := by
            unfold colStep; rw [if_pos rfl]; lia
          refine (e) ▸ ?_
          exact set_same
      · intro σ _ qₕ
        refine g_aa qₕ fun h1 h2 q2ₑ => ?_
        clear qₕ
        subst q2ₑ
        refine ⟨rfl, ?_⟩
        walk_at "RUN"
        rfl
  refine g_ea h fun f hs he => ?_
  clear h
  refine ⟨runF ["lead", "size"] f, SoundF.of (def_column ok) (by decide +kernel) (by decide +kernel) (fun s vs hv => ?_) hs, fun l s I h0 => runF_ret rfl (he l s I h0)⟩
  refine g_ee (len2 hv) fun a b q2ₑ => ?_
  subst q2ₑ
  exact BindsTo.of_eq (by kernel_rfl)

-- _law_outline

theorem def_outline (ok : GOk G) : DefOk G 207 (fdat "_law_outline" "_law_outline" (fI 22) .none vLw 206) (fI 22).2.2 (fI 22).2.1 := defOk ok 14 rfl rfl (by decide +kernel)

noncomputable def colsOf (l : List Bool) : List Nat := (rg 1 7).map fun s => col s l
noncomputable def lessC (a b : List Bool) : Bool := (rg 1 7).all fun s => decide (col s a < col s b)
noncomputable def deeper (ls : List (List Bool)) (i : Nat) : List Nat := (rg (i + 1) ls.length).filter fun j => lessC (ls.getD i []) (ls.getD j [])
noncomputable def outl (ls : List (List Bool)) (i : Nat) : List Nat := i :: (deeper ls i).filter fun j => (rg (i + 1) j).all fun k => decide (k ∈ deeper ls i)
noncomputable def outline (ls : List (List Bool)) : List (List Nat) := (List.range ls.length).map (outl ls)

theorem Op.notIn_ {α : Type} [DecidableEq α] {f : α → Dat} {g : α → PyData} {k : Nat} {p : α → Prop} {K : Dat → Prop} (E : Enc f g k p) (hk : k ≤ 64) {I : MSt} {a : α} {l : List α} (ha : p a) (hl : ∀ b ∈ l, p b) (q : K (.bool (!decide (a ∈ l)))) : Op (dNotIn I (f a) (.list (l.map f))) K := ⟨_, congrArg (Option.map fun b => Dat.bool (!b)) (E.inB hk ha hl), q⟩

theorem filter_nil_all {α : Type} (l : List α) (p : α → Bool) : decide (l.filter (fun a => !p a) = []) = l.all p := by
  induction l with
  | nil => rfl
  | cons a l ih => cases h : p a <;> simp [h] <;> simp at ih <;> exact ih

theorem colsOf_len (l : List Bool) : (colsOf l).length = 6 := by unfold colsOf; rw [List.length_map, rg_len]
theorem get_map {α : Type} (f : α → Dat) (ls : List α) (i : Nat) (h : i < ls.length) (d : α) : (ls.map f)[i]? = some (f (ls.getD i d)) := by
  rw [List.getElem?_map, List.getD_eq_getElem?_getD, List.getElem?_eq_getElem h]; rfl
theorem zip_n : ∀ as bs : List Nat, zipD (as.map nD) (bs.map nD) = (as.zip bs).map fun p => .tup [nD p.1, nD p.2]
  | [], _ => rfl
  | _ :: _, [] => rfl
  | a :: as, b :: bs => congrArg (Dat.tup [nD a, nD b] :: ·) (zip_n as bs)
theorem lessC_eq (a b : List Bool) : decide ((((colsOf a).zip (colsOf b)).filter fun p => !decide (p.1 < p.2)).map (·.1) = []) = lessC a b := by
  rw [show decide ((((colsOf a).zip (colsOf b)).filter fun p => !decide (p.1 < p.2)).map (·.1) = []) = decide ((((colsOf a).zip (colsOf b)).filter fun p => !decide (p.1 < p.2)) = []) from decide_eq_decide.mpr List.map_eq_nil_iff, filter_nil_all]
  unfold lessC colsOf
  rw [List.zip_map', List.all_map]
  rfl

set_option maxHeartbeats 2000000 in
theorem T_outline (ok : GOk G) : ∃ F, SoundF G 3 207 F ∧ ∀ (ls : List (List Bool)) I, ls.length ≤ 64 → F [bL ls] I = some (nLL (outline ls), I) := by
  refine g_ea (T_column ok) fun Fc hFc eFc => ?_
  have h : ∃ f, SoundSs G 2 (fI 22).2.2 (fI 22).2.1 f ∧ ∀ (ls : List (List Bool)) I, ls.length ≤ 64 →
      RunS f (sto0 ["leads"] [.frz (bL ls)]) I fun fl _ J => fl = .ret (nLL (outline ls)) ∧ J = I := by
    have g2 := g_len ok (sc := (fI 22).2.2)
    refine g_ea ((def_column ok).at_) fun o ho hfd => ?_
    apply Exists.intro
    constructor
    · repeat' (first
        | apply SoundS.own (x := "blocks")
        | apply SoundO.list
        | apply SoundS.freeze ["blocks"] (SoundS.ret _)
        | refine' SoundE.call (gL_column ok (by decide +kernel)) ho hfd hFc ?_
        | refine' SoundI.range (SoundR.mk' (g_range ok (by decide +kernel)) ?_)
        | refine' SoundE.compC (SoundC.one (by decide +kernel) (SoundIt.zip (by decide +kernel) (by decide +kernel) (g_zip ok (by decide +kernel)) ?_) ?_ ?_)
        | walk_at "STEP")
    · intro ls I hl
      refine RunS.seq (RunS.set (RunE.map (fun b => .str (sB b)) (fun l => nL (colsOf l)) ls hl ?_ ?_ ?_))
      · walk_at "RUN"
        exact ⟨_, rfl, rfl, rfl⟩
      · intro l _
        refine ⟨_, rfl, RunE.map nD (fun s => nD (col s l)) (rg 1 7) (by decide) ?_ (fun s hs => ⟨_, rfl, ?_⟩) ⟨congrArg Dat.list (by unfold colsOf; rw [List.map_map]; rfl), rfl⟩⟩
        · walk_at "RUN"
          exact Op.rngE 1 7 rfl rfl (by decide) (by decide) ⟨rngL_rg 1 7, rfl⟩
        · walk_at "RUN"
          exact ⟨_, _, eFc l s _ (by have := mem_rg.mp hs; lia), rfl, rfl⟩
      refine ⟨rfl, ?_⟩
      walk_at "RUN"
      refine RunS.seq (RunS.loop nD (List.range ls.length) (fun pre σ J => σ "blocks" = .own (.list (pre.map fun i => nL (outl ls i))) ∧ σ "leads" = .frz (bL ls) ∧ σ "columns" = .frz (.list (ls.map fun l => nL (colsOf l))) ∧ J = I) ?_ ?_ ?_)
      · walk_at "RUN"
        refine Op.lenL (by simp; lia) ?_
        rw [List.length_map]
        walk_at "RUN"
        exact Op.rng1 (by lia) ⟨rngL_n _, set_same, by walk_at "LOOK", by walk_at "LOOK", rfl⟩
      · intro pre i post σ _ el qₕ
        refine g_aaa qₕ fun h1 h2 h3 q3ₑ => ?_
        clear qₕ
        subst q3ₑ
        have hi : i < ls.length := List.mem_range.mp (by rw [el]; simp)
        have hpl : pre.length ≤ 64 := by have := congrArg List.length el; simp at this; lia
        refine RunS.gen fun Q' hQ => ?_
        refine RunS.seq (RunS.set (RunE.filter nD nD (fun j => lessC (ls.getD i []) (ls.getD j [])) (rg (i + 1) ls.length) (by rw [rg_len]; lia) ?_ ?_ ?_))
        · walk_at "RUN"
          refine Op.lenL (by simp; lia) ?_
          rw [List.length_map]
          walk_at "RUN"
          exact Op.rngE (i + 1) ls.length rfl rfl (by lia) (by lia) ⟨rngL_rg _ _, rfl⟩
        · intro j hj
          have hj := (mem_rg.mp hj).2
          refine ⟨_, rfl, ?_, fun _ => ?_⟩
          · walk_at "RUN"
            refine RunE.filter (fun p : Nat × Nat => .tup [nD p.1, nD p.2]) (fun p => nD p.1) (fun p => !decide (p.1 < p.2)) ((colsOf (ls.getD i [])).zip (colsOf (ls.getD j []))) ?_ ?_ ?_ ?_
            · rw [List.length_zip, colsOf_len, colsOf_len]; decide
            · refine RunI.zip ?_
              walk_at "RUN"
              refine Op.get (get_map _ ls i hi []) (by simp; lia) ?_
              walk_at "RUN"
              refine Op.get (get_map _ ls j hj []) (by simp; lia) ?_
              walk_at "RUN"
              exact ⟨_, _, rfl, zip_n _ _, rfl⟩
            · rintro ⟨a, b⟩ _
              refine ⟨_, rfl, ?_, fun _ => ?_⟩
              · walk_at "RUN"
                refine ⟨?_, rfl⟩
                show decide ((a : Int) ≥ (b : Int)) = !decide (a < b)
                rw [← decide_not]
                exact decide_eq_decide.mpr (by lia)
              · walk_at "RUN"
                rfl
            · walk_at "RUN"
              rw [show ∀ L : List (Nat × Nat), List.map (fun p => nD p.1) L = (L.map (·.1)).map nD from fun L => by rw [List.map_map]; rfl]
              refine Op.eq (a := (List.filter _ _).map Prod.fst) (b := []) enc_n.list (by decide) (fun _ _ => trivial) (fun _ _ => trivial) ?_
              walk_at "RUN"
              exact ⟨lessC_eq _ _, rfl⟩
          · walk_at "RUN"
            rfl
        refine ⟨rfl, ?_⟩
        walk_at "RUN"
        refine RunE.filter nD nD (fun j => (rg (i + 1) j).all fun k => decide (k ∈ deeper ls i)) (deeper ls i) ?_ ?_ ?_ ?_
        · exact Nat.le_trans (List.length_filter_le _ _) (by rw [rg_len]; lia)
        · walk_at "RUN"
          exact ⟨_, rfl, rfl, rfl⟩
        · intro j hj
          have hj := (mem_rg.mp (List.mem_filter.mp hj).1).2
          refine ⟨_, rfl, ?_, fun _ => ?_⟩
          · walk_at "RUN"
            refine RunE.filter nD nD (fun k => !decide (k ∈ deeper ls i)) (rg (i + 1) j) (by rw [rg_len]; lia) ?_ ?_ ?_
            · walk_at "RUN"
              exact Op.rngE (i + 1) j rfl rfl (by lia) (by lia) ⟨rngL_rg _ _, rfl⟩
            · intro k _
              refine ⟨_, rfl, ?_, fun _ => ?_⟩
              · walk_at "RUN"
                refine Op.notIn_ (l := deeper ls i) enc_n (by decide) trivial (fun _ _ => trivial) ?_
                walk_at "RUN"
                rfl
              · walk_at "RUN"
                rfl
            · walk_at "RUN"
              refine Op.eq (a := List.filter _ _) (b := []) enc_n.list (by decide) (fun _ _ => trivial) (fun _ _ => trivial) ?_
              walk_at "RUN"
              exact ⟨filter_nil_all _ _, rfl⟩
          · walk_at "RUN"
            rfl
        · refine Op.addL ?_ ?_
          · have := List.length_filter_le (fun j => (rg (i + 1) j).all fun k => decide (k ∈ deeper ls i)) (deeper ls i)
            have := List.length_filter_le (fun j => lessC (ls.getD i []) (ls.getD j [])) (rg (i + 1) ls.length)
            have := rg_len (i + 1) ls.length
            unfold deeper at *
            simp at *
            lia
          · exact ⟨_, by walk_at "LOOK", by simp; lia, hQ _ _ _ ⟨.inl rfl, by rw [List.map_append]; exact set_same, by walk_at "LOOK", by walk_at "LOOK", rfl⟩⟩
      · intro σ _ qₕ
        refine g_aaa qₕ fun h1 h2 h3 q3ₑ => ?_
        clear qₕ
        subst q3ₑ
        refine ⟨rfl, ?_⟩
        refine RunS.last (RunS.frz1 h1 ?_)
        walk_at "RUN"
        exact ⟨congrArg (fun x => AFlow.ret (Dat.list x)) (by unfold outline; rw [List.map_map]; rfl), rfl⟩
  refine g_ea h fun f hs he => ?_
  clear h
  refine ⟨runF ["leads"] f, SoundF.of (def_outline ok) (by decide +kernel) (by decide +kernel) (fun s vs hv => ?_) hs, fun ls I h0 => runF_ret rfl (he ls I h0)⟩
  refine g_e (len1 hv) fun a q1ₑ => ?_
  subst q1ₑ
  exact BindsTo.of_eq (by kernel_rfl)

-- W06

-- _law_drawn

theorem def_drawn (ok : GOk G) : DefOk G 156 (fdat "_law_drawn" "_law_drawn" (fI 13) .none vLw 155) (fI 13).2.2 (fI 13).2.1 := defOk ok 5 rfl rfl (by decide +kernel)

noncomputable def aT (k : Nat) : Str := tx (List.replicate k 97)
noncomputable abbrev nmD (p : List Nat) : Dat := .list (p.map fun k => .str (aT k))
noncomputable def pcs : List (List Bool) := [[], [false], [true], [false, true], [false, false]]
noncomputable def md (x : Int) (m : Nat) : Nat := (x.fmod m).toNat
theorem md_eq (x : Int) {m : Nat} (h : 0 < m) : x.fmod (m : Int) = (md x m : Int) ∧ md x m < m := by
  unfold md
  have h1 := Int.fmod_nonneg_of_pos x (b := (m : Int)) (by lia)
  have h2 := Int.fmod_lt_of_pos x (b := (m : Int)) (by lia)
  lia
noncomputable abbrev DS := List (List Bool) × List (List Nat)
noncomputable def dlead (ls : List (List Bool)) (x : Int) : List Bool := (ls.getLast?.getD []).take (md x 4) ++ pcs.getD (md (x.fdiv 4) 5) []
noncomputable def dname (ns : List (List Nat)) (x : Int) : List Nat := (match md (x.fdiv 20) (ns.length + 1) with | 0 => [] | o + 1 => ns.getD o []) ++ [ns.length + 1]
noncomputable def dstep (st : DS) (x : Int) : DS := (st.1 ++ [dlead st.1 x], st.2 ++ [dname st.2 x])
noncomputable def drawn (l : List Int) : DS := l.foldl dstep ([], [])
theorem drawn_snoc (l : List Int) (x : Int) : drawn (l ++ [x]) = dstep (drawn l) x := by unfold drawn; rw [List.foldl_append]; rfl
theorem drawn_len (l : List Int) : (drawn l).1.length = l.length ∧ (drawn l).2.length = l.length := by
  have key : ∀ (l : List Int) (st : DS), (l.foldl dstep st).1.length = st.1.length + l.length ∧ (l.foldl dstep st).2.length = st.2.length + l.length := by
    intro l
    induction l with
    | nil => intro st; exact ⟨rfl, rfl⟩
    | cons x l ih => intro st; rw [List.foldl_cons]; have := ih (dstep st x); unfold dstep at this ⊢; simp at this ⊢; lia
  have := key l ([], [])
  unfold drawn
  simpa using this

set_option tactic.hygienic true in
theorem drawn_names (l : List Int) : ∀ p ∈ (drawn l).2, p.length ≤ l.length := by
  have key : ∀ (l : List Int) (st : DS) (n : Nat), st.2.length ≤ n → (∀ p ∈ st.2, p.length ≤ n) → ∀ p ∈ (l.foldl dstep st).2, p.length ≤ n + l.length := by
    intro l
    induction l with
    | nil => intro st n _ h; exact h
    | cons x l ih =>
      intro st n hn h p hp
      rw [List.foldl_cons] at hp
      have := ih (dstep st x) (n + 1) (by unfold dstep; simp; lia) (fun q0 hq => ?_) p hp
      · simp; lia
      · unfold dstep at hq
        rcases List.mem_append.mp hq with q | q
        · have := h _ q; lia
        · have : q0 = dname st.2 x := by simpa using q
          subst this
          unfold dname
          rw [List.length_append]
          split
          · simp
          · rename_i o ho
            have := (md_eq (x.fdiv 20) (m := st.2.length + 1) (by lia)).2
            have : st.2.getD o [] ∈ st.2 := by rw [List.getD_eq_getElem?_getD, List.getElem?_eq_getElem (by lia)]; exact List.getElem_mem _
            have := h _ this
            show _ + 1 ≤ _; lia
  have := key l ([], []) 0 (Nat.le_refl _) (fun _ h => (nomatch h))
  simpa [drawn] using this
theorem sB_ok (b : List Bool) : PyData.strOk (sB b) = true := tx_ok fun c hc => by
  refine g_ea (List.mem_map.mp hc) fun x _ q2ₑ => ?_
  subst q2ₑ
  cases x <;> decide
theorem sB_app (a b : List Bool) : sB a ++ sB b = sB (a ++ b) := by unfold sB; rw [tx_app, List.map_append]

theorem five {k : Nat} (h : k < 5) : k = 0 ∨ k = 1 ∨ k = 2 ∨ k = 3 ∨ k = 4 := by lia
theorem pcs_get {k : Nat} (h : k < 5) : ([.str (Str.ofString ""), .str (Str.ofString " "), .str (Str.ofString "\t"), .str (Str.ofString " \t"), .str (Str.ofString "  ")] : List Dat)[k]? = some (.str (sB (pcs.getD k []))) := by
  rcases five h with rfl | rfl | rfl | rfl | rfl <;> exact congrArg (fun s => some (Dat.str s)) (by decide +kernel)
theorem pcs_len {k : Nat} (h : k < 5) : (pcs.getD k []).length ≤ 2 := by
  rcases five h with rfl | rfl | rfl | rfl | rfl <;> decide

set_option tactic.hygienic true in
set_option maxHeartbeats 2000000 in
theorem T_drawn (ok : GOk G) : ∃ F, SoundF G 2 156 F ∧ ∀ (l : List Int) I, l.length ≤ 64 → F [.list (l.map .int)] I = some (.tup [bL (drawn l).1, .list ((drawn l).2.map nmD)], I) := by
  have h : ∃ f, SoundSs G 1 (fI 13).2.2 (fI 13).2.1 f ∧ ∀ (l : List Int) I, l.length ≤ 64 →
      RunS f (sto0 ["numbers"] [.frz (.list (l.map .int))]) I fun fl _ J => fl = .ret (.tup [bL (drawn l).1, .list ((drawn l).2.map nmD)]) ∧ J = I := by
    have g2 := g_len ok (sc := (fI 13).2.2)
    apply Exists.intro
    constructor
    · repeat' (first
        | apply SoundS.own (x := "leads")
        | apply SoundS.own (x := "names")
        | apply SoundO.list
        | apply SoundS.freeze ["leads", "names"] (SoundS.ret _)
        | walk_at "STEP")
    · intro l I hl
      walk_at "RUN"
      refine RunS.seq (RunS.loop .int l (fun pre σ J => σ "leads" = .own (bL (drawn pre).1) ∧ σ "names" = .own (.list ((drawn pre).2.map nmD)) ∧ J = I) ?_ ?_ ?_)
      · walk_at "RUN"
        exact ⟨_, rfl, rfl, set_ne (by decide +kernel) set_same, set_same, rfl⟩
      · intro pre x post σ _ el qₕ
        refine g_aa qₕ fun h1 h2 q2ₑ => ?_
        clear qₕ
        subst q2ₑ
        have hpl : pre.length ≤ 64 := by have := congrArg List.length el; simp at this; lia
        refine g_a (drawn_len pre) fun z1 z2 => ?_
        rw [drawn_snoc]
        generalize hst : drawn pre = st at *
        obtain ⟨ls, ns⟩ := st
        dsimp only at h1 h2 z1 z2
        have hnm := drawn_names pre
        rw [show drawn pre = (ls, ns) from hst] at hnm
        have q4 : x.fmod 4 = (md x 4 : Int) := (md_eq x (by decide)).1
        have l4 := (md_eq x (m := 4) (by decide)).2
        have q5 : (x.fdiv 4).fmod 5 = (md (x.fdiv 4) 5 : Int) := (md_eq _ (by decide)).1
        have l5 := (md_eq (x.fdiv 4) (m := 5) (by decide)).2
        have qo : (x.fdiv 20).fmod ((ns.length : Int) + 1) = (md (x.fdiv 20) (ns.length + 1) : Int) := (md_eq _ (m := ns.length + 1) (by lia)).1
        have lo := (md_eq (x.fdiv 20) (m := ns.length + 1) (by lia)).2
        refine RunS.gen fun Q' hQ => ?_
        refine RunS.seq (RunS.set (RunE.to (.str (sB (ls.getLast?.getD []))) ?_ ⟨rfl, ?_⟩))
        · refine RunE.ite ?_
          walk_at "RUN"
          rw [show bL ls = sL (ls.map sB) by rw [sL, List.map_map]; rfl]
          refine Op.ne (a := ls.map sB) (b := []) enc_s.list (by decide) (fun a ha => ?_) (fun _ h => (nomatch h)) ?_
          · refine g_ea (List.mem_map.mp ha) fun b _ q2ₑ => ?_
            subst q2ₑ
            exact sB_ok b
          walk_at "RUN"
          cases hla : ls.getLast? with
          | none =>
            have : ls = [] := by simpa using hla
            subst this
            refine ite_f (by decide) ?_
            walk_at "RUN"
            rfl
          | some a =>
            have : ls ≠ [] := fun e => by rw [e] at hla; cases hla
            refine ite_t (by simpa using this) ?_
            walk_at "RUN"
            refine Op.getLast (by rw [List.getLast?_map, hla]; rfl) (by simp; lia) ⟨rfl, rfl⟩
        walk_at "RUN"
        refine Op.divI (by decide) ?_
        walk_at "RUN"
        refine Op.lenL (by simp; lia) ?_
        rw [List.length_map]
        walk_at "RUN"
        refine Op.modI (by lia) ?_
        refine (qo) ▸ ?_
        walk_at "RUN"
        refine Op.modI (by decide) ?_
        refine (q4) ▸ ?_
        refine ⟨_, rfl, ?_⟩
        refine Op.sliceS (sB ((ls.getLast?.getD []).take (md x 4))) (by unfold sB; rw [tx, pickS_to, List.map_take, tx]) ?_ ?_
        · unfold sB; rw [tx_len]; simp; lia
        walk_at "RUN"
        refine Op.divI (by decide) ?_
        walk_at "RUN"
        refine Op.modI (by decide) ?_
        refine (q5) ▸ ?_
        refine Op.get (d := .str (sB (pcs.getD (md (x.fdiv 4) 5) []))) (pcs_get l5) (by decide) ?_
        refine Op.addS ?_ ?_
        · unfold sB; rw [tx_len, tx_len]; have := pcs_len l5; rw [List.length_map, List.length_map, List.length_take]; lia
        rw [sB_app]
        refine ⟨_, by walk_at "LOOK", by simp; lia, rfl, ?_⟩
        refine RunS.last (RunS.app (RunE.two ?_))
        refine RunE.to (nmD (match md (x.fdiv 20) (ns.length + 1) with | 0 => [] | o + 1 => ns.getD o [])) ?_ ?_
        · refine RunE.ite ?_
          walk_at "RUN"
          cases ho : md (x.fdiv 20) (ns.length + 1) with
          | zero =>
            refine ite_f (by simp) ?_
            walk_at "RUN"
            rfl
          | succ o =>
            rw [ho] at lo
            refine ite_t (decide_eq_true (by lia)) ?_
            walk_at "RUN"
            refine Op.getI (k := o) (d := nmD (ns.getD o [])) (by lia) (get_map _ ns o (by lia) []) (by simp; lia) ⟨rfl, rfl⟩
        walk_at "RUN"
        refine Op.lenL (by simp; lia) ?_
        rw [List.length_map]
        walk_at "RUN"
        refine Op.mulS ⟨by lia, by lia, by decide +kernel⟩ ?_
        rw [show Txt.mul (Str.ofString "a") ((ns.length : Int) + 1) = aT (ns.length + 1) by
          rw [show Str.ofString "a" = tx [97] by decide +kernel]; exact mul_tx 97 (ns.length + 1)]
        walk_at "RUN"
        have hbl : (match md (x.fdiv 20) (ns.length + 1) with | 0 => [] | o + 1 => ns.getD o []).length ≤ 64 := by
          split
          · exact Nat.zero_le _
          · rename_i o ho
            have : ns.getD o [] ∈ ns := by rw [List.getD_eq_getElem?_getD, List.getElem?_eq_getElem (by lia)]; exact List.getElem_mem _
            exact Nat.le_trans (hnm _ this) hpl
        refine Op.addL (by rw [List.length_map, List.length_singleton]; lia) ?_
        refine ⟨_, by walk_at "LOOK", by simp; lia, hQ _ _ _ ⟨.inl rfl, ?_, ?_, rfl⟩⟩
        · rw [show bL (dstep (ls, ns) x).1 = .list (List.map (fun b => Dat.str (sB b)) ls ++ [.str (sB (dlead ls x))]) by unfold dstep; rw [bL, List.map_append]; rfl]
          exact set_ne (by decide +kernel) set_same
        · rw [show Dat.list ((dstep (ls, ns) x).2.map nmD) = .list (ns.map nmD ++ [nmD (dname ns x)]) by unfold dstep; rw [List.map_append]; rfl]
          rw [show nmD (dname ns x) = .list (List.map (fun k => Dat.str (aT k)) (match md (x.fdiv 20) (ns.length + 1) with | 0 => [] | o + 1 => ns.getD o []) ++ [.str (aT (ns.length + 1))]) by unfold dname; rw [nmD, List.map_append]; rfl]
          exact set_same
      · intro σ _ qₕ
        refine g_aa qₕ fun h1 h2 q2ₑ => ?_
        clear qₕ
        subst q2ₑ
        refine ⟨rfl, ?_⟩
        refine RunS.last (RunS.frz ?_)
        rw [show σ.freezes ["leads", "names"] = (σ.freeze "leads").freeze "names" from rfl, freeze_own h1, freeze_own (set_ne (by decide +kernel) h2)]
        walk_at "RUN"
        rfl
  refine g_ea h fun f hs he => ?_
  clear h
  refine ⟨runF ["numbers"] f, SoundF.of (def_drawn ok) (by decide +kernel) (by decide +kernel) (fun s vs hv => ?_) hs, fun l I h0 => runF_ret rfl (he l I h0)⟩
  refine g_e (len1 hv) fun a q1ₑ => ?_
  subst q1ₑ
  exact BindsTo.of_eq (by kernel_rfl)

-- W07

-- Whitespace

theorem def_winit (ok : GOk G) : DefOk G 100 (fdat "__init__" "Whitespace.__init__" (mI 11 1) .none vTn 99) (mI 11 1).2.2 (mI 11 1).2.1 := defOk ok 18 rfl rfl (by decide +kernel)

-- what a Whitespace counts: tabs by the blanks ahead of them, blanks at the end, signs, tabs
structure WS where
  c : List Nat
  b : Nat
  n : Nat
  t : Nat
noncomputable def wstep (s : WS) (ch : Nat) : WS := if ch = 32 then ⟨s.c, s.b + 1, s.n + 1, s.t⟩ else
  ⟨(let c' := if s.b ≥ s.c.length then s.c ++ List.replicate (s.b - s.c.length + 1) 0 else s.c; c'.set s.b (c'.getD s.b 0 + 1)), 0, s.n + 1, s.t + 1⟩
noncomputable def wst (l : List Nat) : WS := l.foldl wstep ⟨[], 0, 0, 0⟩
theorem wst_snoc (l : List Nat) (c : Nat) : wst (l ++ [c]) = wstep (wst l) c := by unfold wst; rw [List.foldl_append]; rfl
theorem wst_le (l : List Nat) : (wst l).b ≤ l.length ∧ (wst l).c.length ≤ l.length := by
  have key : ∀ (l : List Nat) (s : WS) (k : Nat), s.b ≤ k → s.c.length ≤ k → (l.foldl wstep s).b ≤ k + l.length ∧ (l.foldl wstep s).c.length ≤ k + l.length := by
    intro l
    induction l with
    | nil => intro s k h1 h2; exact ⟨h1, h2⟩
    | cons x l ih =>
      intro s k h1 h2
      rw [List.foldl_cons, List.length_cons]
      have := ih (wstep s x) (k + 1) (by unfold wstep; split <;> dsimp only <;> lia) (by
        unfold wstep; split
        · dsimp only; lia
        · dsimp only; rw [List.length_set]; split
          · rw [List.length_append, List.length_replicate]; lia
          · lia)
      lia
  have := key l ⟨[], 0, 0, 0⟩ 0 (Nat.le_refl _) (Nat.le_refl _)
  unfold wst
  lia

noncomputable def wtx (l : List Bool) : Str := tx (l.map sg ++ [120, 32, 9])
noncomputable def wW (l : List Bool) : WS := wst (l.map sg)
noncomputable def wattrs (l : List Bool) : List (Str × Dat) := [(Str.ofString "raw", .str (wtx l)), (Str.ofString "n", nD (wW l).n), (Str.ofString "nt", nD (wW l).t), (Str.ofString "norm", .tup [.tup ((wW l).c.map nD), nD (wW l).b]), (Str.ofString "is_simple", .bool (decide ((wW l).c.length ≤ 1)))]
noncomputable abbrev wO (l : List Bool) : Dat := .obj 145 (wattrs l)
noncomputable def wdec (x : Str) : List Bool := (x.cps.toList.takeWhile (· != 120)).map (· == 9)
theorem wtw (l : List Bool) : (l.map sg ++ [120, 32, 9]).takeWhile (· != 120) = l.map sg := by
  induction l with
  | nil => rfl
  | cons b l ih =>
    rw [List.map_cons, List.cons_append, List.takeWhile_cons, ih]
    cases b <;> rfl
theorem wdec_wtx (l : List Bool) : wdec (wtx l) = l := by
  unfold wdec wtx tx
  dsimp only
  rw [wtw, List.map_map]
  induction l with
  | nil => rfl
  | cons b l ih => rw [List.map_cons, ih]; cases b <;> rfl
noncomputable def winitF : In0 := fun ds I => (one? ds).bind fun d => (datStr d).bind fun x => if x = wtx (wdec x) ∧ (wdec x).length ≤ 64 then some (wattrs (wdec x), I) else none
theorem winitF_eq (l : List Bool) (I : MSt) (h : l.length ≤ 64) : winitF [.str (wtx l)] I = some (wattrs l, I) := by
  show (if wtx l = wtx (wdec (wtx l)) ∧ (wdec (wtx l)).length ≤ 64 then some (wattrs (wdec (wtx l)), I) else none) = _
  rw [wdec_wtx, if_pos ⟨rfl, h⟩]
theorem winitF_inv {ds : List Dat} {I I' : MSt} {at_ : List (Str × Dat)} (h : winitF ds I = some (at_, I')) : ∃ l : List Bool, ds = [.str (wtx l)] ∧ l.length ≤ 64 ∧ at_ = wattrs l ∧ I' = I := by
  refine bind_go h fun d h1 h => bind_go h fun x h2 h => ite_gn h fun e h => ?_
  exact some2 h ⟨_, (one?_go h1).trans (congrArg (fun z => [z]) ((datStr_go h2).trans (congrArg Dat.str e.1))), e.2, rfl, rfl⟩
theorem sign_two {l : List Bool} {pre post : List Nat} {a : Nat} (e : l.map sg ++ [120, 32, 9] = pre ++ a :: post) : a = 120 ∨ a = 32 ∨ a = 9 := by
  have : a ∈ l.map sg ++ [120, 32, 9] := by rw [e]; simp
  rcases List.mem_append.mp this with h | h
  · refine g_ea (List.mem_map.mp h) fun b _ q2ₑ => ?_
    subst q2ₑ
    cases b
    · exact .inr (.inl rfl)
    · exact .inr (.inr rfl)
  · simp at h; exact h

set_option maxHeartbeats 2000000 in
theorem T_winit (ok : GOk G) : SoundInit G 2 100 145 winitF := by
  have h : ∃ f, SoundSs G 1 (mI 11 1).2.2 (mI 11 1).2.1 f ∧ ∀ (l : List Bool) (x : Addr) I, l.length ≤ 64 → RunS f ((sto0 ["ws"] [.frz (.str (wtx l))]).set "self" (.own (.pobj x 145 []))) I fun fl σ J => fl = .next ∧ J = I ∧ σ "self" = .own (.pobj x 145 (wattrs l)) := by
    have g1 := g_Whitespace ok (sc := (mI 11 1).2.2)
    have g2 := g_len ok (sc := (mI 11 1).2.2)
    have g3 := g_tuple ok (sc := (mI 11 1).2.2)
    apply Exists.intro
    constructor
    · repeat' (first
        | apply SoundS.own (x := "count")
        | apply SoundO.list
        | apply SoundO.bin op_addL
        | apply SoundO.bin op_mulL
        | refine' SoundS.attr (wCls ok) (wSet G) (wFree G "raw" (by decide)).2 ?_
        | refine' SoundS.attr (wCls ok) (wSet G) (wFree G "n" (by decide)).2 ?_
        | refine' SoundS.attr (wCls ok) (wSet G) (wFree G "nt" (by decide)).2 ?_
        | refine' SoundS.attr (wCls ok) (wSet G) (wFree G "norm" (by decide)).2 ?_
        | refine' SoundS.attr (wCls ok) (wSet G) (wFree G "is_simple" (by decide)).2 ?_
        | refine' SoundS.swap (by decide +kernel) (by decide +kernel) ?_ ?_
        | refine' SoundS.set3 (by decide +kernel) (by decide +kernel) (by decide +kernel) ?_
        | refine' SoundE.clsAttr ok.says.1 g1 (wRead G) (wFindS G)
        | refine' SoundE.clsAttr ok.says.1 g1 (wRead G) (wFindT G)
        | refine' SoundI.str ?_
        | refine' SoundE.wattr ok "raw" rfl (by decide) ?_
        | refine' SoundE.call1 (.inr ⟨_, rfl⟩) (by assumption) op_tuple ?_
        | walk_at "STEP")
      intro env h
      unfold swappedStores Env.blockKind Env.kindOf
      refine (h) ▸ ?_
      kernel_rfl
    · intro l x I hl
      refine RunS.seq (RunS.attr ?_)
      walk_at "RUN"
      refine ⟨_, _, set_same, by decide, rfl, ?_⟩
      refine RunS.seq (RunS.swap ?_)
      walk_at "RUN"
      refine ⟨_, _, rfl, rfl, ?_⟩
      refine RunS.seq (RunS.own ?_)
      walk_at "RUN"
      refine RunS.seq (RunS.set3 ?_)
      walk_at "RUN"
      refine RunS.seq (RunS.loopW (fun c => .str (tx [c])) (l.map sg ++ [120, 32, 9]) (· != 120) (fun pre σ J => σ "S" = .frz (.str (Str.ofString " ")) ∧ σ "T" = .frz (.str (Str.ofString "\t")) ∧ σ "count" = .own (nL (wst pre).c) ∧ σ "b" = .frz (nD (wst pre).b) ∧ σ "n" = .frz (nD (wst pre).n) ∧ σ "nt" = .frz (nD (wst pre).t) ∧ σ "self" = .own (.pobj x 145 [(Str.ofString "raw", .str (wtx l))]) ∧ J = I) ?_ ?_ ?_)
      · refine RunI.str ?_
        walk_at "RUN"
        refine Op.attrP (d := .str (wtx l)) (by kernel_rfl) ?_
        refine ⟨_, rfl, ?_, by walk_at "LOOK", by walk_at "LOOK", by walk_at "LOOK2", by walk_at "LOOK2", by walk_at "LOOK2", by walk_at "LOOK2", by walk_at "LOOK2", rfl⟩
        unfold wtx tx
        simp
      · intro pre a post σ Ix el qₕ
        refine g_aaaaaaa qₕ fun hS hT hc hb hn ht hs hI => ?_
        clear qₕ
        subst hI
        have hle := wst_le pre
        have hpl : pre.length ≤ 67 := by have := congrArg List.length el; simp at this; lia
        rw [wst_snoc]
        generalize wst pre = s at *
        refine ⟨fun hne => ?_, fun heq => ?_⟩
        · rcases sign_two el with rfl | rfl | rfl
          · exact absurd hne (by decide)
          · walk_at "RUN"
            refine Op.eq enc_s (by decide) (by decide +kernel) (by decide +kernel) ?_
            walk_at "RUN"
            refine ite_t (by decide +kernel) ?_
            walk_at "RUN"
            refine ⟨.inl rfl, ?_⟩
            unfold wstep
            refine (if_pos rfl) ▸ ?_
            exact ⟨by walk_at "LOOK", by walk_at "LOOK", by walk_at "LOOK", by walk_at "LOOK2", by walk_at "LOOK2", by walk_at "LOOK", by walk_at "LOOK", rfl⟩
          · walk_at "RUN"
            refine Op.eq enc_s (by decide) (by decide +kernel) (by decide +kernel) ?_
            walk_at "RUN"
            refine ite_f (by decide +kernel) ?_
            walk_at "RUN"
            refine Op.eq enc_s (by decide) (by decide +kernel) (by decide +kernel) ?_
            walk_at "RUN"
            refine ite_t (by decide +kernel) ?_
            walk_at "RUN"
            refine RunS.seq (RunS.mono (Q' := fun fl σ' J => fl = .next ∧ (∀ y, y ≠ "count" → σ' y = (((σ.set "ch" (.frz (.str (tx [9])))).set "n" (.frz (.int (↑s.n + 1)))).set "nt" (.frz (.int (↑s.t + 1)))) y) ∧ σ' "count" = .own (nL (if s.b ≥ s.c.length then s.c ++ List.replicate (s.b - s.c.length + 1) 0 else s.c)) ∧ J = Ix) ?_ ?_)
            · walk_at "RUN"
              refine Op.lenL (by simp; lia) ?_
              rw [List.length_map]
              walk_at "RUN"
              by_cases hbc : s.b ≥ s.c.length
              · rw [if_pos (decide_eq_true (by lia)), if_pos hbc]
                walk_at "RUN"
                refine Op.lenL (by simp; lia) ?_
                rw [List.length_map]
                walk_at "RUN"
                refine Op.mulL (n := s.b - s.c.length + 1) (by lia) (by lia) ?_
                walk_at "RUN"
                refine Op.addLL (by simp; lia) ?_
                refine ⟨rfl, fun y hy => if_neg hy, ?_, rfl⟩
                rw [show List.map nD s.c ++ List.replicate (s.b - s.c.length + 1) (Dat.int 0) = List.map nD (s.c ++ List.replicate (s.b - s.c.length + 1) 0) by rw [List.map_append, List.map_replicate]; rfl]
                exact set_same
              · rw [if_neg (by simpa using Nat.lt_of_not_le hbc), if_neg hbc]
                exact ⟨_, _, _, rfl, rfl, fun _ _ => rfl, by walk_at "LOOK", rfl⟩
            · intro _ σ' _ qₕ
              refine g_aaa qₕ fun q0ₑ hσ hc' q3ₑ => ?_
              clear qₕ
              subst q0ₑ
              subst q3ₑ
              refine ⟨rfl, ?_⟩
              have kS := (hσ "S" (by decide)).trans (show _ = Ent.frz (.str (Str.ofString " ")) by walk_at "LOOK")
              have kT := (hσ "T" (by decide)).trans (show _ = Ent.frz (.str (Str.ofString "\t")) by walk_at "LOOK")
              have kb := (hσ "b" (by decide)).trans (show _ = Ent.frz (nD s.b) by walk_at "LOOK")
              have kn := (hσ "n" (by decide)).trans (show _ = Ent.frz (.int (↑s.n + 1)) by walk_at "LOOK")
              have kt := (hσ "nt" (by decide)).trans (show _ = Ent.frz (.int (↑s.t + 1)) by walk_at "LOOK")
              have ks := (hσ "self" (by decide)).trans (show _ = Ent.own (.pobj x 145 [(Str.ofString "raw", .str (wtx l))]) by walk_at "LOOK")
              have hbl : s.b < (if s.b ≥ s.c.length then s.c ++ List.replicate (s.b - s.c.length + 1) 0 else s.c).length := by
                split
                · rw [List.length_append, List.length_replicate]; lia
                · lia
              have hbl2 : (if s.b ≥ s.c.length then s.c ++ List.replicate (s.b - s.c.length + 1) 0 else s.c).length ≤ 1000 := by
                split
                · rw [List.length_append, List.length_replicate]; lia
                · lia
              unfold wstep
              rw [if_neg (by decide)]
              dsimp only
              generalize (if s.b ≥ s.c.length then s.c ++ List.replicate (s.b - s.c.length + 1) 0 else s.c) = c' at *
              clear hσ
              walk_at "RUN"
              refine Op.getN hbl hbl2 ?_
              walk_at "RUN"
              refine ⟨_, by walk_at "LOOK", ?_⟩
              refine Op.setN (v := c'.getD s.b 0 + 1) hbl hbl2 ?_
              walk_at "RUN"
              refine ⟨.inl rfl, ?_⟩
              exact ⟨by walk_at "LOOK", by walk_at "LOOK", by walk_at "LOOK", by walk_at "LOOK2", by walk_at "LOOK", by walk_at "LOOK", by walk_at "LOOK", rfl⟩
        · have : a = 120 := by simpa using heq
          subst this
          walk_at "RUN"
          refine Op.eq enc_s (by decide) (by decide +kernel) (by decide +kernel) ?_
          walk_at "RUN"
          refine ite_f (by decide +kernel) ?_
          walk_at "RUN"
          refine Op.eq enc_s (by decide) (by decide +kernel) (by decide +kernel) ?_
          walk_at "RUN"
          refine ite_f (by decide +kernel) ?_
          refine RunS.last (RunS.brk ⟨rfl, hS, hT, hc, hb, hn, ht, hs, rfl⟩)
      · intro σ _ qₕ
        refine g_aaaaaaa qₕ fun _ _ hc hb hn ht hs q7ₑ => ?_
        clear qₕ
        subst q7ₑ
        rw [wtw] at hc hb hn ht
        have hle := wst_le (l.map sg)
        rw [List.length_map] at hle
        have hcl : (wst (l.map sg)).c.length ≤ 64 := by lia
        refine ⟨rfl, ?_⟩
        refine RunS.seq (RunS.attrTo ?_)
        walk_at "RUN"
        refine ⟨_, _, [(Str.ofString "raw", .str (wtx l)), (Str.ofString "n", nD (wW l).n)], by walk_at "LOOK", by simp, by kernel_rfl, rfl, ?_⟩
        refine RunS.seq (RunS.attrTo ?_)
        walk_at "RUN"
        refine ⟨_, _, [(Str.ofString "raw", .str (wtx l)), (Str.ofString "n", nD (wW l).n), (Str.ofString "nt", nD (wW l).t)], by walk_at "LOOK", by simp, by kernel_rfl, rfl, ?_⟩
        refine RunS.seq (RunS.attrTo ?_)
        walk_at "RUN"
        refine ⟨.tup ((wW l).c.map nD), bind_eq (a := (wW l).c.map nD) rfl (if_pos (by rw [List.length_map]; exact Nat.le_trans hcl (by decide))), ?_⟩
        walk_at "RUN"
        refine ⟨_, _, [(Str.ofString "raw", .str (wtx l)), (Str.ofString "n", nD (wW l).n), (Str.ofString "nt", nD (wW l).t), (Str.ofString "norm", .tup [.tup ((wW l).c.map nD), nD (wW l).b])], by walk_at "LOOK", by simp, by kernel_rfl, rfl, ?_⟩
        refine RunS.last (RunS.attrTo ?_)
        walk_at "RUN"
        refine Op.lenL (by simp; lia) ?_
        rw [List.length_map]
        walk_at "RUN"
        refine ⟨_, _, wattrs l, by walk_at "LOOK", by simp, ?_, rfl, rfl, set_same⟩
        refine (show decide (((wst (l.map sg)).c.length : Int) ≤ 1) = decide ((wW l).c.length ≤ 1) from decide_eq_decide.mpr (by unfold wW; lia)) ▸ ?_
        kernel_rfl
  refine g_ea h fun f hs he => ?_
  clear h
  refine SoundInit.of (ps := ["ws"]) (dfl := []) (dd := []) (def_winit ok) (by decide +kernel) (by decide +kernel) (fun V s I x vs g hv => ?_) (fun _ _ => .nil) hs fun ds I attrs I' hf => ?_
  · refine g_e (len1 (l := vs) (by simpa using hv)) fun a q1ₑ => ?_
    subst q1ₑ
    exact fun A' E Q h => BindsTo.of_eq (by kernel_rfl) _ _ _ _ h
  · refine g_eaaa (winitF_inv hf) fun l q1ₑ hl q3ₑ q4ₑ => ?_
    subst q1ₑ
    subst q3ₑ
    subst q4ₑ
    refine ⟨rfl, fun x => ?_⟩
    refine g_eeeaaa (he l x I' hl) fun fl σ' J e q4ₑ q5ₑ q => ?_
    subst q4ₑ
    subst q5ₑ
    exact ⟨σ', e, q⟩

-- W08

theorem def_wlong (ok : GOk G) : DefOk G 107 (fdat "longest_run_of_spaces" "Whitespace.longest_run_of_spaces" (mI 11 2) .none vTn 106) (mI 11 2).2.2 (mI 11 2).2.1 := defOk ok 19 rfl rfl (by decide +kernel)
theorem def_wind (ok : GOk G) : DefOk G 114 (fdat "indent_level" "Whitespace.indent_level" (mI 11 3) .none vTn 113) (mI 11 3).2.2 (mI 11 3).2.1 := defOk ok 20 rfl rfl (by decide +kernel)
theorem def_wless (ok : GOk G) : DefOk G 135 (fdat "less" "Whitespace.less" (mI 11 6) .none vTn 134) (mI 11 6).2.2 (mI 11 6).2.1 := defOk ok 21 rfl rfl (by decide +kernel)

noncomputable def wlong (l : List Bool) : Nat := max ((wW l).c.length - 1) (wW l).b
noncomputable def wilv (c : List Nat) (ts : Nat) : Nat := (rg ts c.length).foldl (fun il i => il + i / ts * c.getD i 0) 0
noncomputable def wind (l : List Bool) (ts : Nat) : Nat := (wW l).b + ts * (wilv (wW l).c ts + (wW l).t)
noncomputable def wsimple (l : List Bool) : Bool := decide ((wW l).c.length ≤ 1)
noncomputable def wless (l m : List Bool) : Bool := if (wW m).n ≤ (wW l).n then false else if wsimple l && wsimple m then decide ((wW l).t ≤ (wW m).t) else
  (rg 2 (max (wlong l) (wlong m) + 2)).all fun ts => decide (wind l ts < wind m ts)
theorem wW_le (l : List Bool) : (wW l).b ≤ l.length ∧ (wW l).c.length ≤ l.length := by
  have := wst_le (l.map sg)
  rw [List.length_map] at this
  exact this

theorem findSome_all {α β : Type} (l : List α) (p : α → Bool) (d : β) : (l.findSome? fun a => if p a = true then none else some d) = if l.all p = true then none else some d := by
  induction l with
  | nil => rfl
  | cons a l ih =>
    rw [List.findSome?_cons, List.all_cons]
    cases h : p a with
    | true => simpa using ih
    | false => rfl
theorem fdiv_n (k m : Nat) : (k : Int).fdiv (m : Int) = ((k / m : Nat) : Int) := by
  rw [Int.fdiv_eq_ediv_of_nonneg _ (Int.natCast_nonneg m)]; rfl

set_option maxHeartbeats 1000000 in
theorem T_wlong (ok : GOk G) : ∃ F, SoundF G 1 107 F ∧ ∀ (l : List Bool) I, l.length ≤ 64 → F [wO l] I = some (nD (wlong l), I) := by
  have h : ∃ f, SoundSs G 0 (mI 11 2).2.2 (mI 11 2).2.1 f ∧ ∀ (l : List Bool) I, l.length ≤ 64 → RunS f (sto0 ["self"] [.frz (wO l)]) I fun fl _ J => fl = .ret (nD (wlong l)) ∧ J = I := by
    have g1 := g_max ok (sc := (mI 11 2).2.2)
    have g2 := g_len ok (sc := (mI 11 2).2.2)
    apply Exists.intro
    constructor
    · repeat' (first
        | refine' SoundE.max2 (by assumption) ?_ ?_
        | refine' SoundE.wattr ok "norm" rfl (by decide) ?_
        | walk_at "STEP")
    · intro l I hl
      have hw := wW_le l
      walk_at "RUN"
      refine Op.attrO (d := .tup [.tup ((wW l).c.map nD), nD (wW l).b]) (by kernel_rfl) ?_
      refine ⟨_, rfl, _, rfl, ?_⟩
      walk_at "RUN"
      refine Op.lenT (by simp; lia) ?_
      rw [List.length_map]
      walk_at "RUN"
      refine ⟨_, rfl, ?_⟩
      walk_at "RUN"
      refine ⟨congrArg (fun i => AFlow.ret (.int i)) ?_, rfl⟩
      unfold wlong
      split <;> lia
  refine g_ea h fun f hs he => ?_
  refine ⟨runF ["self"] f, SoundF.of (def_wlong ok) (by decide +kernel) (by decide +kernel) (fun s vs hv => ?_) hs, fun l I h0 => runF_ret rfl (he l I h0)⟩
  refine g_e (len1 hv) fun a q1ₑ => ?_
  subst q1ₑ
  exact BindsTo.of_eq (by kernel_rfl)

set_option maxHeartbeats 1000000 in
theorem T_wind (ok : GOk G) : ∃ F, SoundF G 1 114 F ∧ ∀ (l : List Bool) (ts : Nat) I, l.length ≤ 64 → 0 < ts → ts ≤ 100 → F [wO l, nD ts] I = some (nD (wind l ts), I) := by
  have h : ∃ f, SoundSs G 0 (mI 11 3).2.2 (mI 11 3).2.1 f ∧ ∀ (l : List Bool) (ts : Nat) I, l.length ≤ 64 → 0 < ts → ts ≤ 100 → RunS f (sto0 ["self", "tabsize"] [.frz (wO l), .frz (nD ts)]) I fun fl _ J => fl = .ret (nD (wind l ts)) ∧ J = I := by
    have g1 := g_range ok (sc := (mI 11 3).2.2)
    have g2 := g_len ok (sc := (mI 11 3).2.2)
    apply Exists.intro
    constructor
    · repeat' (first
        | refine' SoundE.wattr ok "norm" rfl (by decide) ?_
        | refine' SoundE.wattr ok "nt" rfl (by decide) ?_
        | walk_at "STEP")
    · intro l ts I hl h0 h1
      have hw := wW_le l
      walk_at "RUN"
      refine Op.attrO (d := .tup [.tup ((wW l).c.map nD), nD (wW l).b]) (by kernel_rfl) ?_
      refine ⟨_, rfl, _, rfl, ?_⟩
      walk_at "RUN"
      refine RunS.seq (RunS.loop nD (rg ts (wW l).c.length) (fun pre σ J => σ "il" = .frz (nD (pre.foldl (fun il i => il + i / ts * (wW l).c.getD i 0) 0)) ∧ σ "self" = .frz (wO l) ∧ σ "tabsize" = .frz (nD ts) ∧ σ "count" = .frz (.tup ((wW l).c.map nD)) ∧ σ "trailing" = .frz (nD (wW l).b) ∧ J = I) ?_ ?_ ?_)
      · walk_at "RUN"
        refine Op.lenT (by simp; lia) ?_
        rw [List.length_map]
        walk_at "RUN"
        exact Op.rngE ts (wW l).c.length rfl rfl (by lia) (by lia) ⟨rngL_rg _ _, by walk_at "LOOK2", by walk_at "LOOK", by walk_at "LOOK", by walk_at "LOOK", by walk_at "LOOK", rfl⟩
      · intro pre i post σ _ el qₕ
        refine g_aaaaa qₕ fun k1 k2 k3 k4 k5 q5ₑ => ?_
        clear qₕ
        subst q5ₑ
        have hi : i < (wW l).c.length := (mem_rg.mp (by rw [el]; simp)).2
        refine RunS.gen fun Q' hQ => ?_
        walk_at "RUN"
        refine Op.divI (by lia) ?_
        rw [fdiv_n]
        walk_at "RUN"
        refine Op.getT (d := nD ((wW l).c.getD i 0)) (get_map _ _ _ hi 0) (by simp; lia) ?_
        have := Nat.div_le_self i ts
        have := Int.natCast_nonneg (i / ts)
        refine Op.mulI (by lia) ?_
        walk_at "RUN"
        refine hQ _ _ _ ⟨.inl rfl, ?_, by walk_at "LOOK", by walk_at "LOOK", by walk_at "LOOK", by walk_at "LOOK", rfl⟩
        rw [List.foldl_append]
        exact set_same
      · intro σ _ qₕ
        refine g_aaaaa qₕ fun k1 k2 k3 k4 k5 q5ₑ => ?_
        clear qₕ
        subst q5ₑ
        refine ⟨rfl, ?_⟩
        walk_at "RUN"
        refine Op.attrO (d := nD (wW l).t) (by kernel_rfl) ?_
        walk_at "RUN"
        refine Op.mulI (by lia) ?_
        walk_at "RUN"
        rfl
  refine g_ea h fun f hs he => ?_
  clear h
  refine ⟨runF ["self", "tabsize"] f, SoundF.of (def_wind ok) (by decide +kernel) (by decide +kernel) (fun s vs hv => ?_) hs, fun l ts I h0 h1 h2 => runF_ret rfl (he l ts I h0 h1 h2)⟩
  refine g_ee (len2 hv) fun a b q2ₑ => ?_
  subst q2ₑ
  exact BindsTo.of_eq (by kernel_rfl)

set_option maxHeartbeats 1000000 in
theorem T_wless (ok : GOk G) : ∃ F, SoundF G 2 135 F ∧ ∀ (l m : List Bool) I, l.length ≤ 60 → m.length ≤ 60 → F [wO l, wO m] I = some (.bool (wless l m), I) := by
  refine g_ea (T_wlong ok) fun Fl hFl eFl => ?_
  refine g_ea (T_wind ok) fun Fi hFi eFi => ?_
  have h : ∃ f, SoundSs G 1 (mI 11 6).2.2 (mI 11 6).2.1 f ∧ ∀ (l m : List Bool) I, l.length ≤ 60 → m.length ≤ 60 → RunS f (sto0 ["self", "other"] [.frz (wO l), .frz (wO m)]) I fun fl _ J => fl = .ret (.bool (wless l m)) ∧ J = I := by
    have g1 := g_range ok (sc := (mI 11 6).2.2)
    have g2 := g_max ok (sc := (mI 11 6).2.2)
    refine g_ea ((def_wlong ok).at_) fun o1 ho1 hfd1 => ?_
    refine g_ea ((def_wind ok).at_) fun o2 ho2 hfd2 => ?_
    refine g_aaaaaa (wMeth G) fun p1 _ _ p2 p3 p4 p5 => ?_
    apply Exists.intro
    constructor
    · repeat' (first
        | refine' SoundE.max2 (by assumption) ?_ ?_
        | refine' SoundE.omethod (wCls ok) p1 p2 p3 ho1 hfd1 hFl ?_ ?_
        | refine' SoundE.omethod (wCls ok) p1 p4 p5 ho2 hfd2 hFi ?_ ?_
        | refine' SoundE.wattr ok "n" rfl (by decide) ?_
        | refine' SoundE.wattr ok "nt" rfl (by decide) ?_
        | refine' SoundE.wattr ok "is_simple" rfl (by decide) ?_
        | walk_at "STEP")
    · intro l m I hl hm
      have hw := wW_le l
      have hv := wW_le m
      refine RunS.seq' (RunS.ite ?_)
      walk_at "RUN"
      refine Op.attrO (d := nD (wW l).n) (by kernel_rfl) ?_
      walk_at "RUN"
      refine Op.attrO (d := nD (wW m).n) (by kernel_rfl) ?_
      walk_at "RUN"
      unfold wless
      by_cases h1 : (wW m).n ≤ (wW l).n
      · rw [if_pos (decide_eq_true (by lia))]
        walk_at "RUN"
        exact .inr ⟨(by intro e; cases e), by rw [if_pos h1], rfl⟩
      refine ite_f (by simp; lia) ?_
      refine ⟨_, _, _, rfl, .inl ⟨rfl, ?_⟩⟩
      refine RunS.seq' (RunS.ite (RunT.to (wsimple l && wsimple m) ?_ ?_))
      · walk_at "RUN"
        refine Op.attrO (d := .bool (wsimple l)) (by kernel_rfl) ?_
        walk_at "RUN"
        cases wsimple l with
        | false => rw [if_neg (by decide)]; exact ⟨rfl, rfl⟩
        | true =>
          refine ite_t rfl ?_
          walk_at "RUN"
          refine Op.attrO (d := .bool (wsimple m)) (by kernel_rfl) ?_
          walk_at "RUN"
          cases wsimple m with
          | false => rw [if_neg (by decide)]; exact ⟨rfl, rfl⟩
          | true => rw [if_pos rfl]; exact RunT.c ⟨rfl, rfl⟩
      refine (if_neg h1) ▸ ?_
      by_cases h2 : (wsimple l && wsimple m) = true
      · rw [if_pos h2, if_pos h2]
        walk_at "RUN"
        refine Op.attrO (d := nD (wW l).t) (by kernel_rfl) ?_
        walk_at "RUN"
        refine Op.attrO (d := nD (wW m).t) (by kernel_rfl) ?_
        walk_at "RUN"
        exact .inr ⟨(by intro e; cases e), congrArg (fun b => AFlow.ret (.bool b)) (decide_eq_decide.mpr (by lia)), rfl⟩
      rw [if_neg h2, if_neg h2]
      refine ⟨_, _, _, rfl, .inl ⟨rfl, ?_⟩⟩
      walk_at "RUN"
      refine ⟨_, rfl, by kernel_rfl, ?_⟩
      walk_at "RUN"
      refine ⟨_, _, eFl l I (by lia), ?_⟩
      walk_at "RUN"
      refine ⟨_, rfl, by kernel_rfl, ?_⟩
      walk_at "RUN"
      refine ⟨_, _, eFl m I (by lia), ?_⟩
      refine ⟨nD (max (wlong l) (wlong m)), congrArg (fun i => some (Dat.int i)) (by split <;> lia), ?_⟩
      walk_at "RUN"
      have hml : max (wlong l) (wlong m) ≤ 60 := by unfold wlong; lia
      refine RunS.seq' (RunS.find nD (rg 2 (max (wlong l) (wlong m) + 2)) (fun σ J => σ "self" = .frz (wO l) ∧ σ "other" = .frz (wO m) ∧ J = I) (fun ts => if decide (wind l ts < wind m ts) = true then none else some (.bool false)) ?_ ?_ ?_)
      · walk_at "RUN"
        exact Op.rngE 2 (max (wlong l) (wlong m) + 2) rfl (by lia) (by lia) (by lia) ⟨rngL_rg _ _, by walk_at "LOOK", by walk_at "LOOK", rfl⟩
      · intro ts hts σ _ qₕ
        refine g_aa qₕ fun k1 k2 q2ₑ => ?_
        clear qₕ
        subst q2ₑ
        have hts := mem_rg.mp hts
        walk_at "RUN"
        refine ⟨_, rfl, by kernel_rfl, ?_⟩
        walk_at "RUN"
        refine ⟨_, _, eFi l ts _ (by lia) (by lia) (by lia), ?_⟩
        walk_at "RUN"
        refine ⟨_, rfl, by kernel_rfl, ?_⟩
        walk_at "RUN"
        refine ⟨_, _, eFi m ts _ (by lia) (by lia) (by lia), ?_⟩
        walk_at "RUN"
        by_cases h3 : wind l ts < wind m ts
        · rw [if_neg (by simp; lia), if_pos (decide_eq_true h3)]
          refine ⟨_, _, _, rfl, rfl, by walk_at "LOOK", by walk_at "LOOK", rfl⟩
        · rw [if_pos (decide_eq_true (by lia)), if_neg (by simpa using h3)]
          walk_at "RUN"
          exact ⟨by walk_at "LOOK", by walk_at "LOOK", rfl⟩
      · intro σ _ qₕ
        refine g_aa qₕ fun k1 k2 q2ₑ => ?_
        clear qₕ
        subst q2ₑ
        rw [findSome_all]
        cases hall : (rg 2 (max (wlong l) (wlong m) + 2)).all fun ts => decide (wind l ts < wind m ts) with
        | true =>
          refine (if_pos rfl) ▸ ?_
          refine .inl ⟨rfl, ?_⟩
          walk_at "RUN"
          rfl
        | false =>
          rw [if_neg (by decide)]
          exact .inr ⟨(by intro e; cases e), rfl, rfl⟩
  refine g_ea h fun f hs he => ?_
  clear h
  refine ⟨runF ["self", "other"] f, SoundF.of (def_wless ok) (by decide +kernel) (by decide +kernel) (fun s vs hv => ?_) hs, fun l m I h0 h1 => runF_ret rfl (he l m I h0 h1)⟩
  refine g_ee (len2 hv) fun a b q2ₑ => ?_
  subst q2ₑ
  exact BindsTo.of_eq (by kernel_rfl)

-- W09

-- _law_blocks

theorem def_blocks (ok : GOk G) : DefOk G 161 (fdat "_law_blocks" "_law_blocks" (fI 14) .none vLw 160) (fI 14).2.2 (fI 14).2.1 := defOk ok 6 rfl rfl (by decide +kernel)

noncomputable def blk (ls : List (List Bool)) (i : Nat) : List Nat := i :: (rg (i + 1) ls.length).takeWhile fun j => wless (ls.getD i []) (ls.getD j [])
noncomputable def blocksN (ls : List (List Bool)) : List (List Nat) := (List.range ls.length).map (blk ls)
theorem getD_mem {α : Type} {l : List α} {i : Nat} (h : i < l.length) (d : α) : l.getD i d ∈ l := by
  rw [List.getD_eq_getElem?_getD, List.getElem?_eq_getElem h]; exact List.getElem_mem _

set_option maxHeartbeats 1000000 in
theorem T_blocks (ok : GOk G) : ∃ F, SoundF G 5 161 F ∧ ∀ (ls : List (List Bool)) I, ls.length ≤ 64 → (∀ b ∈ ls, b.length ≤ 60) → F [bL ls] I = some (nLL (blocksN ls), I) := by
  refine g_ea (T_wless ok) fun Fl hFl eFl => ?_
  have hI := T_winit ok
  have h : ∃ f, SoundSs G 4 (fI 14).2.2 (fI 14).2.1 f ∧ ∀ (ls : List (List Bool)) I, ls.length ≤ 64 → (∀ b ∈ ls, b.length ≤ 60) → RunS f (sto0 ["leads"] [.frz (bL ls)]) I fun fl _ J => fl = .ret (nLL (blocksN ls)) ∧ J = I := by
    have g1 := g_range ok (sc := (fI 14).2.2)
    have g2 := g_len ok (sc := (fI 14).2.2)
    refine g_ea ((def_wless ok).at_) fun o1 ho1 hfd1 => ?_
    refine g_aaa (wMeth G) fun p1 p2 p3 _ => ?_
    have hFl4 := hFl.le (show 2 ≤ 4 by decide)
    apply Exists.intro
    constructor
    · repeat' (first
        | apply SoundS.own (x := "blocks")
        | apply SoundS.own (x := "block")
        | apply SoundO.list
        | apply SoundS.freeze ["blocks"] (SoundS.ret _)
        | refine' SoundS.freeze ["block"] (SoundS.append (x := "blocks") ?_)
        | refine' SoundE.wnew ok (g_Whitespace ok (by decide +kernel)) hI (by decide) ?_ (by intro h; cases h)
        | refine' SoundE.omethod (wCls ok) p1 p2 p3 ho1 hfd1 hFl4 ?_ ?_
        | walk_at "STEP")
    · intro ls I hl hb
      refine RunS.seq (RunS.set (RunE.map (fun b => .str (sB b)) wO ls hl ?_ ?_ ?_))
      · walk_at "RUN"
        exact ⟨_, rfl, rfl, rfl⟩
      · intro b hbm
        refine ⟨_, rfl, RunE.new ?_⟩
        walk_at "RUN"
        refine Op.addS ?_ ?_
        · have := hb b hbm
          unfold sB
          rw [tx_len, List.length_map]
          have : (Str.ofString "x \t").length ≤ 10 := by decide +kernel
          lia
        walk_at "RUN"
        rw [show sB b ++ Str.ofString "x \t" = wtx b by unfold sB wtx; rw [show Str.ofString "x \t" = tx [120, 32, 9] by decide +kernel, tx_app]]
        exact ⟨_, _, winitF_eq b I (by have := hb b hbm; lia), rfl, rfl⟩
      refine ⟨rfl, ?_⟩
      walk_at "RUN"
      refine RunS.seq (RunS.loop nD (List.range ls.length) (fun pre σ J => σ "blocks" = .own (.list (pre.map fun i => nL (blk ls i))) ∧ σ "lines" = .frz (.list (ls.map wO)) ∧ J = I) ?_ ?_ ?_)
      · walk_at "RUN"
        refine Op.lenL (by simp; lia) ?_
        rw [List.length_map]
        walk_at "RUN"
        exact Op.rng1 (by lia) ⟨rngL_n _, set_same, by walk_at "LOOK", rfl⟩
      · intro pre i post σ Ix el qₕ
        refine g_aa qₕ fun h1 h2 hIx => ?_
        clear qₕ
        subst hIx
        have hi : i < ls.length := List.mem_range.mp (by rw [el]; simp)
        have hpl : pre.length ≤ 64 := by have := congrArg List.length el; simp at this; lia
        walk_at "RUN"
        refine RunS.seq (RunS.loopW nD (rg (i + 1) ls.length) (fun j => wless (ls.getD i []) (ls.getD j [])) (fun p2 σ J => σ "block" = .own (nL (i :: p2)) ∧ σ "i" = .frz (nD i) ∧ σ "blocks" = .own (.list (pre.map fun i => nL (blk ls i))) ∧ σ "lines" = .frz (.list (ls.map wO)) ∧ p2.length ≤ 64 ∧ J = Ix) ?_ ?_ ?_)
        · walk_at "RUN"
          refine Op.lenL (by simp; lia) ?_
          rw [List.length_map]
          walk_at "RUN"
          exact Op.rngE (i + 1) ls.length rfl rfl (by lia) (by lia) ⟨rngL_rg _ _, by walk_at "LOOK2", by walk_at "LOOK", by walk_at "LOOK", by walk_at "LOOK", by simp, rfl⟩
        · intro p2 j post2 σ _ el2 qₕ
          refine g_aaaaa qₕ fun k1 k2 k3 k4 k5 q5ₑ => ?_
          clear qₕ
          subst q5ₑ
          have hj : j < ls.length := (mem_rg.mp (by rw [el2]; simp)).2
          have hp2 : p2.length ≤ 63 := by have := congrArg List.length el2; rw [rg_len] at this; simp at this; lia
          refine ⟨fun hw => ?_, fun hw => ?_⟩
          · refine RunS.seq' (RunS.ite (RunT.not (RunT.of (RunE.meth ?_))))
            walk_at "RUN"
            refine Op.get (get_map wO ls i hi []) (by simp; lia) ⟨_, rfl, by kernel_rfl, ?_⟩
            walk_at "RUN"
            refine Op.get (get_map wO ls j hj []) (by simp; lia) ?_
            walk_at "RUN"
            refine ⟨_, _, eFl _ _ _ (hb _ (getD_mem hi [])) (hb _ (getD_mem hj [])), ?_⟩
            walk_at "RUN"
            rw [hw, if_neg (by decide)]
            refine ⟨_, _, _, rfl, .inl ⟨rfl, ?_⟩⟩
            walk_at "RUN"
            refine ⟨_, by walk_at "LOOK", by simp; lia, .inl rfl, ?_, by walk_at "LOOK", by walk_at "LOOK", by walk_at "LOOK", by simp; lia, rfl⟩
            rw [show i :: (p2 ++ [j]) = (i :: p2) ++ [j] from rfl, nL, List.map_append]
            exact set_same
          · refine RunS.seq' (RunS.ite (RunT.not (RunT.of (RunE.meth ?_))))
            walk_at "RUN"
            refine Op.get (get_map wO ls i hi []) (by simp; lia) ⟨_, rfl, by kernel_rfl, ?_⟩
            walk_at "RUN"
            refine Op.get (get_map wO ls j hj []) (by simp; lia) ?_
            walk_at "RUN"
            refine ⟨_, _, eFl _ _ _ (hb _ (getD_mem hi [])) (hb _ (getD_mem hj [])), ?_⟩
            walk_at "RUN"
            rw [hw, if_pos (by decide)]
            refine RunS.last (RunS.brk (.inr ⟨(by intro e; cases e), rfl, by walk_at "LOOK", by walk_at "LOOK", by walk_at "LOOK", by walk_at "LOOK", k5, rfl⟩))
        · intro σ _ qₕ
          refine g_aaaaa qₕ fun k1 k2 k3 k4 k5 q5ₑ => ?_
          clear qₕ
          subst q5ₑ
          refine ⟨rfl, RunS.last (RunS.frz1 k1 ?_)⟩
          walk_at "RUN"
          refine ⟨_, by walk_at "LOOK", by simp; lia, .inl rfl, ?_, by walk_at "LOOK", rfl⟩
          rw [List.map_append]
          exact set_same
      · intro σ _ qₕ
        refine g_aa qₕ fun h1 h2 q2ₑ => ?_
        clear qₕ
        subst q2ₑ
        refine ⟨rfl, RunS.last (RunS.frz1 h1 ?_)⟩
        walk_at "RUN"
        exact ⟨congrArg (fun x => AFlow.ret (Dat.list x)) (by unfold blocksN; rw [List.map_map]; rfl), rfl⟩
  refine g_ea h fun f hs he => ?_
  clear h
  refine ⟨runF ["leads"] f, SoundF.of (def_blocks ok) (by decide +kernel) (by decide +kernel) (fun s vs hv => ?_) hs, fun ls I h0 h1 => runF_ret rfl (he ls I h0 h1)⟩
  refine g_e (len1 hv) fun a q1ₑ => ?_
  subst q1ₑ
  exact BindsTo.of_eq (by kernel_rfl)

-- W10

theorem def_kind (ok : GOk G) : DefOk G 28 (fdat "_kind" "_kind" (fI 3) .none vOs 27) (fI 3).2.2 (fI 3).2.1 := defOk ok 0 rfl rfl (by decide +kernel)
theorem def_cpath (ok : GOk G) : DefOk G 35 (fdat "_c_path" "_c_path" (fI 4) .none vOs 34) (fI 4).2.2 (fI 4).2.1 := defOk ok 1 rfl rfl (by decide +kernel)
theorem def_splitroot (ok : GOk G) : DefOk G 42 (fdat "_splitroot" "_splitroot" (fI 5) .none vOs 41) (fI 5).2.2 (fI 5).2.1 := defOk ok 2 rfl rfl (by decide +kernel)
theorem def_normp (ok : GOk G) : DefOk G 49 (fdat "_normpath" "_normpath" (fI 6) .none vOs 48) (fI 6).2.2 (fI 6).2.1 := defOk ok 3 rfl rfl (by decide +kernel)
theorem def_normpath (ok : GOk G) : DefOk G 56 (fdat "normpath" "normpath" (fI 7) .none vOs 55) (fI 7).2.2 (fI 7).2.1 := defOk ok 4 rfl rfl (by decide +kernel)

set_option maxHeartbeats 1000000 in
theorem T_kind (ok : GOk G) : ∃ F, SoundF G 1 28 F ∧ ∀ (d : Dat) (x : Str) I, F [d, .str x] I = some (.str (Str.ofString ""), I) := by
  have h : ∃ f, SoundSs G 0 (fI 3).2.2 (fI 3).2.1 f ∧ ∀ (d : Dat) (x : Str) I, RunS f (sto0 ["name", "x"] [.frz d, .frz (.str x)]) I fun fl _ J => fl = .ret (.str (Str.ofString "")) ∧ J = I := by
    have g1 := g_type ok (sc := (fI 3).2.2)
    have g2 := g_str ok (sc := (fI 3).2.2)
    apply Exists.intro
    constructor
    · refine' SoundSs.cons ?_ (SoundSs.cons ?_ SoundSs.dead)
      repeat' (first
        | refine' SoundE.call1 (.inr ⟨_, rfl⟩) g1 op_type ?_
        | exact SoundE.toB (SoundE.gty g2)
        | walk_at "STEP")
    · intro d x I
      walk_at "RUN"
      refine ⟨.ty "str", rfl, ?_⟩
      walk_at "RUN"
      refine RunS.seq' (RunS.ite ?_)
      walk_at "RUN"
      refine ⟨.bool true, rfl, ?_⟩
      walk_at "RUN"
      refine ite_t rfl ?_
      walk_at "RUN"
      exact .inr ⟨(by intro e; cases e), rfl, rfl⟩
  refine g_ea h fun f hs he => ?_
  refine ⟨runF ["name", "x"] f, SoundF.of (def_kind ok) (by decide +kernel) (by decide +kernel) (fun s vs hv => ?_) hs, fun d x I => runF_ret rfl (he d x I)⟩
  refine g_ee (len2 hv) fun a b q2ₑ => ?_
  subst q2ₑ
  exact BindsTo.of_eq (by kernel_rfl)

set_option maxHeartbeats 1000000 in
theorem T_cpath (ok : GOk G) : ∃ F, SoundF G 2 35 F ∧ ∀ (a b c : Dat) (x : Str) I, F [a, b, c, .tup [.str x], .idict []] I = some (.str x, I) := by
  refine g_ea (T_kind ok) fun Fk hFk eFk => ?_
  have h : ∃ f, SoundSs G 1 (fI 4).2.2 (fI 4).2.1 f ∧ ∀ (a b c : Dat) (x : Str) I, RunS f (sto0 ["name", "cname", "argname", "args", "kwargs"] [.frz a, .frz b, .frz c, .frz (.tup [.str x]), .frz (.idict [])]) I fun fl _ J => fl = .ret (.str x) ∧ J = I := by
    have g1 := g_len ok (sc := (fI 4).2.2)
    have g2 := gU_kind ok (sc := (fI 4).2.2)
    refine g_ea ((def_kind ok).at_) fun o ho hfd => ?_
    apply Exists.intro
    constructor
    · refine' SoundSs.cons (SoundS.ite ?_ (SoundSs.cons ?_ SoundSs.nil) SoundSs.dead) (SoundSs.cons ?_ (SoundSs.cons (SoundS.ite ?_ SoundSs.dead SoundSs.nil) (SoundSs.cons ?_ SoundSs.nil)))
      all_goals repeat' (first
        | refine' SoundE.call g2 ho hfd hFk ?_
        | walk_at "STEP")
    · intro a b c x I
      refine RunS.seq (RunS.ite (RunT.to true ?_ ?_))
      · walk_at "RUN"
        refine Op.lenT (by simp) ?_
        walk_at "RUN"
        refine ⟨.bool true, rfl, ?_⟩
        walk_at "RUN"
        refine ite_t rfl ?_
        walk_at "RUN"
        exact ⟨false, rfl, RunT.c ⟨rfl, rfl⟩⟩
      refine ite_t rfl ?_
      walk_at "RUN"
      refine Op.getT (d := .str x) rfl (by simp) ?_
      walk_at "RUN"
      refine ⟨_, _, eFk _ _ _, ?_⟩
      refine ⟨rfl, RunS.seq (RunS.ite ?_)⟩
      walk_at "RUN"
      refine Op.trS (by decide +kernel) ?_
      refine ite_f (by decide +kernel) ?_
      refine ⟨_, _, _, rfl, rfl, ?_⟩
      walk_at "RUN"
      rfl
  refine g_ea h fun f hs he => ?_
  refine ⟨runF ["name", "cname", "argname", "args", "kwargs"] f, SoundF.of (def_cpath ok) (by decide +kernel) (by decide +kernel) (fun s vs hv => ?_) hs, fun a b c x I => runF_ret rfl (he a b c x I)⟩
  refine g_eeeee (len5 hv) fun a b c d e q5ₑ => ?_
  subst q5ₑ
  exact BindsTo.of_eq (by kernel_rfl)

set_option maxHeartbeats 1000000 in
theorem T_splitroot (ok : GOk G) : ∃ F, SoundF G 1 42 F ∧ ∀ (c : Nat) (r : List Nat) I, c ≠ 47 → r.length ≤ 900 → (∀ k ∈ c :: r, k < 0x110000) → F [.str (tx (47 :: c :: r))] I = some (.tup [.str (Str.ofString ""), .str (Str.ofString "/"), .str (tx (c :: r))], I) := by
  have h : ∃ f, SoundSs G 0 (fI 5).2.2 (fI 5).2.1 f ∧ ∀ (c : Nat) (r : List Nat) I, c ≠ 47 → r.length ≤ 900 → (∀ k ∈ c :: r, k < 0x110000) → RunS f (sto0 ["p"] [.frz (.str (tx (47 :: c :: r)))]) I fun fl _ J => fl = .ret (.tup [.str (Str.ofString ""), .str (Str.ofString "/"), .str (tx (c :: r))]) ∧ J = I := by
    apply Exists.intro
    constructor
    · repeat' (walk_at "STEP")
    · intro c r I hc hr hk
      have hs : PyData.strOk (Str.ofString "/") = true := by decide +kernel
      walk_at "RUN"
      refine ⟨_, rfl, Op.sliceS (tx [47]) (pickS_to (47 :: c :: r) 1) (by decide) ?_⟩
      walk_at "RUN"
      refine Op.ne enc_s (by decide) (by decide +kernel) hs ?_
      walk_at "RUN"
      refine ite_f (by decide +kernel) ?_
      walk_at "RUN"
      refine ⟨_, rfl, ?_⟩
      walk_at "RUN"
      refine ⟨_, rfl, Op.sliceS (tx [c]) (pickS_mid (47 :: c :: r) 1 2) (by rw [tx_len]; simp) ?_⟩
      walk_at "RUN"
      refine Op.ne enc_s (by decide) (tx_ok fun k hk' => hk k (by simp at hk'; simp [hk'])) hs ?_
      walk_at "RUN"
      rw [show (!decide (tx [c] = Str.ofString "/")) = true by
        rw [show Str.ofString "/" = tx [47] by decide +kernel, Bool.not_eq_true', decide_eq_false_iff_not]
        exact fun e => hc (by simpa using tx_inj e)]
      rw [if_pos rfl, if_pos rfl]
      walk_at "RUN"
      refine ⟨_, rfl, ?_⟩
      walk_at "RUN"
      refine Op.sliceS (tx (c :: r)) (pickS_from (47 :: c :: r) 1) (by rw [tx_len]; simp; lia) ?_
      walk_at "RUN"
      rfl
  refine g_ea h fun f hs he => ?_
  refine ⟨runF ["p"] f, SoundF.of (def_splitroot ok) (by decide +kernel) (by decide +kernel) (fun s vs hv => ?_) hs, fun c r I h0 h1 h2 => runF_ret rfl (he c r I h0 h1 h2)⟩
  refine g_e (len1 hv) fun a q1ₑ => ?_
  subst q1ₑ
  exact BindsTo.of_eq (by kernel_rfl)

-- W11

-- _normpath

noncomputable def nstep (acc : List Str) (c : Str) : List Str := if c.length = 0 ∨ c = Str.ofString "." then acc else
  if c ≠ Str.ofString ".." ∨ (acc ≠ [] ∧ acc.getLast? = some (Str.ofString "..")) then acc ++ [c] else acc.dropLast
noncomputable def npC (l : List Nat) : List Str := Txt.split (tx l) (Str.ofString "/")
noncomputable def npR (l : List Nat) : List Str := (npC l).foldl nstep []
noncomputable def npath (l : List Nat) : Str := Str.ofString "/" ++ Txt.join (Str.ofString "/") (npR l)
noncomputable def npB (c : Nat) (r : List Nat) : Bool := decide (c ≠ 47) && decide (r.length ≤ 900) && (c :: r).all (fun k => decide (k < 0x110000)) && decide ((Builtin.Str.partsBetween (tx (c :: r)) (Builtin.Str.occurrences (tx (c :: r)) (Str.ofString "/") 0 (tx (c :: r)).length ((tx (c :: r)).length + 1)) (Str.ofString "/").length).length ≤ 1000) &&
  (npC (c :: r)).all (fun x => decide (x.length ≤ 100) && PyData.strOk x) && decide ((npC (c :: r)).length ≤ 100) && decide ((npath (c :: r)).length ≤ 500) && decide (((npR (c :: r)).map (·.length)).sum + (npR (c :: r)).length ≤ 1048576)

theorem asStrs_s : ∀ l : List Str, asStrs (l.map .str) = some l
  | [] => rfl
  | x :: l => bind_eq (a := x) rfl (congrArg (Option.map (x :: ·)) (asStrs_s l))
theorem len_app (a b : Str) : (a ++ b).length = a.length + b.length := by
  show (Str.append a b).length = _
  unfold Str.append Str.length
  simp

set_option maxHeartbeats 2000000 in
theorem T_normp (ok : GOk G) : ∃ F, SoundF G 2 49 F ∧ ∀ (c : Nat) (r : List Nat) I, npB c r = true → F [.str (tx (47 :: c :: r))] I = some (.str (npath (c :: r)), I) := by
  obtain ⟨Fs, hFs, eFs⟩ := T_splitroot ok
  have h : ∃ f, SoundSs G 1 (fI 6).2.2 (fI 6).2.1 f ∧ ∀ (c : Nat) (r : List Nat) I, npB c r = true → RunS f (sto0 ["path"] [.frz (.str (tx (47 :: c :: r)))]) I fun fl _ J => fl = .ret (.str (npath (c :: r))) ∧ J = I := by
    have g2 := gU_splitroot ok (sc := (fI 6).2.2)
    obtain ⟨o, ho, hfd⟩ := (def_splitroot ok).at_
    apply Exists.intro
    constructor
    · repeat' (first
        | apply SoundS.own (x := "new_comps")
        | apply SoundO.list
        | refine' SoundS.freeze ["new_comps"] (SoundS.set (x := "comps") ?_ (SoundE.name (x := "new_comps")))
        | apply SoundE.orV
        | apply SoundE.bool1
        | refine' SoundE.call g2 ho hfd hFs ?_
        | walk_at "STEP"
        | exact SoundS.popDrop)
    · intro c r I hB
      unfold npB at hB
      simp only [Bool.and_eq_true, decide_eq_true_eq, List.all_eq_true] at hB
      obtain ⟨⟨⟨⟨⟨⟨⟨b1, b2⟩, b3⟩, b4⟩, b5⟩, b6⟩, b7⟩, b8⟩ := hB
      have hs : PyData.strOk (Str.ofString "/") = true := by decide +kernel
      walk_at "RUN"
      refine RunS.seq (RunS.ite ?_)
      walk_at "RUN"
      refine Op.trS (by rw [tx_len]; simp; lia) ?_
      rw [show ((((tx (47 :: c :: r)).length : Nat) : Int) != 0) = true by rw [tx_len]; simp; lia, if_neg (by decide)]
      refine ⟨_, _, _, rfl, rfl, ?_⟩
      refine RunS.seq (RunS.unp ?_)
      walk_at "RUN"
      refine ⟨_, _, eFs c r I b1 b2 b3, ?_⟩
      refine ⟨_, rfl, _, rfl, ?_⟩
      refine ⟨rfl, ?_⟩
      walk_at "RUN"
      refine ⟨.list ((npC (c :: r)).map .str), ?_, ?_⟩
      · exact bind_eq (a := tx (c :: r)) rfl (bind_eq (a := Str.ofString "/") rfl (if_pos ⟨by decide +kernel, by rw [tx_len]; simp; lia, b4⟩))
      walk_at "RUN"
      refine RunS.seq (RunS.loop .str (npC (c :: r)) (fun pre σ J => ∃ acc, acc = pre.foldl nstep [] ∧ (∀ a ∈ acc, a ∈ npC (c :: r)) ∧ acc.length ≤ pre.length ∧ σ "new_comps" = .own (.list (acc.map .str)) ∧ σ "dot" = .frz (.str (Str.ofString ".")) ∧ σ "dotdot" = .frz (.str (Str.ofString "..")) ∧ σ "sep" = .frz (.str (Str.ofString "/")) ∧ σ "initial_slashes" = .frz (.str (Str.ofString "/")) ∧ J = I) ?_ ?_ ?_)
      · walk_at "RUN"
        exact ⟨_, rfl, rfl, [], rfl, fun _ h => (nomatch h), Nat.le_refl _, by walk_at "LOOK2", by walk_at "LOOK", by walk_at "LOOK", by walk_at "LOOK", by walk_at "LOOK", rfl⟩
      · intro pre comp post σ Ix el qₕ
        obtain ⟨acc, ha, hsub, hlen, k1, k2, k3, k4, k5, hI⟩ := qₕ
        subst hI
        have hcm : comp ∈ npC (c :: r) := by rw [el]; simp
        obtain ⟨hc1, hc2⟩ := b5 comp hcm
        have hpl : pre.length ≤ 100 := by have := congrArg List.length el; simp at this; lia
        rw [List.foldl_append, ← ha]
        show RunS _ _ _ fun fl σ' I' => (fl = .next ∨ fl = .cont) ∧ ∃ a', a' = nstep acc comp ∧ _
        unfold nstep
        refine RunS.seq' (RunS.ite (RunT.to (decide (comp.length = 0 ∨ comp = Str.ofString ".")) ?_ ?_))
        · walk_at "RUN"
          refine Op.trS (by lia) ?_
          by_cases h0 : comp.length = 0
          · rw [if_pos (by simp [h0])]
            exact ⟨(decide_eq_true (.inl h0)).symm, rfl⟩
          · rw [if_neg (by simp; lia)]
            walk_at "RUN"
            refine Op.eq enc_s (by decide) hc2 (by decide +kernel) ?_
            walk_at "RUN"
            by_cases h1 : comp = Str.ofString "."
            · rw [if_pos (decide_eq_true h1)]
              exact ⟨(decide_eq_true (.inr h1)).symm, rfl⟩
            · rw [if_neg (by simpa using h1)]
              refine RunT.c ⟨(decide_eq_false fun h => h.elim h0 h1).symm, rfl⟩
        by_cases hs1 : comp.length = 0 ∨ comp = Str.ofString "."
        · rw [if_pos (decide_eq_true hs1), if_pos hs1]
          refine RunS.last (RunS.cont (.inr ⟨(by intro e; cases e), .inr rfl, acc, rfl, hsub, by simp; lia, by walk_at "LOOK", by walk_at "LOOK", by walk_at "LOOK", by walk_at "LOOK", by walk_at "LOOK", rfl⟩))
        rw [if_neg (by simpa using hs1), if_neg hs1]
        refine ⟨_, _, _, rfl, .inl ⟨rfl, ?_⟩⟩
        refine RunS.last (RunS.ite (RunT.to (decide (comp ≠ Str.ofString ".." ∨ acc ≠ [] ∧ acc.getLast? = some (Str.ofString ".."))) ?_ ?_))
        · walk_at "RUN"
          refine Op.ne enc_s (by decide) hc2 (by decide +kernel) ?_
          walk_at "RUN"
          by_cases h0 : comp = Str.ofString ".."
          · rw [if_neg (by simp [h0])]
            walk_at "RUN"
            refine Op.trS (by decide +kernel) ?_
            rw [if_neg (by decide +kernel), if_neg (by decide)]
            walk_at "RUN"
            refine Op.trL (by simp; lia) ?_
            by_cases h1 : acc = []
            · rw [if_neg (by simp [h1]), if_neg (by decide)]
              refine RunT.c ⟨(decide_eq_false fun h => h.elim (fun q => q h0) fun q => q.1 h1).symm, rfl⟩
            · rw [if_pos (by simpa using h1)]
              walk_at "RUN"
              obtain ⟨z, hz⟩ : ∃ z, acc.getLast? = some z := ⟨_, List.getLast?_eq_some_getLast h1⟩
              refine Op.getLast (d := .str z) (by rw [List.getLast?_map, hz]; rfl) (by simp; lia) ?_
              walk_at "RUN"
              refine Op.eq enc_s (by decide) (b5 z (hsub z (List.mem_of_getLast? hz))).2 (by decide +kernel) ?_
              walk_at "RUN"
              by_cases h2 : z = Str.ofString ".."
              · rw [if_pos (decide_eq_true h2)]
                refine RunT.c ?_
                refine ite_t rfl ?_
                exact ⟨(decide_eq_true (.inr ⟨h1, by rw [hz, h2]⟩)).symm, rfl⟩
              · rw [if_neg (by simpa using h2), if_neg (by decide)]
                refine RunT.c ⟨(decide_eq_false fun h => h.elim (fun q => q h0) fun q => h2 (by rw [hz] at q; exact Option.some.inj q.2)).symm, rfl⟩
          · rw [if_pos (by simpa using h0)]
            exact ⟨(decide_eq_true (.inl h0)).symm, rfl⟩
        by_cases hs2 : comp ≠ Str.ofString ".." ∨ acc ≠ [] ∧ acc.getLast? = some (Str.ofString "..")
        · rw [if_pos (decide_eq_true hs2), if_pos hs2]
          walk_at "RUN"
          refine ⟨_, by walk_at "LOOK", by simp; lia, .inl rfl, _, rfl, fun a h => ?_, by simp; lia, by rw [List.map_append]; exact set_same, by walk_at "LOOK", by walk_at "LOOK", by walk_at "LOOK", by walk_at "LOOK", rfl⟩
          rcases List.mem_append.mp h with q | q
          · exact hsub a q
          · have : a = comp := by simpa using q
            exact this ▸ hcm
        · rw [if_neg (by simpa using hs2), if_neg hs2]
          refine RunS.last (RunS.ite ?_)
          walk_at "RUN"
          refine Op.trL (by simp; lia) ?_
          by_cases h1 : acc = []
          · rw [if_neg (by simp [h1])]
            subst h1
            refine ⟨_, _, _, rfl, .inl rfl, _, rfl, fun _ h => (nomatch h), by simp, by walk_at "LOOK", by walk_at "LOOK", by walk_at "LOOK", by walk_at "LOOK", by walk_at "LOOK", rfl⟩
          · rw [if_pos (by simpa using h1)]
            obtain ⟨z, hz⟩ : ∃ z, acc.getLast? = some z := ⟨_, List.getLast?_eq_some_getLast h1⟩
            refine RunS.last (RunS.pop (xs := acc.map .str) (d := .str z) (by walk_at "LOOK") (by rw [List.getLast?_map, hz]; rfl) (by simp; lia) ?_)
            refine ⟨.inl rfl, _, rfl, fun a h => hsub a (List.dropLast_subset _ h), by simp; lia, by rw [List.map_dropLast]; exact set_same, by walk_at "LOOK", by walk_at "LOOK", by walk_at "LOOK", by walk_at "LOOK", rfl⟩
      · intro σ _ qₕ
        obtain ⟨acc, ha, hsub, hlen, k1, k2, k3, k4, k5, rfl⟩ := qₕ
        refine ⟨rfl, ?_⟩
        have hacc : acc = npR (c :: r) := ha
        refine RunS.seq (RunS.frz1 k1 ?_)
        walk_at "RUN"
        refine ⟨.str (Txt.join (Str.ofString "/") acc), ?_, ?_⟩
        · exact bind_eq (a := Str.ofString "/") rfl (bind_eq (a := acc.map .str) rfl (bind_eq (asStrs_s acc) (if_pos ⟨by decide +kernel, by rw [hacc]; exact b8⟩)))
        rw [hacc]
        have hlen2 : (npath (c :: r)).length ≤ 500 := b7
        refine Op.addS ?_ ?_
        · unfold npath at hlen2
          rw [len_app] at hlen2
          lia
        walk_at "RUN"
        refine RunE.orV ?_
        walk_at "RUN"
        refine Op.trS (x := npath (c :: r)) (by lia) ?_
        rw [if_pos]
        · exact ⟨rfl, rfl⟩
        · have : 0 < (npath (c :: r)).length := by
            unfold npath
            rw [len_app]
            have : (Str.ofString "/").length = 1 := by decide +kernel
            lia
          simp; lia
  obtain ⟨f, hs, he⟩ := h
  refine ⟨runF ["path"] f, SoundF.of (def_normp ok) (by decide +kernel) (by decide +kernel) (fun s vs hv => ?_) hs, fun c r I h0 => runF_ret rfl (he c r I h0)⟩
  obtain ⟨a, rfl⟩ := len1 hv
  exact BindsTo.of_eq (by kernel_rfl)

-- W12

theorem okMods (ok : GOk G) : HasMods G := mods ok

set_option maxHeartbeats 1000000 in
theorem T_normpath (ok : GOk G) : ∃ F, SoundF G 4 56 F ∧ ∀ (c : Nat) (r : List Nat) I, npB c r = true → F [.str (tx (47 :: c :: r))] I = some (.str (npath (c :: r)), I) := by
  obtain ⟨Fc, hFc, eFc⟩ := T_cpath ok
  obtain ⟨Fn, hFn, eFn⟩ := T_normp ok
  have h : ∃ f, SoundSs G 3 (fI 7).2.2 (fI 7).2.1 f ∧ ∀ (c : Nat) (r : List Nat) I, npB c r = true → RunS f (sto0 ["args", "kwargs"] [.frz (.tup [.str (tx (47 :: c :: r))]), .frz (.idict [])]) I fun fl _ J => fl = .ret (.str (npath (c :: r))) ∧ J = I := by
    have g1 := gU_c_path ok (sc := (fI 7).2.2)
    have g2 := gU_normpath ok (sc := (fI 7).2.2)
    obtain ⟨o1, ho1, hfd1⟩ := (def_cpath ok).at_
    obtain ⟨o2, ho2, hfd2⟩ := (def_normp ok).at_
    have hFc3 := hFc.le (show 2 ≤ 3 by decide)
    have hFn3 := hFn.le (show 2 ≤ 3 by decide)
    apply Exists.intro
    constructor
    · repeat' (first
        | refine' SoundE.call g1 ho1 hfd1 hFc3 ?_
        | refine' SoundE.call g2 ho2 hfd2 hFn3 ?_
        | walk_at "STEP")
    · intro c r I hB
      walk_at "RUN"
      refine ⟨_, _, eFc _ _ _ _ _, ?_⟩
      walk_at "RUN"
      refine ⟨_, _, eFn c r I hB, ?_⟩
      walk_at "RUN"
      rfl
  obtain ⟨f, hs, he⟩ := h
  refine ⟨_, SoundF.star (x := "args") (y := "kwargs") (okMods ok) (def_normpath ok) (by decide +kernel) (by decide +kernel) (fun v => by kernel_rfl) hs, fun c r I h0 => runF_ret rfl (he c r I h0)⟩

-- W13

theorem def_iinit (ok : GOk G) : DefOk G 69 (fdat "__init__" "_Ignore.__init__" (mI 9 0) (.ref 64) vTr 68) (mI 9 0).2.2 (mI 9 0).2.1 := defOk ok 16 rfl rfl (by decide +kernel)

noncomputable def iattrs (ms : List Str) (ds : List Str) (j : Nat) : List (Str × Dat) := [(Str.ofString "_mods", .sset ms), (Str.ofString "_dirs", .list (ds.map .str)), (Str.ofString "_ignore", .mdict j)]
noncomputable def memo0 : List (Str × Int) := [(Str.ofString "<string>", 1)]
noncomputable def datNon : Dat → Option Unit
  | .none => some ()
  | _ => none
theorem datNon_go {d : Dat} {u : Unit} (e : datNon d = some u) : d = .none := by
  cases d with
  | none => rfl
  | _ => exact none_ne e
noncomputable def iF1 : In0 := fun ds I => (one? ds).bind fun d => (datLst d).bind fun l => (one? l).bind fun e => (datStr e).bind fun x => some (iattrs [x] [] I.length, I ++ [memo0])
noncomputable def iPath (I : MSt) : List Nat → Option (List (Str × Dat) × MSt)
  | [] => none
  | a :: r => match r with
    | [] => none
    | c :: r => if a = 47 ∧ npB c r = true then some (iattrs [] [npath (c :: r)] I.length, I ++ [memo0]) else none
noncomputable def iF2 : In0 := fun ds I => (two? ds).bind fun q => (datNon q.1).bind fun _ => (datLst q.2).bind fun l => (one? l).bind fun e => (datStr e).bind fun x => iPath I x.cps.toList

set_option maxHeartbeats 1000000 in
theorem I_walk (ok : GOk G) : ∃ f, SoundSs G 4 (mI 9 0).2.2 (mI 9 0).2.1 f ∧
    (∀ (x : Str) (y : Addr) I, RunS f ((sto0 ["modules", "dirs"] [.frz (.list [.str x]), .frz .none]).set "self" (.own (.pobj y 79 []))) I fun fl σ J => fl = .next ∧ J = I ++ [memo0] ∧ σ "self" = .own (.pobj y 79 (iattrs [x] [] I.length))) ∧
    (∀ (c : Nat) (r : List Nat) (y : Addr) I, npB c r = true → RunS f ((sto0 ["modules", "dirs"] [.frz .none, .frz (.list [.str (tx (47 :: c :: r))])]).set "self" (.own (.pobj y 79 []))) I fun fl σ J => fl = .next ∧ J = I ++ [memo0] ∧ σ "self" = .own (.pobj y 79 (iattrs [] [npath (c :: r)] I.length))) := by
  refine g_ea (T_normpath ok) fun Fn hFn eFn => ?_
  have g1 := g_set ok (sc := (mI 9 0).2.2)
  refine g_ea ((def_normpath ok).at_) fun o ho hfd => ?_
  have hM := okMods ok
  apply Exists.intro
  refine ⟨?_, ?_, ?_⟩
  · repeat' (first
      | refine' SoundS.attr (iCls ok) (iSet G) (iFree G "_mods" (by decide)).2 ?_
      | refine' SoundS.attr (iCls ok) (iSet G) (iFree G "_dirs" (by decide)).2 ?_
      | refine' SoundS.attr (iCls ok) (iSet G) (iFree G "_ignore" (by decide)).2 ?_
      | refine' SoundE.call1 (.inr ⟨_, rfl⟩) g1 op_set ?_
      | exact SoundE.set0 g1
      | exact SoundE.mdict hM
      | refine' SoundE.call (g_normpath ok (by decide +kernel)) ho hfd hFn ?_
      | walk_at "STEP")
  · intro x y I
    refine RunS.seq (RunS.attrTo ?_)
    walk_at "RUN"
    refine Op.trL (by simp) ?_
    refine ite_f (by simp) ?_
    walk_at "RUN"
    refine ⟨.sset [x], rfl, _, _, [(Str.ofString "_mods", .sset [x])], set_same, by decide, by kernel_rfl, rfl, ?_⟩
    refine RunS.seq (RunS.attrTo ?_)
    walk_at "RUN"
    refine Op.trN ?_
    refine ite_t (by simp) ?_
    walk_at "RUN"
    refine ⟨_, _, [(Str.ofString "_mods", .sset [x]), (Str.ofString "_dirs", .list [])], set_same, by simp, by kernel_rfl, rfl, ?_⟩
    refine RunS.last (RunS.attrTo ⟨.mdict I.length, I ++ [memo0], rfl, _, _, iattrs [x] [] I.length, set_same, by simp, by kernel_rfl, rfl, rfl, set_same⟩)
  · intro c r y I hB
    refine RunS.seq (RunS.attrTo ?_)
    walk_at "RUN"
    refine Op.trN ?_
    refine ite_t (by simp) ?_
    walk_at "RUN"
    refine ⟨_, _, [(Str.ofString "_mods", .sset [])], set_same, by decide, by kernel_rfl, rfl, ?_⟩
    refine RunS.seq (RunS.attrTo ?_)
    walk_at "RUN"
    refine Op.trL (by simp) ?_
    refine ite_f (by simp) ?_
    refine RunE.map .str (fun _ => .str (npath (c :: r))) [tx (47 :: c :: r)] (by simp) ?_ (fun a ha => ?_) ?_
    · walk_at "RUN"
      exact ⟨_, rfl, rfl, rfl⟩
    · have : a = tx (47 :: c :: r) := by simpa using ha
      subst this
      refine ⟨_, rfl, ?_⟩
      walk_at "RUN"
      exact ⟨_, _, eFn c r I hB, rfl, rfl⟩
    refine ⟨_, _, [(Str.ofString "_mods", .sset []), (Str.ofString "_dirs", .list [.str (npath (c :: r))])], set_same, by simp, by kernel_rfl, rfl, ?_⟩
    refine RunS.last (RunS.attrTo ⟨.mdict I.length, I ++ [memo0], rfl, _, _, iattrs [] [npath (c :: r)] I.length, set_same, by simp, by kernel_rfl, rfl, rfl, set_same⟩)

theorem tx_toList (x : Str) : x = tx x.cps.toList := by cases x; rfl
theorem T_iinit1 (ok : GOk G) : SoundInit G 5 69 79 iF1 := by
  refine g_eaa (I_walk ok) fun f hs he _ => ?_
  refine SoundInit.of (ps := ["modules", "dirs"]) (dfl := [.none]) (dd := [.none]) (def_iinit ok) (by decide +kernel) (by decide +kernel) (fun V s I x vs g hv => ?_) (fun _ _ => .cons .none .nil) hs fun ds I attrs I' hf => ?_
  · refine g_e (len1 (l := vs) (by simpa using hv)) fun a q1ₑ => ?_
    subst q1ₑ
    exact fun A' E Q h => kp_binds (K := GK G) (ok.says.1.keeps fun b o e => (g.base b o e).2) (fun S => by kernel_rfl) _ _ _ _ h
  · refine bind_go hf fun d h1 hf => bind_go hf fun l h2 hf => bind_go hf fun e h3 hf => bind_go hf fun x h4 hf => ?_
    refine some2 hf ?_
    obtain rfl := one?_go h1
    obtain rfl := datLst_go h2
    obtain rfl := one?_go h3
    obtain rfl := datStr_go h4
    refine ⟨rfl, fun y => ?_⟩
    refine g_eeeaaa (he x y I) fun fl σ' J e q4ₑ q5ₑ q => ?_
    subst q4ₑ
    subst q5ₑ
    exact ⟨σ', e, q⟩
theorem T_iinit2 (ok : GOk G) : SoundInit G 5 69 79 iF2 := by
  refine g_eaa (I_walk ok) fun f hs _ he => ?_
  refine SoundInit.of (ps := ["modules", "dirs"]) (dfl := []) (dd := []) (def_iinit ok) (by decide +kernel) (by decide +kernel) (fun V s I x vs g hv => ?_) (fun _ _ => .nil) hs fun ds I attrs I' hf => ?_
  · refine g_ee (len2 (l := vs) (by simpa using hv)) fun a b q2ₑ => ?_
    subst q2ₑ
    exact fun A' E Q h => kp_binds (K := GK G) (ok.says.1.keeps fun b o e => (g.base b o e).2) (fun S => by kernel_rfl) _ _ _ _ h
  · refine bind_go2 hf fun d0 d h1 hf => bind_go hf fun _ h0 hf => bind_go hf fun l h2 hf => bind_go hf fun e h3 hf => bind_go hf fun x h4 hz => ?_
    clear hf
    obtain rfl := two?_go h1
    obtain rfl := datNon_go h0
    obtain rfl := datLst_go h2
    obtain rfl := one?_go h3
    obtain rfl := datStr_go h4
    rw [tx_toList x]
    revert hz
    generalize x.cps.toList = cs
    intro hz
    cases cs with
    | nil => exact none_ne hz
    | cons a cs => cases cs with
      | nil => exact none_ne hz
      | cons c r =>
        refine ite_gn hz fun hB hz => ?_
        refine some2 hz ?_
        obtain ⟨rfl, hB⟩ := hB
        refine ⟨rfl, fun y => ?_⟩
        refine g_eeeaaa (he c r y I hB) fun fl σ' J e q4ₑ q5ₑ q => ?_
        subst q4ₑ
        subst q5ₑ
        exact ⟨σ', e, q⟩

-- W14

-- a loop that may leave with a value, and change the store then
theorem RunS.loopR {α : Type} {x : String} {fb : Sx} {Q : AFlow → Sto → MSt → Prop} {σ : Sto} {I : MSt} (f : α → Dat) (l : List α) (t : α → Bool) (P : Sto → MSt → Prop) {fi : Iv} (hi : RunI fi σ I fun ds I' => ds = l.map f ∧ P σ I')
    (step : ∀ a ∈ l, ∀ σ I, P σ I → (t a = false → RunS fb (σ.set x (.frz (f a))) I fun fl σ' I' => fl = .next ∧ P σ' I') ∧ (t a = true → RunS fb (σ.set x (.frz (f a))) I fun fl σ' I' => (∃ d, fl = .ret d) ∧ Q fl σ' I'))
    (k : l.any t = false → ∀ σ' I', P σ' I' → Q .next σ' I') : RunS (sFor x fi fb) σ I Q := by
  refine g_eeaa hi fun ds I₁ e q3ₑ h0 => ?_
  clear hi
  subst q3ₑ
  have key : ∀ (l : List α) (σ : Sto) (I : MSt), P σ I → (∀ a ∈ l, ∀ σ I, P σ I → (t a = false → RunS fb (σ.set x (.frz (f a))) I fun fl σ' I' => fl = .next ∧ P σ' I') ∧ (t a = true → RunS fb (σ.set x (.frz (f a))) I fun fl σ' I' => (∃ d, fl = .ret d) ∧ Q fl σ' I')) →
      (l.any t = false → ∀ σ' I', P σ' I' → Q .next σ' I') → ∃ fl σ' I', forL x fb (l.map f) σ I = some (fl, σ', I') ∧ Q fl σ' I' := by
    intro l
    induction l with
    | nil => intro σ I h _ k; exact ⟨_, σ, I, rfl, k rfl _ _ h⟩
    | cons a l ih =>
      intro σ I h step k
      refine g_a (step a (.head _) σ I h) fun s1 s2 => ?_
      cases ht : t a with
      | false =>
        refine g_eeeaa (s1 ht) fun fl σ' I' hb q4ₑ hp => ?_
        subst q4ₑ
        refine g_eeea (ih σ' I' hp (fun b hb => step b (.tail _ hb)) fun q => k (by rw [List.any_cons, ht, q]; rfl)) fun fl σ₂ I₂ e2 h2 => ⟨fl, σ₂, I₂, bind_eq hb e2, h2⟩
      | true =>
        refine g_eeeaa (s2 ht) fun fl σ' I' hb q4ₜ hq => ?_
        obtain ⟨d, rfl⟩ := q4ₜ
        exact ⟨_, σ', I', bind_eq hb rfl, hq⟩
  refine g_eeea (key l σ I₁ h0 step k) fun fl σ' I' e2 h => ?_
  exact ⟨fl, σ', I', bind_eq e e2, h⟩
theorem RunI.set {σ : Sto} {I : MSt} {f : Ev} {K : List Dat → MSt → Prop} (h : RunE f σ I fun d I' => ∃ xs, d = .sset xs ∧ K (xs.map .str) I') : RunI (ivSet f) σ I K := by
  refine g_eeaea h fun d I' e xs q4ₑ k => ?_
  subst q4ₑ
  exact ⟨_, I', bind_eq e (bind_eq (a := xs) rfl rfl), k⟩

theorem def_names (ok : GOk G) : DefOk G 76 (fdat "names" "_Ignore.names" (mI 9 1) .none vTr 75) (mI 9 1).2.2 (mI 9 1).2.1 := defOk ok 17 rfl rfl (by decide +kernel)

noncomputable def pD : Option Str → Dat
  | none => .none
  | some x => .str x
noncomputable def inMod (ms : List Str) (m : Str) : Bool := ms.any fun mod => Txt.startswith m (mod ++ Str.ofString ".")
noncomputable def inDir (ds : List Str) : Option Str → Bool
  | none => true
  | some x => ds.any fun d => Txt.startswith x (d ++ Str.ofString "/")
noncomputable def nmV (ms ds : List Str) (p : Option Str) (m : Str) : Int := if ms.contains m || inMod ms m || inDir ds p then 1 else 0

set_option maxHeartbeats 2000000 in
theorem T_names (ok : GOk G) : ∃ F, SoundF G 1 76 F ∧ ∀ (ms ds : List Str) (j : Nat) (p : Option Str) (m : Str) I kvs, (∀ x ∈ ms, x.length ≤ 900) → (∀ x ∈ ds, x.length ≤ 900) → I[j]? = some kvs → kvs.length ≤ 900 →
    F [.obj 79 (iattrs ms ds j), pD p, .str m] I = (match dget kvs m with | some v => some (.int v, I) | none => some (.int (nmV ms ds p m), I.set j (dput kvs m (nmV ms ds p m)))) := by
  have h : ∃ f, SoundSs G 0 (mI 9 1).2.2 (mI 9 1).2.1 f ∧ ∀ (ms ds : List Str) (j : Nat) (p : Option Str) (m : Str) I kvs, (∀ x ∈ ms, x.length ≤ 900) → (∀ x ∈ ds, x.length ≤ 900) → I[j]? = some kvs → kvs.length ≤ 900 →
      RunS f (sto0 ["self", "filename", "modulename"] [.frz (.obj 79 (iattrs ms ds j)), .frz (pD p), .frz (.str m)]) I fun fl _ J => (match dget kvs m with | some v => fl = .ret (.int v) ∧ J = I | none => fl = .ret (.int (nmV ms ds p m)) ∧ J = I.set j (dput kvs m (nmV ms ds p m))) := by
    have g1 := g_sep ok (sc := (mI 9 1).2.2)
    apply Exists.intro
    constructor
    · repeat' (first
        | refine' SoundE.iattr ok "_mods" rfl (by decide) ?_
        | refine' SoundE.iattr ok "_dirs" rfl (by decide) ?_
        | refine' SoundE.iattr ok "_ignore" rfl (by decide) ?_
        | exact SoundE.toB (SoundE.gstr g1)
        | refine' SoundS.putM ?_ ?_ ?_
        | refine' SoundS.loop (x := "mod") ?_ (SoundI.set ?_) ?_
        | walk_at "STEP")
    · intro ms ds j p m I kvs hm hd hj hk
      have lm : (iattrs ms ds j).lookup (Str.ofString "_mods") = some (.sset ms) := by kernel_rfl
      have ld : (iattrs ms ds j).lookup (Str.ofString "_dirs") = some (.list (ds.map .str)) := by kernel_rfl
      have li : (iattrs ms ds j).lookup (Str.ofString "_ignore") = some (.mdict j) := by kernel_rfl
      have d1 : (Str.ofString ".").length = 1 := by decide +kernel
      have d2 : (Str.ofString "/").length = 1 := by decide +kernel
      refine RunS.seq' (RunS.ite ?_)
      walk_at "RUN"
      refine Op.attrO li ?_
      refine ⟨.bool (dget kvs m).isSome, congrArg (Option.map Dat.bool) (show dInB I (.str m) (.mdict j) = some (dget kvs m).isSome from (congrArg (Option.map fun kvs => (dget kvs m).isSome) hj : _)), ?_⟩
      walk_at "RUN"
      cases hg : dget kvs m with
      | some v =>
        refine ite_t (show (some v).isSome = true from rfl) ?_
        walk_at "RUN"
        refine Op.attrO li ?_
        walk_at "RUN"
        refine ⟨.int v, (show dGet I (.mdict j) (.str m) = some (.int v) from (bind_eq hj (congrArg (Option.map Dat.int) hg) : (I[j]?).bind (fun kvs => (dget kvs m).map Dat.int) = _)), ?_⟩
        exact .inr ⟨(by intro e; cases e), rfl, rfl⟩
      | none =>
      refine ite_f (by decide) ?_
      refine ⟨_, _, _, rfl, .inl ⟨rfl, ?_⟩⟩
      dsimp only
      refine RunS.seq' (RunS.ite ?_)
      walk_at "RUN"
      refine Op.attrO lm ?_
      refine ⟨.bool (ms.contains m), rfl, ?_⟩
      walk_at "RUN"
      unfold nmV
      cases hc : ms.contains m with
      | true =>
        refine ite_t rfl ?_
        refine RunS.seq (RunS.putM ?_)
        walk_at "RUN"
        refine Op.attrO li ?_
        walk_at "RUN"
        refine ⟨_, _, _, _, rfl, rfl, rfl, hj, by lia, rfl, ?_⟩
        walk_at "RUN"
        exact .inr ⟨(by intro e; cases e), rfl, rfl⟩
      | false =>
      refine ite_f (by decide) ?_
      refine ⟨_, _, _, rfl, .inl ⟨rfl, ?_⟩⟩
      refine RunS.seq' (RunS.loopR .str ms (fun mod => Txt.startswith m (mod ++ Str.ofString ".")) (fun σ J => σ "self" = .frz (.obj 79 (iattrs ms ds j)) ∧ σ "filename" = .frz (pD p) ∧ σ "modulename" = .frz (.str m) ∧ J = I) ?_ ?_ ?_)
      · refine RunI.set ?_
        walk_at "RUN"
        exact Op.attrO lm ⟨_, rfl, rfl, by walk_at "LOOK", by walk_at "LOOK", by walk_at "LOOK", rfl⟩
      · intro mod hmod σ Ix qₕ
        refine g_aaa qₕ fun k1 k2 k3 hI => ?_
        clear qₕ
        subst hI
        have hml := hm mod hmod
        refine ⟨fun ht => ?_, fun ht => ?_⟩
        · walk_at "RUN"
          refine Op.addS (by lia) ?_
          refine ⟨.bool (Txt.startswith m (mod ++ Str.ofString ".")), rfl, ?_⟩
          walk_at "RUN"
          rw [ht, if_neg (by decide)]
          exact ⟨_, _, _, rfl, rfl, by walk_at "LOOK", by walk_at "LOOK", by walk_at "LOOK", rfl⟩
        · walk_at "RUN"
          refine Op.addS (by lia) ?_
          refine ⟨.bool (Txt.startswith m (mod ++ Str.ofString ".")), rfl, ?_⟩
          walk_at "RUN"
          rw [ht, if_pos rfl]
          refine RunS.seq (RunS.putM ?_)
          walk_at "RUN"
          refine Op.attrO li ?_
          walk_at "RUN"
          refine ⟨_, _, _, _, rfl, rfl, rfl, hj, by lia, rfl, ?_⟩
          walk_at "RUN"
          have hin : inMod ms m = true := List.any_eq_true.mpr ⟨mod, hmod, ht⟩
          refine ⟨⟨_, rfl⟩, .inr ⟨(by intro e; cases e), ?_⟩⟩
          rw [hin]
          exact ⟨rfl, rfl⟩
      intro hno σ Ix qₕ
      refine g_aaa qₕ fun k1 k2 k3 hI => ?_
      clear qₕ
      subst hI
      rw [show inMod ms m = false from hno]
      refine .inl ⟨rfl, ?_⟩
      refine RunS.seq' (RunS.ite ?_)
      walk_at "RUN"
      cases p with
      | none =>
        refine Op.isNN ?_
        walk_at "RUN"
        refine ite_t rfl ?_
        refine RunS.seq (RunS.putM ?_)
        walk_at "RUN"
        refine Op.attrO li ?_
        walk_at "RUN"
        refine ⟨_, _, _, _, rfl, rfl, rfl, hj, by lia, rfl, ?_⟩
        walk_at "RUN"
        exact .inr ⟨(by intro e; cases e), rfl, rfl⟩
      | some q =>
      refine Op.isNS ?_
      walk_at "RUN"
      refine ite_f (by decide) ?_
      refine ⟨_, _, _, rfl, .inl ⟨rfl, ?_⟩⟩
      refine RunS.seq' (RunS.loopR .str ds (fun d => Txt.startswith q (d ++ Str.ofString "/")) (fun σ J => σ "self" = .frz (.obj 79 (iattrs ms ds j)) ∧ σ "filename" = .frz (.str q) ∧ σ "modulename" = .frz (.str m) ∧ J = Ix) ?_ ?_ ?_)
      · walk_at "RUN"
        exact Op.attrO ld ⟨_, rfl, rfl, k1, k2, k3, rfl⟩
      · intro d hdm σ Iy qₕ
        refine g_aaa qₕ fun k1 k2 k3 hI => ?_
        clear qₕ
        subst hI
        have hdl := hd d hdm
        refine ⟨fun ht => ?_, fun ht => ?_⟩
        · walk_at "RUN"
          refine Op.addS (by lia) ?_
          refine ⟨.bool (Txt.startswith q (d ++ Str.ofString "/")), rfl, ?_⟩
          walk_at "RUN"
          rw [ht, if_neg (by decide)]
          exact ⟨_, _, _, rfl, rfl, by walk_at "LOOK", by walk_at "LOOK", by walk_at "LOOK", rfl⟩
        · walk_at "RUN"
          refine Op.addS (by lia) ?_
          refine ⟨.bool (Txt.startswith q (d ++ Str.ofString "/")), rfl, ?_⟩
          walk_at "RUN"
          rw [ht, if_pos rfl]
          refine RunS.seq (RunS.putM ?_)
          walk_at "RUN"
          refine Op.attrO li ?_
          walk_at "RUN"
          refine ⟨_, _, _, _, rfl, rfl, rfl, hj, by lia, rfl, ?_⟩
          walk_at "RUN"
          have hin : inDir ds (some q) = true := List.any_eq_true.mpr ⟨d, hdm, ht⟩
          refine ⟨⟨_, rfl⟩, .inr ⟨(by intro e; cases e), ?_⟩⟩
          rw [hin]
          exact ⟨rfl, rfl⟩
      intro hnd σ Iy qₕ
      refine g_aaa qₕ fun k1 k2 k3 hI => ?_
      clear qₕ
      subst hI
      rw [show inDir ds (some q) = false from hnd]
      refine .inl ⟨rfl, ?_⟩
      refine RunS.seq (RunS.putM ?_)
      walk_at "RUN"
      refine Op.attrO li ?_
      walk_at "RUN"
      refine ⟨_, _, _, _, rfl, rfl, rfl, hj, by lia, rfl, ?_⟩
      walk_at "RUN"
      rfl
  refine g_ea h fun f hs he => ?_
  clear h
  refine ⟨runF ["self", "filename", "modulename"] f, SoundF.of (def_names ok) (by decide +kernel) (by decide +kernel) (fun s vs hv => ?_) hs, fun ms ds j p m I kvs h0 h1 h2 h3 => ?_⟩
  · refine g_eee (len3 hv) fun a b c q3ₑ => ?_
    subst q3ₑ
    exact BindsTo.of_eq (by kernel_rfl)
  · have := he ms ds j p m I kvs h0 h1 h2 h3
    cases hg : dget kvs m with
    | some v => rw [hg] at this; exact runF_ret rfl this
    | none => rw [hg] at this; exact runF_ret rfl this

-- W15

-- _law_answers

theorem def_answers (ok : GOk G) : DefOk G 166 (fdat "_law_answers" "_law_answers" (fI 15) .none vLw 165) (fI 15).2.2 (fI 15).2.1 := defOk ok 7 rfl rfl (by decide +kernel)

noncomputable def jn (s : Nat) : List Nat → List Nat
  | [] => []
  | [k] => List.replicate k 97
  | k :: r => List.replicate k 97 ++ s :: jn s r
theorem join_jn (s : Nat) : ∀ p : List Nat, Txt.join (tx [s]) (p.map aT) = tx (jn s p)
  | [] => rfl
  | [k] => rfl
  | k :: l :: r => by
    unfold Txt.join
    rw [StrLaws.glued_eq_join]
    show aT k ++ tx [s] ++ Str.join (tx [s]) ((l :: r).map aT) = _
    have ih := join_jn s (l :: r)
    unfold Txt.join at ih
    rw [StrLaws.glued_eq_join] at ih
    refine (ih) ▸ ?_
    unfold aT
    rw [tx_app, tx_app]
    congr 1
    simp [jn]
theorem jn_len (s : Nat) : ∀ p : List Nat, (∀ k ∈ p, k ≤ 10) → (jn s p).length ≤ 11 * p.length
  | [], _ => Nat.le_refl _
  | [k], h => by have := h k (.head _); simp [jn]; lia
  | k :: l :: r, h => by
    have := h k (.head _)
    have ih := jn_len s (l :: r) fun x hx => h x (.tail _ hx)
    rw [jn.eq_def]
    dsimp only
    rw [List.length_append, List.length_replicate, List.length_cons]
    rw [List.length_cons]
    lia
noncomputable def pathN (p : List Nat) : List Nat := 47 :: jn 47 p ++ [46, 112, 121]
noncomputable def nameN (p : List Nat) : List Nat := jn 46 p
noncomputable def frN (p : List Nat) : List Nat := 47 :: jn 47 p ++ [47, 47, 113, 47, 46, 46]
noncomputable def asked (ns : List (List Nat)) : List (Option Str × Str) := ns.map (fun p => (some (tx (pathN p)), tx (nameN p))) ++ [(some (tx (47 :: 111 :: pathN (ns.getLast?.getD []))), tx (111 :: 46 :: nameN (ns.getLast?.getD []))), (none, tx [102])]
noncomputable def rdr (ns : List (List Nat)) : List (List Str × List Str) := ns.map (fun p => ([tx (nameN p)], [])) ++ ns.map (fun p => ([], [npath (46 :: frN p)]))
noncomputable def nmN (ms ds : List Str) (p : Option Str) (m : Str) : Nat := if ms.contains m || inMod ms m || inDir ds p then 1 else 0
noncomputable def ansR (ns : List (List Nat)) (r : List Str × List Str) : List Nat := (asked ns).map fun q => nmN r.1 r.2 q.1 q.2
noncomputable def ansN (ns : List (List Nat)) : List (List Nat) := (rdr ns).map (ansR ns)
theorem nmV_eq (ms ds : List Str) (p : Option Str) (m : Str) : nmV ms ds p m = (nmN ms ds p m : Nat) := by
  unfold nmV nmN; split <;> rfl
theorem asked_len (ns : List (List Nat)) : (asked ns).length = ns.length + 2 := by unfold asked; simp
theorem rdr_len (ns : List (List Nat)) : (rdr ns).length = ns.length + ns.length := by unfold rdr; simp

-- what the law's names have to be
structure NOk (ns : List (List Nat)) : Prop where
  pos : 0 < ns.length
  len : ns.length ≤ 20
  small : ∀ p ∈ ns, p.length ≤ 10 ∧ ∀ k ∈ p, k ≤ 10
  nod : (Str.ofString "<string>" :: (asked ns).map (·.2)).Nodup
  np : ∀ p ∈ ns, npB 46 (frN p) = true

-- the memory of a reader

noncomputable abbrev AQ := Option Str × Str
noncomputable def mem (r : List Str × List Str) (l : List AQ) : List (Str × Int) := memo0 ++ l.map fun q => (q.2, nmV r.1 r.2 q.1 q.2)
theorem dget_none {α : Type} [DecidableEq α] : ∀ {l : List (α × Int)} {k : α}, k ∉ l.map (·.1) → dget l k = none
  | [], _, _ => rfl
  | p :: l, k, h => by
    rw [List.map_cons, List.mem_cons, not_or] at h
    have ih := dget_none h.2
    unfold dget at ih ⊢
    refine (List.find?_cons) ▸ ?_
    have : decide (p.1 = k) = false := decide_eq_false fun e => h.1 e.symm
    refine (this) ▸ ?_
    exact ih
theorem dget_some {α : Type} [DecidableEq α] : ∀ {l : List (α × Int)} {k : α} {v : Int}, (l.map (·.1)).Nodup → (k, v) ∈ l → dget l k = some v
  | p :: l, k, v, h, hm => by
    rw [List.map_cons, List.nodup_cons] at h
    unfold dget
    refine (List.find?_cons) ▸ ?_
    rcases List.mem_cons.mp hm with rfl | hm
    · rw [decide_eq_true rfl]; rfl
    · have : decide (p.1 = k) = false := decide_eq_false fun e => h.1 (e ▸ List.mem_map.mpr ⟨_, hm, rfl⟩)
      refine (this) ▸ ?_
      exact dget_some h.2 hm
theorem dput_new {α : Type} [DecidableEq α] {l : List (α × Int)} {k : α} {v : Int} (h : k ∉ l.map (·.1)) : dput l k v = l ++ [(k, v)] := by
  unfold dput
  rw [if_neg]
  intro q
  refine g_ea (List.any_eq_true.mp q) fun p hp e => ?_
  exact h (List.mem_map.mpr ⟨p, hp, of_decide_eq_true e⟩)
theorem mem_keys (r : List Str × List Str) (l : List AQ) : (mem r l).map (·.1) = Str.ofString "<string>" :: l.map (·.2) := by
  unfold mem memo0
  rw [List.map_append, List.map_map]
  rfl
theorem mem_len (r : List Str × List Str) (l : List AQ) : (mem r l).length = l.length + 1 := by unfold mem memo0; simp
theorem mem_snoc (r : List Str × List Str) (l : List AQ) (q : AQ) (post : List AQ) (h : (Str.ofString "<string>" :: (l ++ q :: post).map (·.2)).Nodup) : dget (mem r l) q.2 = none ∧ dput (mem r l) q.2 (nmV r.1 r.2 q.1 q.2) = mem r (l ++ [q]) := by
  have hn : q.2 ∉ (mem r l).map (·.1) := by
    rw [mem_keys]
    rw [List.map_append, List.map_cons, ← List.cons_append] at h
    have := (List.nodup_append.mp h).2.2
    exact fun z => this _ z _ (.head _) rfl
  refine ⟨dget_none hn, ?_⟩
  rw [dput_new hn]
  unfold mem
  rw [List.map_append, ← List.append_assoc]; rfl
theorem mem_hit (r : List Str × List Str) (l : List AQ) (q : AQ) (hq : q ∈ l) (h : (Str.ofString "<string>" :: l.map (·.2)).Nodup) : dget (mem r l) q.2 = some (nmV r.1 r.2 q.1 q.2) := by
  refine dget_some (by rw [mem_keys]; exact h) ?_
  unfold mem
  exact List.mem_append_right _ (List.mem_map.mpr ⟨q, hq, rfl⟩)

-- the readers' memories, the first k of them filled
noncomputable def mems (ns : List (List Nat)) (I : MSt) (k : Nat) : MSt := I ++ (List.range (rdr ns).length).map fun i => if i < k then mem ((rdr ns).getD i ([], [])) (asked ns) else memo0
theorem mems_len (ns : List (List Nat)) (I : MSt) (k : Nat) : (mems ns I k).length = I.length + (rdr ns).length := by unfold mems; simp
theorem mems_get (ns : List (List Nat)) (I : MSt) (k i : Nat) (h : i < (rdr ns).length) : (mems ns I k)[I.length + i]? = some (if i < k then mem ((rdr ns).getD i ([], [])) (asked ns) else memo0) := by
  unfold mems
  rw [List.getElem?_append_right (by lia), Nat.add_sub_cancel_left, List.getElem?_map, List.getElem?_range h]
  rfl
theorem mems_set (ns : List (List Nat)) (I : MSt) (k : Nat) (h : k < (rdr ns).length) : (mems ns I k).set (I.length + k) (mem ((rdr ns).getD k ([], [])) (asked ns)) = mems ns I (k + 1) := by
  unfold mems
  rw [List.set_append_right _ _ (by lia), Nat.add_sub_cancel_left]
  congr 1
  refine List.ext_getElem? fun j => ?_
  rw [List.getElem?_set]
  by_cases hj : j < (rdr ns).length
  · rw [List.getElem?_map, List.getElem?_map, List.getElem?_range hj]
    simp only [Option.map_some, List.length_map, List.length_range]
    by_cases e : k = j
    · subst e; simp [hj]
    · have : (j < k ↔ j < k + 1) := by lia
      simp [e, this]
  · rw [if_neg (by lia)]
    rw [List.getElem?_eq_none (by simpa using hj), List.getElem?_eq_none (by simpa using hj)]
noncomputable abbrev rdD (ns : List (List Nat)) (j : Nat) (i : Nat) : Dat := .obj 79 (iattrs ((rdr ns).getD i ([], [])).1 ((rdr ns).getD i ([], [])).2 (j + i))
noncomputable abbrev aqD (q : AQ) : Dat := .tup [pD q.1, .str q.2]
theorem range_split {n i : Nat} {pre post : List Nat} (e : List.range n = pre ++ i :: post) : i = pre.length ∧ i < n := by
  have h1 : (List.range n)[pre.length]? = some i := by rw [e]; simp
  refine g_e (List.getElem?_eq_some_iff.mp h1) fun hk h2 => ?_
  rw [List.length_range] at hk
  rw [List.getElem_range] at h2
  lia
theorem range_getD {α β : Type} (f : α → β) (l : List α) (d : α) : (List.range l.length).map (fun i => f (l.getD i d)) = l.map f := by
  refine List.ext_getElem (by simp) fun i h1 h2 => ?_
  simp at h1
  simp [h1]
theorem Op.joinN {K : Dat → Prop} {J : MSt} {s : Nat} {x : Str} {p : List Nat} (e : x = tx [s]) (hp : p.length ≤ 10 ∧ ∀ k ∈ p, k ≤ 10) (q : K (.str (tx (jn s p)))) : Op (dJoin J (.str x) (nmD p)) K := by
  subst e
  refine ⟨_, ?_, q⟩
  rw [show nmD p = .list ((p.map aT).map .str) by rw [nmD, List.map_map]; rfl]
  refine bind_eq (a := tx [s]) rfl (bind_eq (a := (p.map aT).map .str) rfl (bind_eq (asStrs_s (p.map aT)) ?_))
  have : ∀ p : List Nat, (∀ k ∈ p, k ≤ 10) → ((p.map aT).map (·.length)).sum ≤ 10 * p.length := by
    intro p
    induction p with
    | nil => intro _; exact Nat.le_refl _
    | cons k p ih =>
      intro h
      have := ih fun x hx => h x (.tail _ hx)
      have := h k (.head _)
      have h3 : (aT k).length = k := by unfold aT; rw [tx_len, List.length_replicate]
      rw [List.map_cons, List.map_cons, List.sum_cons, List.length_cons, h3]; lia
  have := this p hp.2
  rw [if_pos ⟨by rw [tx_len]; simp, by rw [List.length_map]; lia⟩, join_jn]
theorem cT : Str.ofString "/" = tx [47] ∧ Str.ofString "." = tx [46] ∧ Str.ofString ".py" = tx [46, 112, 121] ∧ Str.ofString "/./" = tx [47, 46, 47] ∧ Str.ofString "//q/.." = tx [47, 47, 113, 47, 46, 46] ∧ Str.ofString "/o" = tx [47, 111] ∧ Str.ofString "o." = tx [111, 46] ∧ Str.ofString "f" = tx [102] := by decide +kernel
theorem getD_app1 {α : Type} {l m : List α} {i : Nat} {d : α} (h : i < l.length) : (l ++ m).getD i d = l.getD i d := by
  rw [List.getD_eq_getElem?_getD, List.getD_eq_getElem?_getD, List.getElem?_append_left h]
theorem rdr_get1 {ns pre post : List (List Nat)} {p : List Nat} (e : ns = pre ++ p :: post) : (rdr ns).getD pre.length ([], []) = ([tx (nameN p)], []) := by
  unfold rdr
  rw [List.getD_eq_getElem?_getD, List.getElem?_append_left (by rw [e]; simp), e]
  simp
theorem rdr_get2 {ns pre post : List (List Nat)} {p : List Nat} (e : ns = pre ++ p :: post) : (rdr ns).getD (ns.length + pre.length) ([], []) = ([], [npath (46 :: frN p)]) := by
  unfold rdr
  rw [List.getD_eq_getElem?_getD, List.getElem?_append_right (by rw [List.length_map]; lia), List.length_map, Nat.add_sub_cancel_left, e]
  simp
theorem rdr_small {ns : List (List Nat)} (h : NOk ns) (i : Nat) : (∀ x ∈ ((rdr ns).getD i ([], [])).1, x.length ≤ 900) ∧ ∀ x ∈ ((rdr ns).getD i ([], [])).2, x.length ≤ 900 := by
  have key : ∀ r ∈ rdr ns, (∀ x ∈ r.1, x.length ≤ 900) ∧ ∀ x ∈ r.2, x.length ≤ 900 := by
    intro r hr
    unfold rdr at hr
    rcases List.mem_append.mp hr with q | q
    · refine g_ea (List.mem_map.mp q) fun p hp q2ₑ => ?_
      subst q2ₑ
      have hs := h.small p hp
      have := jn_len 46 p hs.2
      refine ⟨fun x hx => ?_, fun x hx => (nomatch hx)⟩
      rw [List.mem_singleton.mp hx, tx_len]
      unfold nameN; lia
    · refine g_ea (List.mem_map.mp q) fun p hp q2ₑ => ?_
      subst q2ₑ
      have hB := h.np p hp
      unfold npB at hB
      simp only [Bool.and_eq_true, decide_eq_true_eq, List.all_eq_true] at hB
      refine ⟨fun x hx => (nomatch hx), fun x hx => ?_⟩
      refine (List.mem_singleton.mp hx) ▸ ?_
      exact Nat.le_trans hB.1.2 (by decide)
  refine (List.getD_eq_getElem?_getD) ▸ ?_
  cases e : (rdr ns)[i]? with
  | none => exact ⟨fun x hx => (nomatch hx), fun x hx => (nomatch hx)⟩
  | some r => exact key r (List.mem_of_getElem? e)

set_option maxHeartbeats 4000000 in
theorem T_answers (ok : GOk G) : ∃ F, SoundF G 7 166 F ∧ ∀ (ns : List (List Nat)) I, NOk ns → ∃ J, F [.list (ns.map nmD)] I = some (.tup [nLL (ansN ns), nLL (ansN ns)], J) := by
  refine g_ea (T_names ok) fun Fn hFn eFn => ?_
  have h : ∃ f, SoundSs G 6 (fI 15).2.2 (fI 15).2.1 f ∧ ∀ (ns : List (List Nat)) I, NOk ns → RunS f (sto0 ["names"] [.frz (.list (ns.map nmD))]) I fun fl _ J => fl = .ret (.tup [nLL (ansN ns), nLL (ansN ns)]) ∧ J = mems ns I (rdr ns).length := by
    have i1 := T_iinit1 ok
    have i2 := T_iinit2 ok
    refine g_ea ((def_names ok).at_) fun o1 ho1 hfd1 => ?_
    refine g_aa (iMeth G) fun p1 p2 p3 => ?_
    have hFn6 := hFn.le (show 1 ≤ 6 by decide)
    apply Exists.intro
    constructor
    · repeat' (first
        | refine' SoundE.omethod (iCls ok) p1 p2 p3 ho1 hfd1 hFn6 ?_ ?_
        | refine' SoundE.inew (es := [_, _]) ok (gU_Ignore ok (by decide +kernel)) i2 (by decide) ?_ (by intro h; cases h)
        | refine' SoundE.inew (es := [_]) ok (gU_Ignore ok (by decide +kernel)) i1 (by decide) ?_ (by intro h; cases h)
        | walk_at "STEP")
    · intro ns I hN
      refine g_aaaaaaa cT fun c1 c2 c3 c4 c5 c6 c7 c8 => ?_
      have hn20 := hN.len
      have hpos := hN.pos
      have hrl := rdr_len ns
      have hal := asked_len ns
      have hlast : (ns.getLast?.getD []) ∈ ns ∧ ns.getLast? = some (ns.getLast?.getD []) := by
        cases e : ns.getLast? with
        | none => rw [List.getLast?_eq_none_iff.mp e] at hpos; cases hpos
        | some z => exact ⟨List.mem_of_getLast? e, rfl⟩
      generalize hlz : ns.getLast?.getD [] = z at hlast
      have lenP : ∀ p ∈ ns, (pathN p).length ≤ 120 ∧ (nameN p).length ≤ 110 := fun p hp => by
        have hs := hN.small p hp
        have h1 := jn_len 47 p hs.2
        have h2 := jn_len 46 p hs.2
        unfold pathN nameN
        rw [List.length_append, List.length_cons]
        show _ + 1 + 3 ≤ _ ∧ _
        lia
      refine RunS.seq (RunS.set (RunE.map nmD (fun p => .tup [.str (tx (pathN p)), .str (tx (nameN p))]) ns (by lia) ?_ ?_ ?_))
      · walk_at "RUN"
        exact ⟨_, rfl, rfl, rfl⟩
      · intro p hp
        have hs := hN.small p hp
        have h1 := jn_len 47 p hs.2
        refine ⟨_, rfl, ?_⟩
        walk_at "RUN"
        refine Op.joinN c1 hs ?_
        refine Op.addS (by rw [c1, tx_len, tx_len]; simp; lia) ?_
        rw [c1, tx_app]
        walk_at "RUN"
        refine Op.addS (by rw [c3, tx_len, tx_len]; simp; lia) ?_
        rw [c3, tx_app]
        walk_at "RUN"
        refine Op.joinN c2 hs ?_
        walk_at "RUN"
        rfl
      refine ⟨rfl, ?_⟩
      -- the readers of modules
      refine RunS.seq (RunS.set (RunE.comp (fun p => .tup [.str (tx (pathN p)), .str (tx (nameN p))]) ns (fun pre out J => out = (List.range pre.length).map (rdD ns I.length) ∧ J = I ++ List.replicate pre.length memo0) ?_ ?_ ?_))
      · walk_at "RUN"
        exact ⟨_, rfl, rfl, rfl, by simp⟩
      · intro pre p post out J e qₕ
        refine g_a qₕ fun ho hJ => ?_
        clear qₕ
        refine ⟨_, rfl, RunT.c ?_⟩
        refine ite_t rfl ?_
        refine RunI.one (RunE.new ?_)
        walk_at "RUN"
        refine ⟨_, _, rfl, ?_, ?_⟩
        · rw [ho, List.length_append, List.length_singleton, List.range_succ, List.map_append]
          congr 1
          show [Dat.obj 79 (iattrs [tx (nameN p)] [] J.length)] = [rdD ns I.length pre.length]
          rw [rdD, rdr_get1 e, hJ, List.length_append, List.length_replicate]
        · rw [hJ, List.length_append, List.length_singleton, List.replicate_succ', List.append_assoc]
      intro out J qₕ
      refine g_a qₕ fun ho hJ => ?_
      clear qₕ
      subst ho; subst hJ
      refine ⟨by simp; lia, rfl, ?_⟩
      -- the readers of folders
      refine RunS.seq (RunS.set (RunE.comp nmD ns (fun pre out J => out = (List.range pre.length).map (fun i => rdD ns I.length (ns.length + i)) ∧ J = I ++ List.replicate (ns.length + pre.length) memo0) ?_ ?_ ?_))
      · walk_at "RUN"
        exact ⟨_, rfl, rfl, rfl, by simp⟩
      · intro pre p post out J e qₕ
        refine g_a qₕ fun ho hJ => ?_
        clear qₕ
        have hp : p ∈ ns := by rw [e]; simp
        have hs := hN.small p hp
        have h1 := jn_len 47 p hs.2
        refine ⟨_, rfl, RunT.c ?_⟩
        refine ite_t rfl ?_
        refine RunI.one (RunE.new ?_)
        walk_at "RUN"
        refine Op.joinN c1 hs ?_
        refine Op.addS (by rw [c4, tx_len, tx_len]; simp; lia) ?_
        rw [c4, tx_app]
        walk_at "RUN"
        refine Op.addS (by rw [c5, tx_len, tx_len]; simp; lia) ?_
        rw [c5, tx_app]
        walk_at "RUN"
        have hB := hN.np p hp
        refine ⟨_, _, show iF2 [.none, .list [.str (tx (47 :: 46 :: frN p))]] J = some (iattrs [] [npath (46 :: frN p)] J.length, J ++ [memo0]) from if_pos ⟨rfl, hB⟩, ?_, ?_⟩
        · rw [ho, List.length_append, List.length_singleton, List.range_succ, List.map_append]
          congr 1
          show [Dat.obj 79 (iattrs [] [npath (46 :: frN p)] J.length)] = [rdD ns I.length (ns.length + pre.length)]
          rw [rdD, rdr_get2 e, hJ, List.length_append, List.length_replicate]
        · rw [hJ, List.length_append, List.length_singleton, ← Nat.add_assoc, List.replicate_succ', List.append_assoc]
      intro out J qₕ
      refine g_a qₕ fun ho hJ => ?_
      clear qₕ
      subst ho; subst hJ
      refine ⟨by simp; lia, rfl, ?_⟩
      -- what is asked
      have gl : (ns.map fun p : List Nat => Dat.tup [.str (tx (pathN p)), .str (tx (nameN p))]).getLast? = some (.tup [.str (tx (pathN z)), .str (tx (nameN z))]) := by rw [List.getLast?_map, hlast.2]; rfl
      have lz := lenP z hlast.1
      refine RunS.seq (RunS.set (RunE.to (.list ((asked ns).map aqD)) ?_ ?_))
      · walk_at "RUN"
        refine Op.getLast gl (by simp; lia) ?_
        walk_at "RUN"
        refine Op.getT (k := 0) rfl (by simp) ?_
        refine Op.addS (by rw [c6, tx_len, tx_len]; show 2 + _ ≤ _; lia) ?_
        rw [c6, tx_app]
        walk_at "RUN"
        refine Op.getLast gl (by simp; lia) ?_
        walk_at "RUN"
        refine Op.getT (k := 1) rfl (by simp) ?_
        refine Op.addS (by rw [c7, tx_len, tx_len]; show 2 + _ ≤ _; lia) ?_
        rw [c7, tx_app]
        walk_at "RUN"
        refine Op.addL (by simp; lia) ⟨?_, rfl⟩
        unfold asked
        rw [hlz, List.map_append, List.map_map, c8]
        rfl
      refine ⟨rfl, ?_⟩
      have hms : I ++ List.replicate (ns.length + ns.length) memo0 = mems ns I 0 := by
        unfold mems
        congr 1
        refine List.ext_getElem (by simp; lia) fun i h1 h2 => ?_
        simp
      refine (hms) ▸ ?_
      have hrd : (List.range ns.length).map (rdD ns I.length) ++ (List.range ns.length).map (fun i => rdD ns I.length (ns.length + i)) = (List.range (rdr ns).length).map (rdD ns I.length) := by
        rw [hrl, List.range_add, List.map_append, List.map_map]; rfl
      have gr : ∀ {i : Nat}, i < (rdr ns).length → (mems ns I i)[I.length + i]? = some memo0 := fun h => by rw [mems_get _ _ _ _ h, if_neg (Nat.lt_irrefl _)]
      have aD : ∀ r, nL (ansR ns r) = .list ((asked ns).map fun q => nD (nmN r.1 r.2 q.1 q.2)) := fun r => by
        unfold ansR; rw [nL, List.map_map]; rfl
      have out_eq : (List.range (rdr ns).length).map (fun i => nL (ansR ns ((rdr ns).getD i ([], [])))) = (ansN ns).map nL := by
        rw [range_getD (fun r => nL (ansR ns r)), ansN, List.map_map]; rfl
      refine RunS.seq (RunS.set (RunE.comp (rdD ns I.length) (List.range (rdr ns).length) (fun pre out J => out = pre.map (fun i => nL (ansR ns ((rdr ns).getD i ([], [])))) ∧ J = mems ns I pre.length) ?_ ?_ ?_))
      · walk_at "RUN"
        refine Op.addL (by simp; lia) ⟨_, rfl, hrd, rfl, rfl⟩
      · intro pre i post out J e qₕ
        refine g_a qₕ fun ho hJ => ?_
        clear qₕ
        refine g_a (range_split e) fun hi hil => ?_
        rw [← hi] at hJ
        refine g_a (rdr_small hN i) fun s1 s2 => ?_
        generalize hr : (rdr ns).getD i ([], []) = r at s1 s2
        refine ⟨_, rfl, RunT.c ?_⟩
        refine ite_t rfl ?_
        refine RunI.one (RunE.comp aqD (asked ns) (fun pre2 out2 J2 => out2 = pre2.map (fun q => nD (nmN r.1 r.2 q.1 q.2)) ∧ J2 = (mems ns I i).set (I.length + i) (mem r pre2)) ?_ ?_ ?_)
        · walk_at "RUN"
          refine ⟨_, rfl, rfl, rfl, ?_⟩
          rw [hJ]
          refine g_e (List.getElem?_eq_some_iff.mp (gr hil)) fun h3 h4 => ?_
          rw [show mem r [] = (mems ns I i)[I.length + i] from h4.symm, List.set_getElem_self]
        · intro pre2 q post2 out2 J2 e2 qₕ
          refine g_a qₕ fun ho2 hJ2 => ?_
          clear qₕ
          have hg : J2[I.length + i]? = some (mem r pre2) := by
            rw [hJ2, List.getElem?_set_self (by rw [mems_len]; lia)]
          refine g_a (mem_snoc r pre2 q post2 (e2 ▸ hN.nod)) fun m1 m2 => ?_
          have hl2 : pre2.length ≤ 22 := by have := congrArg List.length e2; simp at this; lia
          refine ⟨_, rfl, RunT.c ?_⟩
          refine ite_t rfl ?_
          refine RunI.one (RunE.meth ?_)
          walk_at "RUN"
          refine ⟨_, rfl, by kernel_rfl, ?_⟩
          walk_at "RUN"
          rw [hr]
          refine ⟨_, _, eFn r.1 r.2 (I.length + i) q.1 q.2 J2 _ s1 s2 hg (by rw [mem_len]; lia) |>.trans (by rw [m1, m2]), ?_, ?_⟩
          · rw [ho2, List.map_append, nmV_eq]; rfl
          · rw [hJ2, List.set_set]
        · intro out2 J2 qₕ
          refine g_a qₕ fun ho2 hJ2 => ?_
          clear qₕ
          refine ⟨by rw [ho2, List.length_map]; lia, ?_, ?_⟩
          · rw [ho, ho2, List.map_append, List.map_cons, hr, aD r]; rfl
          · rw [hJ2, List.length_append, List.length_singleton, ← hi, ← mems_set _ _ _ hil, hr]
      intro out J qₕ
      refine g_a qₕ fun ho hJ => ?_
      clear qₕ
      rw [List.length_range] at hJ
      rw [out_eq] at ho
      subst ho; subst hJ
      refine ⟨by rw [List.length_map, ansN, List.length_map]; lia, rfl, ?_⟩
      refine RunS.seq (RunS.set (RunE.comp (rdD ns I.length) (List.range (rdr ns).length) (fun pre out J => out = pre.map (fun i => nL (ansR ns ((rdr ns).getD i ([], [])))) ∧ J = mems ns I (rdr ns).length) ?_ ?_ ?_))
      · walk_at "RUN"
        refine Op.addL (by simp; lia) ⟨_, rfl, hrd, rfl, rfl⟩
      · intro pre i post out J e qₕ
        refine g_a qₕ fun ho hJ => ?_
        clear qₕ
        refine g_a (range_split e) fun hi hil => ?_
        refine g_a (rdr_small hN i) fun s1 s2 => ?_
        have hg := mems_get ns I (rdr ns).length i hil
        rw [if_pos hil] at hg
        generalize hr : (rdr ns).getD i ([], []) = r at s1 s2 hg
        refine ⟨_, rfl, RunT.c ?_⟩
        refine ite_t rfl ?_
        refine RunI.one (RunE.map aqD (fun q => nD (nmN r.1 r.2 q.1 q.2)) (asked ns) (by lia) ?_ ?_ ?_)
        · walk_at "RUN"
          exact ⟨_, rfl, rfl, rfl⟩
        · intro q hq
          refine ⟨_, rfl, RunE.meth ?_⟩
          walk_at "RUN"
          refine ⟨_, rfl, by kernel_rfl, ?_⟩
          walk_at "RUN"
          rw [hr]
          refine ⟨_, _, eFn r.1 r.2 (I.length + i) none q.2 J _ s1 s2 (by rw [hJ]; exact hg) (by rw [mem_len]; lia) |>.trans (by rw [mem_hit r _ q hq hN.nod]), ?_, rfl⟩
          rw [nmV_eq]
        · refine ⟨?_, hJ⟩
          rw [ho, List.map_append, List.map_cons, hr, aD r]; rfl
      intro out J qₕ
      refine g_a qₕ fun ho hJ => ?_
      clear qₕ
      rw [out_eq] at ho
      subst ho; subst hJ
      refine ⟨by rw [List.length_map, ansN, List.length_map]; lia, rfl, ?_⟩
      walk_at "RUN"
      rfl
  refine g_ea h fun f hs he => ?_
  clear h
  refine ⟨runF ["names"] f, SoundF.of (def_answers ok) (by decide +kernel) (by decide +kernel) (fun s vs hv => ?_) hs, fun ns I h0 => ⟨_, runF_ret rfl (he ns I h0)⟩⟩
  refine g_e (len1 hv) fun a q1ₑ => ?_
  subst q1ₑ
  exact BindsTo.of_eq (by kernel_rfl)

-- C02

-- what the walk knows: the old part, the new part, and here, whose turn it is
structure Inv (A B : ND) (col : Nat → Nat) (D0 : ND) (x : Nat → Prop) (st : ND × List Nat) : Prop where
  old : ∀ w, (nget D0 w).isSome = true → nget st.1 w = nget D0 w
  val : ∀ w v, nget st.1 w = some v → nget D0 w = none → v = col w
  stk : ∀ w ∈ st.2, nget D0 w = none ∧ (nget st.1 w).isSome = true
  clo : ∀ w, (nget st.1 w).isSome = true → nget D0 w = none → w ∉ st.2 → ¬ x w → ∀ P ∈ [A, B], ∀ p, nget P w = some p → (nget st.1 p).isSome = true

set_option tactic.hygienic true in
theorem Inv.tstep {A B : ND} {col : Nat → Nat} {D0 : ND} {s here : Nat} {st : ND × List Nat} {P : ND} (hP : ∀ p, nget P here = some p → col p = s - col here) (h : Inv A B col D0 (· = here) st) (hh : (nget st.1 here).isSome = true) (h0 : nget D0 here = none) :
    Inv A B col D0 (· = here) (Mine.tstep s here st P) ∧ (∀ w, (nget st.1 w).isSome = true → (nget (Mine.tstep s here st P).1 w).isSome = true) ∧ ∀ p, nget P here = some p → (nget (Mine.tstep s here st P).1 p).isSome = true := by
  unfold Mine.tstep
  split
  · rename_i hn
    exact ⟨h, fun _ q => q, fun p hp => by rw [hn] at hp; cases hp⟩
  · rename_i p hp
    split
    · rename_i hg
      exact ⟨h, fun _ q => q, fun p' hp' => by rw [hp] at hp'; cases hp'; exact hg⟩
    · rename_i hg
      have hgn : nget st.1 p = none := by simpa using hg
      have hp0 : nget D0 p = none := by
        cases q : nget D0 p with
        | none => rfl
        | some v => have := h.old p (by rw [q]; rfl); rw [hgn, q] at this; cases this
      refine g_e (Option.isSome_iff_exists.mp hh) fun v hv => ?_
      have hvc := h.val _ _ hv h0
      have mono : ∀ w, (nget st.1 w).isSome = true → (nget (nput st.1 p (s - (nget st.1 here).getD 0)) w).isSome = true := fun w q => by
        rw [nget_nput]; split
        · rfl
        · exact q
      refine ⟨⟨fun w q => ?_, fun w u q q0 => ?_, fun w hw => ?_, fun w q q0 q1 q2 P' hP' p' hp' => ?_⟩, mono, fun p' hp' => ?_⟩
      · dsimp only
        rw [nget_nput, if_neg (fun e => by subst e; rw [hp0] at q; cases q)]
        exact h.old w q
      · dsimp only at q
        rw [nget_nput] at q
        split at q
        · rename_i e
          subst e
          cases q
          rw [hv, hP _ hp, ← hvc]; rfl
        · exact h.val w u q q0
      · dsimp only at hw ⊢
        rcases List.mem_append.mp hw with z | z
        · exact ⟨(h.stk w z).1, mono w (h.stk w z).2⟩
        · have : w = p := by simpa using z
          subst this
          exact ⟨hp0, by rw [nget_nput, if_pos rfl]; rfl⟩
      · dsimp only at q q1 ⊢
        rw [nget_nput] at q
        split at q
        · rename_i e
          subst e
          exact absurd (List.mem_append_right _ (by simp)) q1
        · exact mono p' (h.clo w q q0 (fun z => q1 (List.mem_append_left _ z)) q2 P' hP' p' hp')
      · rw [hp] at hp'; cases hp'
        rw [nget_nput, if_pos rfl]; rfl
theorem Inv.turn {A B : ND} {col : Nat → Nat} {D0 : ND} {s here : Nat} {st : ND × List Nat} (hP : ∀ P ∈ [A, B], ∀ p, nget P here = some p → col p = s - col here) (h : Inv A B col D0 (fun _ => False) st) (hl : st.2.getLast? = some here) :
    Inv A B col D0 (fun _ => False) ([A, B].foldl (Mine.tstep s here) (st.1, st.2.dropLast)) := by
  have hm : here ∈ st.2 := List.mem_of_getLast? hl
  have hs : ∀ w, w ∉ st.2.dropLast → w ≠ here → w ∉ st.2 := fun w h1 h2 h3 => by
    have : st.2 = st.2.dropLast ++ [here] := by
      refine g_e (List.getLast?_eq_some_iff.mp hl) fun ys e => ?_
      rw [e]; simp
    rw [this] at h3
    rcases List.mem_append.mp h3 with q | q
    · exact h1 q
    · exact h2 (by simpa using q)
  have i0 : Inv A B col D0 (· = here) (st.1, st.2.dropLast) := ⟨h.old, h.val, fun w hw => h.stk w (List.dropLast_subset _ hw), fun w q q0 q1 q2 => h.clo w q q0 (hs w q1 q2) id⟩
  refine g_a (h.stk here hm) fun h0 hh => ?_
  refine g_aa (i0.tstep (hP A (by simp)) hh h0) fun i1 m1 c1 => ?_
  refine g_aa (i1.tstep (hP B (by simp)) (m1 _ hh) h0) fun i2 m2 c2 => ?_
  refine ⟨i2.old, i2.val, i2.stk, fun w q q0 q1 _ P hPm p hp => ?_⟩
  by_cases hw : w = here
  · subst hw
    rcases List.mem_cons.mp hPm with rfl | hPm
    · exact m2 _ (c1 p hp)
    · have : P = B := by simpa using hPm
      subst this
      exact c2 p hp
  · exact i2.clo w q q0 q1 hw P hPm p hp
-- the walk ends with nobody left to go to
theorem Inv.walk {L s : Nat} {A B : ND} {col : Nat → Nat} {D0 : ND} (hA : Below L A) (hB : Below L B) (hP : ∀ w, ∀ P ∈ [A, B], ∀ p, nget P w = some p → nget D0 w = none → col p = s - col w) : ∀ (n : Nat) (st : ND × List Nat), WOk L s st → mu L st ≤ n → Inv A B col D0 (fun _ => False) st →
    Inv A B col D0 (fun _ => False) (walkN s A B n st, [])
  | 0, st, _, hm, h => by
    have : st.2 = [] := by
      unfold mu at hm
      exact List.length_eq_zero_iff.mp (by lia)
    unfold walkN
    obtain ⟨d, l⟩ := st
    dsimp only at this ⊢
    subst this
    exact h
  | n + 1, st, w, hm, h => by
    unfold walkN
    cases hl : st.2.getLast? with
    | none =>
      have : st.2 = [] := by simpa using hl
      obtain ⟨d, l⟩ := st
      dsimp only at this ⊢
      subst this
      exact h
    | some here =>
      have hmem : here ∈ st.2 := List.mem_of_getLast? hl
      have h0 : WOk L s (st.1, st.2.dropLast) := ⟨w.len, fun x hx => w.go x (List.dropLast_subset _ hx), w.val⟩
      refine g_aa (h0.tstep hA (w.go here hmem)) fun h1 m1 g1 => ?_
      refine g_aa (h1.tstep hB g1) fun h2 m2 _ => ?_
      refine Inv.walk hA hB hP n _ h2 ?_ (h.turn (fun P hPm p hp => hP here P hPm p hp (h.stk here hmem).1) hl)
      have hpos : 0 < st.2.length := List.length_pos_of_mem hmem
      show mu L (Mine.tstep s here (Mine.tstep s here (st.1, st.2.dropLast) A) B) ≤ n
      have : mu L (st.1, st.2.dropLast) + 1 ≤ mu L st := by unfold mu; dsimp only; rw [List.length_dropLast]; lia
      lia

-- C03

-- what the dealing of the pairs has reached
structure Dealt (A B : ND) (one other : Nat) (d : ND) : Prop where
  clo : ∀ w, (nget d w).isSome = true → ∀ P ∈ [A, B], ∀ p, nget P w = some p → (nget d p).isSome = true
  opp : ∀ P ∈ [A, B], ∀ u v, nget P u = some v → ∀ a b, nget d u = some a → nget d v = some b → a + b = one + other
  val : ∀ w v, nget d w = some v → v = one ∨ v = other

theorem tstep_mono {s here : Nat} {st : ND × List Nat} {P : ND} {k : Nat} (h : (nget st.1 k).isSome = true) : (nget (tstep s here st P).1 k).isSome = true := by
  unfold tstep
  split
  · exact h
  · split
    · exact h
    · dsimp only
      rw [nget_nput]
      split
      · rfl
      · exact h
theorem walkN_mono {s : Nat} {A B : ND} {k : Nat} : ∀ (n : Nat) (st : ND × List Nat), (nget st.1 k).isSome = true → (nget (walkN s A B n st) k).isSome = true
  | 0, st, h => h
  | n + 1, st, h => by
    unfold walkN
    cases st.2.getLast? with
    | none => exact h
    | some here => exact walkN_mono n _ (tstep_mono (st := tstep s here (st.1, st.2.dropLast) A) (tstep_mono h))

set_option tactic.hygienic true in
theorem Dealt.turn {L one other row : Nat} {A B d : ND} {c : Nat → Bool} (hA : Below L A) (hB : Below L B) (hL : 1 + 2 * L ≤ 200) (hM : ∀ P ∈ [A, B], Mat (nget P)) (hc : ∀ P ∈ [A, B], ∀ a b, nget P a = some b → c a ≠ c b) (hr : row < L) (w : WOk L (one + other) (d, [])) (h : Dealt A B one other d) :
    Dealt A B one other (rturn one (one + other) A B d row) ∧ (∀ k, (nget d k).isSome = true → (nget (rturn one (one + other) A B d row) k).isSome = true) ∧ (nget (rturn one (one + other) A B d row) row).isSome = true := by
  have hw := (start_ok w hr (Nat.le_add_right one other))
  unfold rturn
  by_cases hg : (nget d row).isSome = true
  · have : start one row d = (d, []) := by unfold start; rw [if_pos hg]
    refine (this) ▸ ?_
    exact ⟨h, fun _ q => q, hg⟩
  · have hn : nget d row = none := by simpa using hg
    have hst : start one row d = (nput d row one, [row]) := by unfold start; rw [if_neg hg]
    have hopp : ∀ P ∈ [A, B], ∀ a b, nget P a = some b → (if c b = c row then one else other) = one + other - (if c a = c row then one else other) := fun P hP a b e => by
      have := hc P hP a b e
      revert this
      cases c a <;> cases c b <;> cases c row <;> simp <;> lia
    have i0 : Inv A B (fun k => if c k = c row then one else other) d (fun _ => False) (start one row d) := by
      refine (hst) ▸ ?_
      refine ⟨fun k q => ?_, fun k v q q0 => ?_, fun k hk => ?_, fun k q q0 q1 _ P _ p _ => ?_⟩
      · dsimp only
        rw [nget_nput, if_neg (fun e => by subst e; rw [hn] at q; cases q)]
      · dsimp only at q
        rw [nget_nput] at q
        split at q
        · rename_i e
          subst e
          cases q
          simp
        · rw [q0] at q; cases q
      · have : k = row := by simpa using hk
        subst this
        exact ⟨hn, by dsimp only; rw [nget_nput, if_pos rfl]; rfl⟩
      · dsimp only at q q1
        rw [nget_nput] at q
        split at q
        · rename_i e
          exact absurd (e ▸ List.mem_singleton.mpr rfl) q1
        · rw [q0] at q; cases q
    have fin := i0.walk hA hB (fun k P hP p hp _ => hopp P hP k p hp) 200 _ hw.1 (Nat.le_trans hw.2 hL)
    have hrow : (nget (start one row d).1 row).isSome = true := by rw [hst]; dsimp only; rw [nget_nput, if_pos rfl]; rfl
    have hmono : ∀ k, (nget d k).isSome = true → (nget (start one row d).1 k).isSome = true := fun k q => by
      rw [hst]; dsimp only; rw [nget_nput]; split
      · rfl
      · exact q
    have m1 := fun k q => walkN_mono (s := one + other) (A := A) (B := B) 200 (start one row d) (hmono k q)
    have m2 := walkN_mono (s := one + other) (A := A) (B := B) 200 (start one row d) hrow
    generalize walkN (one + other) A B 200 (start one row d) = D at fin m1 m2 ⊢
    have old : ∀ k, (nget D k).isSome = true → (nget d k).isSome = true ∨ nget d k = none := fun k _ => by cases nget d k <;> simp
    refine ⟨⟨fun k q P hP p hp => ?_, fun P hP u v e a b ea eb => ?_, fun k v q => ?_⟩, m1, m2⟩
    · rcases old k q with z | z
      · exact m1 p (h.clo k z P hP p hp)
      · exact fin.clo k q z (by simp) id P hP p hp
    · have inv := (hM P hP).inv _ _ e
      cases hu : nget d u with
      | some x =>
        have ev := h.clo u (by rw [hu]; rfl) P hP v e
        rw [fin.old u (by rw [hu]; rfl)] at ea
        rw [fin.old v ev] at eb
        exact h.opp P hP u v e a b ea eb
      | none =>
        cases hv : nget d v with
        | some y =>
          have eu := h.clo v (by rw [hv]; rfl) P hP u inv
          rw [hu] at eu; cases eu
        | none =>
          have ca := fin.val u a ea hu
          have cb := fin.val v b eb hv
          have := hopp P hP u v e
          rw [ca, cb, this]
          split <;> lia
    · cases z : nget d k with
      | some x =>
        rw [fin.old k (by rw [z]; rfl)] at q
        exact h.val k v q
      | none =>
        have := fin.val k v q z
        refine (this) ▸ ?_
        split
        · exact .inl rfl
        · exact .inr rfl

-- C04

-- the partners

-- apart, or one in the other
noncomputable def Nest (g g' : List Nat) : Prop := (∀ x ∈ g, x ∉ g') ∨ (∀ x ∈ g, x ∈ g') ∨ (∀ x ∈ g', x ∈ g)

-- a long one without doubles that lies in a short one is it
theorem sub_back : ∀ {g g' : List Nat}, g.Nodup → g'.length ≤ g.length → (∀ x ∈ g, x ∈ g') → ∀ x ∈ g', x ∈ g
  | [], g', _, hl, _, x, hx => by
    rw [List.length_eq_zero_iff.mp (Nat.le_zero.mp hl)] at hx; exact hx
  | a :: g, g', hn, hl, h, x, hx => by
    refine g_a (List.nodup_cons.mp hn) fun h1 h2 => ?_
    by_cases e : x = a
    · subst e; exact .head _
    · have ha := h a (.head _)
      refine .tail _ (sub_back (g' := g'.erase a) h2 ?_ (fun y hy => ?_) x ?_)
      · rw [List.length_erase_of_mem ha]
        rw [List.length_cons] at hl
        lia
      · exact (List.mem_erase_of_ne (by rintro rfl; exact h1 hy)).mpr (h y (.tail _ hy))
      · exact (List.mem_erase_of_ne e).mpr hx

noncomputable def other2 (j : Nat) : Nat := if j % 2 = 0 then j + 1 else j - 1
theorem other2_two (j : Nat) : other2 (other2 j) = j ∧ other2 j ≠ j := by
  unfold other2
  split <;> split <;> lia
theorem other2_lt {j k : Nat} (h : j < 2 * k) : other2 j < 2 * k := by
  unfold other2
  split <;> lia

theorem pairs_get {free : List Nat} (hn : free.Nodup) (d : ND) : ∀ k, k ≤ free.length / 2 →
    (∀ j, j < 2 * k → nget ((List.range k).foldl (pstep free) d) (free.getD j 0) = some (free.getD (other2 j) 0)) ∧ ∀ u, (∀ j, j < 2 * k → free.getD j 0 ≠ u) → nget ((List.range k).foldl (pstep free) d) u = nget d u
  | 0, _ => ⟨fun j h => by lia, fun u _ => rfl⟩
  | k + 1, hk => by
    refine g_a (pairs_get hn d k (by lia)) fun h1 h2 => ?_
    have inj : ∀ i j, i < free.length → j < free.length → free.getD i 0 = free.getD j 0 → i = j := fun i j hi hj e => by
      simp only [List.getD_eq_getElem?_getD, List.getElem?_eq_getElem hi, List.getElem?_eq_getElem hj, Option.getD_some] at e
      exact (List.getElem_inj hn).mp e
    rw [List.range_succ, List.foldl_append]
    generalize (List.range k).foldl (pstep free) d = d' at h1 h2
    show (∀ j, j < 2 * (k + 1) → nget (pstep free d' k) _ = _) ∧ ∀ u, _ → nget (pstep free d' k) u = _
    unfold pstep
    refine ⟨fun j hj => ?_, fun u hu => ?_⟩
    · rw [nget_nput, nget_nput]
      by_cases e1 : j = 2 * k + 1
      · subst e1
        rw [if_pos (by rw [Nat.add_comm])]
        congr 2; unfold other2; rw [if_neg (by lia)]; lia
      · rw [if_neg (fun e => e1 (by have := inj _ _ (by lia) (by lia) e; lia))]
        by_cases e2 : j = 2 * k
        · subst e2
          refine (if_pos rfl) ▸ ?_
          congr 2; unfold other2; rw [if_pos (by lia)]; lia
        · rw [if_neg (fun e => e2 (by have := inj _ _ (by lia) (by lia) e; lia))]
          exact h1 j (by lia)
    · rw [nget_nput, nget_nput, if_neg (fun e => hu (1 + 2 * k) (by lia) e.symm), if_neg (fun e => hu (2 * k) (by lia) e.symm)]
      exact h2 u fun j hj => hu j (by lia)

theorem getD_of_mem {l : List Nat} {u : Nat} (h : u ∈ l) : ∃ j, j < l.length ∧ l.getD j 0 = u := by
  obtain ⟨j, hj, e⟩ := List.mem_iff_getElem.mp h
  exact ⟨j, hj, by rw [List.getD_eq_getElem?_getD, List.getElem?_eq_getElem hj]; exact e⟩
theorem getD_in {l : List Nat} {j : Nat} (h : j < l.length) : l.getD j 0 ∈ l := by
  rw [List.getD_eq_getElem?_getD, List.getElem?_eq_getElem h]; exact List.getElem_mem _

-- what a round of pairing does
theorem pairUp_ok {free : List Nat} (hn : free.Nodup) {d : ND} (hd : Mat (nget d)) (hf : ∀ u ∈ free, nget d u = none) :
    Mat (nget (pairUp d free)) ∧ (∀ u v, nget d u = some v → nget (pairUp d free) u = some v) ∧ (∀ u v, nget (pairUp d free) u = some v → nget d u = some v ∨ (u ∈ free ∧ v ∈ free)) ∧
      ∀ u w, u ∈ free → w ∈ free → nget (pairUp d free) u = none → nget (pairUp d free) w = none → u = w := by
  unfold pairUp
  refine g_a (pairs_get hn d (free.length / 2) (Nat.le_refl _)) fun h1 h2 => ?_
  generalize (List.range (free.length / 2)).foldl (pstep free) d = d' at h1 h2
  have inj : ∀ i j, i < free.length → j < free.length → free.getD i 0 = free.getD j 0 → i = j := fun i j hi hj e => by
    simp only [List.getD_eq_getElem?_getD, List.getElem?_eq_getElem hi, List.getElem?_eq_getElem hj, Option.getD_some] at e
    exact (List.getElem_inj hn).mp e
  have cases' : ∀ u, (∃ j, j < 2 * (free.length / 2) ∧ free.getD j 0 = u) ∨ ∀ j, j < 2 * (free.length / 2) → free.getD j 0 ≠ u := fun u => by
    by_cases h : ∃ j, j < 2 * (free.length / 2) ∧ free.getD j 0 = u
    · exact .inl h
    · exact .inr fun j hj e => h ⟨j, hj, e⟩
  have new : ∀ u v, nget d' u = some v → (nget d u = some v ∧ ∀ j, j < 2 * (free.length / 2) → free.getD j 0 ≠ u) ∨ ∃ j, j < 2 * (free.length / 2) ∧ free.getD j 0 = u ∧ free.getD (other2 j) 0 = v := fun u v e => by
    rcases cases' u with ⟨j, hj, hu⟩ | hu
    · refine .inr ⟨j, hj, hu, ?_⟩
      rw [← hu, h1 j hj] at e
      exact Option.some.inj e
    · rw [h2 u hu] at e
      exact .inl ⟨e, hu⟩
  have old : ∀ u v, nget d u = some v → nget d' u = some v := fun u v e => by
    rw [h2 u fun j hj q => ?_]
    · exact e
    · rw [hf u (q ▸ getD_in (by lia))] at e; cases e
  refine ⟨⟨fun u v e => ?_, fun u e => ?_⟩, old, fun u v e => ?_, fun u w hu hw e1 e2 => ?_⟩
  · rcases new u v e with ⟨q, _⟩ | ⟨j, hj, rfl, rfl⟩
    · exact old v u (hd.inv u v q)
    · have := h1 _ (other2_lt hj)
      rwa [(other2_two j).1] at this
  · rcases new u u e with ⟨q, _⟩ | ⟨j, hj, e1, e2⟩
    · exact hd.irr u q
    · have hl := other2_lt hj
      exact (other2_two j).2 (inj _ _ (by lia) (by lia) (e2.trans e1.symm))
  · rcases new u v e with ⟨q, _⟩ | ⟨j, hj, rfl, rfl⟩
    · exact .inl q
    · have hl := other2_lt hj
      exact .inr ⟨getD_in (by lia), getD_in (by lia)⟩
  · have last : ∀ u, u ∈ free → nget d' u = none → u = free.getD (free.length - 1) 0 := fun u hu e => by
      refine g_ea (getD_of_mem hu) fun j hj q2ₑ => ?_
      subst q2ₑ
      by_cases hlt : j < 2 * (free.length / 2)
      · rw [h1 j hlt] at e; cases e
      · have : j = free.length - 1 := by lia
        rw [this]
    rw [last u hu e1, last w hw e2]

-- a group of which all rows but one have a partner in it
structure Half (g rows : List Nat) (A D : ND) : Prop where
  ext : ∀ u v, nget D u = some v → nget A u = some v
  mat : Mat (nget D)
  ins : ∀ u v, u ∈ g → nget D u = some v → v ∈ g
  row : ∀ u v, nget D u = some v → u ∈ rows
  one : ∀ u w, u ∈ g → w ∈ g → u ∈ rows → w ∈ rows → nget D u = none → nget D w = none → u = w

theorem partners_ok (rows : List Nat) : ∀ (gs pre : List (List Nat)) (d : ND), (∀ g ∈ gs, g.Nodup) → (pre ++ gs).Pairwise (fun g' g => g'.length ≤ g.length) → (∀ g ∈ pre ++ gs, ∀ g' ∈ pre ++ gs, Nest g g') →
    Mat (nget d) → (∀ u v, nget d u = some v → u ∈ rows) → (∀ u v, nget d u = some v → ∃ g ∈ pre, u ∈ g ∧ v ∈ g) → (∀ g ∈ pre, ∃ D, Half g rows d D) →
    Mat (nget (gs.foldl (pturn rows) d)) ∧ (∀ u v, nget (gs.foldl (pturn rows) d) u = some v → u ∈ rows) ∧ ∀ g ∈ pre ++ gs, ∃ D, Half g rows (gs.foldl (pturn rows) d) D
  | [], pre, d, _, _, _, hM, hr, _, hh => ⟨hM, hr, fun g hg => hh g (by simpa using hg)⟩
  | g :: gs, pre, d, hn, hs, hl, hM, hr, hi, hh => by
    rw [List.foldl_cons]
    have e : pre ++ g :: gs = (pre ++ [g]) ++ gs := by simp
    rw [e] at hs hl ⊢
    have hgn := hn g (.head _)
    have hfn : (freeOf rows d g).Nodup := hgn.sublist List.filter_sublist
    have hfm : ∀ u, u ∈ freeOf rows d g ↔ u ∈ g ∧ u ∈ rows ∧ nget d u = none := fun u => by
      unfold freeOf
      rw [List.mem_filter]
      simp
    refine g_aaa (pairUp_ok hfn hM (fun u hu => ((hfm u).mp hu).2.2)) fun p1 p2 p3 p4 => ?_
    have hlen : ∀ g' ∈ pre, g'.length ≤ g.length := fun g' hg' => by
      have := (List.pairwise_append.mp (List.pairwise_append.mp hs).1).2.2
      exact this g' hg' g (.head _)
    have hin : ∀ u v, nget d u = some v → u ∈ g → v ∈ g := fun u v q hu => by
      refine g_eaa (hi u v q) fun g' hg' hu' hv' => ?_
      rcases hl g' (by simp [hg']) g (by simp) with z | z | z
      · exact absurd hu (z u hu')
      · exact z v hv'
      · exact sub_back hgn (hlen g' hg') z v hv'
    refine partners_ok rows gs (pre ++ [g]) (pturn rows d g) (fun x hx => hn x (.tail _ hx)) hs hl p1 (fun u v q => ?_) (fun u v q => ?_) fun x hx => ?_
    · rcases p3 u v q with z | ⟨z, _⟩
      · exact hr u v z
      · exact ((hfm u).mp z).2.1
    · rcases p3 u v q with z | ⟨z1, z2⟩
      · refine g_ea (hi u v z) fun x hx h => ?_
        exact ⟨x, List.mem_append_left _ hx, h⟩
      · exact ⟨g, by simp, ((hfm u).mp z1).1, ((hfm v).mp z2).1⟩
    · rcases List.mem_append.mp hx with hx | hx
      · refine g_e (hh x hx) fun D h => ?_
        exact ⟨D, fun u v q => p2 u v (h.ext u v q), h.mat, h.ins, h.row, h.one⟩
      · rw [List.mem_singleton.mp hx]
        refine ⟨pturn rows d g, fun _ _ q => q, p1, fun u v hu q => ?_, fun u v q => ?_, fun u w hu hw ru rw' q1 q2 => ?_⟩
        · rcases p3 u v q with z | ⟨_, z⟩
          · exact hin u v z hu
          · exact ((hfm v).mp z).1
        · rcases p3 u v q with z | ⟨z, _⟩
          · exact hr u v z
          · exact ((hfm u).mp z).2.1
        · have n : ∀ u, nget (pturn rows d g) u = none → nget d u = none := fun u q => by
            cases z : nget d u with
            | none => rfl
            | some v => rw [show nget (pturn rows d g) u = some v from p2 u v z] at q; cases q
          exact p4 u w ((hfm u).mpr ⟨hu, ru, n u q1⟩) ((hfm w).mpr ⟨hw, rw', n w q2⟩) q1 q2
theorem partners_half {rows : List Nat} {gs : List (List Nat)} (hn : ∀ g ∈ gs, g.Nodup) (hs : gs.Pairwise (fun g' g => g'.length ≤ g.length)) (hl : ∀ g ∈ gs, ∀ g' ∈ gs, Nest g g') :
    Mat (nget (partners gs rows)) ∧ (∀ u v, nget (partners gs rows) u = some v → u ∈ rows) ∧ ∀ g ∈ gs, ∃ D, Half g rows (partners gs rows) D :=
  partners_ok rows gs [] [] hn hs hl ⟨fun u v e => (nomatch e), fun u e => (nomatch e)⟩ (fun u v e => (nomatch e)) (fun u v e => (nomatch e)) fun g hg => (nomatch hg)

-- C05

-- what a dealing anew does to the rows

set_option tactic.hygienic true in
theorem walkN_dom {s : Nat} {A B : ND} {p : Nat → Prop} (hA : ∀ k v, nget A k = some v → p v) (hB : ∀ k v, nget B k = some v → p v) : ∀ (n : Nat) (st : ND × List Nat), (∀ k, (nget st.1 k).isSome = true → p k) → ∀ k, (nget (walkN s A B n st) k).isSome = true → p k
  | 0, st, h => h
  | n + 1, st, h => by
    unfold walkN
    cases st.2.getLast? with
    | none => exact h
    | some here =>
      have step : ∀ (st' : ND × List Nat) (P : ND), (∀ k v, nget P k = some v → p v) → (∀ k, (nget st'.1 k).isSome = true → p k) → ∀ k, (nget (tstep s here st' P).1 k).isSome = true → p k := by
        intro st' P hP hk k
        unfold tstep
        split
        · exact hk k
        · rename_i q hq
          split
          · exact hk k
          · dsimp only
            rw [nget_nput]
            split
            · rename_i e; intro _; exact e ▸ hP _ _ hq
            · exact hk k
      exact walkN_dom hA hB n _ (step _ B hB (step (st.1, st.2.dropLast) A hA h))

theorem rturn_ok {L one other row : Nat} {A B d : ND} (hA : Below L A) (hB : Below L B) (hr : row < L) (w : WOk L (one + other) (d, [])) : WOk L (one + other) (rturn one (one + other) A B d row, []) := by
  unfold rturn
  exact walkN_ok hA hB 200 _ (start_ok w hr (Nat.le_add_right one other)).1

set_option tactic.hygienic true in
theorem given_ok {L one other : Nat} {A B : ND} {c : Nat → Bool} {p : Nat → Prop} (hA : Below L A) (hB : Below L B) (hL : 1 + 2 * L ≤ 200) (hM : ∀ P ∈ [A, B], Mat (nget P)) (hc : ∀ P ∈ [A, B], ∀ a b, nget P a = some b → c a ≠ c b)
    (hpA : ∀ k v, nget A k = some v → p v) (hpB : ∀ k v, nget B k = some v → p v) : ∀ (rows : List Nat) (d : ND), (∀ r ∈ rows, r < L ∧ p r) → WOk L (one + other) (d, []) → Dealt A B one other d → (∀ k, (nget d k).isSome = true → p k) →
    Dealt A B one other (rows.foldl (rturn one (one + other) A B) d) ∧ (∀ k, (nget (rows.foldl (rturn one (one + other) A B) d) k).isSome = true → p k) ∧ (∀ k, (nget d k).isSome = true → (nget (rows.foldl (rturn one (one + other) A B) d) k).isSome = true) ∧ ∀ r ∈ rows, (nget (rows.foldl (rturn one (one + other) A B) d) r).isSome = true
  | [], d, _, _, hd, hp => ⟨hd, hp, fun _ q => q, fun r hr => (nomatch hr)⟩
  | row :: rows, d, hr, w, hd, hp => by
    refine (List.foldl_cons) ▸ ?_
    have hrow := hr row (.head _)
    refine g_aa (hd.turn hA hB hL hM hc hrow.1 w) fun h1 h2 h3 => ?_
    have h4 : ∀ k, (nget (rturn one (one + other) A B d row) k).isSome = true → p k := by
      unfold rturn
      refine walkN_dom hpA hpB 200 _ fun k hk => ?_
      unfold start at hk
      split at hk
      · exact hp k hk
      · dsimp only at hk
        rw [nget_nput] at hk
        split at hk
        · rename_i e; exact e ▸ hrow.2
        · exact hp k hk
    refine g_aaa (given_ok hA hB hL hM hc hpA hpB rows _ (fun r h => hr r (.tail _ h)) (rturn_ok hA hB hrow.1 w) h1 h4) fun g1 g2 g3 g4 => ?_
    refine ⟨g1, g2, fun k hk => g3 k (h2 k hk), fun r hm => ?_⟩
    rcases List.mem_cons.mp hm with rfl | hm
    · exact g3 _ h3
    · exact g4 r hm

-- pairs for the colouring
noncomputable def edg (A : ND) : List Nat → List (Nat × Nat)
  | [] => []
  | u :: us => match nget A u with
    | some v => if u < v then (u, v) :: edg A us else edg A us
    | none => edg A us
set_option tactic.hygienic true in
theorem edg_mem {A : ND} {a b : Nat} : ∀ {us : List Nat}, (a, b) ∈ edg A us ↔ a ∈ us ∧ nget A a = some b ∧ a < b
  | [] => ⟨fun h => (nomatch h), fun h => (nomatch h.1)⟩
  | u :: us => by
    have ih := edg_mem (A := A) (a := a) (b := b) (us := us)
    unfold edg
    split
    · rename_i v hv
      split
      · rename_i hlt
        rw [List.mem_cons, List.mem_cons, ih]
        constructor
        · rintro (e | e)
          · cases e; exact ⟨.inl rfl, hv, hlt⟩
          · exact ⟨.inr e.1, e.2⟩
        · rintro ⟨rfl | e, h⟩
          · rw [hv] at h; cases h.1; exact .inl rfl
          · exact .inr ⟨e, h⟩
      · rename_i hlt
        rw [List.mem_cons, ih]
        refine ⟨fun h => ⟨.inr h.1, h.2⟩, ?_⟩
        rintro ⟨rfl | e, h⟩
        · rw [hv] at h; cases h.1; exact absurd h.2 hlt
        · exact ⟨e, h⟩
    · rename_i hv
      rw [List.mem_cons, ih]
      refine ⟨fun h => ⟨.inr h.1, h.2⟩, ?_⟩
      rintro ⟨rfl | e, h⟩
      · rw [hv] at h; cases h.1
      · exact ⟨e, h⟩
set_option tactic.hygienic true in
theorem edg_apart {A : ND} (hM : Mat (nget A)) : ∀ {us : List Nat}, us.Nodup → Apart (edg A us)
  | [], _ => trivial
  | u :: us, hn => by
    refine g_a (List.nodup_cons.mp hn) fun h1 h2 => ?_
    have ih := edg_apart hM h2
    unfold edg
    split
    · rename_i v hv
      split
      · rename_i hlt
        have hv' := hM.inv u v hv
        refine ⟨Nat.ne_of_lt hlt, fun w h => ?_, fun w h => ?_, ih⟩
        · rcases h with h | h
          · exact h1 (edg_mem.mp h).1
          · refine g_aa (edg_mem.mp h) fun _ e l => ?_
            have := hM.inv _ _ e
            rw [hv] at this; cases this
            lia
        · rcases h with h | h
          · refine g_aa (edg_mem.mp h) fun _ e l => ?_
            rw [hv'] at e; cases e
            lia
          · refine g_aa (edg_mem.mp h) fun q e l => ?_
            have := hM.inv _ _ e
            rw [hv'] at this; cases this
            exact h1 q
      · exact ih
    · exact ih
theorem coloured {L : Nat} {A B : ND} (hA : Mat (nget A)) (hB : Mat (nget B)) (hlt : ∀ a b, nget A a = some b → a < L) : ∃ c : Nat → Bool, ∀ P ∈ [A, B], ∀ a b, nget P a = some b → c a ≠ c b := by
  have hd : ∀ a b, nget A a = some b → a ∈ List.range L := fun a b e => List.mem_range.mpr (hlt a b e)
  refine g_ea (two_col (nget B) hB (edg A (List.range L)) (edg_apart hA List.nodup_range)) fun c h1 h2 => ?_
  refine ⟨c, fun P hP a b e => ?_⟩
  rcases List.mem_cons.mp hP with rfl | hP
  · have hne : a ≠ b := fun q => hA.irr a (q ▸ e)
    have e' := hA.inv a b e
    by_cases hlt : a < b
    · exact h1 a b (.inl (edg_mem.mpr ⟨hd a b e, e, hlt⟩))
    · exact h1 a b (.inr (edg_mem.mpr ⟨hd b a e', e', by lia⟩))
  · rw [List.mem_singleton.mp hP] at e
    exact h2 a b e

-- counting

theorem sub_len : ∀ {l m : List Nat}, l.Nodup → (∀ x ∈ l, x ∈ m) → l.length ≤ m.length
  | [], m, _, _ => Nat.zero_le _
  | a :: l, m, hn, h => by
    refine g_a (List.nodup_cons.mp hn) fun h1 h2 => ?_
    have ha := h a (.head _)
    have ih := sub_len (m := m.erase a) h2 fun y hy => (List.mem_erase_of_ne (by rintro rfl; exact h1 hy)).mpr (h y (.tail _ hy))
    rw [List.length_erase_of_mem ha] at ih
    have := List.length_pos_of_mem ha
    rw [List.length_cons]; lia
theorem one_len {l : List Nat} (hn : l.Nodup) (h : ∀ x ∈ l, ∀ y ∈ l, x = y) : l.length ≤ 1 := by
  match l, hn, h with
  | [], _, _ => exact Nat.zero_le _
  | [a], _, _ => exact Nat.le_refl _
  | a :: b :: l, hn, h =>
    have := h a (.head _) b (.tail _ (.head _))
    subst this
    exact absurd (List.Mem.head _) (List.nodup_cons.mp hn).1

noncomputable abbrev cnt (x : Nat → Nat) (g : List Nat) (p : Nat) : Nat := g.countP fun u => x u == p

theorem half_le {g rows : List Nat} {A D : ND} {x : Nat → Nat} {p q : Nat} (hg : g.Nodup) (H : Half g rows A D) (hr : ∀ u ∈ g, x u = p → u ∈ rows) (opp : ∀ u v, nget A u = some v → x u + x v = p + q) : cnt x g p ≤ cnt x g q + 1 := by
  unfold cnt
  rw [List.countP_eq_length_filter, List.countP_eq_length_filter]
  have hF : (g.filter fun u => x u == p).Nodup := hg.sublist List.filter_sublist
  have hm : ∀ u, u ∈ (g.filter fun u => x u == p) → u ∈ g ∧ x u = p := fun u hu => by
    refine g_a (List.mem_filter.mp hu) fun h1 h2 => ?_
    exact ⟨h1, eq_of_beq h2⟩
  generalize (g.filter fun u => x u == p) = F at hF hm
  rw [List.length_eq_countP_add_countP (fun u => (nget D u).isSome), List.countP_eq_length_filter, List.countP_eq_length_filter]
  refine Nat.add_le_add ?_ ?_
  · have hC : (F.filter fun u => (nget D u).isSome).Nodup := hF.sublist List.filter_sublist
    have hc : ∀ u, u ∈ (F.filter fun u => (nget D u).isSome) → ∃ v, nget D u = some v ∧ v ∈ g ∧ x v = q := fun u hu => by
      refine g_a (List.mem_filter.mp hu) fun h1 h2 => ?_
      refine g_e (Option.isSome_iff_exists.mp h2) fun v hv => ?_
      refine g_a (hm u h1) fun h3 h4 => ?_
      have := opp u v (H.ext u v hv)
      exact ⟨v, hv, H.ins u v h3 hv, by lia⟩
    generalize (F.filter fun u => (nget D u).isSome) = C at hC hc
    have hl : (C.map fun u => (nget D u).getD 0).length = C.length := List.length_map _
    refine (hl) ▸ ?_
    refine sub_len ?_ fun v hv => ?_
    · show List.Pairwise _ _
      rw [List.pairwise_map]
      refine List.Pairwise.imp_of_mem (fun {a b} ha hb hne e => hne ?_) hC
      refine g_ea (hc a ha) fun v h1 _ => ?_
      refine g_ea (hc b hb) fun w h2 _ => ?_
      rw [h1, h2] at e
      have e : v = w := e
      subst e
      have := H.mat.inv _ _ h1
      rw [H.mat.inv _ _ h2] at this
      cases this; rfl
    · refine g_ea (List.mem_map.mp hv) fun u hu q2ₑ => ?_
      subst q2ₑ
      refine g_eaa (hc u hu) fun v h1 h2 h3 => ?_
      refine (h1) ▸ ?_
      exact List.mem_filter.mpr ⟨h2, beq_iff_eq.mpr h3⟩
  · refine one_len (hF.sublist List.filter_sublist) fun u hu w hw => ?_
    refine g_a (List.mem_filter.mp hu) fun h1 h2 => ?_
    refine g_a (List.mem_filter.mp hw) fun h3 h4 => ?_
    refine g_a (hm u h1) fun a1 a2 => ?_
    refine g_a (hm w h3) fun b1 b2 => ?_
    exact H.one u w a1 b1 (hr u a1 a2) (hr w b1 b2) (by simpa using h2) (by simpa using h4)

-- a family of groups
structure Fam (L : Nat) (gs : List (List Nat)) : Prop where
  nod : ∀ g ∈ gs, g.Nodup
  lt : ∀ g ∈ gs, ∀ k ∈ g, k < L
  srt : gs.Pairwise (fun g' g => g'.length ≤ g.length)
  nest : ∀ g ∈ gs, ∀ g' ∈ gs, Nest g g'

noncomputable abbrev hd (hs : List Nat) (k : Nat) : Nat := hs.getD k 0

theorem anew_get {bs ps : List (List Nat)} {hs : List Nat} {one other k : Nat} (h : k < hs.length) : hd (anew bs ps hs one other) k = (nget (givenOf bs ps hs one other) k).getD (hd hs k) := by
  unfold hd anew
  rw [List.getD_eq_getElem?_getD, List.getElem?_map, List.getElem?_range h]; rfl

theorem anew_ok {bs ps : List (List Nat)} {hs : List Nat} {L one other : Nat} (fb : Fam L bs) (fp : Fam L ps) (hL : L ≤ 90) (hl : hs.length = L) :
    (∀ k, k < L → hd hs k ≠ one → hd hs k ≠ other → hd (anew bs ps hs one other) k = hd hs k) ∧
    (∀ k, k < L → hd hs k = one ∨ hd hs k = other → hd (anew bs ps hs one other) k = one ∨ hd (anew bs ps hs one other) k = other) ∧
    ∀ g ∈ bs ++ ps, cnt (hd (anew bs ps hs one other)) g one ≤ cnt (hd (anew bs ps hs one other)) g other + 1 ∧ cnt (hd (anew bs ps hs one other)) g other ≤ cnt (hd (anew bs ps hs one other)) g one + 1 := by
  have hrow : ∀ k, k ∈ rowsOf hs one other ↔ k < L ∧ (hd hs k = one ∨ hd hs k = other) := fun k => by
    unfold rowsOf
    rw [List.mem_filter, List.mem_range, hl]
    simp
  refine g_aa (partners_half (rows := rowsOf hs one other) fb.nod fb.srt fb.nest) fun mA rA hA => ?_
  refine g_aa (partners_half (rows := rowsOf hs one other) fp.nod fp.srt fp.nest) fun mB rB hB => ?_
  have get := fun k (h : k < L) => anew_get (bs := bs) (ps := ps) (one := one) (other := other) (hl.symm ▸ h)
  have gvals := given_vals (bs := bs) (ps := ps) (hs := hs) (one := one) (other := other)
  unfold givenOf at get gvals
  generalize rowsOf hs one other = rows at *
  generalize hAe : partners bs rows = A at *
  generalize hBe : partners ps rows = B at *
  have hrl : ∀ x ∈ rows, x < L := fun x hx => ((hrow x).mp hx).1
  refine g_e (coloured mA mB fun a b e => hrl a (rA a b e)) fun c hc => ?_
  have bA : Below L A := hAe ▸ partners_below hrl
  have bB : Below L B := hBe ▸ partners_below hrl
  have vA : ∀ k v, nget A k = some v → v ∈ rows := fun k v e => rA v k (mA.inv k v e)
  have vB : ∀ k v, nget B k = some v → v ∈ rows := fun k v e => rB v k (mB.inv k v e)
  obtain ⟨g1, g2, _, g4⟩ := given_ok (one := one) (other := other) (p := (· ∈ rows)) bA bB (by lia) (fun P hP => by
    rcases List.mem_cons.mp hP with rfl | hP
    · exact mA
    · rw [List.mem_singleton.mp hP]; exact mB) hc vA vB rows [] (fun r hr => ⟨hrl r hr, hr⟩) ⟨by have := un_le L []; simpa using this, fun x hx => (nomatch hx), fun k v hk => (nomatch hk)⟩
    ⟨fun w hw => (nomatch hw), fun P _ u v _ a b ha => (nomatch ha), fun w v hw => (nomatch hw)⟩ (fun k hk => (nomatch hk))
  generalize rows.foldl (rturn one (one + other) A B) [] = d at *
  have out : ∀ k, k < L → k ∉ rows → hd (anew bs ps hs one other) k = hd hs k := fun k hk hn => by
    refine (get k hk) ▸ ?_
    cases e : nget d k with
    | none => rfl
    | some v => exact absurd (g2 k (by rw [e]; rfl)) hn
  have inn : ∀ k, k ∈ rows → nget d k = some (hd (anew bs ps hs one other) k) := fun k hk => by
    refine g_e (Option.isSome_iff_exists.mp (g4 k hk)) fun v hv => ?_
    rw [get k (hrl k hk), hv]; rfl
  have opp : ∀ P ∈ [A, B], ∀ u v, nget P u = some v → hd (anew bs ps hs one other) u + hd (anew bs ps hs one other) v = one + other := fun P hP u v e => by
    have hu : u ∈ rows ∧ v ∈ rows := by
      rcases List.mem_cons.mp hP with rfl | hP
      · exact ⟨rA u v e, vA u v e⟩
      · rw [List.mem_singleton.mp hP] at e; exact ⟨rB u v e, vB u v e⟩
    exact g1.opp P hP u v e _ _ (inn u hu.1) (inn v hu.2)
  have c2 : ∀ k, k < L → hd hs k = one ∨ hd hs k = other → hd (anew bs ps hs one other) k = one ∨ hd (anew bs ps hs one other) k = other := fun k hk h =>
    gvals k _ (inn k ((hrow k).mpr ⟨hk, h⟩))
  have hr : ∀ k, k < L → hd (anew bs ps hs one other) k = one ∨ hd (anew bs ps hs one other) k = other → k ∈ rows := fun k hk h => by
    by_cases hn : k ∈ rows
    · exact hn
    · rw [out k hk hn] at h
      exact (hrow k).mpr ⟨hk, h⟩
  refine ⟨fun k hk h1 h2 => out k hk fun q => ((hrow k).mp q).2.elim h1 h2, c2, fun g hg => ?_⟩
  have key : ∀ P ∈ [A, B], (∃ D, Half g rows P D) → g.Nodup → (∀ k ∈ g, k < L) → _ := fun P hP ⟨D, H⟩ hn hlt =>
    And.intro (half_le (x := hd (anew bs ps hs one other)) (p := one) (q := other) hn H (fun u hu e => hr u (hlt u hu) (.inl e)) (opp P hP)) (half_le (x := hd (anew bs ps hs one other)) (p := other) (q := one) hn H (fun u hu e => hr u (hlt u hu) (.inr e)) (fun u v e => (opp P hP u v e).trans (Nat.add_comm _ _)))
  rcases List.mem_append.mp hg with hg | hg
  · exact key A (.head _) (hA g hg) (fb.nod g hg) (fb.lt g hg)
  · exact key B (.tail _ (.head _)) (hB g hg) (fp.nod g hg) (fp.lt g hg)

-- C07

theorem bump_get (hs c : List Nat) (k h : Nat) (hh : h < c.length) : (bump hs c k).getD h 0 = c.getD h 0 + if hd hs k = h then 1 else 0 := by
  unfold bump hd
  rw [List.getD_eq_getElem?_getD, List.getElem?_set]
  by_cases e : hs.getD k 0 = h
  · subst e
    rw [if_pos rfl, if_pos hh, if_pos rfl]; rfl
  · rw [if_neg e, if_neg e, ← List.getD_eq_getElem?_getD, Nat.add_zero]
theorem fold_get (hs : List Nat) (h : Nat) : ∀ (g c : List Nat), h < c.length → (g.foldl (bump hs) c).getD h 0 = c.getD h 0 + cnt (hd hs) g h
  | [], c, _ => rfl
  | k :: g, c, hh => by
    rw [List.foldl_cons, fold_get hs h g _ (by rw [bump_len]; exact hh), bump_get hs c k h hh]
    unfold cnt
    rw [List.countP_cons]
    by_cases e : hd hs k = h
    · rw [if_pos e, if_pos (beq_iff_eq.mpr e)]; lia
    · rw [if_neg e, if_neg (by rw [beq_iff_eq]; exact e)]; lia
theorem counts_get {g hs : List Nat} {m h : Nat} (hh : h < m) : (counts g hs m).getD h 0 = cnt (hd hs) g h := by
  unfold counts
  rw [fold_get hs h g _ (by rw [List.length_replicate]; exact hh)]
  rw [List.getD_eq_getElem?_getD, List.getElem?_replicate, if_pos hh]
  simp

-- the greatest and the least, told by their places
set_option tactic.hygienic true in
theorem uneven_inv {gs : List (List Nat)} {hs : List Nat} {m : Nat} (hm : 0 < m) : uneven gs hs m = [] ∨ ∃ a b g, uneven gs hs m = [a, b] ∧ a < m ∧ b < m ∧ g ∈ gs ∧ cnt (hd hs) g b + 1 < cnt (hd hs) g a := by
  unfold uneven
  cases h : gs.findSome? fun g => unevenIn (counts g hs m) with
  | none => exact .inl rfl
  | some r =>
    refine g_ea (List.exists_of_findSome?_eq_some h) fun g hg hr => ?_
    unfold unevenIn at hr
    split at hr
    · rename_i hlt
      cases hr
      have hl := counts_len g hs m
      have h1 := List.idxOf_lt_length_of_mem (mx_mem (l := counts g hs m) (by lia))
      have h2 := List.idxOf_lt_length_of_mem (mn_mem (l := counts g hs m) (by lia))
      have e1 : (counts g hs m).getD ((counts g hs m).idxOf (mx (counts g hs m))) 0 = mx (counts g hs m) := by
        rw [List.getD_eq_getElem?_getD, List.getElem?_eq_getElem h1]; exact List.getElem_idxOf h1
      have e2 : (counts g hs m).getD ((counts g hs m).idxOf (mn (counts g hs m))) 0 = mn (counts g hs m) := by
        rw [List.getD_eq_getElem?_getD, List.getElem?_eq_getElem h2]; exact List.getElem_idxOf h2
      rw [counts_get (by lia)] at e1 e2
      exact .inr ⟨_, _, g, rfl, by lia, by lia, hg, by lia⟩
    · exact none_ne hr

-- the sum of the squares falls

noncomputable def sq (m : Nat) (f : Nat → Nat) : Nat := ((List.range m).map fun h => f h * f h).sum
theorem sum_one (f : Nat → Nat) (a v : Nat) : ∀ {l : List Nat}, l.Nodup → a ∈ l → (l.map fun h => if h = a then v else f h).sum + f a = (l.map f).sum + v
  | b :: l, hn, ha => by
    obtain ⟨h1, h2⟩ := List.nodup_cons.mp hn
    rw [List.map_cons, List.map_cons, List.sum_cons, List.sum_cons]
    by_cases e : b = a
    · subst e
      refine (if_pos rfl) ▸ ?_
      have : (l.map fun h => if h = b then v else f h) = l.map f := List.map_congr_left fun x hx => if_neg (by rintro rfl; exact h1 hx)
      rw [this]; lia
    · refine (if_neg e) ▸ ?_
      have := sum_one f a v h2 ((List.mem_cons.mp ha).resolve_left fun q => e q.symm)
      lia
theorem sum_two (f f' : Nat → Nat) {a b : Nat} (hab : a ≠ b) {l : List Nat} (hn : l.Nodup) (ha : a ∈ l) (hb : b ∈ l) (h : ∀ x ∈ l, x ≠ a → x ≠ b → f' x = f x) : (l.map f').sum + f a + f b = (l.map f).sum + f' a + f' b := by
  have h1 := sum_one f a (f' a) hn ha
  have h2 := sum_one (fun x => if x = a then f' a else f x) b (f' b) hn hb
  have e : (l.map fun x => if x = b then f' b else if x = a then f' a else f x) = l.map f' := List.map_congr_left fun x hx => by
    by_cases e1 : x = b
    · rw [if_pos e1, e1]
    · rw [if_neg e1]
      by_cases e2 : x = a
      · rw [if_pos e2, e2]
      · rw [if_neg e2, h x hx e2 e1]
  rw [e] at h2
  rw [if_neg (Ne.symm hab)] at h2
  lia
theorem squares8 : ∀ x y x' y' : Fin 8, x'.1 + y'.1 = x.1 + y.1 → x'.1 ≤ y'.1 + 1 → y'.1 ≤ x'.1 + 1 → x'.1 * x'.1 + y'.1 * y'.1 ≤ x.1 * x.1 + y.1 * y.1 ∧ (y.1 + 1 < x.1 → x'.1 * x'.1 + y'.1 * y'.1 < x.1 * x.1 + y.1 * y.1) := by decide +kernel
theorem squares {x y x' y' : Nat} (h1 : x < 8) (h2 : y < 8) (h3 : x' < 8) (h4 : y' < 8) : x' + y' = x + y → x' ≤ y' + 1 → y' ≤ x' + 1 → x' * x' + y' * y' ≤ x * x + y * y ∧ (y + 1 < x → x' * x' + y' * y' < x * x + y * y) := squares8 ⟨x, h1⟩ ⟨y, h2⟩ ⟨x', h3⟩ ⟨y', h4⟩

theorem sq_two {m a b : Nat} {f f' : Nat → Nat} (hab : a ≠ b) (ha : a < m) (hb : b < m) (h : ∀ x, x ≠ a → x ≠ b → f' x = f x) (hs : f' a + f' b = f a + f b) (h1 : f' a ≤ f' b + 1) (h2 : f' b ≤ f' a + 1) (h3 : f a + f b < 8) :
    sq m f' ≤ sq m f ∧ (f b + 1 < f a → sq m f' < sq m f) := by
  have q := sum_two (fun x => f x * f x) (fun x => f' x * f' x) hab List.nodup_range (List.mem_range.mpr ha) (List.mem_range.mpr hb) fun x _ e1 e2 => by rw [h x e1 e2]
  have z := squares (x := f a) (y := f b) (x' := f' a) (y' := f' b) (by lia) (by lia) (by lia) (by lia) hs h1 h2
  unfold sq
  exact ⟨by have := z.1; lia, fun w => by have := z.2 w; lia⟩

noncomputable def phi (gs : List (List Nat)) (m : Nat) (hs : List Nat) : Nat := (gs.map fun g => sq m (cnt (hd hs) g)).sum
theorem sum_lt {α : Type} {f f' : α → Nat} : ∀ {l : List α}, (∀ x ∈ l, f' x ≤ f x) → (l.map f').sum ≤ (l.map f).sum ∧ ((∃ x ∈ l, f' x < f x) → (l.map f').sum < (l.map f).sum)
  | [], _ => ⟨Nat.le_refl _, fun ⟨x, hx, _⟩ => (nomatch hx)⟩
  | a :: l, h => by
    refine g_a (sum_lt (l := l) fun x hx => h x (.tail _ hx)) fun h1 h2 => ?_
    have ha := h a (.head _)
    rw [List.map_cons, List.map_cons, List.sum_cons, List.sum_cons]
    refine ⟨by lia, fun ⟨x, hx, hlt⟩ => ?_⟩
    rcases List.mem_cons.mp hx with rfl | hx
    · lia
    · have := h2 ⟨x, hx, hlt⟩; lia

theorem cnt_two {x : Nat → Nat} {a b : Nat} (hab : a ≠ b) (g : List Nat) : cnt x g a + cnt x g b = g.countP fun u => x u == a || x u == b := by
  induction g with
  | nil => rfl
  | cons u g ih =>
    unfold cnt at ih ⊢
    rw [List.countP_cons, List.countP_cons, List.countP_cons, ← ih]
    by_cases e1 : x u = a
    · subst e1; simp [hab]; lia
    · by_cases e2 : x u = b
      · subst e2; simp [e1]; lia
      · simp [e1, e2]

theorem phi_falls {bs ps : List (List Nat)} {hs : List Nat} {L m a b : Nat} (fb : Fam L bs) (fp : Fam L ps) (hL : L < 8) (hl : hs.length = L) (ha : a < m) (hb : b < m) (hu : ∃ g ∈ bs ++ ps, cnt (hd hs) g b + 1 < cnt (hd hs) g a) : phi (bs ++ ps) m (anew bs ps hs a b) < phi (bs ++ ps) m hs := by
  refine g_aa (anew_ok (one := a) (other := b) fb fp (Nat.le_trans (Nat.le_of_lt hL) (by decide)) hl) fun h1 h2 h3 => ?_
  have hab : a ≠ b := fun e => by obtain ⟨g, _, h⟩ := hu; subst e; lia
  generalize anew bs ps hs a b = hs' at h1 h2 h3
  have key : ∀ g ∈ bs ++ ps, sq m (cnt (hd hs') g) ≤ sq m (cnt (hd hs) g) ∧ (cnt (hd hs) g b + 1 < cnt (hd hs) g a → sq m (cnt (hd hs') g) < sq m (cnt (hd hs) g)) := fun g hg => by
    have hlt : ∀ k ∈ g, k < L := by rcases List.mem_append.mp hg with q | q; exact fb.lt g q; exact fp.lt g q
    have hnd : g.Nodup := by rcases List.mem_append.mp hg with q | q; exact fb.nod g q; exact fp.nod g q
    have hlen : g.length ≤ L := by
      have := sub_len (m := List.range L) hnd fun k hk => List.mem_range.mpr (hlt k hk)
      rwa [List.length_range] at this
    refine g_a (h3 g hg) fun g1 g2 => ?_
    refine sq_two hab ha hb (fun x e1 e2 => ?_) ?_ g1 g2 ?_
    · unfold cnt
      refine List.countP_congr fun k hk => ?_
      have hk := hlt k hk
      rw [beq_iff_eq, beq_iff_eq]
      by_cases q : hd hs k = a ∨ hd hs k = b
      · have := h2 k hk q
        constructor
        · intro z; rw [z] at this; exact (this.elim e1 e2).elim
        · intro z; rw [z] at q; exact (q.elim e1 e2).elim
      · rw [h1 k hk (fun z => q (.inl z)) (fun z => q (.inr z))]
    · rw [cnt_two hab, cnt_two hab]
      refine List.countP_congr fun k hk => ?_
      have hk := hlt k hk
      rw [Bool.or_eq_true, beq_iff_eq, beq_iff_eq, Bool.or_eq_true, beq_iff_eq, beq_iff_eq]
      refine ⟨fun z => ?_, h2 k hk⟩
      by_cases q : hd hs k = a ∨ hd hs k = b
      · exact q
      · rw [h1 k hk (fun z => q (.inl z)) (fun z => q (.inr z))] at z
        exact z
    · rw [cnt_two hab]
      have := List.countP_le_length (l := g) (p := fun u => hd hs u == a || hd hs u == b)
      lia
  exact (sum_lt fun g hg => (key g hg).1).2 (let ⟨g, hg, h⟩ := hu; ⟨g, hg, (key g hg).2 h⟩)

-- the dealing ends, and evenly
theorem share_ends {bs ps : List (List Nat)} {L m : Nat} (fb : Fam L bs) (fp : Fam L ps) (hL : L < 8) (hm : 0 < m) : ∀ (n : Nat) (hs : List Nat), hs.length = L → (∀ x ∈ hs, x < m) → phi (bs ++ ps) m hs < n → ∃ r, shareN bs ps m n hs = some r ∧ r.length = L ∧ (∀ x ∈ r, x < m) ∧ uneven (bs ++ ps) r m = []
  | 0, hs, _, _, h => by lia
  | n + 1, hs, hl, hx, h => by
    unfold shareN
    rcases uneven_inv (gs := bs ++ ps) (hs := hs) hm with e | ⟨a, b, g, e, ha, hb, hg, hlt⟩
    · rw [e]; exact ⟨hs, rfl, hl, hx, e⟩
    · refine (e) ▸ ?_
      have := phi_falls fb fp hL hl ha hb ⟨g, hg, hlt⟩
      exact share_ends fb fp hL hm n _ (by rw [anew_len, hl]) (anew_lt hx ha hb) (by lia)

theorem sq_le {m B : Nat} {f : Nat → Nat} (h : ∀ x, f x ≤ B) : sq m f ≤ m * (B * B) := by
  unfold sq
  have : ∀ l : List Nat, (l.map fun h => f h * f h).sum ≤ l.length * (B * B) := by
    intro l
    induction l with
    | nil => simp
    | cons a l ih =>
      rw [List.map_cons, List.sum_cons, List.length_cons, Nat.succ_mul]
      have := Nat.mul_le_mul (h a) (h a)
      lia
  have := this (List.range m)
  rwa [List.length_range] at this
theorem phi_le {gs : List (List Nat)} {L m : Nat} (h : ∀ g ∈ gs, g.length ≤ L) (hs : List Nat) : phi gs m hs ≤ gs.length * (m * (L * L)) := by
  unfold phi
  induction gs with
  | nil => simp
  | cons g gs ih =>
    rw [List.map_cons, List.sum_cons, List.length_cons, Nat.succ_mul]
    have h1 := ih fun x hx => h x (.tail _ hx)
    have h2 := sq_le (m := m) (f := cnt (hd hs) g) (B := L) fun x => Nat.le_trans List.countP_le_length (h g (.head _))
    lia
theorem Fam.len {L : Nat} {gs : List (List Nat)} (f : Fam L gs) : ∀ g ∈ gs, g.length ≤ L := fun g hg => by
  have := sub_len (m := List.range L) (f.nod g hg) fun k hk => List.mem_range.mpr (f.lt g hg k hk)
  rwa [List.length_range] at this
theorem share_ok {bs ps : List (List Nat)} {L m : Nat} (fb : Fam L bs) (fp : Fam L ps) (hL : L ≤ 6) (hm : 0 < m) (hm4 : m ≤ 4) (hn : bs.length + ps.length ≤ 26) :
    ∃ r, shareN bs ps m 4000 (hands0 L m) = some r ∧ r.length = L ∧ (∀ x ∈ r, x < m) ∧ uneven (bs ++ ps) r m = [] := by
  refine share_ends fb fp (by lia) hm 4000 _ (by unfold hands0; simp) (fun x hx => ?_) ?_
  · unfold hands0 at hx
    refine g_ea (List.mem_map.mp hx) fun k _ q2ₑ => ?_
    subst q2ₑ
    exact Nat.mod_lt _ hm
  · have h1 := phi_le (gs := bs ++ ps) (L := 6) (m := m) (fun g hg => by
      rcases List.mem_append.mp hg with q | q
      · exact Nat.le_trans (fb.len g q) hL
      · exact Nat.le_trans (fp.len g q) hL) (hands0 L m)
    rw [List.length_append] at h1
    have h2 : (bs.length + ps.length) * (m * (6 * 6)) ≤ 26 * (4 * (6 * 6)) := Nat.mul_le_mul hn (Nat.mul_le_mul hm4 (Nat.le_refl _))
    lia

-- C06

noncomputable def allB : Nat → List (List Bool)
  | 0 => [[]]
  | n + 1 => [] :: (allB n).flatMap fun l => [false :: l, true :: l]
theorem mem_allB : ∀ (n : Nat) (l : List Bool), l.length ≤ n → l ∈ allB n
  | 0, l, h => by rw [List.length_eq_zero_iff.mp (Nat.le_zero.mp h)]; exact .head _
  | n + 1, [], _ => .head _
  | n + 1, b :: l, h => by
    refine .tail _ (List.mem_flatMap.mpr ⟨l, mem_allB n l (by simpa using h), ?_⟩)
    cases b <;> simp
theorem less5 : ((allB 5).all fun l => (allB 5).all fun m => wless l m == lessC l m) = true := by decide +kernel
theorem less_eq {l m : List Bool} (hl : l.length ≤ 5) (hm : m.length ≤ 5) : wless l m = lessC l m :=
  eq_of_beq (List.all_eq_true.mp (List.all_eq_true.mp less5 l (mem_allB 5 l hl)) m (mem_allB 5 m hm))

theorem lessC_trans {a b c : List Bool} (h : lessC a b = true) (h' : lessC b c = true) : lessC a c = true := by
  unfold lessC at *
  rw [List.all_eq_true] at *
  intro s hs
  have h1 := of_decide_eq_true (h s hs)
  have h2 := of_decide_eq_true (h' s hs)
  exact decide_eq_true (Nat.lt_trans h1 h2)

theorem rg_nil {a b : Nat} (h : b ≤ a) : rg a b = [] := by unfold rg; rw [Nat.sub_eq_zero_of_le h]; rfl
theorem rg_cons {a b : Nat} (h : a < b) : rg a b = a :: rg (a + 1) b := by
  unfold rg
  obtain ⟨n, e⟩ : ∃ n, b - a = n + 1 := ⟨b - a - 1, by lia⟩
  rw [e, show b - (a + 1) = n by lia, List.range_succ_eq_map, List.map_cons, List.map_map]
  refine congrArg (a :: ·) (List.map_congr_left fun k _ => ?_)
  show a + (k + 1) = a + 1 + k
  lia
theorem rg_nodup (a b : Nat) : (rg a b).Nodup := by
  unfold rg
  show List.Pairwise _ _
  rw [List.pairwise_map]
  exact List.Pairwise.imp (fun h e => h (by lia)) List.nodup_range

-- the rows below one, as far as the test goes
theorem tw_rg (p : Nat → Bool) : ∀ (n a b : Nat), b - a = n → ∃ e, (rg a b).takeWhile p = rg a e ∧ a ≤ e ∧ (e ≤ b ∨ e = a) ∧ (∀ k, a ≤ k → k < e → p k = true) ∧ (e < b → p e = false)
  | 0, a, b, h => ⟨a, by rw [rg_nil (by lia), rg_nil (Nat.le_refl _)]; rfl, Nat.le_refl _, .inr rfl, fun k h1 h2 => by lia, fun h1 => by lia⟩
  | n + 1, a, b, h => by
    rw [rg_cons (by lia), List.takeWhile_cons]
    cases hp : p a with
    | false => exact ⟨a, by rw [rg_nil (Nat.le_refl _)]; rfl, Nat.le_refl _, .inr rfl, fun k h1 h2 => by lia, fun _ => hp⟩
    | true =>
      refine g_eaaaa (tw_rg p n (a + 1) b (by lia)) fun e h1 h2 h3 h4 h5 => ?_
      refine ⟨e, by rw [if_pos rfl, h1, rg_cons (by lia : a < e)], by lia, by lia, fun k k1 k2 => ?_, h5⟩
      by_cases e0 : k = a
      · rw [e0]; exact hp
      · exact h4 k (by lia) k2
theorem filter_rg {a b e : Nat} (he : e ≤ b) (q : Nat → Bool) (h : ∀ k, a ≤ k → k < b → (q k = true ↔ k < e)) : (rg a b).filter q = rg a e := by
  by_cases hae : a < e
  · generalize hn : e - a = n
    induction n generalizing a with
    | zero => lia
    | succ n ih =>
      rw [rg_cons (by lia : a < b), rg_cons hae, List.filter_cons, if_pos ((h a (Nat.le_refl _) (by lia)).mpr hae)]
      by_cases h2 : a + 1 < e
      · rw [ih (fun k h1 h2 => h k (by lia) h2) h2 (by lia)]
      · rw [rg_nil (by lia : e ≤ a + 1)]
        have : (rg (a + 1) b).filter q = [] := by
          rw [List.filter_eq_nil_iff]
          intro k hk z
          refine g_a (mem_rg.mp hk) fun k1 k2 => ?_
          have := (h k (by lia) k2).mp z
          lia
        rw [this]
  · rw [rg_nil (by lia : e ≤ a), List.filter_eq_nil_iff]
    intro k hk z
    refine g_a (mem_rg.mp hk) fun k1 k2 => ?_
    have := (h k k1 k2).mp z
    lia

-- blocks as runs of rows
structure Runs (L : Nat) (bs : List (List Nat)) (e : Nat → Nat) : Prop where
  eq : bs = (List.range L).map fun i => rg i (e i)
  lo : ∀ i, i < L → i < e i
  hi : ∀ i, i < L → e i ≤ L
  in_ : ∀ i j, i < L → j < L → i < j → j < e i → e j ≤ e i

theorem blocks_runs {ls : List (List Bool)} (hl : ∀ l ∈ ls, l.length ≤ 5) : ∃ e, Runs ls.length (blocksN ls) e ∧ blocksN ls = outline ls := by
  have hlen : ∀ i, (ls.getD i []).length ≤ 5 := fun i => by
    rw [List.getD_eq_getElem?_getD]
    cases q : ls[i]? with
    | none => exact Nat.zero_le _
    | some l => exact hl l (List.mem_of_getElem? q)
  have ex := fun i => tw_rg (fun j => wless (ls.getD i []) (ls.getD j [])) _ (i + 1) ls.length rfl
  refine g_e (Classical.axiomOfChoice ex) fun e he => ?_
  have hle : ∀ i j, wless (ls.getD i []) (ls.getD j []) = lessC (ls.getD i []) (ls.getD j []) := fun i j => less_eq (hlen i) (hlen j)
  have hup : ∀ i, i < ls.length → e i ≤ ls.length := fun i hi => by
    refine g_aaa (he i) fun _ h2 h3 _ => ?_
    lia
  refine ⟨e, ⟨?_, fun i hi => (he i).2.1, hup, fun i j hi hj hij hje => ?_⟩, ?_⟩
  · unfold blocksN
    refine List.map_congr_left fun i hi => ?_
    unfold blk
    rw [(he i).1, rg_cons (he i).2.1]
  · by_cases hc : e j ≤ e i
    · exact hc
    · refine g_aaaa (he i) fun _ _ _ a4 a5 => ?_
      refine g_aaaa (he j) fun _ _ _ b4 _ => ?_
      have := hup j hj
      have h1 := a4 j (by lia) hje
      have h2 := b4 (e i) (by lia) (by lia)
      have h3 := a5 (by lia)
      rw [hle] at h1 h2 h3
      rw [lessC_trans h1 h2] at h3
      cases h3
  · unfold blocksN outline
    refine List.map_congr_left fun i hi => ?_
    have hi := List.mem_range.mp hi
    refine g_aaaa (he i) fun a1 a2 a3 a4 a5 => ?_
    unfold blk outl
    rw [a1]
    congr 1
    have hd : ∀ k, k ∈ deeper ls i ↔ (i + 1 ≤ k ∧ k < ls.length) ∧ lessC (ls.getD i []) (ls.getD k []) = true := fun k => by
      unfold deeper; rw [List.mem_filter, mem_rg]
    show _ = List.filter _ ((rg (i + 1) ls.length).filter _)
    rw [List.filter_filter]
    refine (filter_rg (hup i hi) _ fun k k1 k2 => ?_).symm
    rw [Bool.and_eq_true, List.all_eq_true]
    constructor
    · intro qₕ
      refine g_a qₕ fun h1 h2 => ?_
      by_cases hk : k < e i
      · exact hk
      · have h3 := a5 (by lia)
        rw [hle] at h3
        by_cases q : k = e i
        · rw [q, h3] at h2; cases h2
        · have := of_decide_eq_true (h1 (e i) (mem_rg.mpr ⟨by lia, by lia⟩))
          rw [((hd _).mp this).2] at h3
          cases h3
    · intro hk
      refine ⟨fun j hj => ?_, by rw [← hle]; exact a4 k k1 hk⟩
      refine g_a (mem_rg.mp hj) fun j1 j2 => ?_
      exact decide_eq_true ((hd j).mpr ⟨⟨j1, by lia⟩, by rw [← hle]; exact a4 j j1 (by lia)⟩)

theorem nest_rg {a b c d : Nat} (h : b ≤ c ∨ d ≤ a ∨ (c ≤ a ∧ b ≤ d) ∨ (a ≤ c ∧ d ≤ b)) : Nest (rg a b) (rg c d) := by
  unfold Nest
  simp only [mem_rg]
  rcases h with h | h | h | h
  · exact .inl fun x hx hy => by lia
  · exact .inl fun x hx hy => by lia
  · exact .inr (.inl fun x hx => by lia)
  · exact .inr (.inr fun x hx => by lia)

theorem tail_rg {a b : Nat} (h : a < b) : (rg a b).drop 1 = rg (a + 1) b := by rw [rg_cons h]; rfl
theorem range_rg (L : Nat) : List.range L = rg 0 L := by unfold rg; simp

-- the blocks, what lies in them below their own rows, and the page
noncomputable def innerN (bs : List (List Nat)) (L : Nat) : List (List Nat) := bs ++ bs.map (·.drop 1) ++ [List.range L]
theorem inner_form {L : Nat} {bs : List (List Nat)} {e : Nat → Nat} (R : Runs L bs e) : ∀ g ∈ innerN bs L, ∃ a b, g = rg a b ∧ b ≤ L ∧ ((∃ i, i < L ∧ (a = i ∨ a = i + 1) ∧ b = e i) ∨ (a = 0 ∧ b = L)) := by
  intro g hg
  unfold innerN at hg
  rw [R.eq] at hg
  rcases List.mem_append.mp hg with hg | hg
  · rcases List.mem_append.mp hg with hg | hg
    · refine g_ea (List.mem_map.mp hg) fun i hi q2ₑ => ?_
      subst q2ₑ
      have hi := List.mem_range.mp hi
      exact ⟨i, e i, rfl, R.hi i hi, .inl ⟨i, hi, .inl rfl, rfl⟩⟩
    · refine g_ea (List.mem_map.mp hg) fun g' hg' q2ₑ => ?_
      subst q2ₑ
      refine g_ea (List.mem_map.mp hg') fun i hi q2ₑ => ?_
      subst q2ₑ
      have hi := List.mem_range.mp hi
      exact ⟨i + 1, e i, tail_rg (R.lo i hi), R.hi i hi, .inl ⟨i, hi, .inr rfl, rfl⟩⟩
  · rw [List.mem_singleton.mp hg]
    exact ⟨0, L, range_rg L, Nat.le_refl _, .inr ⟨rfl, rfl⟩⟩
theorem inner_fam {L : Nat} {bs gs : List (List Nat)} {e : Nat → Nat} (R : Runs L bs e) (hp : gs.Perm (innerN bs L)) (hs : gs.Pairwise (fun g' g => g'.length ≤ g.length)) : Fam L gs where
  srt := hs
  nod := fun g hg => by
    refine g_eea (inner_form R g (hp.mem_iff.mp hg)) fun a b q2ₑ _ => ?_
    subst q2ₑ
    exact rg_nodup a b
  lt := fun g hg k hk => by
    refine g_eeaa (inner_form R g (hp.mem_iff.mp hg)) fun a b q2ₑ h _ => ?_
    subst q2ₑ
    have := mem_rg.mp hk
    lia
  nest := fun g hg g' hg' => by
    refine g_eeaa (inner_form R g (hp.mem_iff.mp hg)) fun a b q2ₑ h1 h2 => ?_
    subst q2ₑ
    refine g_eeaa (inner_form R g' (hp.mem_iff.mp hg')) fun c d q2ₑ h3 h4 => ?_
    subst q2ₑ
    refine nest_rg ?_
    rcases h2 with ⟨i, hi, ha, rfl⟩ | ⟨rfl, rfl⟩
    · rcases h4 with ⟨j, hj, hc, rfl⟩ | ⟨rfl, rfl⟩
      · have q1 := R.in_ i j hi hj
        have q2 := R.in_ j i hj hi
        have q3 := R.lo i hi
        have q4 := R.lo j hj
        by_cases h : i = j
        · subst h; lia
        · by_cases h0 : i < j <;> lia
      · lia
    · lia

theorem drawn_leads (l : List Int) : ∀ b ∈ (drawn l).1, b.length ≤ 5 := by
  have key : ∀ (l : List Int) (st : DS), (∀ b ∈ st.1, b.length ≤ 5) → ∀ b ∈ (l.foldl dstep st).1, b.length ≤ 5 := by
    intro l
    induction l with
    | nil => intro st h; exact h
    | cons x l ih =>
      intro st h
      refine (List.foldl_cons) ▸ ?_
      refine ih _ fun b hb => ?_
      unfold dstep at hb
      rcases List.mem_append.mp hb with q | q
      · exact h b q
      · refine (List.mem_singleton.mp q) ▸ ?_
        unfold dlead
        have h1 := (md_eq x (m := 4) (by decide)).2
        have h2 := pcs_len (md_eq (x.fdiv 4) (m := 5) (by decide)).2
        rw [List.length_append, List.length_take]
        lia
  exact key l ([], []) fun b hb => (nomatch hb)

-- C08

-- the rising lists of numbers above lo, up to lo + n
noncomputable def inc (lo : Nat) : Nat → List (List Nat)
  | 0 => [[]]
  | n + 1 => inc (lo + 1) n ++ (inc (lo + 1) n).map ((lo + 1) :: ·)
theorem mem_inc : ∀ (n lo : Nat) (p : List Nat), p.Pairwise (· < ·) → (∀ k ∈ p, lo < k ∧ k ≤ lo + n) → p ∈ inc lo n
  | 0, lo, [], _, _ => .head _
  | 0, lo, k :: p, _, h => by have := h k (.head _); lia
  | n + 1, lo, [], _, _ => List.mem_append_left _ (mem_inc n (lo + 1) [] .nil fun k hk => (nomatch hk))
  | n + 1, lo, k :: p, hs, h => by
    refine g_a (List.pairwise_cons.mp hs) fun h1 h2 => ?_
    have hk := h k (.head _)
    by_cases e : k = lo + 1
    · subst e
      refine List.mem_append_right _ (List.mem_map.mpr ⟨p, mem_inc n (lo + 1) p h2 fun x hx => ?_, rfl⟩)
      have := h1 x hx
      have := h x (.tail _ hx)
      lia
    · refine List.mem_append_left _ (mem_inc n (lo + 1) _ hs fun x hx => ?_)
      have := h x hx
      rcases List.mem_cons.mp hx with rfl | hx
      · lia
      · have := h1 x hx; lia
noncomputable def chs : List (List Nat) := (inc 0 6).filter fun p => !p.isEmpty

noncomputable def isP (m l : List Nat) : Bool := l.take m.length == m
theorem starts_tx (l m : List Nat) : Txt.startswith (tx l) (tx m) = isP m l := by
  unfold Txt.startswith Builtin.Str.subAt isP
  rw [tx_len, tx_len]
  unfold tx
  dsimp only
  rw [Nat.zero_add]
  by_cases h : m.length ≤ l.length
  · rw [decide_eq_true h, Bool.true_and]
    rw [Bool.eq_iff_iff, beq_iff_eq, beq_iff_eq]
    constructor
    · intro e
      have := congrArg Array.toList e
      simpa using this
    · intro e
      apply Array.ext'
      simpa using e
  · rw [decide_eq_false h, Bool.false_and]
    symm
    rw [beq_eq_false_iff_ne]
    intro e
    have := congrArg List.length e
    rw [List.length_take] at this
    lia
theorem isP_iff {m l : List Nat} : isP m l = true ↔ ∃ r, l = m ++ r := by
  unfold isP
  rw [beq_iff_eq]
  constructor
  · intro e
    exact ⟨l.drop m.length, by rw [← List.take_append_drop m.length l, e]; simp⟩
  · rintro ⟨r, rfl⟩; simp
theorem npath_chs : (chs.all fun p => npB 46 (frN p) && decide (npath (46 :: frN p) = tx (47 :: jn 47 p))) = true := by decide +kernel
theorem names1 : (chs.all fun told => chs.all fun parts => (nameN told == nameN parts || isP (nameN told ++ [46]) (nameN parts)) == isP told parts && decide (nameN told = nameN parts → told = parts)) = true := by decide +kernel
theorem names2 : (chs.all fun told => chs.all fun parts => isP (47 :: jn 47 told ++ [47]) (pathN parts) == (isP told parts && !(parts == told))) = true := by decide +kernel
theorem heads : (chs.all fun p => (nameN p).head? == some 97 && (jn 47 p).head? == some 97 && decide (p.length ≤ 10) && p.all (fun k => decide (k ≤ 10))) = true := by decide +kernel

-- of a module with what lies below it; of what lies below it alone
noncomputable def withN (ns : List (List Nat)) : List (List Nat) := ns.map fun told => ns.map (fun parts => if parts.take told.length = told then 1 else 0) ++ [0, 1]
noncomputable def belowN (ns : List (List Nat)) : List (List Nat) := ns.map fun told => ns.map (fun parts => if parts.take told.length = told ∧ parts ≠ told then 1 else 0) ++ [0, 1]

-- the law's names
structure Chains (ns : List (List Nat)) : Prop where
  len : 0 < ns.length ∧ ns.length ≤ 6
  ch : ∀ p ∈ ns, p ∈ chs
  nod : ns.Nodup

theorem all2 {α : Type} {l : List α} {p : α → α → Bool} (h : (l.all fun a => l.all fun b => p a b) = true) {a b : α} (ha : a ∈ l) (hb : b ∈ l) : p a b = true := List.all_eq_true.mp (List.all_eq_true.mp h a ha) b hb

theorem nmN_mod (a b c : List Nat) : nmN [tx a] [] (some (tx c)) (tx b) = if a = b ∨ isP (a ++ [46]) b = true then 1 else 0 := by
  unfold nmN inMod inDir
  rw [cT.2.1]
  simp only [List.any_cons, List.any_nil, Bool.or_false, tx_app, starts_tx, List.contains_cons, List.contains_nil, Bool.or_eq_true, beq_iff_eq]
  have : tx b = tx a ↔ a = b := ⟨fun e => (tx_inj e).symm, fun e => by rw [e]⟩
  simp only [this]
theorem nmN_dir (a b c : List Nat) : nmN [] [tx a] (some (tx c)) (tx b) = if isP (a ++ [47]) c = true then 1 else 0 := by
  unfold nmN inMod inDir
  refine (cT.1) ▸ ?_
  simp only [List.any_cons, List.any_nil, Bool.or_false, tx_app, starts_tx, List.contains_nil, Bool.false_or]
theorem nmN_none (ms ds : List Str) (m : Str) : nmN ms ds none m = 1 := by
  unfold nmN inDir
  rw [Bool.or_true, if_pos rfl]

theorem ite_n {p q : Prop} [Decidable p] [Decidable q] (h : p ↔ q) : (if p then 1 else 0 : Nat) = if q then 1 else 0 := by
  by_cases hp : p
  · rw [if_pos hp, if_pos (h.mp hp)]
  · rw [if_neg hp, if_neg fun z => hp (h.mpr z)]

theorem ans_eq {ns : List (List Nat)} (h : Chains ns) : ansN ns = withN ns ++ belowN ns := by
  have hz : ns.getLast?.getD [] ∈ chs := by
    cases e : ns.getLast? with
    | none => have := h.len.1; rw [List.getLast?_eq_none_iff.mp e] at this; cases this
    | some z => exact h.ch z (List.mem_of_getLast? e)
  have hd := fun p (hp : p ∈ chs) => List.all_eq_true.mp heads p hp
  simp only [Bool.and_eq_true, beq_iff_eq] at hd
  unfold ansN rdr withN belowN
  rw [List.map_append, List.map_map, List.map_map]
  congr 1
  · refine List.map_congr_left fun told ht => ?_
    have ht := h.ch told ht
    show ansR ns ([tx (nameN told)], []) = _
    unfold ansR asked
    rw [List.map_append, List.map_map]
    congr 1
    · refine List.map_congr_left fun parts hp => ?_
      have hp := h.ch parts hp
      show nmN _ _ _ _ = _
      rw [nmN_mod]
      have := all2 names1 ht hp
      rw [Bool.and_eq_true, beq_iff_eq] at this
      have := this.1
      refine ite_n ?_
      have e : isP told parts = true ↔ parts.take told.length = told := by unfold isP; rw [beq_iff_eq]
      rw [← e, ← this, Bool.or_eq_true, beq_iff_eq]
    · rw [List.map_cons, List.map_cons, List.map_nil]
      congr 1
      · show nmN _ _ _ _ = _
        rw [nmN_mod, if_neg]
        have h1 := (hd told ht).1.1.1
        rintro (q | q)
        · rw [q] at h1; cases h1
        · obtain ⟨r, hr⟩ := isP_iff.mp q
          have := congrArg List.head? hr
          cases hn : nameN told with
          | nil => rw [hn] at h1; cases h1
          | cons a b => rw [hn] at h1 this; cases h1; cases this
      · congr 1
        exact nmN_none _ _ _
  · refine List.map_congr_left fun told ht => ?_
    have ht := h.ch told ht
    have hnp := List.all_eq_true.mp npath_chs told ht
    rw [Bool.and_eq_true, decide_eq_true_eq] at hnp
    show ansR ns ([], [npath (46 :: frN told)]) = _
    rw [hnp.2]
    unfold ansR asked
    rw [List.map_append, List.map_map]
    congr 1
    · refine List.map_congr_left fun parts hp => ?_
      have hp := h.ch parts hp
      show nmN _ _ _ _ = _
      rw [nmN_dir]
      have := all2 names2 ht hp
      rw [beq_iff_eq] at this
      refine ite_n ?_
      have e : isP told parts = true ↔ parts.take told.length = told := by unfold isP; rw [beq_iff_eq]
      rw [this, ← e, Bool.and_eq_true, Bool.not_eq_true', beq_eq_false_iff_ne]
    · rw [List.map_cons, List.map_cons, List.map_nil]
      congr 1
      · show nmN _ _ _ _ = _
        rw [nmN_dir, if_neg]
        have h1 := (hd told ht).1.1.2
        intro q
        obtain ⟨r, hr⟩ := isP_iff.mp q
        cases hn : jn 47 told with
        | nil => rw [hn] at h1; cases h1
        | cons a b => rw [hn] at h1 hr; cases h1; cases hr

theorem chains_nok {ns : List (List Nat)} (h : Chains ns) : NOk ns := by
  have hz : ns.getLast?.getD [] ∈ chs := by
    cases e : ns.getLast? with
    | none => have := h.len.1; rw [List.getLast?_eq_none_iff.mp e] at this; cases this
    | some z => exact h.ch z (List.mem_of_getLast? e)
  have hd := fun p (hp : p ∈ chs) => List.all_eq_true.mp heads p hp
  simp only [Bool.and_eq_true, beq_iff_eq, decide_eq_true_eq, List.all_eq_true] at hd
  have hh : ∀ p ∈ ns, ∀ c l, tx (nameN p) = tx (c :: l) → c = 97 := fun p hp c l e => by
    have := (hd p (h.ch p hp)).1.1.1
    rw [tx_inj e] at this
    cases this; rfl
  refine ⟨h.len.1, Nat.le_trans h.len.2 (by decide), fun p hp => ⟨(hd p (h.ch p hp)).1.2, (hd p (h.ch p hp)).2⟩, ?_, fun p hp => ?_⟩
  · unfold asked
    rw [List.map_append, List.map_map, show Str.ofString "<string>" = tx [60, 115, 116, 114, 105, 110, 103, 62] by decide +kernel]
    refine List.nodup_cons.mpr ⟨fun q => ?_, ?_⟩
    · rcases List.mem_append.mp q with q | q
      · refine g_ea (List.mem_map.mp q) fun p hp e => ?_
        have := hh p hp _ _ e
        cases this
      · rcases List.mem_cons.mp q with q | q
        · cases tx_inj q
        · have q := List.mem_singleton.mp q
          cases tx_inj q
    · refine List.nodup_append.mpr ⟨?_, ?_, ?_⟩
      · show List.Pairwise _ _
        rw [List.pairwise_map]
        refine List.Pairwise.imp_of_mem (fun {a b} ha hb hne e => hne ?_) h.nod
        have := all2 names1 (h.ch a ha) (h.ch b hb)
        rw [Bool.and_eq_true, decide_eq_true_eq] at this
        exact this.2 (tx_inj e)
      · refine List.nodup_cons.mpr ⟨fun q => ?_, List.nodup_cons.mpr ⟨fun q => (nomatch q), List.nodup_nil⟩⟩
        have q := List.mem_singleton.mp q
        cases tx_inj q
      · intro a ha b hb e
        refine g_ea (List.mem_map.mp ha) fun p hp q2ₑ => ?_
        subst q2ₑ
        rcases List.mem_cons.mp hb with rfl | hb
        · have := hh p hp _ _ e; cases this
        · have hb := List.mem_singleton.mp hb
          subst hb
          have := hh p hp _ _ e; cases this
  · have := List.all_eq_true.mp npath_chs p (h.ch p hp)
    rw [Bool.and_eq_true] at this
    exact this.1

set_option tactic.hygienic true in
theorem drawn_chains {l : List Int} (h0 : 0 < l.length) (h6 : l.length ≤ 6) : Chains (drawn l).2 := by
  have key : ∀ (l : List Int) (st : DS), (∀ p ∈ st.2, p.Pairwise (· < ·) ∧ (∀ k ∈ p, 0 < k ∧ k ≤ st.2.length) ∧ p ≠ []) → st.2.Nodup →
      (∀ p ∈ (l.foldl dstep st).2, p.Pairwise (· < ·) ∧ (∀ k ∈ p, 0 < k ∧ k ≤ (l.foldl dstep st).2.length) ∧ p ≠ []) ∧ (l.foldl dstep st).2.Nodup := by
    intro l
    induction l with
    | nil => intro st h hn; exact ⟨h, hn⟩
    | cons x l ih =>
      intro st h hn
      refine (List.foldl_cons) ▸ ?_
      have hb : ∀ k ∈ (match md (x.fdiv 20) (st.2.length + 1) with | 0 => [] | o + 1 => st.2.getD o []), 0 < k ∧ k ≤ st.2.length := by
        split
        · exact fun k hk => (nomatch hk)
        · rename_i o ho
          have := (md_eq (x.fdiv 20) (m := st.2.length + 1) (by lia)).2
          have : st.2.getD o [] ∈ st.2 := by rw [List.getD_eq_getElem?_getD, List.getElem?_eq_getElem (by lia)]; exact List.getElem_mem _
          exact (h _ this).2.1
      have hpw : (match md (x.fdiv 20) (st.2.length + 1) with | 0 => [] | o + 1 => st.2.getD o []).Pairwise (· < ·) := by
        split
        · exact .nil
        · rename_i o ho
          have := (md_eq (x.fdiv 20) (m := st.2.length + 1) (by lia)).2
          have : st.2.getD o [] ∈ st.2 := by rw [List.getD_eq_getElem?_getD, List.getElem?_eq_getElem (by lia)]; exact List.getElem_mem _
          exact (h _ this).1
      refine ih (dstep st x) (fun p hp => ?_) ?_
      · unfold dstep at hp ⊢
        dsimp only at hp ⊢
        rw [List.length_append, List.length_singleton]
        rcases List.mem_append.mp hp with q | q
        · refine g_aa (h p q) fun h1 h2 h3 => ?_
          exact ⟨h1, fun k hk => by have := h2 k hk; lia, h3⟩
        · refine (List.mem_singleton.mp q) ▸ ?_
          unfold dname
          refine ⟨List.pairwise_append.mpr ⟨hpw, List.pairwise_singleton _ _, fun a ha b hb' => ?_⟩, fun k hk => ?_, by simp⟩
          · have := hb a ha
            rw [List.mem_singleton.mp hb']; lia
          · rcases List.mem_append.mp hk with z | z
            · have := hb k z; lia
            · rw [List.mem_singleton.mp z]; lia
      · unfold dstep
        dsimp only
        refine List.nodup_append.mpr ⟨hn, List.nodup_cons.mpr ⟨fun q => (nomatch q), List.nodup_nil⟩, fun a ha b hb' e => ?_⟩
        subst e
        have hb' := List.mem_singleton.mp hb'
        have := (h a ha).2.1 (st.2.length + 1) (by rw [hb']; unfold dname; simp)
        lia
  refine g_a (key l ([], []) (fun p hp => (nomatch hp)) List.nodup_nil) fun h1 h2 => ?_
  have hl : (drawn l).2.length = l.length := (drawn_len l).2
  refine ⟨by lia, fun p hp => ?_, h2⟩
  refine g_aa (h1 p hp) fun a1 a2 a3 => ?_
  unfold chs
  rw [List.mem_filter]
  refine ⟨mem_inc 6 0 p a1 fun k hk => ?_, ?_⟩
  · have := a2 k hk
    rw [show (List.foldl dstep ([], []) l).2.length = l.length from hl] at this
    lia
  · cases p with
    | nil => exact absurd rfl a3
    | cons _ _ => rfl

-- C09

-- the packages

noncomputable def pkgs (first : List (List Nat)) (L : Nat) : List (List Nat) := first.map fun row => (List.range L).filter fun k => row.getD k 0 == 1
noncomputable def outerN (ns : List (List Nat)) : List (List Nat) := pkgs (withN ns ++ belowN ns) ns.length ++ [List.range ns.length]

-- the rows below a module, or it and them
noncomputable def Below2 (ns : List (List Nat)) (told : List Nat) (b : Bool) (g : List Nat) : Prop := ∀ k, k ∈ g ↔ k < ns.length ∧ told <+: ns.getD k [] ∧ (b = true → ns.getD k [] ≠ told)

theorem take_prefix {told p : List Nat} : p.take told.length = told ↔ told <+: p := by
  rw [List.prefix_iff_eq_take]; exact eq_comm
theorem row_get {ns : List (List Nat)} {f : List Nat → Nat} {k : Nat} (h : k < ns.length) : (ns.map f ++ [0, 1]).getD k 0 = f (ns.getD k []) := by
  rw [List.getD_eq_getElem?_getD, List.getElem?_append_left (by rw [List.length_map]; exact h), List.getElem?_map, List.getD_eq_getElem?_getD, List.getElem?_eq_getElem h]; rfl
theorem ite_one {p : Prop} [Decidable p] : ((if p then 1 else 0 : Nat) == 1) = true ↔ p := by
  by_cases h : p <;> simp [h]
theorem outer_form {ns : List (List Nat)} : ∀ g ∈ outerN ns, g.Nodup ∧ (∀ k ∈ g, k < ns.length) ∧ ((∃ told b, Below2 ns told b g) ∨ ∀ k, k < ns.length → k ∈ g) := by
  intro g hg
  unfold outerN pkgs at hg
  rcases List.mem_append.mp hg with hg | hg
  · refine g_ea (List.mem_map.mp hg) fun row hr q2ₑ => ?_
    subst q2ₑ
    refine ⟨List.nodup_range.sublist List.filter_sublist, fun k hk => List.mem_range.mp (List.mem_filter.mp hk).1, .inl ?_⟩
    rcases List.mem_append.mp hr with hr | hr
    · refine g_ea (List.mem_map.mp hr) fun told ht q2ₑ => ?_
      subst q2ₑ
      refine ⟨told, false, fun k => ?_⟩
      rw [List.mem_filter, List.mem_range]
      refine and_congr_right fun hk => ?_
      rw [row_get (f := fun parts => if parts.take told.length = told then 1 else 0) hk, ite_one, take_prefix]
      exact ⟨fun h => ⟨h, fun z => (nomatch z)⟩, fun h => h.1⟩
    · refine g_ea (List.mem_map.mp hr) fun told ht q2ₑ => ?_
      subst q2ₑ
      refine ⟨told, true, fun k => ?_⟩
      rw [List.mem_filter, List.mem_range]
      refine and_congr_right fun hk => ?_
      rw [row_get (f := fun parts => if parts.take told.length = told ∧ parts ≠ told then 1 else 0) hk, ite_one, take_prefix]
      exact ⟨fun h => ⟨h.1, fun _ => h.2⟩, fun h => ⟨h.1, h.2 rfl⟩⟩
  · refine (List.mem_singleton.mp hg) ▸ ?_
    exact ⟨List.nodup_range, fun k hk => List.mem_range.mp hk, .inr fun k hk => List.mem_range.mpr hk⟩
theorem below_sub {ns : List (List Nat)} {t t' : List Nat} {b b' : Bool} {g g' : List Nat} (h : Below2 ns t b g) (h' : Below2 ns t' b' g') (hp : t <+: t') (hne : t ≠ t') : ∀ x ∈ g', x ∈ g := fun x hx => by
  refine g_aa ((h' x).mp hx) fun h1 h2 _ => ?_
  refine (h x).mpr ⟨h1, hp.trans h2, fun _ e => hne ?_⟩
  rw [e] at h2
  exact hp.eq_of_length (Nat.le_antisymm hp.length_le h2.length_le)
theorem below_nest {ns : List (List Nat)} {t t' : List Nat} {b b' : Bool} {g g' : List Nat} (h : Below2 ns t b g) (h' : Below2 ns t' b' g') : Nest g g' := by
  by_cases hd : ∃ x, x ∈ g ∧ x ∈ g'
  · refine g_ea hd fun x hx hx' => ?_
    have p1 := ((h x).mp hx).2.1
    have p2 := ((h' x).mp hx').2.1
    by_cases e : t = t'
    · subst e
      cases b with
      | false => exact .inr (.inr fun y hy => (h y).mpr ⟨((h' y).mp hy).1, ((h' y).mp hy).2.1, fun z => (nomatch z)⟩)
      | true =>
        refine .inr (.inl fun y hy => ?_)
        refine g_aa ((h y).mp hy) fun h1 h2 h3 => ?_
        exact (h' y).mpr ⟨h1, h2, fun _ => h3 rfl⟩
    · rcases List.prefix_or_prefix_of_prefix p1 p2 with q | q
      · exact .inr (.inr (below_sub h h' q e))
      · exact .inr (.inl (below_sub h' h q (Ne.symm e)))
  · exact .inl fun x hx hx' => hd ⟨x, hx, hx'⟩
theorem outer_fam {ns gs : List (List Nat)} (hp : gs.Perm (outerN ns)) (hs : gs.Pairwise (fun g' g => g'.length ≤ g.length)) : Fam ns.length gs where
  srt := hs
  nod := fun g hg => (outer_form g (hp.mem_iff.mp hg)).1
  lt := fun g hg => (outer_form g (hp.mem_iff.mp hg)).2.1
  nest := fun g hg g' hg' => by
    refine g_aa (outer_form g (hp.mem_iff.mp hg)) fun _ a2 a3 => ?_
    refine g_aa (outer_form g' (hp.mem_iff.mp hg')) fun _ b2 b3 => ?_
    rcases b3 with ⟨t', b', h'⟩ | h'
    · rcases a3 with ⟨t, b, h⟩ | h
      · exact below_nest h h'
      · exact .inr (.inr fun x hx => h x (b2 x hx))
    · exact .inr (.inl fun x hx => h' x (a2 x hx))

-- the last look

noncomputable def lists (B : Nat) : Nat → List (List Nat)
  | 0 => [[]]
  | n + 1 => (lists B n).flatMap fun l => (List.range (B + 1)).map (· :: l)
theorem mem_lists {B : Nat} : ∀ {l : List Nat}, (∀ x ∈ l, x ≤ B) → l ∈ lists B l.length
  | [], _ => .head _
  | x :: l, h => List.mem_flatMap.mpr ⟨l, mem_lists fun y hy => h y (.tail _ hy), List.mem_map.mpr ⟨x, List.mem_range.mpr (Nat.lt_succ_of_le (h x (.head _))), rfl⟩⟩
noncomputable def lvl (n m : Nat) : List Nat := (List.range m).map fun i => (n + i) / m
theorem level : ([2, 3, 4].all fun m => (lists 6 m).all fun c => !decide (mx c ≤ mn c + 1) || sortI' (c.map fun k : Nat => (k : Int)) == (lvl c.sum m).map fun k : Nat => (k : Int)) = true := by decide +kernel
theorem bump_sum : ∀ (c : List Nat) (i : Nat), i < c.length → (c.set i (c.getD i 0 + 1)).sum = c.sum + 1
  | [], i, h => by cases h
  | a :: c, 0, _ => by simp; lia
  | a :: c, i + 1, h => by
    have := bump_sum c i (by simpa using h)
    simp at this ⊢
    lia
theorem fold_sum (hs : List Nat) : ∀ (g c : List Nat), (∀ k ∈ g, hd hs k < c.length) → (g.foldl (bump hs) c).sum = c.sum + g.length
  | [], c, _ => rfl
  | k :: g, c, h => by
    rw [List.foldl_cons, fold_sum hs g _ (fun x hx => by rw [bump_len]; exact h x (.tail _ hx)), List.length_cons]
    unfold bump
    refine (bump_sum c _ (h k (.head _))) ▸ ?_
    lia
theorem counts_sum {g hs : List Nat} {m : Nat} (h : ∀ k ∈ g, hd hs k < m) : (counts g hs m).sum = g.length := by
  unfold counts
  rw [fold_sum hs g _ (by rw [List.length_replicate]; exact h)]
  simp
theorem uneven_nil {gs : List (List Nat)} {hs : List Nat} {m : Nat} (h : uneven gs hs m = []) : ∀ g ∈ gs, mx (counts g hs m) ≤ mn (counts g hs m) + 1 := fun g hg => by
  by_cases hc : mn (counts g hs m) + 1 < mx (counts g hs m)
  · exfalso
    unfold uneven at h
    cases e : gs.findSome? fun g => unevenIn (counts g hs m) with
    | none =>
      have := List.findSome?_eq_none_iff.mp e g hg
      unfold unevenIn at this
      rw [if_pos hc] at this
      cases this
    | some r =>
      rw [e] at h
      refine g_ea (List.exists_of_findSome?_eq_some e) fun g' _ hr => ?_
      unfold unevenIn at hr
      split at hr
      · cases hr; cases h
      · exact none_ne hr
  · lia
theorem sort_even {g hs : List Nat} {m : Nat} (hm : m = 2 ∨ m = 3 ∨ m = 4) (hg : g.length ≤ 6) (hx : ∀ k ∈ g, hd hs k < m) (h : mx (counts g hs m) ≤ mn (counts g hs m) + 1) : dSortI (nL (counts g hs m)) = some (nL (lvl g.length m)) := by
  have hl := counts_len g hs m
  have hle : ∀ x ∈ counts g hs m, x ≤ 6 := fun x hx => Nat.le_trans (counts_le g hs m x hx) hg
  have hmem := mem_lists hle
  rw [hl] at hmem
  have hm' : m ∈ [2, 3, 4] := by rcases hm with rfl | rfl | rfl <;> simp
  have := List.all_eq_true.mp (List.all_eq_true.mp level m hm') _ hmem
  rw [decide_eq_true h, Bool.not_true, Bool.false_or, beq_iff_eq, counts_sum hx] at this
  refine bind_eq (a := (counts g hs m).map nD) rfl (bind_eq (asInts_n (counts g hs m)) ?_)
  rw [if_pos (by rw [List.length_map, hl]; lia), this, List.map_map]
  rfl

-- what the law has to know
theorem plain {l : List Int} (h5 : 5 ≤ l.length) (h6 : l.length ≤ 6) {m : Nat} (hm : m = 2 ∨ m = 3 ∨ m = 4) :
    blocksN (drawn l).1 = outline (drawn l).1 ∧ Chains (drawn l).2 ∧ (∀ g ∈ innerN (blocksN (drawn l).1) l.length ++ outerN (drawn l).2, g.length ≤ 6 ∧ ∀ k ∈ g, k < l.length) ∧ (innerN (blocksN (drawn l).1) l.length).length ≤ 13 ∧ (outerN (drawn l).2).length ≤ 13 ∧
    ∀ inner outer : List (List Nat), inner.Perm (innerN (blocksN (drawn l).1) l.length) → inner.Pairwise (fun g' g => g'.length ≤ g.length) → outer.Perm (outerN (drawn l).2) → outer.Pairwise (fun g' g => g'.length ≤ g.length) →
      ∃ r, shareN inner outer m 4000 (hands0 l.length m) = some r ∧ r.length = l.length ∧ (∀ x ∈ r, x < m) ∧ ∀ g ∈ innerN (blocksN (drawn l).1) l.length ++ outerN (drawn l).2, dSortI (nL (counts g r m)) = some (nL (lvl g.length m)) := by
  refine g_a (drawn_len l) fun z1 z2 => ?_
  have hc := drawn_chains (l := l) (by lia) h6
  refine g_ea (blocks_runs (drawn_leads l)) fun e R hbo => ?_
  rw [z1] at R
  have hif := fun gs => inner_fam (gs := gs) R
  have hof := fun gs => outer_fam (ns := (drawn l).2) (gs := gs)
  rw [z2] at hof
  have hbl : (blocksN (drawn l).1).length = l.length := by rw [R.eq]; simp
  have hil : (innerN (blocksN (drawn l).1) l.length).length = 2 * l.length + 1 := by unfold innerN; simp; lia
  have hol : (outerN (drawn l).2).length = 2 * l.length + 1 := by unfold outerN pkgs withN belowN; simp; lia
  have hlt : ∀ g ∈ innerN (blocksN (drawn l).1) l.length ++ outerN (drawn l).2, g.Nodup ∧ ∀ k ∈ g, k < l.length := fun g hg => by
    rcases List.mem_append.mp hg with q | q
    · refine g_eeaa (inner_form R g q) fun a b q2ₑ h1 _ => ?_
      subst q2ₑ
      exact ⟨rg_nodup a b, fun k hk => by have := mem_rg.mp hk; lia⟩
    · refine g_aa (outer_form g q) fun h1 h2 _ => ?_
      exact ⟨h1, fun k hk => z2 ▸ h2 k hk⟩
  have hlen : ∀ g ∈ innerN (blocksN (drawn l).1) l.length ++ outerN (drawn l).2, g.length ≤ 6 := fun g hg => by
    have := sub_len (m := List.range l.length) (hlt g hg).1 fun k hk => List.mem_range.mpr ((hlt g hg).2 k hk)
    rw [List.length_range] at this
    lia
  refine ⟨hbo, hc, fun g hg => ⟨hlen g hg, (hlt g hg).2⟩, by lia, by lia, fun inner outer p1 s1 p2 s2 => ?_⟩
  obtain ⟨r, r1, r2, r3, r4⟩ := share_ok (m := m) (hif inner p1 s1) (hof outer p2 s2) h6 (by lia) (by lia) (by rw [p1.length_eq, p2.length_eq]; lia)
  refine ⟨r, r1, r2, r3, fun g hg => sort_even hm (hlen g hg) (fun k hk => ?_) (uneven_nil r4 g ?_)⟩
  · have := (hlt g hg).2 k hk
    exact r3 _ (getD_in (by lia))
  · rcases List.mem_append.mp hg with q | q
    · exact List.mem_append_left _ (p1.mem_iff.mpr q)
    · exact List.mem_append_right _ (p2.mem_iff.mpr q)

-- W16

-- law

theorem aT_inj {a b : Nat} (h : aT a = aT b) : a = b := by
  have := congrArg List.length (tx_inj h)
  simpa using this
theorem map_aT {p q : List Nat} (h : p.map aT = q.map aT) : p = q := (List.map_inj_right fun a b e => aT_inj e).mp h
theorem enc_nm : Enc nmD (fun p => PyData.list ((p.map aT).map PyData.str)) 1 fun _ => True where
  py := fun p => by
    have := enc_s.list.py (p.map aT)
    rw [List.map_map] at this
    exact this
  lay := fun p _ => enc_s.list.lay (p.map aT) fun a ha => by
    refine g_ea (List.mem_map.mp ha) fun k _ q2ₑ => ?_
    subst q2ₑ
    exact tx_ok fun c hc => by rw [List.eq_of_mem_replicate hc]; decide
  dep := fun p => enc_s.list.dep (p.map aT)
  eqv := fun p q => (enc_s.list.eqv (p.map aT) (q.map aT)).trans (decide_eq_decide.mpr ⟨map_aT, fun e => by rw [e]⟩)
theorem asInts_i : ∀ l : List Int, asInts (l.map .int) = some l
  | [] => rfl
  | k :: l => bind_eq (a := k) rfl (congrArg (Option.map (k :: ·)) (asInts_i l))
theorem Op.sumI {K : Dat → Prop} {l : List Int} (k : K (.int l.sum)) : Op (dSum (.list (l.map .int))) K := ⟨_, bind_eq (a := l.map .int) rfl (bind_eq (asInts_i l) rfl), k⟩
theorem RunI.two {α : Type} {f : α → Dat} {l : List α} {P : List Dat → MSt → Prop} {σ : Sto} {I : MSt} {K : List Dat → MSt → Prop} {fi : Iv} {bd : Bd} {ft : Bv} {fe : Ev} (hi : RunI fi σ I fun ds I' => ds = l.map f ∧ P [] I')
    (step : ∀ a ∈ l, ∀ out I, P out I → ∃ σ', bd (f a) σ = some σ' ∧ RunT ft σ' I fun b I₁ => if b = true then RunI (fm1 fe) σ' I₁ fun ds I₂ => P (out ++ ds) I₂ else P out I₁) (k : ∀ out I', P out I' → K out I') : RunI (fm2 fi bd ft fe) σ I K := by
  refine g_eeaa hi fun ds I₁ e q3ₑ h0 => ?_
  subst q3ₑ
  obtain ⟨out, I', e2, h⟩ := compG_inv f (σ := σ) (bd := bd) (ft := ft) (fm := fm1 fe) (fun _ out I => P out I) l h0 fun pre a post out I e h => step a (by rw [e]; simp) out I h
  exact ⟨out, I', by unfold fm2; rw [e]; exact e2, k _ _ h⟩
theorem nLL_app (a b : List (List Nat)) : List.map nL a ++ List.map nL b = List.map nL (a ++ b) := (List.map_append ..).symm

theorem def_law (ok : GOk G) : DefOk G 212 (fdat "law" "law" (fI 23) .none vLw 211) (fI 23).2.2 (fI 23).2.1 := defOk ok 15 rfl rfl (by decide +kernel)

set_option maxHeartbeats 4000000 in
theorem T_law (ok : GOk G) (l : List Int) (hl : l.length ≤ 63) : ∃ F, SoundF G 20 212 F ∧ ∃ J, F [.list (l.map .int)] [] = some (.bool true, J) := by
  refine g_ea (T_drawn ok) fun Fd hFd eFd => ?_
  refine g_ea (T_blocks ok) fun Fb hFb eFb => ?_
  refine g_ea (T_answers ok) fun Fa hFa eFa => ?_
  refine g_ea (T_shared ok) fun Fs hFs eFs => ?_
  refine g_ea (T_outline ok) fun Fo hFo eFo => ?_
  refine g_ea (T_counts ok) fun Fc hFc eFc => ?_
  generalize hnu : l.take 6 ++ ([0, 24, 29, 48, 65] : List Int).drop l.length = nu
  have hn5 : 5 ≤ nu.length ∧ nu.length ≤ 6 := by rw [← hnu]; simp; lia
  generalize hme : 2 + md l.sum 3 = m
  have hm : m = 2 ∨ m = 3 ∨ m = 4 := by have := (md_eq l.sum (m := 3) (by decide)).2; lia
  refine g_aaaaa (plain hn5.1 hn5.2 hm) fun q1 q2 q3 q4 q5 q6 => ?_
  refine g_a (drawn_len nu) fun z1 z2 => ?_
  have hld := drawn_leads nu
  have eD := eFd nu [] (by lia)
  generalize (drawn nu).1 = ls at *
  generalize (drawn nu).2 = ns at *
  have hal : ∀ row ∈ ansN ns, row.length = ns.length + 2 := fun row hr => by
    refine g_ea (List.mem_map.mp hr) fun x _ q2ₑ => ?_
    subst q2ₑ
    unfold ansR; rw [List.length_map, asked_len]
  have hae := ans_eq q2
  have hbl : (blocksN ls).length ≤ 6 := by unfold blocksN; rw [List.length_map, List.length_range]; lia
  have hb6 : ∀ g ∈ blocksN ls, g.length ≤ 6 := fun g hg => (q3 g (List.mem_append_left _ (List.mem_append_left _ (List.mem_append_left _ hg)))).1
  have hnl : ∀ p ∈ ns, p.length ≤ 10 := fun p hp => ((chains_nok q2).small p hp).1
  refine g_e (eFa ns [] (chains_nok q2)) fun J eJ => ?_
  have h : ∃ P, SoundW G 19 (fI 23).2.2 (fI 23).2.1 P (fun fl _ I => fl = .ret (.bool true) ∧ I = J) ∧ P (sto0 ["script"] [.frz (.list (l.map .int))]) [] := by
    have g1 := g_len ok (sc := (fI 23).2.2)
    have g2 := g_range ok (sc := (fI 23).2.2)
    have g3 := g_list ok (sc := (fI 23).2.2)
    have g4 := g_sum ok (sc := (fI 23).2.2)
    have g5 := g_sorted ok (sc := (fI 23).2.2)
    have f1 := gL_drawn ok (sc := (fI 23).2.2)
    have f2 := gL_blocks ok (sc := (fI 23).2.2)
    have f3 := gL_answers ok (sc := (fI 23).2.2)
    have f4 := gL_shared ok (sc := (fI 23).2.2)
    have f5 := gL_outline ok (sc := (fI 23).2.2)
    have f6 := gL_counts ok (sc := (fI 23).2.2)
    refine g_ea ((def_drawn ok).at_) fun o1 ho1 hfd1 => ?_
    refine g_ea ((def_blocks ok).at_) fun o2 ho2 hfd2 => ?_
    refine g_ea ((def_answers ok).at_) fun o3 ho3 hfd3 => ?_
    refine g_ea ((def_shared ok).at_) fun o4 ho4 hfd4 => ?_
    refine g_ea ((def_outline ok).at_) fun o5 ho5 hfd5 => ?_
    refine g_ea ((def_counts ok).at_) fun o6 ho6 hfd6 => ?_
    have hFd' := hFd.le (show 2 ≤ 19 by decide)
    have hFb' := hFb.le (show 5 ≤ 19 by decide)
    have hFa' := hFa.le (show 7 ≤ 19 by decide)
    have hFs' := hFs.le (show 6 ≤ 19 by decide)
    have hFo' := hFo.le (show 3 ≤ 19 by decide)
    have hFc' := hFc.le (show 3 ≤ 19 by decide)
    apply Exists.intro
    constructor
    · refine' SoundW.cons ?_ (SoundW.cons ?_ (SoundW.cons ?_ (SoundW.cons ?_ (SoundW.cons ?_ (SoundW.cons ?_ (SoundW.sorted (x := "inner") (by decide +kernel) g5 g1 ?_ (SoundW.sorted (x := "outer") (by decide +kernel) g5 g1 ?_ (SoundW.of ?_))))))))
      all_goals repeat' (first
        | refine' SoundE.call f1 ho1 hfd1 hFd' ?_
        | refine' SoundE.call f2 ho2 hfd2 hFb' ?_
        | refine' SoundE.call f3 ho3 hfd3 hFa' ?_
        | refine' SoundE.call f4 ho4 hfd4 hFs' ?_
        | refine' SoundE.call f5 ho5 hfd5 hFo' ?_
        | refine' SoundE.call f6 ho6 hfd6 hFc' ?_
        | refine' SoundE.compC (SoundC.two (xs1 := ["row"]) (xs2 := ["answer"]) (by decide +kernel) (by decide) (SoundIt.plain ?_ (bnd_name (by decide +kernel))) ?_ (SoundIt.plain ?_ (bnd_name (by decide +kernel))) ?_ ?_)
        | refine' SoundE.call1 (.inl ⟨_, rfl⟩) (g_len ok (by decide +kernel)) op_len ?_
        | refine' SoundI.range (SoundR.mk' (g_range ok (by decide +kernel)) ?_)
        | apply SoundE.andV
        | apply SoundE.bool1
        | walk_at "STEP")
    · refine RunS.set (RunE.to (nD m) ?_ ⟨rfl, ?_⟩)
      · walk_at "RUN"
        refine Op.sumI ?_
        walk_at "RUN"
        refine Op.modI (by decide) ?_
        rw [show l.sum.fmod 3 = (md l.sum 3 : Int) from (md_eq l.sum (m := 3) (by decide)).1]
        walk_at "RUN"
        exact ⟨by rw [← hme]; rfl, rfl⟩
      refine RunS.unp (RunE.to (.tup [bL ls, .list (ns.map nmD)]) ?_ ⟨_, rfl, _, rfl, rfl, ?_⟩)
      · walk_at "RUN"
        refine ⟨_, rfl, ?_⟩
        walk_at "RUN"
        refine Op.sliceL ((l.take 6).map .int) (by rw [List.map_take]; exact pickL_to _ 6) (by simp; lia) ?_
        walk_at "RUN"
        refine Op.lenL (by simp; lia) ?_
        rw [List.length_map]
        refine ⟨_, rfl, ?_⟩
        walk_at "RUN"
        refine Op.sliceL ((([0, 24, 29, 48, 65] : List Int).drop l.length).map .int) (by rw [List.map_drop]; exact pickL_from _ _) (by simp) ?_
        refine Op.addL (by simp; lia) ?_
        rw [← List.map_append, hnu]
        walk_at "RUN"
        exact ⟨_, _, eD, rfl, rfl⟩
      refine RunS.set (RunE.to (nL (List.range nu.length)) ?_ ⟨rfl, ?_⟩)
      · walk_at "RUN"
        refine Op.lenL (by simp; lia) ?_
        rw [List.length_map, z1]
        walk_at "RUN"
        exact Op.rng1 (by lia) ⟨congrArg Dat.list (rngL_n _), rfl⟩
      refine RunS.set (RunE.to (nLL (blocksN ls)) ?_ ⟨rfl, ?_⟩)
      · walk_at "RUN"
        exact ⟨_, _, eFb ls _ (by lia) (fun b hb => Nat.le_trans (hld b hb) (by decide)), rfl, rfl⟩
      walk_at "RUN"
      refine ⟨_, _, eJ, _, rfl, _, rfl, rfl, ?_⟩
      refine RunS.set (RunE.to (nLL (pkgs (ansN ns) nu.length)) ?_ ⟨rfl, ?_⟩)
      · refine RunE.map nL (fun row => nL ((List.range nu.length).filter fun k => row.getD k 0 == 1)) (ansN ns) ?_ ?_ (fun row hr => ?_) ⟨?_, rfl⟩
        · rw [ansN, List.length_map, rdr_len]; lia
        · walk_at "RUN"
          exact ⟨_, rfl, rfl, rfl⟩
        · refine ⟨_, rfl, RunE.filter nD nD (fun k => row.getD k 0 == 1) (List.range nu.length) (by simp; lia) ?_ (fun k hk => ⟨_, rfl, ?_, fun _ => ?_⟩) ⟨rfl, rfl⟩⟩
          · walk_at "RUN"
            exact ⟨_, rfl, rfl, rfl⟩
          · have hk := List.mem_range.mp hk
            have hrl := hal row hr
            walk_at "RUN"
            refine Op.getN (by lia) (by lia) ?_
            walk_at "RUN"
            refine Op.eq (b := 1) enc_n (by decide) trivial trivial ?_
            walk_at "RUN"
            rfl
          · walk_at "RUN"
            rfl
        · unfold pkgs
          rw [nLL, List.map_map]; rfl
      refine RunE.to (nLL (innerN (blocksN ls) nu.length)) ?_ ⟨_, rfl, by lia, fun g hg => Nat.le_trans (q3 g (List.mem_append_left _ hg)).1 (by decide), fun inner p1 s1 => ?_⟩
      · refine RunE.two ?_
        refine RunE.two ?_
        walk_at "RUN"
        refine RunE.map nL (fun b => nL (b.drop 1)) (blocksN ls) (by lia) ?_ (fun b hb => ?_) ?_
        · walk_at "RUN"
          exact ⟨_, rfl, rfl, rfl⟩
        · refine ⟨_, rfl, ?_⟩
          walk_at "RUN"
          refine ⟨_, rfl, ?_⟩
          walk_at "RUN"
          have := hb6 b hb
          refine Op.sliceL ((b.drop 1).map nD) (by rw [List.map_drop]; exact pickL_from _ 1) (by simp; lia) ⟨rfl, rfl⟩
        refine Op.addL (by simp; lia) ?_
        walk_at "RUN"
        refine Op.addL (by simp; lia) ⟨?_, rfl⟩
        unfold innerN
        rw [nLL, List.map_append, List.map_append, List.map_map]; rfl
      refine RunE.to (nLL (outerN ns)) ?_ ⟨_, rfl, by lia, fun g hg => Nat.le_trans (q3 g (List.mem_append_right _ hg)).1 (by decide), fun outer p2 s2 => ?_⟩
      · walk_at "RUN"
        have hpl : (pkgs (ansN ns) nu.length).length ≤ 40 := by unfold pkgs; rw [List.length_map, ansN, List.length_map, rdr_len]; lia
        refine Op.addL (by rw [List.length_map, List.length_singleton]; lia) ⟨?_, rfl⟩
        unfold outerN
        rw [← hae, z2, nLL, List.map_append]; rfl
      refine g_eaaa (q6 inner outer p1 s1 p2 s2) fun r r1 r2 r3 r4 => ?_
      refine RunS.seq (RunS.set (RunE.to (nL r) ?_ ⟨rfl, ?_⟩))
      · walk_at "RUN"
        refine Op.lenL (by simp; lia) ?_
        rw [List.length_map, List.length_range]
        walk_at "RUN"
        refine ⟨_, _, eFs inner outer nu.length m r _ (by lia) (by lia) (by lia) (by rw [p1.length_eq]; lia) (fun g hg => ?_) (by rw [p2.length_eq]; lia) (fun g hg => ?_) r1, rfl, rfl⟩
        · have := q3 g (List.mem_append_left _ (p1.mem_iff.mp hg)); exact ⟨by lia, this.2⟩
        · have := q3 g (List.mem_append_right _ (p2.mem_iff.mp hg)); exact ⟨by lia, this.2⟩
      refine RunS.seq (RunS.set (RunE.to (nLL (blocksN ls)) ?_ ⟨rfl, ?_⟩))
      · walk_at "RUN"
        exact ⟨_, _, eFo ls _ (by lia), by rw [q1], rfl⟩
      have mapN : ∀ (f : List Nat → List Nat → Nat), List.map (fun told => Dat.list (List.map (fun parts => nD (f told parts)) ns ++ [.int 0, .int 1])) ns = List.map nL (ns.map fun told => ns.map (f told) ++ [0, 1]) := fun f => by
        rw [List.map_map]
        refine List.map_congr_left fun told _ => ?_
        show _ = nL (ns.map (f told) ++ [0, 1])
        rw [nL, List.map_append, List.map_map]; rfl
      refine RunS.seq (RunS.set (RunE.to (nLL (withN ns)) ?_ ⟨rfl, ?_⟩))
      · refine RunE.map nmD (fun told => .list (List.map (fun parts => nD (if parts.take told.length = told then 1 else 0)) ns ++ [.int 0, .int 1])) ns (by lia) ?_ (fun told ht => ⟨_, rfl, ?_⟩) ⟨by rw [mapN]; rfl, rfl⟩
        · walk_at "RUN"
          exact ⟨_, rfl, rfl, rfl⟩
        · refine RunE.two ?_
          refine RunE.map nmD (fun parts => nD (if parts.take told.length = told then 1 else 0)) ns (by lia) ?_ (fun parts hp => ⟨_, rfl, ?_⟩) ?_
          · walk_at "RUN"
            exact ⟨_, rfl, rfl, rfl⟩
          · have h1 := hnl told ht
            have h2 := hnl parts hp
            refine RunE.ite ?_
            walk_at "RUN"
            refine Op.lenL (by simp; lia) ?_
            rw [List.length_map]
            refine ⟨_, rfl, ?_⟩
            refine Op.sliceL ((parts.take told.length).map fun k => .str (aT k)) (by rw [List.map_take]; exact pickL_to _ _) (by simp; lia) ?_
            walk_at "RUN"
            refine Op.eq enc_nm (by decide) trivial trivial ?_
            walk_at "RUN"
            by_cases e : parts.take told.length = told
            · rw [if_pos (decide_eq_true e), if_pos e]
              walk_at "RUN"
              rfl
            · rw [if_neg (by rw [decide_eq_false e]; decide), if_neg e]
              walk_at "RUN"
              rfl
          · walk_at "RUN"
            refine Op.addL (by simp; lia) ⟨rfl, rfl⟩
      refine RunS.seq (RunS.set (RunE.to (nLL (belowN ns)) ?_ ⟨rfl, ?_⟩))
      · refine RunE.map nmD (fun told => .list (List.map (fun parts => nD (if parts.take told.length = told ∧ parts ≠ told then 1 else 0)) ns ++ [.int 0, .int 1])) ns (by lia) ?_ (fun told ht => ⟨_, rfl, ?_⟩) ⟨by rw [mapN]; rfl, rfl⟩
        · walk_at "RUN"
          exact ⟨_, rfl, rfl, rfl⟩
        · refine RunE.two ?_
          refine RunE.map nmD (fun parts => nD (if parts.take told.length = told ∧ parts ≠ told then 1 else 0)) ns (by lia) ?_ (fun parts hp => ⟨_, rfl, ?_⟩) ?_
          · walk_at "RUN"
            exact ⟨_, rfl, rfl, rfl⟩
          · have h1 := hnl told ht
            have h2 := hnl parts hp
            refine RunE.ite ?_
            walk_at "RUN"
            refine Op.lenL (by simp; lia) ?_
            rw [List.length_map]
            refine ⟨_, rfl, ?_⟩
            refine Op.sliceL ((parts.take told.length).map fun k => .str (aT k)) (by rw [List.map_take]; exact pickL_to _ _) (by simp; lia) ?_
            walk_at "RUN"
            refine Op.eq enc_nm (by decide) trivial trivial ?_
            walk_at "RUN"
            by_cases e : parts.take told.length = told
            · rw [if_pos (decide_eq_true e)]
              walk_at "RUN"
              refine Op.ne enc_nm (by decide) trivial trivial ?_
              walk_at "RUN"
              by_cases e2 : parts = told
              · rw [if_neg (by rw [decide_eq_true e2]; decide), if_neg (by decide), if_neg (fun q => q.2 e2)]
                walk_at "RUN"
                rfl
              · rw [if_pos (by rw [decide_eq_false e2]; decide)]
                refine RunT.c ?_
                rw [if_pos rfl, if_pos ⟨e, e2⟩]
                walk_at "RUN"
                rfl
            · rw [if_neg (by rw [decide_eq_false e]; decide), if_neg (by decide), if_neg (fun q => e q.1)]
              walk_at "RUN"
              rfl
          · walk_at "RUN"
            refine Op.addL (by simp; lia) ⟨rfl, rfl⟩
      have hpl : (pkgs (withN ns ++ belowN ns) nu.length).length ≤ 40 := by rw [← hae]; unfold pkgs; rw [List.length_map, ansN, List.length_map, rdr_len]; lia
      have hwb : (withN ns ++ belowN ns).length ≤ 12 := by rw [← hae, ansN, List.length_map, rdr_len]; lia
      refine RunS.seq (RunS.set (RunE.to (nLL (blocksN ls ++ (blocksN ls).map (·.drop 1) ++ pkgs (withN ns ++ belowN ns) nu.length)) ?_ ⟨rfl, ?_⟩))
      · refine RunE.two ?_
        refine RunE.two ?_
        walk_at "RUN"
        refine RunE.map nL (fun b => nL (b.drop 1)) (blocksN ls) (by lia) ?_ (fun b hb => ?_) ?_
        · walk_at "RUN"
          exact ⟨_, rfl, rfl, rfl⟩
        · refine ⟨_, rfl, ?_⟩
          walk_at "RUN"
          refine ⟨_, rfl, ?_⟩
          walk_at "RUN"
          have := hb6 b hb
          refine Op.sliceL ((b.drop 1).map nD) (by rw [List.map_drop]; exact pickL_from _ 1) (by simp; lia) ⟨rfl, rfl⟩
        refine Op.addL (by simp; lia) ?_
        refine RunE.map nL (fun row => nL ((List.range nu.length).filter fun k => row.getD k 0 == 1)) (withN ns ++ belowN ns) (by lia) ?_ (fun row hr => ?_) ?_
        · walk_at "RUN"
          refine Op.addL (by rw [List.length_append] at hwb; simp; lia) ⟨_, rfl, nLL_app _ _, rfl⟩
        · refine ⟨_, rfl, RunE.filter nD nD (fun k => row.getD k 0 == 1) (List.range nu.length) (by simp; lia) ?_ (fun k hk => ⟨_, rfl, ?_, fun _ => ?_⟩) ⟨rfl, rfl⟩⟩
          · walk_at "RUN"
            exact ⟨_, rfl, rfl, rfl⟩
          · have hk := List.mem_range.mp hk
            have hrl := hal row (hae ▸ hr)
            walk_at "RUN"
            refine Op.getN (by lia) (by lia) ?_
            walk_at "RUN"
            refine Op.eq (b := 1) enc_n (by decide) trivial trivial ?_
            walk_at "RUN"
            rfl
          · walk_at "RUN"
            rfl
        refine Op.addL ?_ ⟨?_, rfl⟩
        · rw [List.length_append, List.length_map, List.length_map, List.length_map]; lia
        · rw [show List.map (fun b => nL (b.drop 1)) (blocksN ls) = List.map nL ((blocksN ls).map (·.drop 1)) by rw [List.map_map]; rfl,
            show List.map (fun row : List Nat => nL ((List.range nu.length).filter fun k => row.getD k 0 == 1)) (withN ns ++ belowN ns) = List.map nL (pkgs (withN ns ++ belowN ns) nu.length) by unfold pkgs; rw [List.map_map]; rfl, nLL_app, nLL_app]
      have htr : ∀ g ∈ (blocksN ls ++ (blocksN ls).map (·.drop 1) ++ pkgs (withN ns ++ belowN ns) nu.length) ++ [List.range nu.length], g ∈ innerN (blocksN ls) nu.length ++ outerN ns := fun g hg => by
        unfold innerN outerN
        rw [z2]
        simp only [List.mem_append] at hg ⊢
        rcases hg with (h | h) | h
        · exact .inl (.inl h)
        · exact .inr (.inl h)
        · exact .inl (.inr h)
      refine RunS.seq' (RunS.find nL ((blocksN ls ++ (blocksN ls).map (·.drop 1) ++ pkgs (withN ns ++ belowN ns) nu.length) ++ [List.range nu.length])
        (fun σ J' => σ "hands" = .frz (nL r) ∧ σ "many" = .frz (nD m) ∧ σ "blocks" = .frz (nLL (blocksN ls)) ∧ σ "outline" = .frz (nLL (blocksN ls)) ∧ σ "first" = .frz (nLL (ansN ns)) ∧ σ "again" = .frz (nLL (ansN ns)) ∧ σ "with_it" = .frz (nLL (withN ns)) ∧ σ "below_it" = .frz (nLL (belowN ns)) ∧ J' = J) (fun _ => none) ?_ (fun g hg σ _ ⟨k1, k2, k3, k4, k5, k6, k7, k8, hJ⟩ => ?_) fun σ _ ⟨k1, k2, k3, k4, k5, k6, k7, k8, hJ⟩ => ?_)
      · walk_at "RUN"
        refine Op.addL ?_ ⟨_, rfl, nLL_app _ [List.range nu.length], by walk_at "LOOK", by walk_at "LOOK", by walk_at "LOOK", by walk_at "LOOK", by walk_at "LOOK", by walk_at "LOOK", by walk_at "LOOK", by walk_at "LOOK", rfl⟩
        rw [List.length_map, List.length_append, List.length_append, List.length_map, List.length_singleton]; lia
      · subst hJ
        have hgi := htr g hg
        have hg3 := q3 g hgi
        refine RunS.last (RunS.ite ?_)
        walk_at "RUN"
        refine ⟨_, _, eFc g r m _ (by lia) (by lia) (fun k hk => by rw [r2]; exact hg3.2 k hk) r3, ?_⟩
        refine ⟨_, r4 g hgi, ?_⟩
        refine RunE.map nD (fun place => nD ((g.length + place) / m)) (List.range m) (by simp; lia) ?_ (fun place hp => ⟨_, rfl, ?_⟩) ?_
        · walk_at "RUN"
          exact Op.rng1 (by lia) ⟨rngL_n _, rfl⟩
        · walk_at "RUN"
          refine Op.lenL (by simp; lia) ?_
          rw [List.length_map]
          walk_at "RUN"
          refine Op.divI ⟨by lia, by lia⟩ ?_
          exact ⟨congrArg Dat.int (fdiv_n (g.length + place) m), rfl⟩
        rw [show (List.range m).map (fun place => nD ((g.length + place) / m)) = (lvl g.length m).map nD by unfold lvl; rw [List.map_map]; rfl]
        refine Op.ne (a := lvl g.length m) (b := lvl g.length m) enc_n.list (by decide) (fun _ _ => trivial) (fun _ _ => trivial) ?_
        walk_at "RUN"
        rw [decide_eq_true rfl, if_neg (by decide)]
        walk_at "RUN"
        exact ⟨by walk_at "LOOK", by walk_at "LOOK", by walk_at "LOOK", by walk_at "LOOK", by walk_at "LOOK", by walk_at "LOOK", by walk_at "LOOK", by walk_at "LOOK", rfl⟩
      · have hJ := hJ.symm
        subst hJ
        rw [show (List.findSome? (fun _ => (none : Option Dat)) ((blocksN ls ++ (blocksN ls).map (·.drop 1) ++ pkgs (withN ns ++ belowN ns) nu.length) ++ [List.range nu.length])) = none from List.findSome?_eq_none_iff.mpr fun _ _ => rfl]
        refine .inl ⟨rfl, ?_⟩
        refine RunS.seq' (RunS.ite ?_)
        refine RunT.of (RunE.two ?_)
        refine RunE.comp nL (ansN ns) (fun _ out J' => out = [] ∧ J' = J) ?_ (fun pre row post out _ e ⟨h1, h2⟩ => ⟨_, rfl, RunT.c ?_⟩) fun out J' ⟨h1, h2⟩ => ?_
        · walk_at "RUN"
          exact ⟨_, rfl, rfl, rfl, rfl⟩
        · have h2 := h2.symm
          subst h1; subst h2
          refine ite_t rfl ?_
          refine RunI.two (f := nD) (l := row) (P := fun out J' => out = [] ∧ J' = J) ?_ (fun a ha out _ ⟨h1, h2⟩ => ⟨_, rfl, ?_⟩) fun out J' ⟨h1, h2⟩ => by rw [h1, h2]; exact ⟨rfl, rfl⟩
          · walk_at "RUN"
            exact ⟨_, rfl, rfl, rfl, rfl⟩
          · subst h1; subst h2
            walk_at "RUN"
            refine ⟨.bool false, rfl, ?_⟩
            walk_at "RUN"
            refine ite_f (by decide) ?_
            walk_at "RUN"
            refine ⟨.bool false, rfl, ?_⟩
            walk_at "RUN"
            refine ite_f (by decide) ?_
            walk_at "RUN"
            refine ite_f (by decide) ?_
            exact ⟨rfl, rfl⟩
        · subst h1; subst h2
          refine ⟨by simp, ?_⟩
          walk_at "RUN"
          refine Op.ne (f := fun l : List Nat => Dat.list (l.map nD)) (a := []) (b := []) enc_n.list (by decide) (fun _ _ => trivial) (fun _ _ => trivial) ?_
          walk_at "RUN"
          rw [decide_eq_true rfl, if_neg (by decide)]
          walk_at "RUN"
          refine .inl ⟨rfl, ?_⟩
          refine RunS.last (RunS.ret (RunE.andV ?_))
          walk_at "RUN"
          refine Op.eq (a := blocksN ls) (b := blocksN ls) enc_n.list.list (by decide) (fun _ _ _ _ => trivial) (fun _ _ _ _ => trivial) ?_
          walk_at "RUN"
          rw [decide_eq_true rfl, if_pos rfl]
          refine RunE.andV ?_
          walk_at "RUN"
          refine Op.addL (by rw [List.length_append] at hwb; simp; lia) ?_
          rw [nLL_app, hae]
          refine Op.eq (a := withN ns ++ belowN ns) (b := withN ns ++ belowN ns) enc_n.list.list (by decide) (fun _ _ _ _ => trivial) (fun _ _ _ _ => trivial) ?_
          walk_at "RUN"
          rw [decide_eq_true rfl, if_pos rfl]
          walk_at "RUN"
          rw [hae]
          refine Op.eq (a := withN ns ++ belowN ns) (b := withN ns ++ belowN ns) enc_n.list.list (by decide) (fun _ _ _ _ => trivial) (fun _ _ _ _ => trivial) ?_
          rw [decide_eq_true rfl]
          exact ⟨rfl, rfl⟩
  refine g_ea h fun P hs he => ?_
  refine ⟨runF ["script"] _, SoundF.of (def_law ok) (by decide +kernel) (by decide +kernel) (fun s vs hv => ?_) hs.forget, J, runF_ret rfl ⟨_, _, _, if_pos he, rfl, rfl⟩⟩
  refine g_e (len1 hv) fun a q1ₑ => ?_
  subst q1ₑ
  exact BindsTo.of_eq (by kernel_rfl)

end
theorem all_of_it : rw0.Holds := whole fun _ ok ns h => T_law ok ns h
end Mine
theorem PySem.Challenge.cw_pw0020_02_holds : PySem.Challenge.rw_pw0020_02.Holds :=
  Mine.all_of_it
