import PyProof.Rows.All
import PyProof.ExcStrCall
import PyProof.Rows.StrClose
import PyProof.Rows.StrMul
import PyProof.StrLawsReplace
import Wide.FinOn
import OpenK.AllK
import Wide.All
import Lean
import PySem.Challenge.RW_tc0083_02
set_option Elab.async false
set_option maxRecDepth 100000
set_option linter.unusedVariables false
section Own
variable {prog : PySem.Program} {w : PySem.World} {K : PySem.W.Frag}
section
open PySem PySem.W PyProof.Rows PySem.W.X PySem.Calls PySem.Challenge PySem.Builtin.Re
namespace Lw
noncomputable def stAt (p : Program) (i : Nat) : Stmt := p.main.body.getD i (.Pass ⟨0, 0, 0, 0⟩)
noncomputable def fnBody : Stmt → List Stmt
  | .FunctionDef _ _ b _ _ _ _ _ _ _ => b
  | .ClassDef _ _ _ b _ _ _ _ _ _ _ => b
  | _ => []
noncomputable def fnArgs : Stmt → Option Arguments
  | .FunctionDef _ a _ _ _ _ _ _ _ _ => some a
  | _ => none
noncomputable def fnScope : Stmt → Option Scope
  | .FunctionDef _ _ _ _ _ _ s _ _ _ => some s
  | _ => none
noncomputable def clsAt (p : Program) (i j : Nat) : Stmt := (fnBody (stAt p i)).getD j (.Pass ⟨0, 0, 0, 0⟩)
noncomputable def nameCode : Array Nat := #[14, 10, 4, 1, 1, 22, 0, 31, 16, 127, 0, 13, 7, 22, 0, 31, 16, 127, 0, 1]
noncomputable def valueCode : Array Nat := #[14, 14, 4, 1, 1, 9, 4294966783, 0, 0, 2147483648, 0, 0, 0, 0, 0, 13, 11, 9, 4294966783, 0, 0, 2147483648, 0, 0, 0, 0, 0, 1]
noncomputable def fragAt (k : Nat) (h : Heap) : Frag := (List.range k).filterMap fun a => (h.get? a).map fun o => (a, o)
noncomputable def okScope (sc : Scope) : Bool := sc.kind == .function && (sc.names.all fun p => p.2 != .free) && (!sc.isCoroutine && !sc.isGenerator)
noncomputable def refV : Value → Option Addr
  | .ref a => some a
  | _ => none
noncomputable def strV : Value → Option Str
  | .str s _ => some s
  | _ => none
noncomputable def refO (x : Option (Option Value)) : Option Addr := x.bind fun y => y.bind refV
noncomputable def funD : Data → Option FuncData
  | .func fd => some fd
  | _ => none
noncomputable def seqD : Data → Option (Array Value)
  | .seq xs _ => some xs
  | _ => none
noncomputable def fldD : Data → Option (Array Value)
  | .fields vs => some vs
  | _ => none
noncomputable def codeOk (K : Frag) (fd : FuncData) : Bool := decide (((refV fd.code).bind fun c => (K.lookup c).bind fun o => (fldD o.data).bind fun vs => (vs[1]?).bind strV) = some fd.qualname)
noncomputable abbrev FnSum : Type := FuncBody × List (Str × Addr) × (Addr × Addr) × Arguments × Scope × Value × Value × Bool
noncomputable def fnSum (K : Frag) (f : Addr) : Option FnSum := (K.lookup f).bind fun o => (funD o.data).map fun fd => (fd.body, fd.closure, (fd.globals, fd.builtins), fd.params, fd.scope, fd.defaults, fd.kwdefaults, okScope fd.scope && codeOk K fd)
noncomputable def sumOf (st : Stmt) (dv : Value) : FnSum := (.stmts (fnBody st), [], (mainGlobals, builtinsNs), (fnArgs st).getD default, (fnScope st).getD default, dv, .none, true)
noncomputable def gSum (K : Frag) (name : Str) : Option (Bool × Option FnSum) := (refO (nsIn K mainGlobals name)).map fun f => (keepIn K (.ref f), fnSum K f)
noncomputable def mSum (K : Frag) (C : Addr) (name : Str) : Option (Option Value × Bool × Option FnSum) := (refO (findIn K (.ref C) name)).map fun f => (typeIn K (.ref f), keepIn K (.ref f), fnSum K f)
noncomputable def iSumOf (K : Frag) (C : Addr) : Option (Bool × Option Value × Option FnSum) := (refO (findIn K (.ref C) "__init__")).map fun f => (makesIn K C, typeIn K (.ref f), fnSum K f)
noncomputable def dfltAt (K : Frag) (C : Addr) (name : Str) : Addr := ((refO (findIn K (.ref C) name)).bind fun f => (K.lookup f).bind fun o => (funD o.data).bind fun fd => refV fd.defaults).getD 0
noncomputable def seqAt (K : Frag) (a : Addr) : Option (Array Value) := (K.lookup a).bind fun o => seqD o.data
noncomputable def patSum (K : Frag) (p : Addr) : Option (Value × Option Addr × Value × Value × Option (Array Nat)) := (K.lookup p).bind fun o => (fldD o.data).map fun vs => (o.cls, o.dict, vs.getD 2 .none, vs.getD 6 .none, (refV (vs.getD 5 .none)).bind fun q => (seqAt K q).map fun xs => (xs.map reRawOf).map (·.toNat))
noncomputable def clsSum (K : Frag) (C : Addr) : Option (Option Value) × Option (Option Value) × Option Bool × Option (Option Value) × Bool :=
  (findIn K (.ref C) "__getattribute__", findIn K (.ref C) "__getattr__", (clsIn K C).map (·.hasDict), findIn K (.ref C) "__setattr__", plainOver K C)
noncomputable def clsGood : Option (Option Value) × Option (Option Value) × Option Bool × Option (Option Value) × Bool := (some (some (.builtin "object.__getattribute__")), some none, some true, some (some (.builtin "object.__setattr__")), true)
noncomputable def topNames : List (Str × Value) := [("range", .type "range"), ("zip", .type "zip"), ("enumerate", .type "enumerate"), ("tuple", .type "tuple"), ("list", .type "list"), ("str", .type "str"), ("type", .type "type"), ("len", .builtin "len"), ("sum", .builtin "sum"), ("all", .builtin "all"), ("max", .builtin "max")]
noncomputable def cfV : CFound → Option Value
  | .val v => some v
  | _ => none
noncomputable def strAt (K : Frag) (C : Addr) (name : Str) : Option Str := (findCls K (.ref C) (.type "type") name).bind fun c => (cfV c).bind strV
structure Summ where
  top : List (Option (Option Value) × Option (Option Value))
  gl : List (Option (Option Value))
  pats : List (Option (Value × Option Addr × Value × Value × Option (Array Nat)))
  cls : List (Option (Option Value) × Option (Option Value) × Option Bool × Option (Option Value) × Bool)
  fields : List (Option (Option Value))
  takes : List (Option (Option Value))
  bs : List Bool
  texts : List (Option Str)
  defs : List (Option (Bool × Option FnSum))
  meths : List (Option (Option Value × Bool × Option FnSum))
  inits : List (Option (Bool × Option Value × Option FnSum))
  dflt : List (Option (Array Value))
noncomputable def summ (K : Frag) : Summ where
  top := topNames.map fun p => (nsIn K mainGlobals p.1, nsIn K builtinsNs p.1)
  gl := [nsIn K mainGlobals "_name_disallowed_re", nsIn K mainGlobals "_value_disallowed_re", nsIn K mainGlobals "ValueError", nsIn K builtinsNs "ValueError", nsIn K mainGlobals "Headers", nsIn K mainGlobals "Whitespace", nsIn K mainGlobals "sorted", nsIn K builtinsNs "sorted"]
  pats := [patSum K 109, patSum K 114]
  cls := [clsSum K 237, clsSum K 100]
  fields := [findIn K (.ref 237) "_headers", findIn K (.ref 100) "raw", findIn K (.ref 100) "n", findIn K (.ref 100) "nt", findIn K (.ref 100) "norm", findIn K (.ref 100) "is_simple"]
  takes := [takerIn K 237 "_headers", takerIn K 100 "raw", takerIn K 100 "n", takerIn K 100 "nt", takerIn K 100 "norm", takerIn K 100 "is_simple"]
  bs := [noSeq K 237, keepIn K (.ref 237), keepIn K (.ref 100), readsIn K 100 (.type "type")]
  texts := [strAt K 100 "S", strAt K 100 "T"]
  defs := [gSum K "_escape_cdata", gSum K "_escape_attrib", gSum K "_escape_attrib_html", gSum K "_escape_cdata_c14n", gSum K "_escape_attrib_c14n", gSum K "_law_spelled", gSum K "_law_refusal", gSum K "_law_called", gSum K "_law_seated", gSum K "_law_plain", gSum K "_law_crowd", gSum K "law"]
  meths := [mSum K 237 "_convert_string_type", mSum K 237 "__delitem__", mSum K 237 "items", mSum K 237 "setdefault", mSum K 100 "longest_run_of_spaces", mSum K 100 "indent_level", mSum K 100 "equal", mSum K 100 "not_equal_witness", mSum K 237 "get"]
  inits := [iSumOf K 237, iSumOf K 100]
  dflt := [seqAt K (dfltAt K 237 "__init__"), seqAt K (dfltAt K 237 "get")]
noncomputable def summGood (dv dg : Value) : Summ where
  top := topNames.map fun p => (some none, some (some p.2))
  gl := [some (some (.ref 109)), some (some (.ref 114)), some none, some (some (.type "ValueError")), some (some (.ref 237)), some (some (.ref 100)), some none, some (some (.builtin "sorted"))]
  pats := [some (.type "re.Pattern", none, rawInt 0, rawInt 0, some nameCode), some (.type "re.Pattern", none, rawInt 0, rawInt 0, some valueCode)]
  cls := [clsGood, clsGood]
  fields := [some none, some none, some none, some none, some none, some none]
  takes := [some none, some none, some none, some none, some none, some none]
  bs := [true, true, true, true]
  texts := [some " ", some "\t"]
  defs := [some (true, some (sumOf (stAt pw_tc0083_02 10) .none)), some (true, some (sumOf (stAt pw_tc0083_02 11) .none)), some (true, some (sumOf (stAt pw_tc0083_02 12) .none)), some (true, some (sumOf (stAt pw_tc0083_02 13) .none)), some (true, some (sumOf (stAt pw_tc0083_02 14) .none)), some (true, some (sumOf (stAt pw_tc0083_02 16) .none)), some (true, some (sumOf (stAt pw_tc0083_02 17) .none)), some (true, some (sumOf (stAt pw_tc0083_02 18) .none)), some (true, some (sumOf (stAt pw_tc0083_02 19) .none)), some (true, some (sumOf (stAt pw_tc0083_02 20) .none)), some (true, some (sumOf (stAt pw_tc0083_02 21) .none)), some (true, some (sumOf (stAt pw_tc0083_02 22) .none))]
  meths := [some (some (.type "function"), true, some (sumOf (clsAt pw_tc0083_02 7 1) .none)), some (some (.type "function"), true, some (sumOf (clsAt pw_tc0083_02 7 4) .none)), some (some (.type "function"), true, some (sumOf (clsAt pw_tc0083_02 7 11) .none)), some (some (.type "function"), true, some (sumOf (clsAt pw_tc0083_02 7 15) .none)), some (some (.type "function"), true, some (sumOf (clsAt pw_tc0083_02 3 2) .none)), some (some (.type "function"), true, some (sumOf (clsAt pw_tc0083_02 3 3) .none)), some (some (.type "function"), true, some (sumOf (clsAt pw_tc0083_02 3 4) .none)), some (some (.type "function"), true, some (sumOf (clsAt pw_tc0083_02 3 5) .none)), some (some (.type "function"), true, some (sumOf (clsAt pw_tc0083_02 7 8) dg))]
  inits := [some (true, some (.type "function"), some (sumOf (clsAt pw_tc0083_02 7 0) dv)), some (true, some (.type "function"), some (sumOf (clsAt pw_tc0083_02 3 1) .none))]
  dflt := [some #[.none], some #[.none]]
noncomputable def yfL (s : Shared) : Summ × Value × Value × Nat × Bool := (summ (fragAt 323 s.heap), .ref (dfltAt (fragAt 323 s.heap) 237 "__init__"), .ref (dfltAt (fragAt 323 s.heap) 237 "get"), s.heap.objs.size, Nat.ble 1 s.toks)
noncomputable def lawDef : Stmt := stAt pw_tc0083_02 22
noncomputable def qL : Program := { pw_tc0083_02 with main := { pw_tc0083_02.main with body := [lawDef] } }
noncomputable def looseL : List Str := ["_sre", "_wall", "__name__", "Whitespace", "_name_disallowed_re", "_value_disallowed_re", "Headers", "_raise_serialization_error", "_escape_cdata", "_escape_attrib", "_escape_attrib_html", "_escape_cdata_c14n", "_escape_attrib_c14n", "_law_spelled", "_law_refusal", "_law_called", "_law_seated", "_law_plain", "_law_crowd"]
noncomputable def yaL (w : World) : Summ × Value × Value × Nat × Bool := (summGood (.ref 122) (.ref 177), .ref 122, .ref 177, 323, true)
set_option maxHeartbeats 0 in
theorem said_law : OpenLaw.wellSaid rw_tc0083_02 = true := by kernel_rfl
noncomputable def topF (p : Program) (w : World) (N : Nat) (s₀ : Shared) : Option Shared :=
  match s₀.heap.isNs mainGlobals && s₀.gens.size == 0 with
  | true => (PySem.W.Fast.tw14082659384304107361 PySem.W.Fast.tw14364793385576792824 p w s₀.heap.objs.size (s₀.heap.nsMap mainGlobals "__annotations__") N s₀ (topStub p)).bind fun s₁ => match staticsOk (importedModules p.main.body) s₀.heap s₁.heap && namesBound p s₁.heap && gensDone s₁ && laidKept s₀.heap s₁.heap with
      | true => some s₁
      | false => none
  | false => none
theorem topF_eq (p : Program) (w : World) (N : Nat) (s₀ : Shared) : topFrom treeTable p w N s₀ = topF p w N s₀ := by
  unfold topFrom topF
  rw [PySem.W.Fast.te14082659384304107361, PySem.W.Fast.te14364793385576792824]
  rfl
noncomputable def fopF (p : Program) (w : World) (N : Nat) : Option Shared :=
  (PySem.W.Fast.tw10274390034422433532 PySem.W.Fast.tw14364793385576792824 (opening p) w N (PySem.W.Fast.tw1435165496053646825 (opening p)).1 (PySem.W.Fast.tw1435165496053646825 (opening p)).2).bind (PySem.W.Fast.tw14289696077712309145 p)
theorem fopF_eq (p : Program) (w : World) (N : Nat) : fencedOpening treeTable p w N = fopF p w N := by
  unfold fencedOpening fopF
  rw [PySem.W.Fast.te10274390034422433532, PySem.W.Fast.te14364793385576792824, PySem.W.Fast.te1435165496053646825, PySem.W.Fast.te14289696077712309145]
noncomputable def lookF (s : Shared) := (PySem.W.Fast.tw4187177175401517315 qL looseL (importedModules pw_tc0083_02.main.body) (fun s => xlAt qL [] s && recOk [] s) true s, yfL s)
theorem lookF_eq (s : Shared) : (openSeen qL looseL (importedModules pw_tc0083_02.main.body) (fun s => xlAt qL [] s && recOk [] s) true s, yfL s) = lookF s := by
  unfold lookF
  rw [PySem.W.Fast.te4187177175401517315]
set_option maxHeartbeats 0 in
theorem left_f : ∀ (w : World), (fopF pw_tc0083_02 w 4008).map (fun s₀ => (topF pw_tc0083_02 (w.withFollow "special-get-raises" false) 4008 s₀).map lookF) = some (some (openGood qL looseL, yaL (w.withFollow "special-get-raises" false))) := fun w => by kernel_rfl
set_option maxHeartbeats 0 in
theorem left_t : ∀ (w : World), (fopF pw_tc0083_02 w 4008).map (fun s₀ => (topF pw_tc0083_02 (w.withFollow "special-get-raises" true) 4008 s₀).map lookF) = some (some (openGood qL looseL, yaL (w.withFollow "special-get-raises" true))) := fun w => by kernel_rfl
theorem left_law : LeftO pw_tc0083_02 qL looseL (fun s => xlAt qL [] s && recOk [] s) yfL yaL 4008 := LeftO.of_split "special-get-raises" fun w => by
  obtain ⟨s, hs, h1⟩ := Option.map_eq_some_iff.mp (left_f w)
  obtain ⟨s', hs', h2⟩ := Option.map_eq_some_iff.mp (left_t w)
  rw [hs] at hs'
  cases hs'
  have e1 : (topFrom treeTable pw_tc0083_02 (w.withFollow "special-get-raises" false) 4008 s).map (fun s => (openSeen qL looseL (importedModules pw_tc0083_02.main.body) (fun s => xlAt qL [] s && recOk [] s) true s, yfL s)) = some (openGood qL looseL, yaL (w.withFollow "special-get-raises" false)) := by
    rw [topF_eq]
    exact (congrArg (fun g => Option.map g (topF pw_tc0083_02 (w.withFollow "special-get-raises" false) 4008 s)) (funext lookF_eq)).trans h1
  have e2 : (topFrom treeTable pw_tc0083_02 (w.withFollow "special-get-raises" true) 4008 s).map (fun s => (openSeen qL looseL (importedModules pw_tc0083_02.main.body) (fun s => xlAt qL [] s && recOk [] s) true s, yfL s)) = some (openGood qL looseL, yaL (w.withFollow "special-get-raises" true)) := by
    rw [topF_eq]
    exact (congrArg (fun g => Option.map g (topF pw_tc0083_02 (w.withFollow "special-get-raises" true) 4008 s)) (funext lookF_eq)).trans h2
  rw [fopF_eq, hs, Option.map_some]
  exact congrArg some (Prod.ext e1 e2)
end Lw
end

section
open PySem PySem.W PyProof.Rows PySem.Calls
namespace Lw

inductive D where
  | none
  | bool (b : Bool)
  | int (i : Int)
  | str (s : Str)
  | tup (l : List D)
  | lst (l : List D)
  | val (v : Value)
  | ins (C : Addr) (l : List (Str × D))
  | obj (P : Heap → Value → Prop)

mutual
noncomputable def R (U : Addr → Prop) (h : Heap) (v : Value) : D → Prop
  | .none => v = .none
  | .bool b => v = .bool b
  | .int i => ∃ t, v = .int i t
  | .str s => ∃ t, v = .str s t
  | .val u => v = u
  | .tup ds => ∃ a vs, v = .ref a ∧ ¬ U a ∧ h.IsTuple a (List.toArray vs) ∧ RL U h vs ds
  | .lst ds => ∃ a vs, v = .ref a ∧ ¬ U a ∧ h.PlainList a (List.toArray vs) ∧ RL U h vs ds
  | .ins C fs => ∃ a dx od, v = .ref a ∧ ¬ U a ∧ ¬ U dx ∧ h.get? a = some (instObj C dx) ∧ h.get? dx = some od ∧ RF U h od fs ∧ ∀ x, fs.lookup x = none → lookIn x od = some none
  | .obj P => ∀ h', (∀ b o, ¬ U b → h.get? b = some o → h'.get? b = some o) → P h' v
noncomputable def RL (U : Addr → Prop) (h : Heap) (vs : List Value) : List D → Prop
  | [] => vs = []
  | d :: ds => ∃ v vs', vs = v :: vs' ∧ R U h v d ∧ RL U h vs' ds
noncomputable def RF (U : Addr → Prop) (h : Heap) (od : Obj) : List (Str × D) → Prop
  | [] => True
  | (x, d) :: fs => (∃ v, lookIn x od = some (some v) ∧ R U h v d) ∧ RF U h od fs
end

mutual
theorem R.mono {U U' : Addr → Prop} {h h' : Heap} (hU : ∀ a, U' a → U a ∨ h.get? a = none) (hk : ∀ b o, ¬ U b → h.get? b = some o → h'.get? b = some o) : ∀ (d : D) {v : Value}, R U h v d → R U' h' v d
  | .none, _, x => x
  | .bool _, _, x => x
  | .int _, _, x => x
  | .str _, _, x => x
  | .val _, _, x => x
  | .tup ds, _, hz1 => by obtain ⟨a, vs, e, hu, ⟨o, ho, hr⟩, hl⟩ := hz1; exact ⟨a, vs, e, fun q => (hU a q).elim hu (fun n => by rw [n] at ho; cases ho), ⟨o, hk a o hu ho, hr⟩, RL.mono hU hk ds hl⟩
  | .lst ds, _, hz2 => by obtain ⟨a, vs, e, hu, ⟨o, ho⟩, hl⟩ := hz2; exact ⟨a, vs, e, fun q => (hU a q).elim hu (fun n => by rw [n] at ho; cases ho), ⟨o, hk a _ hu ho⟩, RL.mono hU hk ds hl⟩
  | .ins _ fs, _, hz3 => by obtain ⟨a, dx, od, e, hu, hv, h1, h2, hl, hn⟩ := hz3; exact ⟨a, dx, od, e, fun q => (hU a q).elim hu (fun n => by rw [n] at h1; cases h1), fun q => (hU dx q).elim hv (fun n => by rw [n] at h2; cases h2), hk _ _ hu h1, hk _ _ hv h2, RF.mono hU hk fs hl, hn⟩
  | .obj P, _, x => fun h'' k => x h'' fun b o nu e => k b o (fun q => (hU b q).elim nu fun n => by rw [n] at e; cases e) (hk b o nu e)
theorem RL.mono {U U' : Addr → Prop} {h h' : Heap} (hU : ∀ a, U' a → U a ∨ h.get? a = none) (hk : ∀ b o, ¬ U b → h.get? b = some o → h'.get? b = some o) : ∀ (ds : List D) {vs : List Value}, RL U h vs ds → RL U' h' vs ds
  | [], _, x => x
  | d :: ds, _, hz4 => by obtain ⟨v, vs', e, x, y⟩ := hz4; exact ⟨v, vs', e, R.mono hU hk d x, RL.mono hU hk ds y⟩
theorem RF.mono {U U' : Addr → Prop} {h h' : Heap} (hU : ∀ a, U' a → U a ∨ h.get? a = none) (hk : ∀ b o, ¬ U b → h.get? b = some o → h'.get? b = some o) : ∀ (fs : List (Str × D)) {od : Obj}, RF U h od fs → RF U' h' od fs
  | [], _, _ => trivial
  | (_, d) :: fs, _, hz5 => by obtain ⟨⟨v, e, x⟩, y⟩ := hz5; exact ⟨⟨v, e, R.mono hU hk d x⟩, RF.mono hU hk fs y⟩
end

theorem R.keeps {U : Addr → Prop} {h h' : Heap} (hk : ∀ b o, h.get? b = some o → h'.get? b = some o) {d : D} {v : Value} (x : R U h v d) : R U h' v d :=
  R.mono (fun _ q => .inl q) (fun b o _ e => hk b o e) d x
theorem RL.keeps {U : Addr → Prop} {h h' : Heap} (hk : ∀ b o, h.get? b = some o → h'.get? b = some o) {ds : List D} {vs : List Value} (x : RL U h vs ds) : RL U h' vs ds :=
  RL.mono (fun _ q => .inl q) (fun b o _ e => hk b o e) ds x
theorem RL.length {U : Addr → Prop} {h : Heap} : ∀ {ds : List D} {vs : List Value}, RL U h vs ds → vs.length = ds.length
  | [], _, x => by cases x; rfl
  | _ :: _, _, hz6 => by obtain ⟨_, _, e, _, y⟩ := hz6; subst e; simp [RL.length y]
theorem RL.get {U : Addr → Prop} {h : Heap} : ∀ {ds : List D} {vs : List Value}, RL U h vs ds → ∀ {i : Nat} {d : D}, ds[i]? = some d → ∃ v, vs[i]? = some v ∧ R U h v d
  | [], _, _, i, d, e => by simp at e
  | _ :: _, _, hz7, 0, d, e' => by obtain ⟨v, vs', e, x, y⟩ := hz7; subst e; simp at e'; subst e'; exact ⟨v, rfl, x⟩
  | _ :: _, _, hz8, i + 1, d, e' => by obtain ⟨v, vs', e, x, y⟩ := hz8; subst e; simp at e'; simpa using RL.get y e'
theorem RL.append {U : Addr → Prop} {h : Heap} : ∀ {ds es : List D} {vs ws : List Value}, RL U h vs ds → RL U h ws es → RL U h (vs ++ ws) (ds ++ es)
  | [], _, _, _, x, y => by cases x; exact y
  | _ :: _, _, _, _, hz9, y => by obtain ⟨v, vs', e, x, z⟩ := hz9; subst e; exact ⟨v, vs' ++ _, rfl, x, RL.append z y⟩
theorem RL.one {U : Addr → Prop} {h : Heap} {v : Value} {d : D} (x : R U h v d) : RL U h [v] [d] := ⟨v, [], rfl, x, rfl⟩

theorem runs_sz {M : Model} {Γ : Ctx} {p : Pos} {t : Sem Fin} {fs : List Frame} {s s' : Shared} {e : End} (h : Runs M Γ p t fs s e s') : s.heap.objs.size ≤ s'.heap.objs.size := by
  induction h <;> (try simp only [Shared.setGen, Heap.size_push, Heap.size_after_update] at *) <;> lia
theorem wakes_sz {M : Model} {Γ : Ctx} {p : Pos} {g : Nat} {r : Resume} {s s' : Shared} {res : GenResult} (h : Wakes M Γ p g r s res s') : s.heap.objs.size ≤ s'.heap.objs.size := by
  have go : ∀ {Γ' p' t fs}, (∃ e₁ s₁, Runs M Γ' p' t fs (s.setGen g .running) e₁ s₁ ∧ e₁.quiet = true ∧ res = e₁.result ∧ s' = s₁.setGen g e₁.genState) → s.heap.objs.size ≤ s'.heap.objs.size := fun {Γ' p' t fs} h => by
    obtain ⟨e₁, s₁, hr, _, _, rfl⟩ := h; exact (runs_sz hr : (s.setGen g .running).heap.objs.size ≤ s₁.heap.objs.size)
  unfold Wakes at h
  revert h
  cases s.gens[g]? with
  | none => exact False.elim
  | some gs => cases gs with
    | fresh c => cases r with
      | send v => cases v <;> first | exact go | exact fun h => by rw [h.2]; exact Nat.le_refl _
      | throw x => exact fun h => by rw [h.2]; exact Nat.le_refl _
    | suspended k₀ _ c₀ p₀ fs _ => exact go
    | running => exact fun h => by rw [h.2]; exact Nat.le_refl _
    | finished => exact fun h => by rw [h.2]; exact Nat.le_refl _
theorem wp_sz {α : Type} (M : Model) (Γ : Ctx) (n : Nat) (t : Sem α) : ∀ (Q : α → Pos → Shared → Prop) (E : Value → Pos → Shared → Prop) (p : Pos) (s : Shared), n ≤ s.heap.objs.size → Sem.wp M Γ t Q E p s →
    Sem.wp M Γ t (fun a p' s' => n ≤ s'.heap.objs.size ∧ Q a p' s') (fun e p' s' => n ≤ s'.heap.objs.size ∧ E e p' s') p s := by
  induction t with
  | pure a => intro Q E p s hn h; exact ⟨hn, h⟩
  | raise e => intro Q E p s hn h; exact ⟨hn, h⟩
  | unsupported _ => intro Q E p s _ h; exact h
  | finish _ => intro Q E p s _ h; exact h
  | rule _ k ih => intro Q E p s hn h; exact ih () Q E p s hn h
  | «at» p' k ih => intro Q E p s hn h; exact ih () Q E p' s hn h
  | load a _ k ih => intro Q E p s hn h; obtain ⟨o, ho, h⟩ := h; exact ⟨o, ho, ih o Q E p s hn h⟩
  | update a _ f k ih => intro Q E p s hn h; exact ⟨h.1, ih () Q E p _ (by show n ≤ (s.heap.update a f).objs.size; rw [Heap.size_after_update]; exact hn) h.2⟩
  | loadIfAlive a k ih => intro Q E p s hn h; exact ih _ Q E p s hn h
  | point _ k ih => intro Q E p s hn h; exact ih () Q E p s hn h
  | register _ _ => intro Q E p s _ h; exact h
  | alloc o k ih => intro Q E p s hn h; exact ih _ Q E p _ (by show n ≤ (s.heap.push o).objs.size; rw [Heap.size_push]; lia) h
  | fresh k ih => intro Q E p s hn h; exact ih _ Q E p _ hn h
  | ask k ih => intro Q E p s hn h; exact ih _ Q E p s hn h
  | choose src m k ih => intro Q E p s hn h; exact ⟨h.1, ih _ Q E p _ hn h.2⟩
  | os q _ k ih => intro Q E p s hn h; exact ih _ Q E p _ hn h
  | call c hd _ _ k ih => intro Q E p s hn h; obtain ⟨r, s', hr, h⟩ := h; exact ⟨r, s', hr, ih r Q E p s' (Nat.le_trans hn (runs_sz hr)) h⟩
  | handled own k ih => intro Q E p s hn h; exact ih _ Q E p s hn h
  | genState g k ih => intro Q E p s hn h; obtain ⟨st, hs, h⟩ := h; exact ⟨st, hs, ih _ Q E p s hn h⟩
  | newGen c k ih => intro Q E p s hn h; exact ih _ Q E p _ hn h
  | resume g r _ k ih => intro Q E p s hn h; obtain ⟨res, s', hw, h⟩ := h; exact ⟨res, s', hw, ih res Q E p s' (Nat.le_trans hn (wakes_sz hw)) h⟩
  | yield _ _ _ _ => intro Q E p s _ h; exact h
  | stack k ih => intro Q E p s hn h; exact ih _ Q E p s hn h
  | fork _ _ => intro Q E p s _ h; exact h
  | thread k ih => intro Q E p s hn h; exact ih _ Q E p s hn h
  | await _ _ _ _ _ => intro Q E p s _ h; exact h
theorem wp_with_sz {α : Type} {M : Model} {A : Around} {t : Sem α} {E : Value → Shared → Prop} {s : Shared} {Q : α → Shared → Prop} {n : Nat} (hn : n ≤ s.heap.objs.size)
    (h : wpAny M A t (fun a s' => n ≤ s'.heap.objs.size → Q a s') (fun e s' => n ≤ s'.heap.objs.size → E e s') s) : wpAny M A t Q E s := fun Γ p hΓ =>
  Sem.wp_mono M Γ t (fun _ _ _ x => x.2 x.1) (fun _ _ _ x => x.2 x.1) p s (wp_sz M Γ n t _ _ p s hn (h Γ p hΓ))

structure Gr (s s' : Shared) : Prop where
  kept : Keeps s s'
  le : s.toks ≤ s'.toks
  sz : s.heap.objs.size ≤ s'.heap.objs.size
theorem Gr.refl (s : Shared) : Gr s s := ⟨⟨s.heap, s.toks, rfl, fun _ _ e => e⟩, Nat.le_refl _, Nat.le_refl _⟩
theorem Gr.trans {s s' s'' : Shared} (x : Gr s s') (y : Gr s' s'') : Gr s s'' := by
  obtain ⟨⟨h, t, rfl, k⟩, l, z⟩ := x
  obtain ⟨⟨h', t', rfl, k'⟩, l', z'⟩ := y
  exact ⟨⟨h', t', rfl, fun b o e => k' b o (k b o e)⟩, Nat.le_trans l l', Nat.le_trans z z'⟩
theorem Gr.keep {s s' : Shared} (x : Gr s s') : ∀ b o, s.heap.get? b = some o → s'.heap.get? b = some o := by
  obtain ⟨⟨h, t, rfl, k⟩, _, _⟩ := x
  exact k
theorem Gr.of {s : Shared} {h : Heap} {t : Nat} (k : ∀ b o, s.heap.get? b = some o → h.get? b = some o) (l : s.toks ≤ t) (z : s.heap.objs.size ≤ h.objs.size) : Gr s { s with heap := h, toks := t } := ⟨⟨h, t, rfl, k⟩, l, z⟩
theorem Gr.toks {s : Shared} : Gr s { s with toks := s.toks + 1 } := ⟨⟨s.heap, _, rfl, fun _ _ e => e⟩, Nat.le_succ _, Nat.le_refl _⟩
theorem Gr.push {s : Shared} {o : Obj} : Gr s { s with heap := s.heap.push o } := ⟨⟨_, s.toks, rfl, fun _ _ e => Heap.get?_push_of_some _ e⟩, Nat.le_refl _, by show _ ≤ (s.heap.push o).objs.size; rw [Heap.size_push]; lia⟩
theorem wp_gr {α : Type} {M : Model} {A : Around} {t : Sem α} {E : Value → Shared → Prop} {s : Shared} {P : α → Shared → Prop} (h : wpAny M A t (fun a s' => Keeps s s' ∧ P a s') E s) :
    wpAny M A t (fun a s' => Gr s s' ∧ P a s') E s :=
  wp_with_sz (Nat.le_refl _) (wpAny_with_toks (Nat.le_refl _) (wpAny_mono h (fun a s' hz1 l z => by obtain ⟨k, p⟩ := hz1; exact ⟨⟨k, l, z⟩, p⟩) fun e s' x _ _ => x))
noncomputable def Has (sc : Scope) (x : Str) : Prop := sc.names.lookup x = some .local ∨ sc.names.lookup x = some .cell ∨ sc.names.lookup x = some .free
noncomputable def Bnd (env : Env) (h : Heap) (x : Str) (v : Value) : Prop :=
  (env.kindOf x = some .local ∧ ∃ m, h.Ns env.locals m ∧ m x = some v) ∨
  ((env.kindOf x = some .cell ∨ env.kindOf x = some .free) ∧ ∃ c, env.cells.lookup x = some c ∧ h.IsCell c (some v))
theorem Bnd.keeps {env : Env} {h h' : Heap} {x : Str} {v : Value} (b : Bnd env h x v) (hk : ∀ b o, h.get? b = some o → h'.get? b = some o) : Bnd env h' x v := by
  rcases b with ⟨k, m, n, e⟩ | ⟨k, c, e, n⟩
  · exact .inl ⟨k, m, n.keeps hk, e⟩
  · exact .inr ⟨k, c, e, n.keeps hk⟩

noncomputable abbrev Vars := List (Str × D)

structure HOK (K : Frag) (U : Addr → Prop) (s : Shared) : Prop where
  top : K.In s.heap
  lim : s.heap.NoLimit
  lt : ∀ a, U a → a < s.heap.objs.size
  tk : 0 < s.toks
theorem HOK.gr {K : Frag} {U : Addr → Prop} {s s' : Shared} (x : HOK K U s) (g : Gr s s') : HOK K U s' where
  top := x.top.keeps g.keep
  lim := x.lim.keeps g.keep
  lt := fun a q => Nat.lt_of_lt_of_le (x.lt a q) g.sz
  tk := Nat.lt_of_lt_of_le x.tk g.le

structure EOK (K : Frag) (U : Addr → Prop) (env : Env) (ρ : Vars) (s : Shared) : Prop extends HOK K U s where
  fn : env.scope.kind = .function
  gl : env.globals = mainGlobals
  bl : env.builtins = builtinsNs
  ce : ∀ x, env.kindOf x = some .cell ∨ env.kindOf x = some .free → ∃ c, env.cells.lookup x = some c
  vars : ∀ x d, ρ.lookup x = some d → Has env.scope x → ∃ v, Bnd env s.heap x v ∧ R U s.heap v d

theorem EOK.gr {K : Frag} {U : Addr → Prop} {env : Env} {ρ : Vars} {s s' : Shared} (x : EOK K U env ρ s) (g : Gr s s') : EOK K U env ρ s' where
  toHOK := x.toHOK.gr g
  fn := x.fn
  gl := x.gl
  bl := x.bl
  ce := x.ce
  vars := fun y d e hy => let ⟨v, b, r⟩ := x.vars y d e hy; ⟨v, b.keeps g.keep, r.keeps g.keep⟩

theorem fresh_none (h : Heap) : h.get? h.objs.size = none := by
  cases e : h.get? h.objs.size with
  | none => rfl
  | some o => exact absurd (Heap.lt_size e) (Nat.lt_irrefl _)
theorem fresh_none' {h : Heap} {a : Addr} (ha : h.objs.size ≤ a) : h.get? a = none := by
  cases e : h.get? a with
  | none => rfl
  | some o => exact absurd (Heap.lt_size e) (Nat.not_lt.mpr ha)
theorem HOK.not_fresh {K : Frag} {U : Addr → Prop} {s : Shared} (x : HOK K U s) {a : Addr} (h : s.heap.objs.size ≤ a) : ¬ U a := fun q => absurd (x.lt a q) (Nat.not_lt.mpr h)

structure Rm (n : Nat) (A : Around) : Prop where
  hd : A.handled = none
  depth : A.depth + 10 * n ≤ 800
  units : A.units + 100 * n ≤ 9000
theorem Rm.room {n : Nat} {A : Around} (x : Rm n A) : A.depth < recursionLimit := by have := x.depth; show A.depth < 1000; lia
section
variable (prog : Program) (w : World) (K : Frag)
noncomputable def EV (sc : Scope) (n : Nat) (ρ : Vars) (e : Expr) (d : D) : Prop :=
  ∀ env A U s, env.scope = sc → Rm n A → EOK K U env ρ s → wpAny (model prog w) A (eval e env) (fun v s' => Gr s s' ∧ R U s'.heap v d) (fun _ _ => False) s
noncomputable def ET (sc : Scope) (n : Nat) (ρ : Vars) (e : Expr) (b : Bool) : Prop :=
  ∀ env A U s, env.scope = sc → Rm n A → EOK K U env ρ s → wpAny (model prog w) A (isTrue e env (eval e env)) (fun v s' => Gr s s' ∧ v = b) (fun _ _ => False) s
end

section
variable {sc : Scope} {n : Nat} {ρ : Vars}

theorem ev_int {i : Int} {k : Nat} {pos : Pos} : EV prog w K sc n ρ (.Constant (.int i) k pos) (.int i) := fun env A U s _ _ _ =>
  wpAny_Constant_int ⟨Gr.toks, _, rfl⟩
theorem ev_str {x : Str} {k : Nat} {pos : Pos} : EV prog w K sc n ρ (.Constant (.str x) k pos) (.str x) := fun env A U s _ _ _ =>
  Constant_str ⟨Gr.toks, _, rfl⟩
theorem ev_bool {b : Bool} {k : Nat} {pos : Pos} : EV prog w K sc n ρ (.Constant (.bool b) k pos) (.bool b) := fun env A U s _ _ _ =>
  Constant_bool ⟨Gr.refl s, rfl⟩
theorem ev_none {k : Nat} {pos : Pos} : EV prog w K sc n ρ (.Constant .none k pos) .none := fun env A U s _ _ _ =>
  Constant_none ⟨Gr.refl s, rfl⟩
theorem load_bnd {env : Env} {A : Around} {E : Value → Shared → Prop} {s : Shared} {x : Str} {v : Value} {Q : Value → Shared → Prop} (hk : env.scope.kind = .function) (b : Bnd env s.heap x v) (h : Q v s)
    (hd : (x == ("__classdict__" : Str)) = false) : wpAny (model prog w) A (loadName env x) Q E s := by
  rcases b with ⟨k, m, hn, e⟩ | ⟨k | k, c, e, hc⟩
  · exact wpAny_loadName_local hk k hn e h
  · exact wpAny_loadName_cell hk k e hc h
  · exact wpAny_loadName_free hk k e hc h hd
theorem ev_name {x : Str} {pos : Pos} {d : D} (hl : ρ.lookup x = some d) (hx : Has sc x) (hd : (x == ("__classdict__" : Str)) = false) (hd' : (x == ("__debug__" : Str)) = false) :
    EV prog w K sc n ρ (.Name x pos) d := fun env A U s hs _ ok => by
  obtain ⟨v, b, r⟩ := ok.vars x d hl (hs ▸ hx)
  exact wpAny_Name (load_bnd ok.fn b ⟨Gr.refl s, r⟩ hd) hd'
theorem ev_global {x : Str} {pos : Pos} {v : Value} (hx : sc.names.lookup x = some .globalImplicit) (e : nsIn K mainGlobals x = some (some v)) (hd : (x == ("__debug__" : Str)) = false) :
    EV prog w K sc n ρ (.Name x pos) (.val v) := fun env A U s hs _ ok => by
  refine Name_function_global ok.fn (by subst hs; exact hx) ?_ hd
  unfold loadGlobal
  rw [ok.gl]
  exact wpAny_bind ((looks_nsIn ok.top e).here (wpAny_pure ⟨Gr.refl s, rfl⟩))
theorem ev_builtin {x : Str} {pos : Pos} {v : Value} (hx : sc.names.lookup x = some .globalImplicit) (e : nsIn K mainGlobals x = some none) (e' : nsIn K builtinsNs x = some (some v)) (hd : (x == ("__debug__" : Str)) = false) :
    EV prog w K sc n ρ (.Name x pos) (.val v) := fun env A U s hs _ ok => by
  refine Name_function_global ok.fn (by subst hs; exact hx) ?_ hd
  unfold loadGlobal
  rw [ok.gl, ok.bl]
  exact wpAny_bind ((looks_nsIn ok.top e).here (wpAny_bind ((looks_nsIn ok.top e').here (wpAny_pure ⟨Gr.refl s, rfl⟩))))
end
end Lw
end

section
open PySem PySem.W PyProof.Rows PySem.Calls
namespace Lw
section
variable (prog : Program) (w : World) (K : Frag)
noncomputable def BinG (op : Operator) (n : Nat) (d₁ d₂ d : D) : Prop :=
  ∀ A U s a b, Rm n A → HOK K U s → R U s.heap a d₁ → R U s.heap b d₂ → wpAny (model prog w) A (binaryOp op a b) (fun v s' => Gr s s' ∧ R U s'.heap v d) (fun _ _ => False) s
noncomputable def CmpG (op : CmpOp) (n : Nat) (d₁ d₂ : D) (r : Bool) : Prop :=
  ∀ A U s a b, Rm n A → HOK K U s → R U s.heap a d₁ → R U s.heap b d₂ → wpAny (model prog w) A (compareOp op a b) (fun v s' => Gr s s' ∧ v = .bool r) (fun _ _ => False) s
noncomputable def SubG (n : Nat) (d₁ d₂ d : D) : Prop :=
  ∀ A U s a b, Rm n A → HOK K U s → R U s.heap a d₁ → R U s.heap b d₂ → wpAny (model prog w) A (getItem a b) (fun v s' => Gr s s' ∧ R U s'.heap v d) (fun _ _ => False) s
end
section
variable {sc : Scope} {n : Nat} {ρ : Vars}

theorem two {l r : Expr} {d₁ d₂ : D} (h₁ : EV prog w K sc n ρ l d₁) (h₂ : EV prog w K sc n ρ r d₂) {env : Env} {A : Around} {U : Addr → Prop} {s : Shared} (hs : env.scope = sc) (rm : Rm n A) (ok : EOK K U env ρ s)
    {P : Value → Value → Shared → Prop} (hP : ∀ a b s', Gr s s' → EOK K U env ρ s' → R U s'.heap a d₁ → R U s'.heap b d₂ → P a b s') :
    wpAny (model prog w) A (eval l env) (fun a s₁ => wpAny (model prog w) A (eval r env) (fun b s₂ => P a b s₂) (fun _ _ => False) s₁) (fun _ _ => False) s :=
  wpAny_mono (h₁ env A U s hs rm ok) (fun a s₁ hz2 => by obtain ⟨g₁, ra⟩ := hz2; exact wpAny_mono (h₂ env A U s₁ hs rm (ok.gr g₁)) (fun b s₂ ⟨g₂, rb⟩ =>
    hP a b s₂ (g₁.trans g₂) (ok.gr (g₁.trans g₂)) (ra.keeps g₂.keep) rb) fun _ _ x => x) fun _ _ x => x

theorem ev_bin {l r : Expr} {op : Operator} {pos : Pos} {d₁ d₂ d : D} (h₁ : EV prog w K sc n ρ l d₁) (h₂ : EV prog w K sc n ρ r d₂) (h : BinG prog w K op n d₁ d₂ d) :
    EV prog w K sc n ρ (.BinOp l op r pos) d := fun env A U s hs rm ok =>
  wpAny_BinOp (two h₁ h₂ hs rm ok fun a b s' g ok' ra rb => wpAny_mono (h A U s' a b rm ok'.toHOK ra rb) (fun v s'' hz4 => by obtain ⟨g', r⟩ := hz4; exact ⟨g.trans g', r⟩) fun _ _ x => x)
theorem ev_cmp {l r : Expr} {op : CmpOp} {pos : Pos} {d₁ d₂ : D} {b : Bool} (hm : behindInMarks op r = false) (h₁ : EV prog w K sc n ρ l d₁) (h₂ : EV prog w K sc n ρ r d₂) (h : CmpG prog w K op n d₁ d₂ b) :
    EV prog w K sc n ρ (.Compare l [op] [r] pos) (.bool b) := fun env A U s hs rm ok =>
  wpAny_Compare1 (two h₁ h₂ hs rm ok fun a b s' g ok' ra rb => wpAny_mono (h A U s' a b rm ok'.toHOK ra rb) (fun v s'' hz5 => by obtain ⟨g', r⟩ := hz5; exact ⟨g.trans g', r⟩) fun _ _ x => x) hm
theorem et_cmp {l r : Expr} {op : CmpOp} {pos : Pos} {d₁ d₂ : D} {b : Bool} (hm : behindInMarks op r = false) (h₁ : EV prog w K sc n ρ l d₁) (h₂ : EV prog w K sc n ρ r d₂) (h : CmpG prog w K op n d₁ d₂ b) :
    ET prog w K sc n ρ (.Compare l [op] [r] pos) b := fun env A U s hs rm ok =>
  wpAny_isTrue_Compare1 (two h₁ h₂ hs rm ok fun a b' s' g ok' ra rb => wpAny_mono (h A U s' a b' rm ok'.toHOK ra rb) (fun v s'' hz6 => by
    obtain ⟨g', r⟩ := hz6
    subst r; exact wpAny_truthy_bool ⟨g.trans g', rfl⟩) fun _ _ x => x) hm
theorem et_not {e : Expr} {pos : Pos} {b : Bool} (h : ET prog w K sc n ρ e b) : ET prog w K sc n ρ (.UnaryOp .Not e pos) (!b) := fun env A U s hs rm ok =>
  isTrue_not (wpAny_mono (h env A U s hs rm ok) (fun v s' hz7 => by obtain ⟨g, r⟩ := hz7; exact ⟨g, by rw [r]⟩) fun _ _ x => x)
theorem ev_if {t e₁ e₂ : Expr} {pos : Pos} {b : Bool} {d : D} (ht : ET prog w K sc n ρ t b) (h₁ : b = true → EV prog w K sc n ρ e₁ d) (h₂ : b = false → EV prog w K sc n ρ e₂ d) :
    EV prog w K sc n ρ (.IfExp t e₁ e₂ pos) d := fun env A U s hs rm ok => IfExp_ (wpAny_mono (ht env A U s hs rm ok) (fun c s' hz8 => by
  obtain ⟨g, r⟩ := hz8
  subst r
  cases c with
  | true => exact wpAny_mono (h₁ rfl env A U s' hs rm (ok.gr g)) (fun _ _ hz9 => by obtain ⟨g', x⟩ := hz9; exact ⟨g.trans g', x⟩) fun _ _ x => x
  | false => exact wpAny_mono (h₂ rfl env A U s' hs rm (ok.gr g)) (fun _ _ hz10 => by obtain ⟨g', x⟩ := hz10; exact ⟨g.trans g', x⟩) fun _ _ x => x) fun _ _ x => x)
theorem et_or_nil {pos : Pos} : ET prog w K sc n ρ (.BoolOp .Or [] pos) false := fun env A U s hs rm ok => isTrue_or_nil ⟨Gr.refl s, rfl⟩
theorem et_or {x : Expr} {rest : List Expr} {pos : Pos} {b c : Bool} (h : ET prog w K sc n ρ x b) (h' : b = false → ET prog w K sc n ρ (.BoolOp .Or rest pos) c) :
    ET prog w K sc n ρ (.BoolOp .Or (x :: rest) pos) (b || c) := fun env A U s hs rm ok => isTrue_or (wpAny_mono (h env A U s hs rm ok) (fun v s' hz11 => by
  obtain ⟨g, r⟩ := hz11
  subst r
  cases v with
  | true => exact ⟨g, rfl⟩
  | false => exact wpAny_mono (h' rfl env A U s' hs rm (ok.gr g)) (fun _ _ hz12 => by obtain ⟨g', x⟩ := hz12; exact ⟨g.trans g', x⟩) fun _ _ x => x) fun _ _ x => x)
theorem ev_and_one {x : Expr} {pos : Pos} {d : D} (h : EV prog w K sc n ρ x d) : EV prog w K sc n ρ (.BoolOp .And [x] pos) d := fun env A U s hs rm ok => BoolOp_one (h env A U s hs rm ok)
theorem ev_and {x y : Expr} {rest : List Expr} {pos : Pos} {b c : Bool} (h : EV prog w K sc n ρ x (.bool b)) (h' : b = true → EV prog w K sc n ρ (.BoolOp .And (y :: rest) pos) (.bool c)) :
    EV prog w K sc n ρ (.BoolOp .And (x :: y :: rest) pos) (.bool (b && c)) := fun env A U s hs rm ok => BoolOp_and (wpAny_mono (h env A U s hs rm ok) (fun v s' hz13 => by
  obtain ⟨g, r⟩ := hz13
  cases r
  refine wpAny_truthy_bool ?_
  cases b with
  | true => exact wpAny_mono (h' rfl env A U s' hs rm (ok.gr g)) (fun _ _ hz14 => by obtain ⟨g', x⟩ := hz14; exact ⟨g.trans g', x⟩) fun _ _ x => x
  | false => exact ⟨g, rfl⟩) fun _ _ x => x)
theorem et_bool {e : Expr} {b : Bool} (h : EV prog w K sc n ρ e (.bool b)) (he : ∀ env whole, isTrue e env whole = (do let v ← whole; standAt e.pos; holding [v] (truthy v))) : ET prog w K sc n ρ e b := fun env A U s hs rm ok =>
  isTrue_plain (wpAny_mono (h env A U s hs rm ok) (fun v s' hz15 => by obtain ⟨g, r⟩ := hz15; cases r; exact wpAny_truthy_bool ⟨g, rfl⟩) fun _ _ x => x) (he _ _)
end
end Lw
end

section
open PySem PySem.W PyProof.Rows PySem.Calls
namespace Lw
section
variable (prog : Program) (w : World) (K : Frag)
noncomputable def ES (sc : Scope) (n : Nat) (ρ : Vars) (es : List Expr) (ds : List D) : Prop :=
  ∀ env pos A U s, env.scope = sc → Rm n A → EOK K U env ρ s → wpAny (model prog w) A (spliced (backTo pos (starEach es env))) (fun vs s' => Gr s s' ∧ RL U s'.heap vs ds) (fun _ _ => False) s
noncomputable def CallG (f : Value) (n : Nat) (ds : List D) (d : D) : Prop :=
  ∀ A U s vs, Rm n A → HOK K U s → RL U s.heap vs ds → wpAny (model prog w) A (call f vs) (fun v s' => Gr s s' ∧ R U s'.heap v d) (fun _ _ => False) s
noncomputable def GetG (d : D) (name : Str) (f : Value) : Prop :=
  ∀ A U s v pl, HOK K U s → R U s.heap v d → wpAny (model prog w) A (getMethod v name pl) (fun r s' => s' = s ∧ r = (f, [v])) (fun _ _ => False) s
end
section
variable {sc : Scope} {n : Nat} {ρ : Vars}

theorem es_nil : ES prog w K sc n ρ [] [] := fun env pos A U s _ _ _ => spliced_nil ⟨Gr.refl s, rfl⟩
theorem es_cons {e : Expr} {es : List Expr} {d : D} {ds : List D} (he : ∀ env, starEach (e :: es) env = (false, eval e env) :: starEach es env) (h : EV prog w K sc n ρ e d) (t : ES prog w K sc n ρ es ds) :
    ES prog w K sc n ρ (e :: es) (d :: ds) := fun env pos A U s hs rm ok => by
  rw [he]
  exact spliced_cons (wpAny_mono (h env A U s hs rm ok) (fun v s₁ hz19 => by obtain ⟨g, r⟩ := hz19; exact wpAny_mono (t env pos A U s₁ hs rm (ok.gr g)) (fun vs s₂ hz20 => by obtain ⟨g', rs⟩ := hz20; exact ⟨g.trans g', v, vs, rfl, r.keeps g'.keep, rs⟩) fun _ _ x => x) fun _ _ x => x)

theorem keeper_looks {f : Value} (hk : (∃ id, f = .builtin id) ∨ (∃ t, f = .type t) ∨ keepIn K f = true) {M : Model} {h : Heap} (X : K.In h) : ∃ k, Looks M h (keeperOf f) k := by
  rcases hk with ⟨id, rfl⟩ | ⟨t, rfl⟩ | hk
  · exact ⟨.machine, Looks.of_pure rfl⟩
  · exact ⟨.machine, Looks.of_pure rfl⟩
  · obtain ⟨k, _, l⟩ := keeps_K (M := M) hk h X
    exact ⟨k, l⟩

theorem evalArgs_go {f : Value} {l : List (Bool × Sem Value)} {A : Around} {s : Shared} {Q : Args → Shared → Prop} {E : Value → Shared → Prop} (hp : l.any (·.1) = false)
    (h : wpAny (model prog w) A (spliced l) (fun vs s' => Q ⟨vs, []⟩ s') E s) : wpAny (model prog w) A (evalArgs f true l []) Q E s := by
  match l with
  | [] =>
    unfold evalArgs
    show wpAny (model prog w) A (spliced [] >>= _) Q E s
    refine wpAny_bind (wpAny_mono h (fun vs s' h' => ?_) fun _ _ x => x)
    refine wpAny_bind (wpAny_pure ?_)
    refine wpAny_holding ?_
    exact wpAny_bind (wpAny_pure (wpAny_bind (wpAny_pure (wpAny_pure h'))))
  | (true, x) :: l => simp at hp
  | (false, x) :: l => exact evalArgs_plain h
theorem callWith_core {f : Value} {first : List Value} {l : List (Bool × Sem Value)} {pos : Pos} {A : Around} {s : Shared} {T : List Value → Shared → Prop} {Q : Value → Shared → Prop} {E : Value → Shared → Prop}
    (hk : (∃ id, f = .builtin id) ∨ (∃ t, f = .type t) ∨ keepIn K f = true) (hp : l.any (·.1) = false) (h : wpAny (model prog w) A (spliced l) (fun vs s' => K.In s'.heap ∧ T vs s') E s)
    (hc : ∀ vs s', T vs s' → wpAny (model prog w) A (call f (first ++ vs)) Q E s') : wpAny (model prog w) A (callWith pos f first l []) Q E s := by
  refine wpAny_bind (wpAny_holding (evalArgs_go hp (wpAny_mono h (fun vs s' hz => ?_) fun _ _ x => x)))
  obtain ⟨top, ht⟩ := hz
  have hcall := hc vs s' ht
  clear hc h ht
  refine wpAny_bind (wpAny_standAt ?_)
  obtain ⟨k, L⟩ := keeper_looks (M := model prog w) hk top
  rw [show (l.any (·.1) || ([] : List (Option Str × Sem Value)).any (·.1.isNone)) = false from by rw [hp]; rfl]
  refine wpAny_bind (L.here ?_)
  have tail : ∀ {t : Sem Value}, wpAny (model prog w) A t Q E s' → wpAny (model prog w) A (t >>= fun r => holding [r] point >>= fun _ => pure r) Q E s' :=
    fun ht => wpAny_bind (wpAny_mono ht (fun r s₂ hr => wpAny_bind (wpAny_holding (wpAny_point (wpAny_pure hr)))) fun _ _ x => x)
  have marked (mk : Value) : wpAny (model prog w) A (callMarked mk f (first ++ vs) []) Q E s' := by unfold callMarked; exact Calls.wpAny_keep hcall
  have either : ∀ {c : Prop} [Decidable c] (mk : Value), wpAny (model prog w) A (if c then call f (first ++ vs) >>= fun r => holding [r] point >>= fun _ => pure r else callMarked mk f (first ++ vs) [] >>= fun r => holding [r] point >>= fun _ => pure r) Q E s' := fun {c} _ mk => by
    by_cases hz : c
    · rw [if_pos hz]; exact tail hcall
    · rw [if_neg hz]; exact tail (marked mk)
  cases k <;> first | exact either _ | exact tail hcall | exact tail (wpAny_operate' hcall)
theorem callWith_go {f : Value} {first : List Value} {es : List Expr} {ds : List D} {pos : Pos} {env : Env} {A : Around} {U : Addr → Prop} {s : Shared} {Q : Value → Shared → Prop} {E : Value → Shared → Prop} (hs : env.scope = sc)
    (hk : (∃ id, f = .builtin id) ∨ (∃ t, f = .type t) ∨ keepIn K f = true)
    (hp : (backTo pos (starEach es env)).any (·.1) = false) (rm : Rm n A) (ok : EOK K U env ρ s) (h : ES prog w K sc n ρ es ds)
    (hc : ∀ vs s', Gr s s' → EOK K U env ρ s' → RL U s'.heap vs ds → wpAny (model prog w) A (call f (first ++ vs)) Q E s') :
    wpAny (model prog w) A (callWith pos f first (backTo pos (starEach es env)) []) Q E s :=
  callWith_core (T := fun vs s' => Gr s s' ∧ RL U s'.heap vs ds) hk hp (wpAny_mono (h env pos A U s hs rm ok) (fun vs s' z => ⟨(ok.gr z.1).toHOK.top, z⟩) fun _ _ x => x.elim) fun vs s' z => hc vs s' z.1 (ok.gr z.1) z.2

theorem ev_call {fe : Expr} {es : List Expr} {pos : Pos} {f : Value} {ds : List D} {d : D} (hshape : ∀ env, eval (.Call fe es [] pos) env = (do callWith pos (← eval fe env) [] (backTo pos (starEach es env)) (backToKw pos (keywordEach [] env))))
    (hp : ∀ env, (backTo pos (starEach es env)).any (·.1) = false) (hk : (∃ id, f = .builtin id) ∨ (∃ t, f = .type t) ∨ keepIn K f = true)
    (hf : EV prog w K sc n ρ fe (.val f)) (ha : ES prog w K sc n ρ es ds) (hc : CallG prog w K f n ds d) : EV prog w K sc n ρ (.Call fe es [] pos) d := fun env A U s hs rm ok => by
  rw [hshape]
  refine wpAny_bind (wpAny_mono (hf env A U s hs rm ok) (fun v s₁ hz16 => ?_) fun _ _ x => x)
  obtain ⟨g, r⟩ := hz16
  cases r
  exact callWith_go hs hk (hp _) rm (ok.gr g) ha fun vs s' g' ok' rs => wpAny_mono (hc A U s' vs rm ok'.toHOK rs) (fun v s'' hz21 => by obtain ⟨g'', r⟩ := hz21; exact ⟨(g.trans g').trans g'', r⟩) fun _ _ x => x

theorem ev_meth {o : Expr} {name : Str} {es : List Expr} {apos pos : Pos} {f : Value} {d₀ : D} {ds : List D} {d : D} {pl : Env → Sem Bool}
    (hshape : ∀ env, eval (.Call (.Attribute o name apos) es [] pos) env = (do
      let ov ← eval o env
      standAt apos.atName
      let (f, first) ← holding [ov] (getMethod ov name (pl env))
      callWith pos f first (backTo pos (starEach es env)) []))
    (hp : ∀ env, (backTo pos (starEach es env)).any (·.1) = false) (hk : (∃ id, f = .builtin id) ∨ (∃ t, f = .type t) ∨ keepIn K f = true)
    (ho : EV prog w K sc n ρ o d₀) (hm : GetG prog w K d₀ name f) (ha : ES prog w K sc n ρ es ds) (hc : CallG prog w K f n (d₀ :: ds) d) :
    EV prog w K sc n ρ (.Call (.Attribute o name apos) es [] pos) d := fun env A U s hs rm ok => by
  refine MethodCall_ (pl := pl env) (wpAny_mono (ho env A U s hs rm ok) (fun v s₁ hz17 => ?_) fun _ _ x => x) (hshape env)
  obtain ⟨g, r⟩ := hz17
  refine wpAny_mono (hm A U s₁ v _ (ok.gr g).toHOK r) (fun fx s₂ hz18 => ?_) fun _ _ x => x
  obtain ⟨e, e'⟩ := hz18
  subst e e'
  exact callWith_go hs hk (hp _) rm (ok.gr g) ha fun vs s' g' ok' rs => wpAny_mono (hc A U s' (v :: vs) rm ok'.toHOK ⟨v, vs, rfl, r.keeps g'.keep, rs⟩) (fun v s'' hz22 => by obtain ⟨g'', r⟩ := hz22; exact ⟨(g.trans g').trans g'', r⟩) fun _ _ x => x

theorem ev_tuple {es : List Expr} {k : Nat} {pos : Pos} {ds : List D} (hl : ds.length ≤ 1000) (h : ES prog w K sc n ρ es ds) : EV prog w K sc n ρ (.Tuple es k pos) (.tup ds) := fun env A U s hs rm ok =>
  Tuple_ (wpAny_mono (h env pos A U s hs rm ok) (fun vs s₁ ⟨g, r⟩ => wpAny_newTuple (hsz := by rw [r.length]; exact Nat.le_trans hl (by decide))
    ⟨g.trans Gr.push, _, vs, rfl, (ok.gr g).not_fresh (Nat.le_refl _), ⟨_, Heap.get?_push_size _ rfl, rfl, _, rfl⟩, r.keeps Gr.push.keep⟩) fun _ _ x => x)
theorem tail_ok {value slice : Expr} {o i : Value} {T id : String} {A : Around} {s : Shared} {Q : Value → Shared → Prop} {E : Value → Shared → Prop} (hT : s.TypeIs o T)
    (hl : typeLookup (.type T) "__getitem__" = pure (some (.builtin id))) (hs : ∀ o i, subscripted slice false o i = operate [o, i] (getItem o i) ∨ subscripted slice false o i = operate [i, o] (getItem o i)) (hg : wpAny (model prog w) A (getItem o i) Q E s) : wpAny (model prog w) A (subscriptTail value slice o i) Q E s :=
  (hs o i).elim (fun e => tail_any hT hl hg e) fun e => tail_any hT hl hg e
theorem ev_sub {value slice : Expr} {pos : Pos} {d₁ d₂ d : D} {T id : String} (hT : ∀ U (s : Shared) v, R U s.heap v d₁ → s.TypeIs v T) (hl : typeLookup (.type T) "__getitem__" = pure (some (.builtin id)))
    (hs : ∀ o i, subscripted slice false o i = operate [o, i] (getItem o i) ∨ subscripted slice false o i = operate [i, o] (getItem o i))
    (h₁ : EV prog w K sc n ρ value d₁) (h₂ : EV prog w K sc n ρ slice d₂) (h : SubG prog w K n d₁ d₂ d) : EV prog w K sc n ρ (.Subscript value slice pos) d := fun env A U s hs' rm ok =>
  Subscript_ (two h₁ h₂ hs' rm ok fun a b s' g ok' ra rb => tail_ok (hT _ s' _ ra) hl hs
    (wpAny_mono (h A U s' a b rm ok'.toHOK ra rb) (fun v s'' hz24 => by obtain ⟨g', r⟩ := hz24; exact ⟨g.trans g', r⟩) fun _ _ x => x))
end
end Lw
end

section
open PySem PySem.W PyProof.Rows PySem.Calls
namespace Lw

inductive Ow where
  | lst (ds : List D)
  | ins (C dx : Addr)
  | att (fs : List (Str × D))
  | exn (cls : String) (fl : Option Addr) (ds : List D)
  | tbk (fl : Value)
  | pin (o : Obj) (ds : List D)
noncomputable abbrev Owns := List (Addr × Ow)
noncomputable def FldOk (W : Addr → Prop) (h : Heap) (mm : Str → Option Value) (fs : List (Str × D)) : Prop := ∀ x, match fs.lookup x with
  | some d => ∃ v, mm x = some v ∧ R W h v d
  | none => mm x = none
noncomputable def OwAt (W : Addr → Prop) (h : Heap) (a : Addr) : Ow → Prop
  | .lst ds => ∃ vs, h.PlainList a (List.toArray vs) ∧ RL W h vs ds
  | .ins C dx => h.get? a = some (instObj C dx)
  | .att fs => ∃ mm, h.Ns1 a mm ∧ FldOk W h mm fs
  | .exn cls fl ds => ∃ oe vs t xs, h.get? a = some oe ∧ oe.cls = .type cls ∧ oe.data = .fields vs ∧ vs[0]? = some (.ref t) ∧ vs[1]? = some (fl.elim .none .ref) ∧ ¬ W t ∧ h.TupAt t xs ∧ RL W h xs ds
  | .tbk fl => ∃ oT ts, h.get? a = some oT ∧ oT.data = .fields ts ∧ ts[3]? = some fl
  | .pin o ds => h.get? a = some o ∧ ∃ vs, h.PlainList a (List.toArray vs) ∧ RL W h vs ds
theorem FldOk.mono {U U' : Addr → Prop} {h h' : Heap} {mm : Str → Option Value} {fs : List (Str × D)} (hU : ∀ a, U' a → U a ∨ h.get? a = none) (hk : ∀ b o, ¬ U b → h.get? b = some o → h'.get? b = some o) (x : FldOk U h mm fs) : FldOk U' h' mm fs := fun y => by
  have := x y
  cases e : fs.lookup y with
  | none => rw [e] at this; exact this
  | some d => rw [e] at this; exact let ⟨v, a, r⟩ := this; ⟨v, a, R.mono hU hk d r⟩
theorem OwAt.mono {U U' : Addr → Prop} {h h' : Heap} {a : Addr} (hU : ∀ a, U' a → U a ∨ h.get? a = none) (hk : ∀ b o, ¬ U b → h.get? b = some o → h'.get? b = some o) (ha : ∀ o, h.get? a = some o → h'.get? a = some o) {o : Ow} (x : OwAt U h a o) : OwAt U' h' a o := by
  cases o with
  | lst ds => obtain ⟨vs, ⟨k, p⟩, r⟩ := x; exact ⟨vs, ⟨k, ha _ p⟩, RL.mono hU hk ds r⟩
  | ins _ _ => exact ha _ x
  | att _ => obtain ⟨mm, ⟨o, es, ep, e, z⟩, f⟩ := x; exact ⟨mm, ⟨o, es, ep, ha _ e, z⟩, f.mono hU hk⟩
  | exn _ _ ds =>
    obtain ⟨oe, vs, t, xs, e, c, d, v0, v1, nt, ⟨o, n, ho, z⟩, r⟩ := x
    exact ⟨oe, vs, t, xs, ha _ e, c, d, v0, v1, fun q => (hU t q).elim nt (fun q => by rw [ho] at q; cases q), ⟨o, n, hk t o nt ho, z⟩, RL.mono hU hk ds r⟩
  | tbk _ => obtain ⟨oT, ts, e, z⟩ := x; exact ⟨oT, ts, ha _ e, z⟩
  | pin _ ds => obtain ⟨e, vs, ⟨k, p⟩, r⟩ := x; exact ⟨ha _ e, vs, ⟨k, ha _ p⟩, RL.mono hU hk ds r⟩
theorem OwAt.lt {U : Addr → Prop} {h : Heap} {a : Addr} {o : Ow} (x : OwAt U h a o) : a < h.objs.size := by
  cases o with
  | lst _ => obtain ⟨_, ⟨_, p⟩, _⟩ := x; exact Heap.lt_size p
  | ins _ _ => exact Heap.lt_size x
  | att _ => obtain ⟨_, ⟨_, _, _, e, _⟩, _⟩ := x; exact Heap.lt_size e
  | exn _ _ _ => obtain ⟨_, _, _, _, e, _⟩ := x; exact Heap.lt_size e
  | tbk _ => obtain ⟨_, _, e, _⟩ := x; exact Heap.lt_size e
  | pin _ _ => obtain ⟨e, _⟩ := x; exact Heap.lt_size e

structure FX where
  env : Env
  A : Around
  base : Shared
  U : Addr → Prop
  oc : List (Str × Addr)
  ownk : Str → Prop
  V : Addr → Prop := fun _ => False
  W : Addr → Prop := fun _ => False
  S : Addr → Prop := fun _ => False
  fok : Prop := False
structure Fl where
  b : Bool
  ks : List Addr
structure FX.Is (X : FX) (bx : Fl) (sc : Scope) : Prop where
  sco : X.env.scope = sc
  ow : ∀ x, (sc.names.lookup x = some .local ∨ sc.names.lookup x = some .cell) → X.ownk x
  fk : bx.b = true → X.fok
  wk : ∀ a, X.W a ↔ a ∈ bx.ks
noncomputable def Loose (K : Frag) (a : Addr) : Prop := K.lookup a = none ∧ a ≠ cStatics

structure Mem (base : Shared) (W S : Addr → Prop) (env : Env) (oc : List (Str × Addr)) (m cm : Str → Option Value) (s : Shared) : Prop where
  same : ∃ h tk, s = { base with heap := h, toks := tk }
  ns : s.heap.Ns env.locals m
  keep : ∀ b o, ¬ W b → ¬ S b → base.heap.get? b = some o → s.heap.get? b = some o
  slots : ∀ b o, S b → base.heap.get? b = some o → ∃ sl, s.heap.get? b = some { o with slots := sl }
  fresh : base.heap.objs.size ≤ env.locals
  cell : ∀ n c, oc.lookup n = some c → s.heap.IsCell c (cm n)
  apart : oc.Pairwise fun x y => x.2 ≠ y.2
  above : ∀ n c, (n, c) ∈ oc → env.locals < c
  look : ∀ n c, oc.lookup n = some c → env.cells.lookup n = some c

noncomputable def Val (env : Env) (oc : List (Str × Addr)) (m cm : Str → Option Value) (x : Str) (v : Value) : Prop :=
  (env.kindOf x = some .local ∧ m x = some v) ∨ (env.kindOf x = some .cell ∧ (∃ c, oc.lookup x = some c) ∧ cm x = some v)
noncomputable def Inh (env : Env) (base : Shared) (W S : Addr → Prop) (x : Str) (v : Value) : Prop :=
  (env.kindOf x = some .cell ∨ env.kindOf x = some .free) ∧ ∃ c, env.cells.lookup x = some c ∧ base.heap.IsCell c (some v) ∧ ¬ W c ∧ ¬ S c

noncomputable def Wn (X : FX) (ω : Owns) (a : Addr) : Prop := X.U a ∨ (ω.lookup a).isSome = true ∨ a = X.env.locals ∨ (∃ x, X.oc.lookup x = some a) ∨ X.V a
noncomputable def Frm (X : FX) (b : Addr) : Prop := b = X.env.locals ∨ ∃ y, X.oc.lookup y = some b
noncomputable def FramesIn (S : Addr → Prop) (outer : List Env) (h : Heap) : Prop := ∀ env ∈ outer, env.scope.kind ≠ .module ∧ ∃ L o, env.frame = some L ∧ S L ∧ h.get? L = some o ∧ ∀ vs, o.data ≠ .fields vs
theorem FramesIn.at {S : Addr → Prop} {outer : List Env} {h h' : Heap} (x : FramesIn S outer h) (k : ∀ b o, S b → h.get? b = some o → h'.get? b = some o) : FramesIn S outer h' := fun env he =>
  let ⟨a, L, o, f, l, g, d⟩ := x env he; ⟨a, L, o, f, l, k L o l g, d⟩
noncomputable def FrOk (X : FX) (h : Heap) : Prop := ∃ outer, X.A.frames = some (X.env :: outer) ∧ X.env.frame = some X.env.locals ∧ FramesIn X.S outer h
theorem FrOk.at {X : FX} {h h' : Heap} (x : FrOk X h) (k : ∀ b o, X.S b → h.get? b = some o → h'.get? b = some o) : FrOk X h' := let ⟨l, a, b, c⟩ := x; ⟨l, a, b, c.at k⟩

structure ST0 (K : Frag) (X : FX) (ρ : Vars) (ω : Owns) (m cm : Str → Option Value) (s : Shared) : Prop where
  inC : Mem X.base X.W X.S X.env X.oc m cm s
  hok : HOK K X.U X.base
  hokS : HOK K X.U s
  le : X.base.toks ≤ s.toks
  fn : X.env.scope.kind = .function
  gl : X.env.globals = mainGlobals
  bl : X.env.builtins = builtinsNs
  ce : ∀ x, X.env.kindOf x = some .cell ∨ X.env.kindOf x = some .free → ∃ c, X.env.cells.lookup x = some c
  cl : ∀ x, X.ownk x → X.env.kindOf x = some .local ∨ (X.env.kindOf x = some .cell ∧ ∃ c, X.oc.lookup x = some c)
  vars : ∀ x d, ρ.lookup x = some d → Has X.env.scope x → ∃ v, (Val X.env X.oc m cm x v ∨ Inh X.env X.base X.W X.S x v) ∧ R (Wn X ω) s.heap v d
  own : ∀ a o, ω.lookup a = some o → OwAt (Wn X ω) s.heap a o
  ownb : ∀ a, (ω.lookup a).isSome = true → (X.base.heap.objs.size ≤ a ∨ X.W a) ∧ ¬ Frm X a ∧ ¬ X.V a
  vlt : ∀ a, X.V a → a < s.heap.objs.size
  vb : ∀ a, X.V a → X.base.heap.objs.size ≤ a ∧ a ≠ X.env.locals ∧ ∀ y, X.oc.lookup y ≠ some a
  wu : ∀ a, X.W a → X.U a ∧ Loose K a ∧ ¬ X.S a
  su : ∀ a, X.S a → X.U a ∧ Loose K a
  fr : X.fok → FrOk X s.heap

section
variable {K : Frag} {X : FX} {ρ : Vars} {ω : Owns} {m cm : Str → Option Value} {s : Shared}
theorem Mem.sz {base : Shared} {W S : Addr → Prop} {env : Env} {oc : List (Str × Addr)} (x : Mem base W S env oc m cm s) : base.heap.objs.size ≤ s.heap.objs.size := Nat.le_trans x.fresh (Nat.le_of_lt x.ns.lt)
theorem ST0.sz (x : ST0 K X ρ ω m cm s) : X.base.heap.objs.size ≤ s.heap.objs.size := x.inC.sz
theorem ST0.gr (x : ST0 K X ρ ω m cm s) (hW : ∀ a, ¬ X.W a) (hS : ∀ a, ¬ X.S a) : Gr X.base s := by
  have hs := x.inC.same
  have hk := x.inC.keep
  have hz := x.sz
  have hl := x.le
  obtain ⟨h, t, rfl⟩ := hs
  exact ⟨⟨h, t, rfl, fun b o e => hk b o (hW b) (hS b) e⟩, hl, hz⟩
theorem loose_new {U : Addr → Prop} {s₀ : Shared} (x : HOK K U s₀) {a : Addr} (h : s₀.heap.objs.size ≤ a) : Loose K a := by
  refine ⟨?_, fun e => ?_⟩
  · cases q : K.lookup a with
    | none => rfl
    | some o => exact absurd (Heap.lt_size (x.top a o q)) (Nat.not_lt.mpr h)
  · obtain ⟨mc, hn, _⟩ := x.lim
    exact absurd hn.lt (by rw [← e]; exact Nat.not_lt.mpr h)
theorem ST0.loose (x : ST0 K X ρ ω m cm s) {a : Addr} (h : X.base.heap.objs.size ≤ a ∨ X.W a) : Loose K a := h.elim (loose_new x.hok) fun h => (x.wu a h).2.1
theorem ST0.slt (x : ST0 K X ρ ω m cm s) {a : Addr} (h : X.S a) : a < X.base.heap.objs.size := x.hok.lt a (x.su a h).1
theorem ST0.frm (x : ST0 K X ρ ω m cm s) {a : Addr} (h : Frm X a) : X.base.heap.objs.size ≤ a := by
  rcases h with rfl | ⟨y, hy⟩
  · exact x.inC.fresh
  · exact Nat.le_trans x.inC.fresh (Nat.le_of_lt (x.inC.above y a (mem_of_lookup hy)))
theorem HOK.chg {U : Addr → Prop} {s : Shared} (x : HOK K U s) {h' : Heap} {tk : Nat} (hk : ∀ b o, ¬ Loose K b → s.heap.get? b = some o → h'.get? b = some o) (hz : s.heap.objs.size ≤ h'.objs.size) (ht : s.toks ≤ tk) : HOK K U { s with heap := h', toks := tk } where
  top := fun a o e => hk a o (fun l => by rw [l.1] at e; cases e) (x.top a o e)
  lim := let ⟨mc, a, b⟩ := x.lim; ⟨mc, a.at' fun o e => hk _ o (fun l => l.2 rfl) e, b⟩
  lt := fun a q => Nat.lt_of_lt_of_le (x.lt a q) hz
  tk := Nat.lt_of_lt_of_le x.tk ht
theorem Val.bnd {x : Str} {v : Value} {env : Env} {oc : List (Str × Addr)} {base : Shared} {W S : Addr → Prop} (b : Val env oc m cm x v ∨ Inh env base W S x v) (y : Mem base W S env oc m cm s) : Bnd env s.heap x v := by
  rcases b with (⟨k, e⟩ | ⟨k, ⟨c, hc⟩, e⟩) | ⟨k, c, hc, ⟨o, ho, hd⟩, hw, hs⟩
  · exact .inl ⟨k, m, y.ns, e⟩
  · exact .inr ⟨.inl k, c, y.look x c hc, e ▸ y.cell x c hc⟩
  · exact .inr ⟨k, c, hc, o, y.keep c o hw hs ho, hd⟩
theorem ST0.wlt (x : ST0 K X ρ ω m cm s) : ∀ a, Wn X ω a → a < s.heap.objs.size := fun a q => by
  rcases q with q | q | rfl | ⟨y, hy⟩ | q
  · exact x.hokS.lt a q
  · obtain ⟨o, e⟩ := Option.isSome_iff_exists.mp q
    exact (x.own a o e).lt
  · exact x.inC.ns.lt
  · exact (x.inC.cell y a hy).lt
  · exact x.vlt a q
theorem ST0.hokW (x : ST0 K X ρ ω m cm s) : HOK K (Wn X ω) s where
  top := x.hokS.top
  lim := x.hokS.lim
  tk := x.hokS.tk
  lt := x.wlt
theorem ST0.eok (x : ST0 K X ρ ω m cm s) : EOK K (Wn X ω) X.env ρ s where
  toHOK := x.hokW
  fn := x.fn
  gl := x.gl
  bl := x.bl
  ce := x.ce
  vars := fun y d e hy => let ⟨v, b, r⟩ := x.vars y d e hy; ⟨v, Val.bnd b x.inC, r⟩
theorem ST0.after (x : ST0 K X ρ ω m cm s) {s' : Shared} (g : Gr s s') : ST0 K X ρ ω m cm s' where
  inC := by
    obtain ⟨⟨h, t, rfl, k⟩, l, _⟩ := g
    refine ⟨?_, x.inC.ns.keeps k, fun b o w q e => k b o (x.inC.keep b o w q e), fun b o q e => (let ⟨sl, z⟩ := x.inC.slots b o q e; ⟨sl, k _ _ z⟩), x.inC.fresh, fun y c e => (x.inC.cell y c e).keeps k, x.inC.apart, x.inC.above, x.inC.look⟩
    obtain ⟨h', t', e⟩ := x.inC.same
    exact ⟨h, t, by rw [e]⟩
  hok := x.hok
  hokS := x.hokS.gr g
  le := Nat.le_trans x.le g.le
  fn := x.fn
  gl := x.gl
  bl := x.bl
  ce := x.ce
  cl := x.cl
  vars := fun y d e hy => let ⟨v, b, r⟩ := x.vars y d e hy; ⟨v, b, r.keeps g.keep⟩
  own := fun a o e => (x.own a o e).mono (fun _ q => .inl q) (fun b o _ e => g.keep b o e) fun o e => g.keep _ o e
  ownb := x.ownb
  vlt := fun a q => Nat.lt_of_lt_of_le (x.vlt a q) g.sz
  vb := x.vb
  wu := x.wu
  su := x.su
  fr := fun f => (x.fr f).at fun b o _ e => g.keep b o e
end

inductive Out where
  | next (ρ : Vars) (ω : Owns)
  | brk (ρ : Vars) (ω : Owns)
  | ret (d : D) (ω : Owns)
  | exc (d : D) (ρ : Vars) (ω : Owns)
structure Stp (X : FX) (ω : Owns) (s : Shared) (ω' : Owns) (s' : Shared) : Prop where
  kp : ∀ b o, ¬ Frm X b → (ω.lookup b).isSome = false → ¬ X.S b → s.heap.get? b = some o → s'.heap.get? b = some o
  org : ∀ a, (ω'.lookup a).isSome = true → (ω.lookup a).isSome = true ∨ s.heap.objs.size ≤ a
  sz : s.heap.objs.size ≤ s'.heap.objs.size
  tk : s.toks ≤ s'.toks
theorem Stp.refl (X : FX) (ω : Owns) (s : Shared) : Stp X ω s ω s := ⟨fun _ _ _ _ _ e => e, fun y h => .inl h, Nat.le_refl _, Nat.le_refl _⟩
theorem Stp.gr {X : FX} {ω : Owns} {s s' : Shared} (g : Gr s s') : Stp X ω s ω s' := ⟨fun b o _ _ _ e => g.keep b o e, fun y h => .inl h, g.sz, g.le⟩
theorem Stp.set {X : FX} {ω : Owns} {s s' s'' : Shared} (g : Gr s s') (le : s'.toks ≤ s''.toks) (z : s'.heap.objs.size ≤ s''.heap.objs.size) (hk : ∀ b o, ¬ Frm X b → s'.heap.get? b = some o → s''.heap.get? b = some o) : Stp X ω s ω s'' :=
  ⟨fun b o q _ _ e => hk b o q (g.keep b o e), fun y h => .inl h, Nat.le_trans g.sz z, Nat.le_trans g.le le⟩
theorem Stp.trans {X : FX} {ω ω' ω'' : Owns} {s s' s'' : Shared} (x : Stp X ω s ω' s') (y : Stp X ω' s' ω'' s'') : Stp X ω s ω'' s'' where
  kp := fun b o hf ho hS e => y.kp b o hf (by
    cases q : (ω'.lookup b).isSome with
    | false => rfl
    | true => exact absurd (x.org b q) (not_or.mpr ⟨by rw [ho]; decide, Nat.not_le.mpr (Heap.lt_size e)⟩)) hS (x.kp b o hf ho hS e)
  org := fun z hz => (y.org z hz).elim (x.org z) fun l => .inr (Nat.le_trans x.sz l)
  sz := Nat.le_trans x.sz y.sz
  tk := Nat.le_trans x.tk y.tk
theorem Stp.less {X : FX} {ω ω' ω'' : Owns} {s s' : Shared} (x : Stp X ω s ω' s') (h : ∀ a, (ω''.lookup a).isSome = true → (ω'.lookup a).isSome = true) : Stp X ω s ω'' s' := ⟨x.kp, fun a q => x.org a (h a q), x.sz, x.tk⟩
noncomputable def FinAt (K : Frag) (X : FX) (ω₀ : Owns) (s₀ : Shared) (ρ : Vars) (ω : Owns) (s : Shared) : Prop := (∃ m cm, ST0 K X ρ ω m cm s) ∧ Stp X ω₀ s₀ ω s
theorem FinAt.trans {K : Frag} {X : FX} {ω ω' ω'' : Owns} {ρ : Vars} {s s' s'' : Shared} (x : Stp X ω s ω' s') (y : FinAt K X ω' s' ρ ω'' s'') : FinAt K X ω s ρ ω'' s'' := ⟨y.1, x.trans y.2⟩
noncomputable def Ends (K : Frag) (X : FX) (ω₀ : Owns) (s₀ : Shared) : Out → Flow → Shared → Prop
  | .next ρ ω, fl, s => fl = .next ∧ FinAt K X ω₀ s₀ ρ ω s
  | .brk ρ ω, fl, s => fl = .brk ∧ FinAt K X ω₀ s₀ ρ ω s
  | .ret d ω, fl, s => ∃ v, fl = .ret v ∧ FinAt K X ω₀ s₀ [] ω s ∧ R (Wn X ω) s.heap v d
  | .exc _ _ _, _, _ => False
noncomputable def EndsE (K : Frag) (X : FX) (ω₀ : Owns) (s₀ : Shared) : Out → Value → Shared → Prop
  | .exc d ρ ω, e, s => FinAt K X ω₀ s₀ ρ ω s ∧ R (Wn X ω) s.heap e d
  | _, _, _ => False
theorem Ends.trans {K : Frag} {X : FX} {ω ω' : Owns} {s s' s'' : Shared} {fl : Flow} : ∀ {o : Out}, Stp X ω s ω' s' → Ends K X ω' s' o fl s'' → Ends K X ω s o fl s''
  | .next _ _, x, hz28 => by obtain ⟨e, y⟩ := hz28; exact ⟨e, y.trans x⟩
  | .brk _ _, x, hz29 => by obtain ⟨e, y⟩ := hz29; exact ⟨e, y.trans x⟩
  | .ret _ _, x, hz30 => by obtain ⟨v, e, y, r⟩ := hz30; exact ⟨v, e, y.trans x, r⟩
theorem EndsE.trans {K : Frag} {X : FX} {ω ω' : Owns} {s s' s'' : Shared} {e : Value} : ∀ {o : Out}, Stp X ω s ω' s' → EndsE K X ω' s' o e s'' → EndsE K X ω s o e s''
  | .exc _ _ _, x, hz31 => by obtain ⟨y, r⟩ := hz31; exact ⟨y.trans x, r⟩

section
variable (prog : Program) (w : World) (K : Frag) (bx : Fl)
noncomputable def EX (sc : Scope) (n : Nat) (ss : List Stmt) (ρ : Vars) (ω : Owns) (P : Out → Prop) : Prop :=
  ∀ X s m cm, X.Is bx sc → Rm n X.A → ST0 K X ρ ω m cm s → wpAny (model prog w) X.A (execs ss X.env) (fun fl s' => ∃ o, P o ∧ Ends K X ω s o fl s') (fun e s' => ∃ o, P o ∧ EndsE K X ω s o e s') s
noncomputable def EX1 (sc : Scope) (n : Nat) (st : Stmt) (ρ : Vars) (ω : Owns) (P : Out → Prop) : Prop :=
  ∀ X s m cm, X.Is bx sc → Rm n X.A → ST0 K X ρ ω m cm s → wpAny (model prog w) X.A (exec st X.env) (fun fl s' => ∃ o, P o ∧ Ends K X ω s o fl s') (fun e s' => ∃ o, P o ∧ EndsE K X ω s o e s') s
end
section
variable {bx : Fl} {sc : Scope} {n : Nat} {ρ : Vars} {ω : Owns} {P : Out → Prop}
theorem wp_E {α : Type} {M : Model} {A : Around} {t : Sem α} {s : Shared} {Q Q' : α → Shared → Prop} {E : Value → Shared → Prop} (h : wpAny M A t Q (fun _ _ => False) s) (hq : ∀ a s', Q a s' → Q' a s') : wpAny M A t Q' E s :=
  wpAny_mono h hq fun _ _ q => q.elim
theorem ex_mono {ss : List Stmt} {P' : Out → Prop} (h : EX prog w K bx sc n ss ρ ω P) (hp : ∀ o, P o → P' o) : EX prog w K bx sc n ss ρ ω P' := fun X s m cm hs rm st =>
  wpAny_mono (h X s m cm hs rm st) (fun _ _ hz27 => by obtain ⟨o, p, e⟩ := hz27; exact ⟨o, hp o p, e⟩) fun _ _ hz28 => by obtain ⟨o, p, e⟩ := hz28; exact ⟨o, hp o p, e⟩
theorem ex_nil (h : P (.next ρ ω)) : EX prog w K bx sc n [] ρ ω P := fun X s m cm hs rm st => wpAny_execs_nil ⟨_, h, rfl, ⟨m, cm, st⟩, Stp.refl _ _ _⟩
noncomputable def Then (prog : Program) (w : World) (K : Frag) (bx : Fl) (sc : Scope) (n : Nat) (ss : List Stmt) (P : Out → Prop) : Out → Prop
  | .next ρ ω => EX prog w K bx sc n ss ρ ω P
  | o => P o
theorem ex_cons {st : Stmt} {ss : List Stmt} (h : EX1 prog w K bx sc n st ρ ω (Then prog w K bx sc n ss P)) : EX prog w K bx sc n (st :: ss) ρ ω P := fun X s m cm hs rm x => by
  refine wpAny_execs_cons (wpAny_mono (h X s m cm hs rm x) (fun fl s' hz25 => ?_) fun e s' hz26 => ?_)
  · obtain ⟨o, p, e⟩ := hz25
    cases o with
    | next ρ' ω' =>
      obtain ⟨rfl, ⟨m', cm', st'⟩, y⟩ := e
      exact wpAny_mono (p X s' m' cm' hs rm st') (fun _ _ hz29 => by obtain ⟨o, p, e⟩ := hz29; exact ⟨o, p, Ends.trans y e⟩) fun _ _ hz30 => by obtain ⟨o, p, e⟩ := hz30; exact ⟨o, p, EndsE.trans y e⟩
    | brk ρ' ω' => obtain ⟨rfl, st'⟩ := e; exact ⟨_, p, rfl, st'⟩
    | ret d ω' => obtain ⟨v, rfl, g, r⟩ := e; exact ⟨_, p, v, rfl, g, r⟩
    | exc _ _ _ => exact e.elim
  · obtain ⟨o, p, y⟩ := hz26
    cases o with
    | exc _ _ _ => exact ⟨_, p, y⟩
    | _ => exact y.elim
end

noncomputable def KindOk (sc : Scope) (x : Str) : Prop := sc.names.lookup x = some .local ∨ sc.names.lookup x = some .cell
noncomputable def Scal : D → Prop
  | .none | .bool _ | .int _ | .str _ | .val _ => True
  | _ => False
theorem R.scal {U U' : Addr → Prop} {h h' : Heap} {v : Value} : ∀ {d : D}, Scal d → R U h v d → R U' h' v d
  | .none, _, x => x
  | .bool _, _, x => x
  | .int _, _, x => x
  | .str _, _, x => x
  | .val _, _, x => x
noncomputable def ScalL : List D → Prop
  | [] => True
  | d :: ds => Scal d ∧ ScalL ds
theorem RL.scal {U U' : Addr → Prop} {h h' : Heap} : ∀ {ds : List D} {vs : List Value}, ScalL ds → RL U h vs ds → RL U' h' vs ds
  | [], _, _, x => x
  | _ :: _, _, hz32, hz33 => by obtain ⟨a, b⟩ := hz32; obtain ⟨v, vs', e, x, y⟩ := hz33; exact ⟨v, vs', e, x.scal a, RL.scal b y⟩

section
variable {K : Frag} {X : FX} {ρ : Vars} {ω : Owns} {m cm : Str → Option Value} {s : Shared}
theorem lookup_cons_ne {α β : Type} [BEq α] [LawfulBEq α] {x y : α} {d : β} {l : List (α × β)} (h : y ≠ x) : ((x, d) :: l).lookup y = l.lookup y := by
  rw [List.lookup_cons, beq_eq_false_iff_ne.mpr h]
theorem lookup_cons_eq {α β : Type} [BEq α] [LawfulBEq α] {x : α} {d : β} {l : List (α × β)} : ((x, d) :: l).lookup x = some d := by
  rw [List.lookup_cons, beq_self_eq_true]
theorem st_store {M : Model} {A : Around} {E : Value → Shared → Prop} {x : Str} {v : Value} {Q : Unit → Shared → Prop} (x0 : ST0 K X ρ ω m cm s)
    (hk : X.env.kindOf x = some .local ∨ (X.env.kindOf x = some .cell ∧ ∃ c, X.oc.lookup x = some c))
    (h : ∀ s' m' cm' a, Mem X.base X.W X.S X.env X.oc m' cm' s' → s.toks ≤ s'.toks → Heap.SameBut a s.heap s'.heap → Frm X a →
      Val X.env X.oc m' cm' x v → (∀ y u, y ≠ x → Val X.env X.oc m cm y u → Val X.env X.oc m' cm' y u) → Q () s') : wpAny M A (storeName X.env x v) Q E s := by
  have inC := x0.inC
  rcases hk with hk | ⟨hk, c, hc⟩
  · refine wpAny_storeName_local hk inC.ns (fun h' hn hs => h _ (fun y => if y = x then some v else m y) cm X.env.locals ⟨?_, hn, fun b o w q e => ?_, fun b o q e => (let ⟨sl, z⟩ := inC.slots b o q e; ⟨sl, hs.extBut _ _ (Nat.ne_of_lt (Nat.lt_of_lt_of_le (Heap.lt_size e) inC.fresh)) z⟩), inC.fresh, fun k c hc => ?_, inC.apart, inC.above, inC.look⟩ (Nat.le_succ _) hs (.inl rfl) (.inl ⟨hk, if_pos rfl⟩) ?_) (by rw [x0.fn]; rfl)
    · obtain ⟨h₁, tk, e⟩ := inC.same
      exact ⟨h', s.toks + 1, by rw [e]⟩
    · exact hs.extBut b o (Nat.ne_of_lt (Nat.lt_of_lt_of_le (Heap.lt_size e) inC.fresh)) (inC.keep b o w q e)
    · exact (inC.cell k c hc).sameBut hs (Nat.ne_of_gt (inC.above k c (mem_of_lookup hc)))
    · rintro y u hy (⟨a, b⟩ | ⟨a, b, d⟩)
      · exact .inl ⟨a, (if_neg hy).trans b⟩
      · exact .inr ⟨a, b, d⟩
  · have hLc := inC.above x c (mem_of_lookup hc)
    refine wpAny_storeName_cell x0.fn hk (inC.look x c hc) (inC.cell x c hc) fun h' hv hs => h _ m (fun y => if y = x then some v else cm y) c ⟨?_, inC.ns.sameBut hs (Nat.ne_of_lt hLc), fun b o w q e => ?_, fun b o q e => (let ⟨sl, z⟩ := inC.slots b o q e; ⟨sl, hs.extBut _ _ (Nat.ne_of_lt (Nat.lt_trans (Nat.lt_of_lt_of_le (Heap.lt_size e) inC.fresh) hLc)) z⟩), inC.fresh, fun k c' hk' => ?_, inC.apart, inC.above, inC.look⟩ (Nat.le_refl _) hs (.inr ⟨x, hc⟩) (.inr ⟨hk, ⟨c, hc⟩, if_pos rfl⟩) ?_
    · obtain ⟨h₁, tk, e⟩ := inC.same
      exact ⟨h', s.toks, by rw [e]⟩
    · exact hs.extBut b o (Nat.ne_of_lt (Nat.lt_trans (Nat.lt_of_lt_of_le (Heap.lt_size e) inC.fresh) hLc)) (inC.keep b o w q e)
    · by_cases hkn : k = x
      · subst hkn
        rw [hc] at hk'; cases hk'
        simpa using hv
      · rw [if_neg hkn]
        exact (inC.cell k c' hk').sameBut hs fun e => hkn (name_of_addr inC.apart (mem_of_lookup hk') (e ▸ mem_of_lookup hc))
    · rintro y u hy (⟨a, b⟩ | ⟨a, b, d⟩)
      · exact .inl ⟨a, b⟩
      · exact .inr ⟨a, b, (if_neg hy).trans d⟩
theorem frm_wn {b : Addr} (h : Frm X b) : Wn X ω b := .inr (.inr (h.imp id .inl))
theorem st_set {M : Model} {A : Around} {E : Value → Shared → Prop} {x : Str} {v : Value} {d : D} {Q : Unit → Shared → Prop} (x0 : ST0 K X ρ ω m cm s)
    (hk : X.env.kindOf x = some .local ∨ (X.env.kindOf x = some .cell ∧ ∃ c, X.oc.lookup x = some c)) (r : R (Wn X ω) s.heap v d)
    (h : ∀ s', (∃ m cm, ST0 K X ((x, d) :: ρ) ω m cm s') → s.toks ≤ s'.toks → s.heap.objs.size ≤ s'.heap.objs.size → (∀ b o, ¬ Frm X b → s.heap.get? b = some o → s'.heap.get? b = some o) → Q () s') : wpAny M A (storeName X.env x v) Q E s := by
  refine st_store x0 hk fun s' m' cm' a inC le sb ha hv ho => h s' ⟨m', cm', ?_⟩ le (by rw [sb.1]; exact Nat.le_refl _) fun b o q e => sb.extBut b o (fun e' => q (e' ▸ ha)) e
  have up : ∀ b o, ¬ Wn X ω b → s.heap.get? b = some o → s'.heap.get? b = some o := fun b o q e => sb.extBut b o (fun e' => q (by
    subst e'
    exact frm_wn ha)) e
  have rm : ∀ {v : Value} {d : D}, R (Wn X ω) s.heap v d → R (Wn X ω) s'.heap v d := fun r => R.mono (fun _ q => .inl q) up _ r
  have vk : ∀ a, X.V a → a < s'.heap.objs.size := fun b q => by rw [sb.1]; exact x0.vlt b q
  have hS : HOK K X.U s' := by
    obtain ⟨h₀, t₀, e₀⟩ := x0.inC.same
    obtain ⟨h₁, t₁, e₁⟩ := inC.same
    have := x0.hokS.chg (h' := s'.heap) (tk := s'.toks) (fun b o q e => sb.extBut b o (fun e' => q (e' ▸ loose_new x0.hok (x0.frm ha))) e) (by rw [sb.1]; exact Nat.le_refl _) le
    have e2 : s' = { s with heap := s'.heap, toks := s'.toks } := by rw [e₁, e₀]
    rw [e2]; exact this
  refine ⟨inC, x0.hok, hS, Nat.le_trans x0.le le, x0.fn, x0.gl, x0.bl, x0.ce, x0.cl, fun y d' e hy => ?_, fun b o e => (x0.own b o e).mono (fun _ q => .inl q) up (fun o' => sb.extBut b o' fun e' => (x0.ownb b (by rw [e]; rfl)).2.1 (e' ▸ ha)), x0.ownb, vk, x0.vb, x0.wu, x0.su, fun f => (x0.fr f).at fun b o q e => sb.extBut b o (fun e' => absurd (x0.frm (e' ▸ ha)) (Nat.not_le.mpr (x0.slt q))) e⟩
  by_cases hyx : y = x
  · subst hyx
    rw [lookup_cons_eq] at e
    cases e
    exact ⟨v, .inl hv, rm r⟩
  · rw [lookup_cons_ne hyx] at e
    obtain ⟨u, b, r'⟩ := x0.vars y d' e hy
    exact ⟨u, b.imp (ho y u hyx) id, rm r'⟩
end
end Lw
end

section
open PySem PySem.W PyProof.Rows PySem.Calls
namespace Lw
section
variable {K : Frag} {X : FX} {ρ : Vars} {ω : Owns} {m cm : Str → Option Value} {s : Shared}
theorem ST0.kind (x0 : ST0 K X ρ ω m cm s) {bx : Fl} {sc : Scope} (hs : X.Is bx sc) {x : Str} (hk : KindOk sc x) : X.env.kindOf x = some .local ∨ (X.env.kindOf x = some .cell ∧ ∃ c, X.oc.lookup x = some c) :=
  x0.cl x (hs.ow x hk)
noncomputable def FR (U : Addr → Prop) (s : Shared) (v : Value) (ds : List D) (s' : Shared) : Prop :=
  ∃ a vs, v = .ref a ∧ s.heap.objs.size ≤ a ∧ s'.heap.PlainList a (List.toArray vs) ∧ RL (fun b => U b ∨ b = a) s'.heap vs ds
theorem FR.lst {U : Addr → Prop} {s s' : Shared} {v : Value} {ds : List D} (h : HOK K U s) (x : FR U s v ds s') : R U s'.heap v (.lst ds) := by
  obtain ⟨a, vs, rfl, hn, ⟨k, p⟩, r⟩ := x
  exact ⟨a, vs, rfl, h.not_fresh hn, ⟨k, p⟩, RL.mono (fun _ q => .inl (.inl q)) (fun _ _ _ e => e) _ r⟩
theorem wn_cons {a b : Addr} {o : Ow} : Wn X ((a, o) :: ω) b ↔ Wn X ω b ∨ b = a := by
  by_cases h : b = a
  · subst h
    exact ⟨fun _ => .inr rfl, fun _ => .inr (.inl (by rw [lookup_cons_eq]; rfl))⟩
  · constructor
    · rintro (q | q | q)
      · exact .inl (.inl q)
      · rw [lookup_cons_ne h] at q; exact .inl (.inr (.inl q))
      · exact .inl (.inr (.inr q))
    · rintro ((q | q | q) | q)
      · exact .inl q
      · exact .inr (.inl (by rw [lookup_cons_ne h]; exact q))
      · exact .inr (.inr q)
      · exact absurd q h
theorem ST0.grow (x : ST0 K X ρ ω m cm s) {s' : Shared} (g : Gr s s') {a : Addr} {o : Ow} (ha : s.heap.objs.size ≤ a) (ho : OwAt (fun b => Wn X ω b ∨ b = a) s'.heap a o) : ST0 K X ρ ((a, o) :: ω) m cm s' := by
  have y := x.after g
  have hU : ∀ b, Wn X ((a, o) :: ω) b → Wn X ω b ∨ s.heap.get? b = none := fun b q => (wn_cons.mp q).imp id fun e => by rw [e]; exact fresh_none' ha
  exact { inC := y.inC, hok := y.hok, hokS := y.hokS, le := y.le, fn := y.fn, gl := y.gl, bl := y.bl, ce := y.ce, cl := y.cl,
          vars := fun z d e hz => let ⟨v, b, r⟩ := x.vars z d e hz; ⟨v, b, R.mono hU (fun b o _ e => g.keep b o e) _ r⟩,
          own := fun b o' e => by
            by_cases h : b = a
            · subst h
              rw [lookup_cons_eq] at e
              cases e
              exact ho.mono (fun c q => .inl (wn_cons.mp q)) (fun _ _ _ e => e) fun _ e => e
            · rw [lookup_cons_ne h] at e
              exact (x.own b o' e).mono hU (fun b o _ e => g.keep b o e) fun o e => g.keep _ o e
          ownb := fun b q => by
            by_cases h : b = a
            · subst h
              refine ⟨.inl (Nat.le_trans x.sz ha), fun f => ?_, fun f => absurd (x.vlt _ f) (Nat.not_lt.mpr ha)⟩
              have := x.wlt b (frm_wn f)
              exact absurd this (Nat.not_lt.mpr ha)
            · rw [lookup_cons_ne h] at q
              exact x.ownb b q
          vlt := y.vlt, vb := y.vb, wu := y.wu, su := y.su, fr := y.fr }
theorem ST0.put (x : ST0 K X ρ ω m cm s) {h' : Heap} {tk : Nat} {a : Addr} {o o' : Ow} (ho : ω.lookup a = some o) (hb : Heap.SameBut a s.heap h') (ht : s.toks ≤ tk) (hn : OwAt (Wn X ω) h' a o') : ST0 K X ρ ((a, o') :: ω) m cm { s with heap := h', toks := tk } := by
  have hs : (ω.lookup a).isSome = true := by rw [ho]; rfl
  obtain ⟨b1, b2, b3⟩ := x.ownb a hs
  have hW : Wn X ω a := .inr (.inl hs)
  have hU : ∀ b, Wn X ((a, o') :: ω) b → Wn X ω b ∨ s.heap.get? b = none := fun b q => .inl ((wn_cons.mp q).elim id fun e => e ▸ hW)
  have up : ∀ b o, ¬ Wn X ω b → s.heap.get? b = some o → h'.get? b = some o := fun b o q e => hb.extBut b o (fun e' => q (e' ▸ hW)) e
  have inC := x.inC
  have hS : ∀ b, X.S b → b ≠ a := fun b q e' => b1.elim (fun l => absurd (x.slt q) (by rw [e']; exact Nat.not_lt.mpr l)) fun l => (x.wu a l).2.2 (e' ▸ q)
  exact { inC := ⟨by obtain ⟨h₀, t₀, e⟩ := inC.same; exact ⟨h', tk, by rw [e]⟩, inC.ns.sameBut hb (fun e => b2 (.inl e.symm)), fun b o w q e => hb.extBut b o (fun e' => by
              subst e'
              exact b1.elim (fun l => absurd (Heap.lt_size e) (Nat.not_lt.mpr l)) w) (inC.keep b o w q e), fun b o q e => (let ⟨sl, z⟩ := inC.slots b o q e; ⟨sl, hb.extBut _ _ (hS b q) z⟩), inC.fresh, fun y c e => (inC.cell y c e).sameBut hb (fun e' => b2 (.inr ⟨y, e' ▸ e⟩)), inC.apart, inC.above, inC.look⟩
          hok := x.hok
          hokS := x.hokS.chg (fun b o q e => hb.extBut b o (fun e' => q (e' ▸ x.loose b1)) e) (by rw [hb.1]; exact Nat.le_refl _) ht
          le := Nat.le_trans x.le ht, fn := x.fn, gl := x.gl, bl := x.bl, ce := x.ce, cl := x.cl,
          vars := fun z d e hz => let ⟨v, b, r⟩ := x.vars z d e hz; ⟨v, b, R.mono hU up _ r⟩,
          own := fun b o₁ e => by
            by_cases h : b = a
            · subst h
              rw [lookup_cons_eq] at e
              cases e
              exact hn.mono (fun c q => .inl ((wn_cons.mp q).elim id fun e => e ▸ hW)) (fun _ _ _ e => e) fun _ e => e
            · rw [lookup_cons_ne h] at e
              exact (x.own b o₁ e).mono hU up fun o e => hb.extBut b o h e
          ownb := fun b q => by
            by_cases h : b = a
            · subst h; exact x.ownb b hs
            · rw [lookup_cons_ne h] at q
              exact x.ownb b q
          vlt := fun b q => by show _ < h'.objs.size; rw [hb.1]; exact x.vlt b q, vb := x.vb, wu := x.wu, su := x.su, fr := fun f => (x.fr f).at fun b o q e => hb.extBut b o (hS b q) e }
theorem Stp.put {a : Addr} {o' : Ow} (hs : (ω.lookup a).isSome = true) {h' : Heap} {tk : Nat} (hb : Heap.SameBut a s.heap h') (ht : s.toks ≤ tk) : Stp X ω s ((a, o') :: ω) { s with heap := h', toks := tk } where
  kp := fun b o _ n _ e => hb.extBut b o (fun e' => by rw [e', hs] at n; cases n) e
  org := fun b q => .inl (by
    by_cases h : b = a
    · rw [h]; exact hs
    · rw [lookup_cons_ne h] at q; exact q)
  sz := by show _ ≤ h'.objs.size; rw [hb.1]; exact Nat.le_refl _
  tk := ht
theorem Stp.grow {a : Addr} {o : Ow} {s' : Shared} (g : Gr s s') (ha : s.heap.objs.size ≤ a) : Stp X ω s ((a, o) :: ω) s' where
  kp := fun b o _ n _ e => g.keep b o e
  org := fun b q => by
    by_cases h : b = a
    · rw [h]; exact .inr ha
    · rw [lookup_cons_ne h] at q; exact .inl q
  sz := g.sz
  tk := g.le
theorem ST0.newAddr (x : ST0 K X ρ ω m cm s) {a : Addr} (ha : s.heap.objs.size ≤ a) : ω.lookup a = none := by
  cases h : ω.lookup a with
  | none => rfl
  | some o => exact absurd (x.own a o h).lt (Nat.not_lt.mpr ha)
theorem ST0.notKs (x : ST0 K X ρ ω m cm s) {bx : Fl} {sc : Scope} (hs : X.Is bx sc) {a : Addr} (ha : s.heap.objs.size ≤ a) : a ∉ bx.ks := fun q =>
  absurd (x.hok.lt a (x.wu a ((hs.wk a).mpr q)).1) (Nat.not_lt.mpr (Nat.le_trans x.sz ha))
end
section
variable (prog : Program) (w : World) (K : Frag) (bx : Fl)
noncomputable def EVL (sc : Scope) (n : Nat) (ρ : Vars) (e : Expr) (ds : List D) : Prop :=
  ∀ env A U s, env.scope = sc → Rm n A → EOK K U env ρ s → wpAny (model prog w) A (eval e env) (fun v s' => Gr s s' ∧ FR U s v ds s') (fun _ _ => False) s
inductive Res where
  | val (d : D) (ω : Owns)
  | exc (d : D) (ω : Owns)
noncomputable def EM (sc : Scope) (n : Nat) (ρ : Vars) (ω : Owns) (e : Expr) (Q : Res → Prop) : Prop :=
  ∀ X s m cm, X.Is bx sc → Rm n X.A → ST0 K X ρ ω m cm s → wpAny (model prog w) X.A (eval e X.env) (fun v s' => ∃ d ω', Q (.val d ω') ∧ ST0 K X ρ ω' m cm s' ∧ Stp X ω s ω' s' ∧ R (Wn X ω') s'.heap v d)
    (fun e s' => ∃ d ω', Q (.exc d ω') ∧ ST0 K X ρ ω' m cm s' ∧ Stp X ω s ω' s' ∧ R (Wn X ω') s'.heap e d) s
noncomputable def EMT (sc : Scope) (n : Nat) (ρ : Vars) (ω : Owns) (e : Expr) (b : Bool) : Prop :=
  ∀ X s m cm, X.Is bx sc → Rm n X.A → ST0 K X ρ ω m cm s → wpAny (model prog w) X.A (isTrue e X.env (eval e X.env)) (fun v s' => v = b ∧ Gr s s') (fun _ _ => False) s
end
section
variable {bx : Fl} {sc : Scope} {n : Nat} {ρ : Vars} {ω : Owns} {P : Out → Prop}
theorem ev_evl {e : Expr} {ds : List D} (h : EVL prog w K sc n ρ e ds) : EV prog w K sc n ρ e (.lst ds) := fun env A U s hs rm ok =>
  wpAny_mono (h env A U s hs rm ok) (fun v s' hz31 => by obtain ⟨g, r⟩ := hz31; exact ⟨g, r.lst ok.toHOK⟩) fun _ _ x => x
theorem em_ev {e : Expr} {d : D} {Q : Res → Prop} (h : EV prog w K sc n ρ e d) (q : Q (.val d ω)) : EM prog w K bx sc n ρ ω e Q := fun X s m cm hs rm x0 =>
  wp_E (h _ _ _ s hs.sco rm x0.eok) fun v s' hz32 => by obtain ⟨g, r⟩ := hz32; exact ⟨d, ω, q, x0.after g, Stp.gr g, r⟩
theorem em_evl {e : Expr} {ds : List D} {Q : Res → Prop} (h : EVL prog w K sc n ρ e ds) (q : ∀ a, ω.lookup a = none → a ∉ bx.ks → Q (.val (.val (.ref a)) ((a, .lst ds) :: ω))) : EM prog w K bx sc n ρ ω e Q := fun X s m cm hs rm x0 =>
  wp_E (h _ _ _ s hs.sco rm x0.eok) fun v s' hz33 => by
    obtain ⟨g, a, vs, e, ha, p, r⟩ := hz33
    subst e
    exact ⟨_, _, q a (x0.newAddr ha) (x0.notKs hs ha), x0.grow g ha ⟨vs, p, r⟩, Stp.grow g ha, rfl⟩
theorem emt_et {e : Expr} {b : Bool} (h : ET prog w K sc n ρ e b) : EMT prog w K bx sc n ρ ω e b := fun X s m cm hs rm x0 =>
  wp_E (h _ _ _ s hs.sco rm x0.eok) fun v s' hz34 => by obtain ⟨g, r⟩ := hz34; exact ⟨r, g⟩
noncomputable def NoSwap (sc : Scope) (e : Expr) (x : Str) (p pos : Pos) : Prop := ∀ env : Env, env.scope = sc → swapsWith e (some (.Name x p)) pos.line env = pure false
theorem ex_assign {x : Str} {p pos : Pos} {e : Expr} {d : D} (he : EV prog w K sc n ρ e d) (hk : KindOk sc x) (hsw : NoSwap sc e x p pos) (h : P (.next ((x, d) :: ρ) ω)) :
    EX1 prog w K bx sc n (.Assign [.Name x p] e pos) ρ ω P := fun X s m cm hs rm x0 =>
  wpAny_Assign_Name (hs := hsw _ hs.sco) (wp_E (he _ _ _ s hs.sco rm x0.eok) fun v s' hz35 => by obtain ⟨g, r⟩ := hz35; exact st_set (x0.after g) (x0.kind hs hk) r fun s'' st le z hk => ⟨_, h, rfl, st, Stp.set g le z hk⟩)
theorem ex_assignM {x : Str} {p pos : Pos} {e : Expr} (he : EM prog w K bx sc n ρ ω e fun
      | .val d ω' => P (.next ((x, d) :: ρ) ω')
      | .exc d ω' => P (.exc d ρ ω')) (hk : KindOk sc x) (hsw : NoSwap sc e x p pos) :
    EX1 prog w K bx sc n (.Assign [.Name x p] e pos) ρ ω P := fun X s m cm hs rm x0 =>
  wpAny_Assign_Name (hs := hsw _ hs.sco) (wpAny_mono (he X s m cm hs rm x0) (fun v s' hz36 => by obtain ⟨d, ω', h, x1, st, r⟩ := hz36; exact st_set x1 (x1.kind hs hk) r fun s'' x2 le z hk => ⟨_, h, rfl, x2, st.trans ⟨fun b o q _ _ e => hk b o q e, fun _ h => .inl h, z, le⟩⟩)
    fun e s' hz37 => by obtain ⟨d, ω', h, x1, st, r⟩ := hz37; exact ⟨_, h, ⟨⟨m, cm, x1⟩, st⟩, r⟩)
theorem ex_assignL {x : Str} {p pos : Pos} {e : Expr} {ds : List D} (he : EVL prog w K sc n ρ e ds) (hk : KindOk sc x) (hsw : NoSwap sc e x p pos) (h : ∀ a, ω.lookup a = none → a ∉ bx.ks → P (.next ((x, .val (.ref a)) :: ρ) ((a, .lst ds) :: ω))) :
    EX1 prog w K bx sc n (.Assign [.Name x p] e pos) ρ ω P := ex_assignM (em_evl he h) hk hsw
theorem ex_expr {e : Expr} {pos : Pos} (he : EM prog w K bx sc n ρ ω e fun
      | .val d ω' => P (.next ρ ω')
      | .exc d ω' => P (.exc d ρ ω')) (hsw : ∀ env : Env, env.scope = sc → swapsWith e none pos.line env = pure false := by intro env h; rfl) : EX1 prog w K bx sc n (.Expr e pos) ρ ω P := fun X s m cm hs rm x0 =>
  wpAny_Expr_any (hi := by rw [interactive, x0.fn]; rfl) (hs := hsw _ hs.sco) (wpAny_mono (he X s m cm hs rm x0) (fun v s' hz38 => by obtain ⟨d, ω', h, x1, st, r⟩ := hz38; exact ⟨_, h, rfl, ⟨m, cm, x1⟩, st⟩) fun e s' hz39 => by obtain ⟨d, ω', h, x1, st, r⟩ := hz39; exact ⟨_, h, ⟨⟨m, cm, x1⟩, st⟩, r⟩)
theorem ST0.sub (x : ST0 K X ρ ω m cm s) {ρ' : Vars} (h : ∀ x d, ρ'.lookup x = some d → ρ.lookup x = some d) : ST0 K X ρ' ω m cm s :=
  { x with vars := fun y d e hy => x.vars y d (h y d e) hy }
theorem ex_retM {e : Expr} {pos : Pos} (he : EM prog w K bx sc n ρ ω e fun
      | .val d ω' => P (.ret d ω')
      | .exc d ω' => P (.exc d ρ ω')) : EX1 prog w K bx sc n (.Return (some e) pos) ρ ω P := fun X s m cm hs rm x0 =>
  wpAny_Return_some (wpAny_mono (he X s m cm hs rm x0) (fun v s' hz40 => by obtain ⟨d, ω', h, x1, st, r⟩ := hz40; exact ⟨_, h, v, rfl, ⟨⟨m, cm, x1.sub fun _ _ e => (by cases e)⟩, st⟩, r⟩) fun e s' hz41 => by obtain ⟨d, ω', h, x1, st, r⟩ := hz41; exact ⟨_, h, ⟨⟨m, cm, x1⟩, st⟩, r⟩)
theorem ex_ret {e : Expr} {pos : Pos} {d : D} (he : EV prog w K sc n ρ e d) (h : P (.ret d ω)) : EX1 prog w K bx sc n (.Return (some e) pos) ρ ω P := ex_retM (em_ev he h)
theorem ex_if {t : Expr} {body orelse : List Stmt} {pos : Pos} {b : Bool} (ht : EMT prog w K bx sc n ρ ω t b) (h₁ : b = true → EX prog w K bx sc n body ρ ω P) (h₂ : b = false → EX prog w K bx sc n orelse ρ ω P) :
    EX1 prog w K bx sc n (.If t body orelse pos) ρ ω P := fun X s m cm hs rm x0 =>
  wpAny_If (wp_E (ht X s m cm hs rm x0) fun c s' hz42 => by
    obtain ⟨r, g⟩ := hz42
    subst r
    cases c with
    | true => exact wpAny_mono (h₁ rfl X s' m cm hs rm (x0.after g)) (fun _ _ hz43 => by obtain ⟨o, p, e⟩ := hz43; exact ⟨o, p, Ends.trans (Stp.gr g) e⟩) fun _ _ hz44 => by obtain ⟨o, p, e⟩ := hz44; exact ⟨o, p, EndsE.trans (Stp.gr g) e⟩
    | false => exact wpAny_mono (h₂ rfl X s' m cm hs rm (x0.after g)) (fun _ _ hz45 => by obtain ⟨o, p, e⟩ := hz45; exact ⟨o, p, Ends.trans (Stp.gr g) e⟩) fun _ _ hz46 => by obtain ⟨o, p, e⟩ := hz46; exact ⟨o, p, EndsE.trans (Stp.gr g) e⟩)
theorem evl_list {es : List Expr} {pos : Pos} {ds : List D} (hl : ds.length ≤ 1000) (h : ES prog w K sc n ρ es ds) : EVL prog w K sc n ρ (.List es pos) ds := fun env A U s hs rm ok =>
  List_ (wpAny_mono (h env pos A U s hs rm ok) (fun vs s₁ ⟨g, r⟩ => wpAny_newList (hsz := by rw [r.length]; exact Nat.le_trans hl (by decide))
    ⟨g.trans Gr.push, _, vs, rfl, g.sz, ⟨_, Heap.get?_push_size _ rfl⟩, RL.mono (fun b q => q.imp id (fun e => by rw [e]; exact fresh_none _)) (fun b o _ e => Heap.get?_push_of_some _ e) _ r⟩) fun _ _ x => x)
end
end Lw
end

section
open PySem PySem.W PyProof.Rows PySem.Calls
namespace Lw
section
variable {K : Frag} {X : FX} {ρ : Vars} {ω : Owns} {m cm : Str → Option Value} {s : Shared}
theorem ns_slots {h h' : Heap} {a : Addr} {m : Str → Option Value} (hn : h.Ns a m) (k : ∀ o, h.get? a = some o → ∃ sl, h'.get? a = some { o with slots := sl }) : h'.Ns a m := by
  obtain ⟨o, es, ep, ho, hd, r⟩ := hn
  obtain ⟨sl, hs⟩ := k o ho
  exact ⟨_, es, ep, hs, hd, r⟩
theorem ST0.slots (x : ST0 K X ρ ω m cm s) {l : List Addr} {h' : Heap} (hs : Heap.SlotsOnly l s.heap h') (hl : ∀ L ∈ l, L = X.env.locals ∨ X.S L) : ST0 K X ρ ω m cm { s with heap := h' } ∧ Stp X ω s ω { s with heap := h' } := by
  have hS : ∀ L, X.S L → L < X.base.heap.objs.size := fun L q => x.slt q
  have nl : ∀ {b}, ¬ (b = X.env.locals ∨ X.S b) → b ∉ l := fun {b} q z => q (hl b z)
  have up : ∀ b o, ¬ Wn X ω b → s.heap.get? b = some o → h'.get? b = some o := fun b o q e => (hs.2.1 b (nl fun z => q (z.elim (fun z => .inr (.inr (.inl z))) fun z => .inl (x.su b z).1))).trans e
  have inC := x.inC
  refine ⟨{ inC := ⟨by obtain ⟨h₀, t₀, e⟩ := inC.same; exact ⟨h', s.toks, by rw [e]⟩, ns_slots inC.ns fun o e => hs.2.2 _ o e, fun b o w q e => ?_, fun b o q e => ?_, inC.fresh, fun y c e => ?_, inC.apart, inC.above, inC.look⟩
            hok := x.hok
            hokS := x.hokS.chg (fun b o q e => (hs.2.1 b (nl fun z => q (z.elim (fun z => loose_new x.hok (by rw [z]; exact inC.fresh)) fun z => (x.su b z).2))).trans e) (Nat.le_of_eq hs.1.symm) (Nat.le_refl _)
            le := x.le, fn := x.fn, gl := x.gl, bl := x.bl, ce := x.ce, cl := x.cl,
            vars := fun z d e hz => let ⟨v, b, r⟩ := x.vars z d e hz; ⟨v, b, R.mono (fun _ q => .inl q) up _ r⟩,
            own := fun a o e => (x.own a o e).mono (fun _ q => .inl q) up fun o' e' => (hs.2.1 a (nl fun z => ?_)).trans e',
            ownb := x.ownb,
            vlt := fun b q => by show _ < h'.objs.size; rw [hs.1]; exact x.vlt b q, vb := x.vb, wu := x.wu, su := x.su, fr := fun f => ?_ }, ?_⟩
  · refine (hs.2.1 b (nl fun z => ?_)).trans (inC.keep b o w q e)
    exact z.elim (fun z => absurd (Heap.lt_size e) (by rw [z]; exact Nat.not_lt.mpr inC.fresh)) q
  · obtain ⟨sl, z⟩ := inC.slots b o q e
    obtain ⟨sl', z'⟩ := hs.2.2 b _ z
    exact ⟨sl', z'⟩
  · obtain ⟨o, eo, ed⟩ := inC.cell y c e
    have hc := inC.above y c (mem_of_lookup e)
    refine ⟨o, (hs.2.1 c (nl fun z => ?_)).trans eo, ed⟩
    exact z.elim (fun z => by rw [z] at hc; exact Nat.lt_irrefl _ hc) fun z => absurd (Nat.lt_trans (Nat.lt_of_lt_of_le (hS c z) inC.fresh) hc) (Nat.lt_irrefl _)
  · have hb := x.ownb a (by rw [e]; rfl)
    refine z.elim (fun z => hb.2.1 (.inl z)) fun z => ?_
    exact hb.1.elim (fun l => absurd (hS a z) (Nat.not_lt.mpr l)) fun w => (x.wu a w).2.2 z
  · obtain ⟨outer, a, b, c⟩ := x.fr f
    refine ⟨outer, a, b, fun env he => ?_⟩
    obtain ⟨k, L, o, f1, f2, f3, f4⟩ := c env he
    obtain ⟨sl, z⟩ := hs.2.2 L o f3
    exact ⟨k, L, _, f1, f2, z, f4⟩
  · exact ⟨fun b o q q' q'' e => (hs.2.1 b (nl fun z => z.elim (fun z => q (.inl z)) q'')).trans e, fun _ h => .inl h, Nat.le_of_eq hs.1.symm, Nat.le_refl _⟩

theorem fld_set {h : Heap} {a : Addr} {o : Obj} {vs : Array Value} {i : Nat} {v : Value} (ho : h.get? a = some o) (hd : o.data = .fields vs) :
    Heap.SameBut a h (h.update a (Obj.mapFields (·.setIfInBounds i v))) ∧ ∃ o', (h.update a (Obj.mapFields (·.setIfInBounds i v))).get? a = some o' ∧ o'.cls = o.cls ∧ o'.data = .fields (vs.setIfInBounds i v) := by
  have hd₃ := Obj.data_mapFields hd (·.setIfInBounds i v)
  exact ⟨⟨Heap.size_after_update .., fun b hb => Heap.get?_update_other _ _ (Ne.symm hb)⟩, _, Heap.get?_update_self _ ho (Obj.isFreed_of_fields hd₃), Obj.cls_mapFields _ _, hd₃⟩
theorem tbk_set {M : Model} {A : Around} {E : Value → Shared → Prop} {T : Addr} {fl fl' : Value} {Q : Unit → Shared → Prop} (x : ST0 K X ρ ω m cm s) (hT : ω.lookup T = some (.tbk fl))
    (hQ : ∀ s', ST0 K X ρ ((T, .tbk fl') :: ω) m cm s' → Stp X ω s ((T, .tbk fl') :: ω) s' → Q () s') : wpAny M A (setField (.ref T) 3 fl') Q E s := by
  obtain ⟨oT, ts, e, d, h3⟩ := x.own T _ hT
  have hi := (Array.getElem?_eq_some_iff.mp h3).1
  obtain ⟨sb, o', e', _, d'⟩ := fld_set (i := 3) (v := fl') e d
  refine wpAny_setField e d hi (hQ _ (x.put hT sb (Nat.le_refl _) ⟨o', _, e', d', by simp [hi]⟩) (Stp.put (by rw [hT]; rfl) sb (Nat.le_refl _)))
noncomputable def Noted (ω : Owns) (e : Addr) (cls : String) (ds : List D) (T' : Addr) (fl : Value) (ω' : Owns) : Prop :=
  ω'.lookup e = some (.exn cls (some T') ds) ∧ ω'.lookup T' = some (.tbk fl) ∧ e ≠ T' ∧ ω.lookup T' = none ∧ (∀ a, a ≠ e → a ≠ T' → (∀ fl, ω.lookup a ≠ some (.tbk fl)) → ω'.lookup a = ω.lookup a)
theorem ST0.exnAt {e : Addr} {cls : String} {fl : Option Addr} {ds : List D} {Z : Prop} (x : ST0 K X ρ ω m cm s) (he : ω.lookup e = some (.exn cls fl ds))
    (k : ∀ oe vs t xs, s.heap.get? e = some oe → oe.cls = .type cls → oe.data = .fields vs → vs[0]? = some (.ref t) → vs[1]? = some (fl.elim .none .ref) → ¬ Wn X ω t → s.heap.TupAt t xs → RL (Wn X ω) s.heap xs ds → Z) : Z := by
  obtain ⟨oe, vs, t, xs, e1, e2, e3, e4, e5, e6, e7, e8⟩ := x.own e _ he
  exact k oe vs t xs e1 e2 e3 e4 e5 e6 e7 e8
theorem exn_field {M : Model} {A : Around} {E : Value → Shared → Prop} {e T : Addr} {cls : String} {fl : Option Addr} {ds : List D} {Q : Unit → Shared → Prop} (x : ST0 K X ρ ω m cm s) (he : ω.lookup e = some (.exn cls fl ds))
    (hQ : ∀ s', ST0 K X ρ ((e, .exn cls (some T) ds) :: ω) m cm s' → Stp X ω s ((e, .exn cls (some T) ds) :: ω) s' → Q () s') : wpAny M A (setField (.ref e) 1 (.ref T)) Q E s := by
  refine x.exnAt he fun oe vs t xs f1 f2 f3 f4 f5 f6 f7 f8 => ?_
  have hi := (Array.getElem?_eq_some_iff.mp f5).1
  obtain ⟨sb, o', g1, g2, g3⟩ := fld_set (i := 1) (v := .ref T) f1 f3
  refine wpAny_setField f1 f3 hi ?_
  have hWe : Wn X ω e := .inr (.inl (by rw [he]; rfl))
  have up : ∀ b o, ¬ Wn X ω b → _ → _ := fun b o q => sb.extBut b o (fun q' => q (q' ▸ hWe))
  have hf : (vs.setIfInBounds 1 (Value.ref T))[1]? = some (.ref T) := by simp [hi]
  refine hQ _ (x.put (o' := .exn cls (some T) ds) he sb (Nat.le_refl _) ⟨o', _, t, xs, g1, g2.trans f2, g3, by rw [Array.getElem?_setIfInBounds_ne (by decide)]; exact f4, hf, f6, ?_, RL.mono (fun _ q => .inl q) up _ f8⟩) (Stp.put (X := X) (o' := .exn cls (some T) ds) (by rw [he]; rfl) sb (Nat.le_refl _))
  obtain ⟨o, n, a, b⟩ := f7
  exact ⟨o, n, up t o f6 a, b⟩
theorem frames_fun {s₁ : Shared} : ∀ {l : List Env}, (∀ env ∈ l, env.scope.kind ≠ .module ∧ ∃ L o, env.frame = some L ∧ s₁.heap.get? L = some o ∧ ∀ vs, o.data ≠ .fields vs) → s₁.heap.FunFrames { s₁.heap with objs := #[] } l := by
  intro l h
  induction l with
  | nil => trivial
  | cons env l ih =>
    obtain ⟨a, L, o, b, c, d⟩ := h env (.head _)
    exact ⟨a, ⟨L, o, b, by simp [Heap.get?], c, d⟩, ih fun e he => h e (.tail _ he)⟩
theorem entry_new {M : Model} {E : Value → Shared → Prop} {head : Value} {hadNext : Bool} {Q : Unit → Shared → Prop} {f : Value → Sem Unit} (x : ST0 K X ρ ω m cm s) (hf : X.fok)
    (hQ : ∀ s' T', ω.lookup T' = none → ST0 K X ρ ((T', .tbk (rawInt X.env.locals)) :: ω) m cm s' → Stp X ω s ((T', .tbk (rawInt X.env.locals)) :: ω) s' → wpAny M X.A (f (.ref T')) Q E s') :
    wpAny M X.A (do let a ← frameOf X.env; let pl ← entryPlaceOf X.env.locals hadNext; let b ← EntryCells.newEntry head a .none (rawInt X.env.locals) .none pl; f b) Q E s := by
  obtain ⟨outer, hfr, hloc, hfi⟩ := x.fr hf
  have hff := frames_fun (s₁ := s) (l := X.env :: outer) fun env he => by
    rcases List.mem_cons.mp he with rfl | he
    · obtain ⟨o, es, ep, ho, hd, _⟩ := x.inC.ns
      exact ⟨by rw [x.fn]; decide, X.env.locals, o, hloc, ho, fun vs q => by rw [hd] at q; cases q⟩
    · obtain ⟨a, L, o, b, _, c, d⟩ := hfi env he
      exact ⟨a, L, o, b, c, d⟩
  refine wpAny_bind (wpAny_frameOf_fun hfr hff hloc fun h₂ hs₂ => ?_)
  have hz := x.slots hs₂ fun L hL => by
    obtain ⟨env, he, hf'⟩ := List.mem_filterMap.mp hL
    rcases List.mem_cons.mp he with rfl | he
    · rw [hloc] at hf'; cases hf'; exact .inl rfl
    · obtain ⟨_, L', _, b, c, _⟩ := hfi env he
      rw [b] at hf'; cases hf'; exact .inr c
  clear hff hfi hfr hs₂
  obtain ⟨x₂, st₂⟩ := hz
  refine wpAny_bind (wpAny_entryPlaceOf fun pl hpl => ?_)
  unfold EntryCells.newEntry newFields
  refine wpAny_bind (wpAny_newObj_type ?_ (hpl.sizeOk5 _ _ _ _ _))
  have hts : (([head, .ref X.env.locals, .none, rawInt X.env.locals, .none] ++ (if pl.isEmpty then List.replicate 6 Value.none else pl)).toArray)[3]? = some (rawInt X.env.locals) := by first | (simp; done) | (rcases hpl with rfl | ⟨_, _, _, _, _, _, _, rfl⟩ <;> simp)
  clear hpl
  revert hts
  generalize ([head, .ref X.env.locals, .none, rawInt X.env.locals, .none] ++ (if pl.isEmpty then List.replicate 6 Value.none else pl)).toArray = ts
  intro hts
  exact hQ _ _ (x₂.newAddr (Nat.le_refl _)) (x₂.grow (s' := { s with heap := h₂.push { cls := .type "traceback", dict := none, data := .fields ts } }) Gr.push (a := h₂.objs.size) (o := .tbk (rawInt X.env.locals)) (Nat.le_refl _) ⟨_, ts, Heap.get?_push_size _ rfl, rfl, hts⟩)
    (st₂.trans (Stp.grow (X := X) (ω := ω) (a := h₂.objs.size) (o := .tbk (rawInt X.env.locals)) (s := { s with heap := h₂ }) (s' := { s with heap := h₂.push { cls := .type "traceback", dict := none, data := .fields ts } }) Gr.push (Nat.le_refl _)))
theorem note_own {M : Model} {E : Value → Shared → Prop} {e : Addr} {cls : String} {fl : Option Addr} {ds : List D} {Q : Unit → Shared → Prop} (x : ST0 K X ρ ω m cm s) (hf : X.fok) (he : ω.lookup e = some (.exn cls fl ds)) (hT : ∀ T, fl = some T → ω.lookup T = some (.tbk .none))
    (hQ : ∀ s' T' ω', Noted ω e cls ds T' (rawInt X.env.locals) ω' → ST0 K X ρ ω' m cm s' → Stp X ω s ω' s' → Q () s') : wpAny M X.A (noteFrame (.ref e) X.env) Q E s := by
  obtain ⟨outer, hfr, hloc, hfi⟩ := x.fr hf
  unfold noteFrame
  simp only [hloc]
  clear hfr hfi
  have half : ∀ (ω₁ : Owns) (s₁ : Shared) (head : Value) (hadNext : Bool), ST0 K X ρ ω₁ m cm s₁ → Stp X ω s ω₁ s₁ → ω₁.lookup e = some (.exn cls fl ds) → (∀ a, a ≠ e → (∀ fl, ω.lookup a ≠ some (.tbk fl)) → ω₁.lookup a = ω.lookup a) → (∀ a, (ω.lookup a).isSome = true → (ω₁.lookup a).isSome = true) →
      wpAny M X.A (do let a ← frameOf X.env; let pl ← entryPlaceOf X.env.locals hadNext; let b ← EntryCells.newEntry head a .none (rawInt X.env.locals) .none pl; setField (.ref e) 1 b) Q E s₁ := by
    intro ω₁ s₁ head hadNext x₁ st₁ he₁ hsame hmore
    refine entry_new x₁ hf fun s₃ T' hTn x₃ st₃ => ?_
    · have hne : e ≠ T' := fun q => by rw [← q, he₁] at hTn; cases hTn
      refine exn_field x₃ (by rw [lookup_cons_ne hne]; exact he₁) fun s₄ x₄ st₄ => ?_
      refine hQ _ T' _ ⟨lookup_cons_eq, ?_, hne, ?_, fun a q q' z => ?_⟩ x₄ ((st₁.trans st₃).trans st₄)
      · rw [lookup_cons_ne hne.symm, lookup_cons_eq]
      · cases q : ω.lookup T' with
        | none => rfl
        | some o => have := hmore T' (by rw [q]; rfl); rw [hTn] at this; cases this
      · rw [lookup_cons_ne q, lookup_cons_ne q']
        exact hsame a q z
  refine x.exnAt he fun oe vs t xs e1 e2 e3 e4 e5 e6 e7 e8 => ?_
  refine wpAny_bind (wpAny_field e1 e3 e5 ?_)
  clear e1 e2 e3 e4 e5 e6 e7 e8
  cases fl with
  | none =>
    show wpAny _ _ (if (Value.none != Value.none) = true then _ else _) _ _ _
    rw [if_neg (by decide)]
    exact half ω s .none (Value.none != Value.none) x (Stp.refl _ _ _) he (fun _ _ _ => rfl) fun _ h => h
  | some T =>
    show wpAny _ _ (if (Value.ref T != Value.none) = true then _ else _) _ _ _
    rw [if_pos (by simp)]
    have hT' := hT T rfl
    obtain ⟨oT, ts, a1, a2, a3⟩ := x.own T _ hT'
    refine wpAny_bind (wpAny_field a1 a2 a3 ?_)
    rw [if_neg (show ¬ ((Value.none == rawInt X.env.locals) = true) from by simp [rawInt])]
    refine wpAny_bind (tbk_set (fl' := .none) x hT' fun s₁ x₁ st₁ => ?_)
    have hne : e ≠ T := fun q => by rw [q, hT'] at he; cases he
    exact half _ _ (.ref T) _ x₁ st₁ (by rw [lookup_cons_ne hne]; exact he) (fun a _ q => lookup_cons_ne fun z => q .none (z ▸ hT')) fun a q => by
      by_cases h : a = T
      · rw [h, lookup_cons_eq]; rfl
      · rw [lookup_cons_ne h]; exact q
theorem flight_own {M : Model} {A : Around} {E : Value → Shared → Prop} {e T : Addr} {cls : String} {ds : List D} {fl : Value} {Q : Unit → Shared → Prop} (x : ST0 K X ρ ω m cm s) (he : ω.lookup e = some (.exn cls (some T) ds)) (hT : ω.lookup T = some (.tbk fl)) (fr : Option Addr)
    (hQ : ∀ s', ST0 K X ρ ((T, .tbk (fr.elim .none fun f => rawInt f)) :: ω) m cm s' → Stp X ω s ((T, .tbk (fr.elim .none fun f => rawInt f)) :: ω) s' → Q () s') : wpAny M A (setFlight (.ref e) fr) Q E s := by
  refine x.exnAt he fun oe vs t xs e1 e2 e3 e4 e5 e6 e7 e8 => ?_
  unfold setFlight
  refine wpAny_bind (wpAny_field e1 e3 e5 ?_)
  show wpAny _ _ (if (Value.ref T != Value.none) = true then _ else _) _ _ _
  rw [if_pos (by simp)]
  exact tbk_set x hT hQ
theorem leave_own {M : Model} {E : Value → Shared → Prop} {e : Addr} {cls : String} {fl : Option Addr} {ds : List D} {Q : Unit → Shared → Prop} (x : ST0 K X ρ ω m cm s) (hf : X.fok) (he : ω.lookup e = some (.exn cls fl ds)) (hT : ∀ T, fl = some T → ω.lookup T = some (.tbk .none))
    (hQ : ∀ s' T' ω', Noted ω e cls ds T' .none ω' → ST0 K X ρ ω' m cm s' → Stp X ω s ω' s' → Q () s') : wpAny M X.A (leaving X.env (.ref e)) Q E s := by
  unfold leaving
  refine wpAny_bind (note_own x hf he hT fun h₁ T' ω₁ N x₁ st₁ => ?_)
  refine flight_own x₁ N.1 N.2.1 none fun h₂ x₂ st₂ => hQ h₂ T' _ ⟨?_, lookup_cons_eq, N.2.2.1, N.2.2.2.1, fun a q q' z => ?_⟩ x₂ (st₁.trans st₂)
  · rw [lookup_cons_ne N.2.2.1]; exact N.1
  · rw [lookup_cons_ne q']; exact N.2.2.2.2 a q q' z
end
end Lw
end

section
open PySem PySem.W PyProof.Rows PySem.Calls
namespace Lw
theorem cellsFrom_mem : ∀ (names : List (Str × NameKind)) (n : Nat) (acc : List (Str × Addr)) (x : Str), ((x, NameKind.cell) ∈ names ∨ ∃ c, acc.lookup x = some c) → ∃ c, (cellsFrom n names acc).lookup x = some c
  | [], _, _, _, h => h.elim (fun h => nomatch h) id
  | (y, k) :: r, n, acc, x, h => by
    unfold cellsFrom
    by_cases hk : (k == NameKind.cell) = true
    · rw [if_pos hk]
      refine cellsFrom_mem r _ _ x ?_
      rcases h with h | ⟨c, h⟩
      · rcases List.mem_cons.mp h with h | h
        · cases h; exact .inr ⟨n, lookup_cons_eq⟩
        · exact .inl h
      · by_cases hx : x = y
        · subst hx; exact .inr ⟨n, lookup_cons_eq⟩
        · exact .inr ⟨c, (lookup_cons_ne hx).trans h⟩
    · rw [if_neg hk]
      refine cellsFrom_mem r _ _ x ?_
      rcases h with h | h
      · rcases List.mem_cons.mp h with h | h
        · cases h; exact absurd rfl hk
        · exact .inl h
      · exact .inr h

theorem binds_val {kd : Str → Option NameKind} : ∀ (binds : List (Str × Value)) (m cm : Str → Option Value) (x : Str) (v : Value), (binds.map (·.1)).Nodup → (x, v) ∈ binds →
    (kd x = some .local → bindL kd binds m x = some v) ∧ (kd x ≠ some .local → bindC kd binds cm x = some v) := by
  have keepL : ∀ (binds : List (Str × Value)) (m : Str → Option Value) (x : Str), x ∉ binds.map (·.1) → bindL kd binds m x = m x := by
    intro binds
    induction binds with
    | nil => intro m x _; rfl
    | cons p r ih =>
      intro m x hx
      obtain ⟨y, u⟩ := p
      simp only [List.map_cons, List.mem_cons, not_or] at hx
      unfold bindL
      rw [ih _ _ hx.2]
      split
      · exact if_neg hx.1
      · rfl
  have keepC : ∀ (binds : List (Str × Value)) (m : Str → Option Value) (x : Str), x ∉ binds.map (·.1) → bindC kd binds m x = m x := by
    intro binds
    induction binds with
    | nil => intro m x _; rfl
    | cons p r ih =>
      intro m x hx
      obtain ⟨y, u⟩ := p
      simp only [List.map_cons, List.mem_cons, not_or] at hx
      unfold bindC
      rw [ih _ _ hx.2]
      split
      · rfl
      · exact if_neg hx.1
  intro binds
  induction binds with
  | nil => intro m cm x v _ h; cases h
  | cons p r ih =>
    intro m cm x v hnd h
    obtain ⟨y, u⟩ := p
    simp only [List.map_cons, List.nodup_cons] at hnd
    rcases List.mem_cons.mp h with h | h
    · cases h
      refine ⟨fun hk => ?_, fun hk => ?_⟩
      · unfold bindL
        rw [keepL _ _ _ hnd.1, if_pos hk]
        exact if_pos rfl
      · unfold bindC
        rw [keepC _ _ _ hnd.1, if_neg hk]
        exact if_pos rfl
    · unfold bindL bindC
      exact ih _ _ x v hnd.2 h

theorem zip_lookup {β γ : Type} : ∀ {xs : List Str} {ds : List β} {vs : List γ} {x : Str} {d : β}, vs.length = ds.length → (xs.zip ds).lookup x = some d → ∃ (i : Nat) (v : γ), ds[i]? = some d ∧ vs[i]? = some v ∧ (x, v) ∈ xs.zip vs
  | [], _, _, _, _, _, h => by simp at h
  | _ :: _, [], _, _, _, _, h => by simp at h
  | y :: xs, e :: ds, [], _, _, hl, _ => by simp at hl
  | y :: xs, e :: ds, v :: vs, x, d, hl, h => by
    rw [List.zip_cons_cons] at h
    by_cases hx : x = y
    · subst hx
      rw [lookup_cons_eq] at h
      cases h
      exact ⟨0, v, rfl, rfl, by simp⟩
    · rw [lookup_cons_ne hx] at h
      obtain ⟨i, u, a, b, c⟩ := zip_lookup (by simpa using hl) h
      exact ⟨i + 1, u, by simpa using a, by simpa using b, by rw [List.zip_cons_cons]; exact List.mem_cons_of_mem _ c⟩

section
variable {n : Nat}
structure FnOk (K : Frag) (fa : Addr) (fd : FuncData) (body : List Stmt) : Prop where
  at_ : ∃ fo, K.lookup fa = some fo ∧ fo.data = .func fd
  body : fd.body = .stmts body
  clo : fd.closure = []
  gl : fd.globals = mainGlobals
  bl : fd.builtins = builtinsNs
  kind : fd.scope.kind = .function
  nofree : ∀ p ∈ fd.scope.names, p.2 ≠ .free
  co : fd.scope.isCoroutine = false
  gen : fd.scope.isGenerator = false
  code : ∃ c co vs t, fd.code = .ref c ∧ K.lookup c = some co ∧ co.data = .fields vs ∧ vs[1]? = some (.str fd.qualname t)

theorem Rm.deeper {A : Around} (rm : Rm (n + 1) A) (env : Env) : Rm n (A.deeper env) where
  hd := rm.hd
  depth := by have := rm.depth; show A.depth + 1 + 10 * n ≤ 800; lia
  units := by have := rm.units; show A.units + 3 + 100 * n ≤ 9000; lia

noncomputable def KwOk (U : Addr → Prop) (h : Heap) (kw : List (Str × Value)) (kds : List (Str × D)) : Prop := kw.map (·.1) = kds.map (·.1) ∧ RL U h (kw.map (·.2)) (kds.map (·.2))
theorem KwOk.nil {U : Addr → Prop} {h : Heap} : KwOk U h [] [] := ⟨rfl, rfl⟩
noncomputable def UW (U : Addr → Prop) (ω : Owns) (a : Addr) : Prop := U a ∨ (ω.lookup a).isSome = true
structure Back (K : Frag) (U S : Addr → Prop) (ω : Owns) (s : Shared) (ω' : Owns) (s' : Shared) : Prop where
  same : ∃ h tk, s' = { s with heap := h, toks := tk }
  keep : ∀ b o, (ω.lookup b).isSome = false → ¬ S b → s.heap.get? b = some o → s'.heap.get? b = some o
  slots : ∀ b o, S b → s.heap.get? b = some o → ∃ sl, s'.heap.get? b = some { o with slots := sl }
  le : s.toks ≤ s'.toks
  sz : s.heap.objs.size ≤ s'.heap.objs.size
  hok : HOK K U s'
  own : ∀ a o, ω'.lookup a = some o → OwAt (UW U ω') s'.heap a o
  org : ∀ a, (ω'.lookup a).isSome = true → (ω.lookup a).isSome = true ∨ s.heap.objs.size ≤ a
structure In0 (K : Frag) (U S : Addr → Prop) (ω : Owns) (s : Shared) : Prop where
  ok : HOK K U s
  own : ∀ a o, ω.lookup a = some o → OwAt U s.heap a o
  wu : ∀ a, (ω.lookup a).isSome = true → U a ∧ Loose K a ∧ ¬ S a
  su : ∀ a, S a → U a ∧ Loose K a
noncomputable def CallM (prog : Program) (w : World) (K : Frag) (bx : Bool) (f : Value) (n : Nat) (ω : Owns) (ds : List D) (kds : List (Str × D)) (Q : Res → Prop) : Prop :=
  ∀ A U S s vs kw, Rm n A → In0 K U S ω s → (bx = true → ∃ outer, A.frames = some outer ∧ FramesIn S outer s.heap) → RL U s.heap vs ds → KwOk U s.heap kw kds →
    wpAny (model prog w) A (call f vs kw) (fun v s' => ∃ d ω', Q (.val d ω') ∧ Back K U S ω s ω' s' ∧ R (UW U ω') s'.heap v d) (fun e s' => ∃ d ω', Q (.exc d ω') ∧ Back K U S ω s ω' s' ∧ R (UW U ω') s'.heap e d) s
noncomputable def CallC (prog : Program) (w : World) (K : Frag) (bx : Bool) (f : Value) (n : Nat) (ω : Owns) (ds : List D) (kds : List (Str × D)) (Q : Res → Prop) : Prop :=
  ∀ A U S s vs kw, Rm n A → In0 K U S ω s → (bx = true → ∃ outer, A.frames = some outer ∧ FramesIn S outer s.heap) → RL U s.heap vs ds → KwOk U s.heap kw kds →
    codeAny (model prog w) A (.call f ⟨vs, kw⟩) (fun r s' => match r with | .ok (.ret v) => ∃ d ω', Q (.val d ω') ∧ Back K U S ω s ω' s' ∧ R (UW U ω') s'.heap v d | .ok _ => False | .error e => ∃ d ω', Q (.exc d ω') ∧ Back K U S ω s ω' s' ∧ R (UW U ω') s'.heap e d) s
theorem callM_of {bx : Bool} {f : Value} {n : Nat} {ω : Owns} {ds : List D} {kds : List (Str × D)} {Q : Res → Prop} (h : CallC prog w K bx f n ω ds kds Q) : CallM prog w K bx f n ω ds kds Q := fun A U S s vs kw rm i0 hfr rl kwl =>
  wpAny_call (h A U S s vs kw rm i0 hfr rl kwl)
noncomputable def BindG (prog : Program) (w : World) (K : Frag) (fd : FuncData) (ds : List D) (kds : List (Str × D)) (xs : List Str) (bs : List D) : Prop :=
  ∀ A U s vs kw, HOK K U s → RL U s.heap vs ds → KwOk U s.heap kw kds →
    wpAny (model prog w) A (bindArgs fd ⟨vs, kw⟩) (fun binds s' => Gr s s' ∧ binds.map (·.1) = xs ∧ RL U s'.heap (binds.map (·.2)) bs) (fun _ _ => False) s
theorem bind_pos {fd : FuncData} {ds : List D} {xs : List Str} (hb : ∀ vs : List Value, vs.length = ds.length → bindArgs fd ⟨vs, []⟩ = pure (xs.zip vs)) (hx : xs.length = ds.length) : BindG prog w K fd ds [] xs ds := fun A U s vs kw ok r k => by
  have : kw = [] := List.map_eq_nil_iff.mp k.1
  subst this
  rw [hb vs r.length]
  refine wpAny_pure ⟨Gr.refl s, List.map_fst_zip (by rw [hx, r.length]; exact Nat.le_refl _), ?_⟩
  rw [List.map_snd_zip (by rw [hx, r.length]; exact Nat.le_refl _)]
  exact r
theorem zip_map {β : Type} : ∀ (l : List (Str × β)), (l.map (·.1)).zip (l.map (·.2)) = l
  | [] => rfl
  | (_, _) :: l => by simp [zip_map l]
noncomputable def Ret (bx : Bool) (Q : Res → Prop) : Out → Prop
  | .next _ ω => Q (.val .none ω)
  | .brk _ _ => False
  | .ret d ω => Q (.val d ω)
  | .exc d _ ω => bx = true ∧ ∃ e cls fl ds, d = .val (.ref e) ∧ ω.lookup e = some (.exn cls fl ds) ∧ (∀ T, fl = some T → ω.lookup T = some (.tbk .none)) ∧ ∀ T' ω', Noted ω e cls ds T' .none ω' → Q (.exc d ω')

theorem keys_iff {β : Type} : ∀ {ω : List (Addr × β)} {a : Addr}, (ω.lookup a).isSome = true ↔ a ∈ ω.map (·.1)
  | [], a => by simp
  | (b, o) :: ω, a => by
    by_cases h : a = b
    · subst h; rw [lookup_cons_eq]; simp
    · rw [lookup_cons_ne h, keys_iff]; simp [h]
theorem call_fnC {bx : Bool} {fa : Addr} {fd : FuncData} {body : List Stmt} {xs : List Str} {ds bs : List D} {kds : List (Str × D)} {ω : Owns} {Q : Res → Prop} (F : FnOk K fa fd body)
    (hb : BindG prog w K fd ds kds xs bs) (hnd : xs.Nodup) (hkind : ∀ x ∈ xs, KindOk fd.scope x)
    (h : EX prog w K ⟨bx, ω.map (·.1)⟩ fd.scope n body (xs.zip bs) ω (Ret bx Q)) : CallC prog w K bx (.ref fa) (n + 1) ω ds kds Q := fun A U S s vs kw rm i0 hfr rl kwl => by
  have ok := i0.ok
  obtain ⟨fo, hfo, hfd⟩ := F.at_
  obtain ⟨c, co, cvs, t, hc, hco, hcd, hq⟩ := F.code
  have hcells : ∀ n x, fd.scope.names.lookup x = some .cell → ∃ c, (cellsFrom n fd.scope.names []).lookup x = some c := fun n x e => cellsFrom_mem _ _ _ _ (.inl (mem_of_lookup e))
  refine codeAny_call_function rm.room (ok.top _ _ hfo) hfd F.co F.gen F.body ⟨c, co, cvs, t, hc, ok.top _ _ hco, hcd, hq⟩ ?_
  rw [F.clo]
  refine wp_E (hb _ U s vs kw ok rl kwl) fun binds s₀ hz48 => ?_
  obtain ⟨g₀, hxs, rb⟩ := hz48
  have ok₀ := ok.gr g₀
  have hmem : ∀ p ∈ binds, KindOk fd.scope p.1 := fun p hp => hkind _ (hxs ▸ List.mem_map_of_mem (f := (·.1)) hp)
  refine wpAny_with_toks (Nat.le_refl _) (wpAny_newFunctionEnv_cells F.kind
    (fun p hp => (hmem p hp).imp id fun e => ⟨e, by obtain ⟨c, hc⟩ := hcells (s₀.heap.objs.size + 1) p.1 e; rw [hc]; rfl⟩) fun env he s₁ inC le => ?_)
  have hsc : env.scope = fd.scope := by rw [he]; rfl
  have hcl : ∀ x, env.kindOf x = some .cell → ∃ c, env.cells.lookup x = some c := fun x e => by
    have e' : fd.scope.names.lookup x = some .cell := by rw [← hsc]; exact e
    obtain ⟨c, hc⟩ := hcells (s₀.heap.objs.size + 1) x e'
    exact ⟨c, by rw [he]; exact hc⟩
  refine ⟨ok₀.lim.keeps inC.toInCall.keep, codeAny_func ?_⟩
  have hnew : ∀ a, (a = env.locals ∨ ∃ x, env.cells.lookup x = some a) → s₀.heap.objs.size ≤ a := fun a ha => by
    rcases ha with rfl | ⟨x, hx⟩
    · exact inC.toInCall.fresh
    · exact Nat.le_trans inC.toInCall.fresh (Nat.le_of_lt (inC.above x a (mem_of_lookup hx)))
  have hown : ∀ x, KindOk fd.scope x → env.kindOf x = some .local ∨ (env.kindOf x = some .cell ∧ ∃ c, env.cells.lookup x = some c) := fun x hx => by
    rcases hx with e | e
    · exact .inl (by show env.scope.names.lookup x = _; rw [hsc]; exact e)
    · have e' : env.kindOf x = some .cell := by
        show env.scope.names.lookup x = _
        rw [hsc]; exact e
      exact .inr ⟨e', hcl x e'⟩
  let X : FX := { env := env, A := A.deeper env, base := s₀, U := U, oc := env.cells, ownk := KindOk fd.scope, W := fun a => (ω.lookup a).isSome = true, S := S, fok := bx = true }
  have g₁ : Gr s₀ s₁ := by
    obtain ⟨h, tk, e⟩ := inC.toInCall.same
    have hk := inC.toInCall.keep
    have hz := Nat.le_trans inC.toInCall.fresh (Nat.le_of_lt inC.toInCall.ns.lt)
    subst e
    exact ⟨⟨h, tk, rfl, hk⟩, le, hz⟩
  have hsome := i0.wu
  have hUn : ∀ a, Wn X ω a → U a ∨ s₀.heap.get? a = none := fun a q => by
    rcases q with q | q | q | q | q
    · exact .inl q
    · exact .inl (hsome a q).1
    · exact .inr (fresh_none' (hnew a (.inl q)))
    · exact .inr (fresh_none' (hnew a (.inr q)))
    · exact q.elim
  have hst : ∃ m cm, ST0 K X (xs.zip bs) ω m cm s₁ := by
    refine ⟨_, _, ⟨inC.toInCall.same, inC.toInCall.ns, fun b o _ _ e => inC.toInCall.keep b o e, fun b o _ e => ⟨o.slots, inC.toInCall.keep b o e⟩, inC.toInCall.fresh, inC.cell, inC.apart, inC.above, fun _ _ e => e⟩, ok₀, ok₀.gr g₁, le, ?_, ?_, ?_, fun x hx => hx.elim (hcl x) (fun e => absurd rfl (F.nofree _ (mem_of_lookup (show fd.scope.names.lookup x = some .free by rw [← hsc]; exact e)))), hown, fun x d' e hy => ?_,
      fun a o e => ?_, fun a q => ⟨.inr q, fun f => ?_, id⟩, fun _ q => q.elim, fun _ q => q.elim, hsome, i0.su, fun f => ?_⟩
    · show env.scope.kind = .function
      rw [hsc, F.kind]
    · show env.globals = mainGlobals
      rw [he]; exact F.gl
    · show env.builtins = builtinsNs
      rw [he]; exact F.bl
    · rw [← hxs] at e
      obtain ⟨i, v, e1, e2, hmemv⟩ := zip_lookup rb.length e
      obtain ⟨v', e3, r⟩ := rb.get e1
      rw [e2] at e3
      cases e3
      rw [zip_map] at hmemv
      have bv := binds_val (kd := env.kindOf) binds (fun _ => none) (fun _ => none) x v (hxs ▸ hnd) hmemv
      refine ⟨v, ?_, R.mono hUn (fun b o _ e => inC.toInCall.keep b o e) _ r⟩
      have hk : KindOk fd.scope x := hmem (x, v) hmemv
      rcases hk with hk | hk
      · have hk' : env.kindOf x = some .local := by show env.scope.names.lookup x = _; rw [hsc]; exact hk
        exact .inl (.inl ⟨hk', bv.1 hk'⟩)
      · have hk' : env.kindOf x = some .cell := by show env.scope.names.lookup x = _; rw [hsc]; exact hk
        exact .inl (.inr ⟨hk', hcl x hk', bv.2 (by rw [hk']; decide)⟩)
    · exact (((i0.own a o e).mono (fun _ q => .inl q) (fun b o _ e => g₀.keep b o e) fun o e => g₀.keep _ o e).mono hUn (fun b o _ e => g₁.keep b o e) fun o e => g₁.keep _ o e)
    · have l1 := hnew a f
      have l2 := ok.lt a (hsome a q).1
      exact absurd (Nat.lt_of_lt_of_le l2 g₀.sz) (Nat.not_lt.mpr l1)
    · obtain ⟨outer, a, b⟩ := hfr f
      exact ⟨outer, Around.frames_deeper a, by show env.frame = some env.locals; rw [he]; rfl, b.at fun b o _ e => g₁.keep b o (g₀.keep b o e)⟩
  obtain ⟨m₀, cm₀, hst⟩ := hst
  have fin : ∀ {ρ' ω' s'}, FinAt K X ω s₁ ρ' ω' s' → Back K U S ω s ω' s' ∧ (∀ a, UW U ω' a → Wn X ω' a) := fun {ρ' ω' s'} hz51 => by
    obtain ⟨⟨m, cm, x⟩, st⟩ := hz51
    have hUW : ∀ a, UW U ω' a → Wn X ω' a := fun a q => q.imp id .inl
    refine ⟨⟨?_, fun b o n q e => x.inC.keep b o (by show ¬ (ω.lookup b).isSome = true; rw [n]; decide) q (g₀.keep b o e), fun b o q e => x.inC.slots b o q (g₀.keep b o e), Nat.le_trans g₀.le x.le, Nat.le_trans g₀.sz x.sz, x.hokS, fun a o e => (x.own a o e).mono (fun c q => .inl (hUW c q)) (fun _ _ _ e => e) fun _ e => e, fun a q => ?_⟩, hUW⟩
    · obtain ⟨h₁, t₁, e₁⟩ := x.inC.same
      obtain ⟨⟨h₀, t₀, e₀, _⟩, _, _⟩ := g₀
      exact ⟨h₁, t₁, by rw [e₁]; show ({ s₀ with heap := h₁, toks := t₁ } : Shared) = _; rw [e₀]⟩
    · exact (x.ownb a q).1.elim (fun l => .inr (Nat.le_trans g₀.sz l)) .inl
  refine wpAny_mono (h X s₁ m₀ cm₀ ⟨hsc, fun _ h => h, id, fun a => keys_iff⟩ (rm.deeper env) hst) (fun fl s' hz49 => ?_) fun e s' hz50 => ?_
  · obtain ⟨o, p, e⟩ := hz49
    cases o with
    | next ρ' ω' =>
      obtain ⟨rfl, f⟩ := e
      exact ⟨.none, ω', p, (fin f).1, rfl⟩
    | brk _ _ => exact p.elim
    | ret d ω' =>
      obtain ⟨v, rfl, f, r⟩ := e
      exact ⟨d, ω', p, (fin f).1, R.mono (fun a q => .inl ((fin f).2 a q)) (fun _ _ _ e => e) _ r⟩
    | exc _ _ _ => exact e.elim
  · obtain ⟨o, p, y⟩ := hz50
    cases o with
    | exc d ρ' ω' =>
      obtain ⟨⟨⟨m, cm, x⟩, st⟩, r⟩ := y
      obtain ⟨hbx, e', cls, fl, ds', rfl, he', hT, hQ⟩ := p
      cases r
      refine leave_own x hbx he' hT fun h₂ T' ω₂ N x₂ st₂ => ?_
      exact ⟨.val (.ref e'), ω₂, hQ T' ω₂ N, (fin ⟨⟨m, cm, x₂⟩, st.trans st₂⟩).1, rfl⟩
    | _ => exact y.elim
theorem call_fnM {bx : Bool} {fa : Addr} {fd : FuncData} {body : List Stmt} {xs : List Str} {ds bs : List D} {kds : List (Str × D)} {ω : Owns} {Q : Res → Prop} (F : FnOk K fa fd body)
    (hb : BindG prog w K fd ds kds xs bs) (hnd : xs.Nodup) (hkind : ∀ x ∈ xs, KindOk fd.scope x)
    (h : EX prog w K ⟨bx, ω.map (·.1)⟩ fd.scope n body (xs.zip bs) ω (Ret bx Q)) : CallM prog w K bx (.ref fa) (n + 1) ω ds kds Q := callM_of (call_fnC F hb hnd hkind h)
theorem Back.gr {U : Addr → Prop} {s s' : Shared} {ω' : Owns} (x : Back K U (fun _ => False) [] s ω' s') : Gr s s' := by
  have hk := x.keep
  have l := x.le
  have z := x.sz
  obtain ⟨h, t, rfl⟩ := x.same
  exact ⟨⟨h, t, rfl, fun b o e => hk b o rfl id e⟩, l, z⟩
theorem callG_of {f : Value} {ds : List D} {d : D} (h : CallM prog w K false f n [] ds [] fun r => ∃ ω, r = .val d ω) : CallG prog w K f n ds d := fun A U s vs rm ok rl =>
  wpAny_mono (h A U (fun _ => False) s vs [] rm ⟨ok, fun _ _ e => (by cases e), fun _ e => (by cases e), fun _ e => e.elim⟩ (fun e => by cases e) rl KwOk.nil) (fun v s' hz52 => by
    obtain ⟨d', ω', ⟨ω'', e⟩, b, r⟩ := hz52
    cases e
    exact ⟨b.gr, R.mono (fun _ q => .inl (.inl q)) (fun _ _ _ e => e) _ r⟩) fun e s' hz53 => by obtain ⟨_, _, ⟨_, q⟩, _⟩ := hz53; cases q
theorem call_fn {fa : Addr} {fd : FuncData} {body : List Stmt} {xs : List Str} {ds : List D} {d : D} (F : FnOk K fa fd body)
    (hb : ∀ vs : List Value, vs.length = ds.length → bindArgs fd ⟨vs, []⟩ = pure (xs.zip vs)) (hx : xs.length = ds.length) (hnd : xs.Nodup)
    (hkind : ∀ x ∈ xs, KindOk fd.scope x)
    (h : EX prog w K ⟨false, []⟩ fd.scope n body (xs.zip ds) [] (Ret false fun r => ∃ ω, r = .val d ω)) : CallG prog w K (.ref fa) (n + 1) ds d :=
  callG_of (call_fnM F (bind_pos hb hx) hnd hkind h)
end
end Lw
end

section
open PySem PySem.W PyProof.Rows PySem.Calls
namespace Lw
noncomputable def Sub (ρ' ρ : Vars) : Prop := ∀ x d, ρ'.lookup x = some d → ρ.lookup x = some d
noncomputable def SubO (ω' ω : Owns) : Prop := ∀ a o, ω'.lookup a = some o → ω.lookup a = some o
theorem Sub.refl (ρ : Vars) : Sub ρ ρ := fun _ _ e => e
theorem SubO.refl (ω : Owns) : SubO ω ω := fun _ _ e => e
theorem SubO.some {ω' ω : Owns} (h : SubO ω' ω) {a : Addr} (q : (ω'.lookup a).isSome = true) : (ω.lookup a).isSome = true := by
  obtain ⟨ds, e⟩ := Option.isSome_iff_exists.mp q
  rw [h a ds e]; rfl
theorem Sub.cons {ρ : Vars} {x : Str} {d : D} (h : ρ.lookup x = none) : Sub ρ ((x, d) :: ρ) := fun y e hy => by
  by_cases hx : y = x
  · rw [hx, h] at hy; cases hy
  · rw [lookup_cons_ne hx]; exact hy

section
variable {K : Frag} {X : FX} {ρ ρ' : Vars} {ω ω' : Owns} {m cm : Str → Option Value} {s : Shared}
theorem ST0.subO (x : ST0 K X ρ ω m cm s) (h : Sub ρ' ρ) (ho : SubO ω' ω) : ST0 K X ρ' ω' m cm s := by
  have hw : ∀ a, Wn X ω' a → Wn X ω a := fun a q => q.imp id (Or.imp ho.some id)
  exact { x with
    vars := fun y d e hy => let ⟨v, b, r⟩ := x.vars y d (h y d e) hy; ⟨v, b, R.mono (fun a q => .inl (hw a q)) (fun _ _ _ e => e) _ r⟩,
    own := fun a o e => (x.own a o (ho a o e)).mono (fun a q => .inl (hw a q)) (fun _ _ _ e => e) fun _ e => e,
    ownb := fun a q => x.ownb a (ho.some q) }
noncomputable def FX.more (X : FX) (B : Addr → Prop) : FX := { X with V := fun a => X.V a ∨ B a }
theorem Wn.more {B : Addr → Prop} {a : Addr} : Wn (X.more B) ω a ↔ Wn X ω a ∨ B a := by
  constructor
  · rintro (q | q | q | q | q | q)
    · exact .inl (.inl q)
    · exact .inl (.inr (.inl q))
    · exact .inl (.inr (.inr (.inl q)))
    · exact .inl (.inr (.inr (.inr (.inl q))))
    · exact .inl (.inr (.inr (.inr (.inr q))))
    · exact .inr q
  · rintro ((q | q | q | q | q) | q)
    · exact .inl q
    · exact .inr (.inl q)
    · exact .inr (.inr (.inl q))
    · exact .inr (.inr (.inr (.inl q)))
    · exact .inr (.inr (.inr (.inr (.inl q))))
    · exact .inr (.inr (.inr (.inr (.inr q))))
theorem FX.Is.more {B : Addr → Prop} {bx : Fl} {sc : Scope} (x : X.Is bx sc) : (X.more B).Is bx sc := ⟨x.sco, x.ow, x.fk, x.wk⟩
theorem ST0.enter {B : Addr → Prop} (x : ST0 K X ρ ω m cm s) {s' : Shared} (g : Gr s s') (hB : ∀ b, B b → s.heap.objs.size ≤ b ∧ b < s'.heap.objs.size) : ST0 K (X.more B) ρ ω m cm s' := by
  have y := x.after g
  have hw : ∀ a, Wn (X.more B) ω a → Wn X ω a ∨ s.heap.get? a = none := fun a q => (Wn.more.mp q).imp id fun q => fresh_none' (hB a q).1
  exact {
    inC := y.inC, hok := y.hok, hokS := y.hokS, le := y.le, fn := y.fn, gl := y.gl, bl := y.bl, ce := y.ce, cl := y.cl,
    vars := fun z d e hz => let ⟨v, b, r⟩ := x.vars z d e hz; ⟨v, b, R.mono hw (fun b o _ e => g.keep b o e) _ r⟩,
    own := fun a o e => (x.own a o e).mono hw (fun b o _ e => g.keep b o e) fun o e => g.keep _ o e,
    ownb := fun a q => ⟨(x.ownb a q).1, (x.ownb a q).2.1, fun f => f.elim (x.ownb a q).2.2 fun f => by
      obtain ⟨o, e⟩ := Option.isSome_iff_exists.mp q
      exact absurd (hB a f).1 (Nat.not_le.mpr (x.own a o e).lt)⟩,
    vlt := fun a q => q.elim (fun q => y.vlt a q) fun q => (hB a q).2,
    vb := fun a q => q.elim (fun q => y.vb a q) fun q => ⟨Nat.le_trans x.sz (hB a q).1, fun e => absurd (hB a q).1 (by rw [e]; exact Nat.not_le.mpr x.inC.ns.lt), fun z e => absurd (hB a q).1 (Nat.not_le.mpr (x.inC.cell z a e).lt)⟩,
    wu := y.wu, su := y.su, fr := y.fr }
theorem ST0.leave {B : Addr → Prop} (x : ST0 K (X.more B) ρ ω m cm s) : ST0 K X ρ ω m cm s := by
  have hw : ∀ a, Wn X ω a → Wn (X.more B) ω a := fun a q => Wn.more.mpr (.inl q)
  exact {
    inC := x.inC, hok := x.hok, hokS := x.hokS, le := x.le, fn := x.fn, gl := x.gl, bl := x.bl, ce := x.ce, cl := x.cl,
    vars := fun z d e hz => let ⟨v, b, r⟩ := x.vars z d e hz; ⟨v, b, R.mono (fun a q => .inl (hw a q)) (fun _ _ _ e => e) _ r⟩,
    own := fun a o e => (x.own a o e).mono (fun a q => .inl (hw a q)) (fun _ _ _ e => e) fun _ e => e,
    ownb := fun a q => ⟨(x.ownb a q).1, (x.ownb a q).2.1, fun f => (x.ownb a q).2.2 (.inl f)⟩,
    vlt := fun a q => x.vlt a (.inl q),
    vb := fun a q => x.vb a (.inl q),
    wu := x.wu, su := x.su, fr := x.fr }
theorem Stp.leave {B : Addr → Prop} {s' : Shared} (x : Stp (X.more B) ω s ω' s') : Stp X ω s ω' s' := ⟨x.kp, x.org, x.sz, x.tk⟩
theorem ST0.step {wr : List Addr} (x : ST0 K X ρ ω m cm s) {h' : Heap} {tk : Nat} (hk : ∀ b o, b ∉ wr → s.heap.get? b = some o → h'.get? b = some o) (htk : s.toks ≤ tk) (hw : ∀ b ∈ wr, X.V b)
    (hz : s.heap.objs.size ≤ h'.objs.size) : ST0 K X ρ ω m cm { s with heap := h', toks := tk } := by
  have up : ∀ b o, ¬ Wn X ω b → s.heap.get? b = some o → h'.get? b = some o := fun b o q e => hk b o (fun z => q (.inr (.inr (.inr (.inr (hw b z)))))) e
  have inC := x.inC
  have hb : ∀ b ∈ wr, X.base.heap.get? b = none := fun b z => fresh_none' (x.vb b (hw b z)).1
  have hS : ∀ b, X.S b → b ∉ wr := fun b q z => absurd (x.slt q) (Nat.not_lt.mpr (x.vb b (hw b z)).1)
  exact { inC := ⟨by obtain ⟨h₀, t₀, e⟩ := inC.same; exact ⟨h', tk, by rw [e]⟩, inC.ns.at' fun o e => hk _ o (fun z => (x.vb _ (hw _ z)).2.1 rfl) e, fun b o w q e => hk b o (fun z => by rw [hb b z] at e; cases e) (inC.keep b o w q e),
            fun b o q e => (let ⟨sl, z⟩ := inC.slots b o q e; ⟨sl, hk _ _ (hS b q) z⟩), inC.fresh,
            fun y c e => (let ⟨o, eo, ed⟩ := inC.cell y c e; ⟨o, hk c o (fun z => (x.vb _ (hw _ z)).2.2 y e) eo, ed⟩), inC.apart, inC.above, inC.look⟩
          hok := x.hok
          hokS := x.hokS.chg (fun b o q e => hk b o (fun z => q (loose_new x.hok (x.vb b (hw b z)).1)) e) hz htk
          le := Nat.le_trans x.le htk, fn := x.fn, gl := x.gl, bl := x.bl, ce := x.ce, cl := x.cl,
          vars := fun z d e hz => let ⟨v, b, r⟩ := x.vars z d e hz; ⟨v, b, R.mono (fun _ q => .inl q) up _ r⟩,
          own := fun a o e => (x.own a o e).mono (fun _ q => .inl q) up fun o' e' => hk a o' (fun q => (x.ownb a (by rw [e]; rfl)).2.2 (hw a q)) e',
          ownb := x.ownb,
          vlt := fun a q => Nat.lt_of_lt_of_le (x.vlt a q) hz,
          vb := x.vb, wu := x.wu, su := x.su, fr := fun f => (x.fr f).at fun b o q e => hk b o (hS b q) e }
end
end Lw
end

section
open PySem PySem.W PyProof.Rows PySem.Calls
namespace Lw
noncomputable def bindTs : List Expr → List D → Vars → Vars
  | .Name x _ :: es, d :: ds, ρ => bindTs es ds ((x, d) :: ρ)
  | _, _, ρ => ρ
noncomputable def bindT : Expr → D → Vars → Vars
  | .Name x _, d, ρ => (x, d) :: ρ
  | .Tuple es _ _, .tup ds, ρ => bindTs es ds ρ
  | _, _, ρ => ρ
noncomputable def TgtsOk (own : Str → Prop) : List Expr → List D → Prop
  | .Name x _ :: es, _ :: ds => own x ∧ TgtsOk own es ds
  | [], [] => True
  | _, _ => False
noncomputable def TgtOk (own : Str → Prop) : Expr → D → Prop
  | .Name x _, _ => own x
  | .Tuple es _ _, .tup ds => TgtsOk own es ds
  | _, _ => False
noncomputable def RT (U : Addr → Prop) (h : Heap) (v : Value) : Expr → D → Prop
  | .Tuple _ _ _, d => ∃ ds T vals, d = .tup ds ∧ v = .ref T ∧ IsTup h T (List.toArray vals) ∧ RL U h vals ds
  | _, d => R U h v d
theorem wp0 {β : Type} {M : Model} {A : Around} {t : Sem β} {s : Shared} {Q : β → Shared → Prop} (h : wpAny M A t (fun a s' => s.toks ≤ s'.toks → s.heap.objs.size ≤ s'.heap.objs.size → Q a s') (fun _ _ => False) s) : wpAny M A t Q (fun _ _ => False) s :=
  wp_with_sz (Nat.le_refl _) (wpAny_with_toks (Nat.le_refl _) (wpAny_mono h (fun a s' q l z => q l z) fun _ _ q => q.elim))

section
variable {X : FX} {ω : Owns} {A : Around}
noncomputable def AfterBind (K : Frag) (X : FX) (ω : Owns) (ρ' : Vars) (s s' : Shared) : Prop :=
  (∃ m cm, ST0 K X ρ' ω m cm s') ∧ s.toks ≤ s'.toks ∧ s.heap.objs.size ≤ s'.heap.objs.size ∧ (∀ b o, ¬ Frm X b → s.heap.get? b = some o → s'.heap.get? b = some o)
theorem assign_name {ρ : Vars} {m cm : Str → Option Value} {s : Shared} {x : Str} {p : Pos} {v : Value} {d : D} (x0 : ST0 K X ρ ω m cm s) (ho : X.ownk x) (r : R (Wn X ω) s.heap v d) :
    wpAny (model prog w) A (assign (.Name x p) X.env v) (fun _ s' => AfterBind K X ω ((x, d) :: ρ) s s') (fun _ _ => False) s :=
  wp0 (wpAny_assign_Name (st_set x0 (x0.cl x ho) r fun s' st le z hk _ _ => ⟨st, le, z, hk⟩))
theorem assign_names : ∀ (es : List Expr) (ds : List D) (vals : List Value) {ρ : Vars} {m cm : Str → Option Value} {s : Shared}, ST0 K X ρ ω m cm s → TgtsOk X.ownk es ds → RL (Wn X ω) s.heap vals ds →
    wpAny (model prog w) A (assignInOrder ((assignEach es X.env).map (·.2)) vals) (fun _ s' => AfterBind K X ω (bindTs es ds ρ) s s') (fun _ _ => False) s := by
  intro es
  induction es with
  | nil =>
    intro ds vals ρ m cm s x0 ht r
    cases ds with
    | nil => exact wpAny_pure ⟨⟨m, cm, x0⟩, Nat.le_refl _, Nat.le_refl _, fun _ _ _ e => e⟩
    | cons d ds => exact ht.elim
  | cons e es ih =>
    intro ds vals ρ m cm s x0 ht r
    cases e <;> try exact ht.elim
    rename_i x p
    cases ds with
    | nil => exact ht.elim
    | cons d ds =>
      obtain ⟨v, vals', rfl, rv, rl⟩ := r
      show wpAny _ A (assignInOrder ((assign (.Name x p) X.env) :: (assignEach es X.env).map (·.2)) (v :: vals')) _ _ s
      refine wpAny_bind (wpAny_holding (wpAny_mono (assign_name x0 ht.1 rv) (fun _ s₁ hz54 => ?_) fun _ _ q => q))
      obtain ⟨⟨m₁, cm₁, x₁⟩, le, z, hk⟩ := hz54
      refine wpAny_mono (ih ds vals' x₁ ht.2 (RL.mono (fun _ q => .inl q) (fun b o q e => hk b o (fun z => q (frm_wn z)) e) _ rl)) (fun _ s₂ hz55 => ?_) fun _ _ q => q
      obtain ⟨st, le', z', hk'⟩ := hz55
      exact ⟨st, Nat.le_trans le le', Nat.le_trans z z', fun b o q e => hk' b o q (hk b o q e)⟩
theorem tgts_len {own : Str → Prop} : ∀ {es : List Expr} {ds : List D} {env : Env}, TgtsOk own es ds → (assignEach es env).length = ds.length ∧ (assignEach es env).findIdx? (·.1) = none
  | [], [], _, _ => ⟨rfl, rfl⟩
  | [], _ :: _, _, h => h.elim
  | e :: es, [], _, h => by cases e <;> exact h.elim
  | e :: es, d :: ds, env, h => by
    cases e <;> try exact h.elim
    rename_i x p
    have ih := tgts_len (env := env) h.2
    constructor
    · show (assignEach es env).length + 1 = _; rw [ih.1]; rfl
    · show ((false, assign (.Name x p) env) :: assignEach es env).findIdx? (·.1) = none
      rw [List.findIdx?_cons]
      simp [ih.2]
theorem tgt_cases {own : Str → Prop} {t : Expr} {d : D} (h : TgtOk own t d) : (∃ x p, t = .Name x p ∧ own x) ∨ ∃ es k p ds, t = .Tuple es k p ∧ d = .tup ds ∧ TgtsOk own es ds := by
  cases t <;> first
    | exact h.elim
    | exact .inl ⟨_, _, rfl, h⟩
    | skip
  cases d <;> first
    | exact h.elim
    | exact .inr ⟨_, _, _, _, rfl, rfl, h⟩
theorem assign_ok {ρ : Vars} {m cm : Str → Option Value} {s : Shared} {t : Expr} {v : Value} {d : D} (hh : A.handled = none) (x0 : ST0 K X ρ ω m cm s) (ht : TgtOk X.ownk t d) (r : RT (Wn X ω) s.heap v t d) :
    wpAny (model prog w) A (assign t X.env v) (fun _ s' => AfterBind K X ω (bindT t d ρ) s s') (fun _ _ => False) s := by
  rcases tgt_cases ht with ⟨x, p, rfl, _⟩ | ⟨es, k, p, ds, rfl, rfl, ht2⟩
  · exact assign_name x0 ht r
  · obtain ⟨ds', T, vals, e, rfl, htup, rl⟩ := r
    cases e
    have hl := tgts_len (env := X.env) ht
    rw [assign_Tuple]
    refine wpAny_bind (wpAny_standAt ?_)
    unfold unpack
    rw [hl.2, hl.1, show ds.length = (List.toArray vals).size by simp [rl.length]]
    refine wpAny_bind (wpAny_holding (wp0 (unpackItems_tuple hh htup fun h' he le z => ?_)))
    have g : Gr s { s with heap := h' } := Gr.of (t := s.toks) (fun b o e => he b o (Nat.ne_of_lt (Heap.lt_size e)) e) le z
    refine wpAny_mono (assign_names es ds vals (x0.after g) ht (rl.keeps g.keep)) (fun _ s₂ hz56 => ?_) fun _ _ q => q
    obtain ⟨st, le', z', hk⟩ := hz56
    exact ⟨st, Nat.le_trans le le', Nat.le_trans z z', fun b o q e => hk b o q (g.keep b o e)⟩
end
end Lw
end

section
open PySem PySem.W PyProof.Rows PySem.Calls
namespace Lw
theorem TgtsOk.mono {own own' : Str → Prop} (h : ∀ x, own x → own' x) : ∀ {es : List Expr} {ds : List D}, TgtsOk own es ds → TgtsOk own' es ds
  | [], [], _ => trivial
  | [], _ :: _, x => x.elim
  | e :: es, [], x => by cases e <;> exact x.elim
  | e :: es, d :: ds, x => by
    cases e <;> try exact x.elim
    exact ⟨h _ x.1, TgtsOk.mono h x.2⟩
theorem TgtOk.mono {own own' : Str → Prop} (h : ∀ x, own x → own' x) {t : Expr} {d : D} (x : TgtOk own t d) : TgtOk own' t d := by
  rcases tgt_cases x with ⟨y, p, rfl, _⟩ | ⟨es, k, p, ds, rfl, rfl, q⟩
  · exact h _ x
  · exact TgtsOk.mono h q

section
variable (prog : Program) (w : World) (K : Frag)
noncomputable def ItOK (A : Around) (U Z : Addr → Prop) (t : Expr) (s s₂ : Shared) (it : Value) (its : List D) : Prop :=
  ∃ I fp wr P Md St, it = .ref I ∧ KTurns prog w A t I fp wr its.length P Md St ∧ St 0 s₂.heap ∧ (∀ b ∈ wr, s.heap.objs.size ≤ b ∧ b < s₂.heap.objs.size) ∧ (∀ b ∈ fp, b ∉ wr → ¬ Z b ∧ b < s₂.heap.objs.size) ∧
    (∀ (s : Shared) (Q : Value → Shared → Prop) (E : Value → Shared → Prop), St 0 s.heap → Q (.ref I) s → wpAny (model prog w) A (pyIter (.ref I)) Q E s) ∧
    (∀ i v h (U' : Addr → Prop), P i v h → (∀ b o, ¬ U b → b ∉ wr → s₂.heap.get? b = some o → h.get? b = some o) → (∀ a, U' a → U a ∨ a ∈ wr ∨ s₂.heap.get? a = none) → ∃ d, its[i]? = some d ∧ RT U' h v t d)
noncomputable def EVI (sc : Scope) (n : Nat) (ρ : Vars) (e t : Expr) (its : List D) : Prop :=
  (∀ env x, env.scope = sc → foldedSetIterable e env x = pure x) ∧
  ∀ env A U s, env.scope = sc → Rm n A → EOK K U env ρ s → wpAny (model prog w) A (eval e env) (fun xv s₁ => wpAny (model prog w) A (pyIter xv) (fun it s₂ => Gr s s₂ ∧ ItOK prog w A U U t s s₂ it its) (fun _ _ => False) s₁) (fun _ _ => False) s
end

structure StpW (X : FX) (wr : List Addr) (ω : Owns) (s : Shared) (ω' : Owns) (s' : Shared) : Prop where
  kp : ∀ b o, ¬ Frm X b → (ω.lookup b).isSome = false → ¬ X.S b → b ∉ wr → s.heap.get? b = some o → s'.heap.get? b = some o
  org : ∀ a, (ω'.lookup a).isSome = true → (ω.lookup a).isSome = true ∨ s.heap.objs.size ≤ a
  sz : s.heap.objs.size ≤ s'.heap.objs.size
  tk : s.toks ≤ s'.toks
theorem StpW.refl (X : FX) (wr : List Addr) (ω : Owns) (s : Shared) : StpW X wr ω s ω s := ⟨fun _ _ _ _ _ _ e => e, fun _ h => .inl h, Nat.le_refl _, Nat.le_refl _⟩
theorem StpW.no {X : FX} {wr : List Addr} {ω ω' : Owns} {s s' : Shared} (x : StpW X wr ω s ω' s') {b : Addr} {o : Obj} (q : (ω.lookup b).isSome = false) (e : s.heap.get? b = some o) : (ω'.lookup b).isSome = false := by
  cases h : (ω'.lookup b).isSome with
  | false => rfl
  | true => exact absurd (x.org b h) (not_or.mpr ⟨by rw [q]; decide, Nat.not_le.mpr (Heap.lt_size e)⟩)
theorem StpW.trans {X : FX} {wr : List Addr} {ω ω' ω'' : Owns} {s s' s'' : Shared} (x : StpW X wr ω s ω' s') (y : StpW X wr ω' s' ω'' s'') : StpW X wr ω s ω'' s'' where
  kp := fun b o hf ho hS hw e => y.kp b o hf (x.no ho e) hS hw (x.kp b o hf ho hS hw e)
  org := fun z hz => (y.org z hz).elim (x.org z) fun l => .inr (Nat.le_trans x.sz l)
  sz := Nat.le_trans x.sz y.sz
  tk := Nat.le_trans x.tk y.tk
theorem StpW.of {X : FX} {wr : List Addr} {ω ω' : Owns} {s s' : Shared} (x : Stp X ω s ω' s') : StpW X wr ω s ω' s' := ⟨fun b o a b' c _ e => x.kp b o a b' c e, x.org, x.sz, x.tk⟩
theorem StpW.moved {X : FX} {wr : List Addr} {ω : Owns} {s s' : Shared} (k : ∀ b o, ¬ Frm X b → b ∉ wr → s.heap.get? b = some o → s'.heap.get? b = some o) (z : s.heap.objs.size ≤ s'.heap.objs.size) (t : s.toks ≤ s'.toks) : StpW X wr ω s ω s' :=
  ⟨fun b o a _ _ c e => k b o a c e, fun _ h => .inl h, z, t⟩
theorem StpW.stp {X : FX} {wr : List Addr} {ω ω' : Owns} {s s₂ s' : Shared} (g : Gr s s₂) (hwr : ∀ b ∈ wr, s.heap.objs.size ≤ b) (x : StpW X wr ω s₂ ω' s') : Stp X ω s ω' s' :=
  ⟨fun b o q q' q'' e => x.kp b o q q' q'' (fun z => absurd (hwr b z) (Nat.not_le.mpr (Heap.lt_size e))) (g.keep b o e), fun a q => (x.org a q).imp id fun l => Nat.le_trans g.sz l, Nat.le_trans g.sz x.sz, Nat.le_trans g.le x.tk⟩

section
variable {bx : Fl} {sc : Scope} {n : Nat} {ρ : Vars} {ω : Owns} {P : Out → Prop}
theorem for_core {t iter : Expr} {body : List Stmt} {its : List D} (J : Nat → Vars → Owns → Prop) (h0 : J 0 ρ ω)
    (ht : ∀ (i : Nat) d, its[i]? = some d → TgtOk (KindOk sc) t d)
    (step : ∀ (i : Nat) d ρ ω, its[i]? = some d → J i ρ ω → EX prog w K bx sc n body (bindT t d ρ) ω (fun o => match o with
      | .next ρ' ω' => ∃ ρ₁ ω₁, J (i + 1) ρ₁ ω₁ ∧ Sub ρ₁ ρ' ∧ SubO ω₁ ω'
      | .brk ρ' ω' => P (.next ρ' ω')
      | .ret d ω' => P (.ret d ω')
      | .exc _ _ _ => False))
    (hP : ∀ ρ ω, J its.length ρ ω → P (.next ρ ω)) {X : FX} {s s₂ : Shared} {m cm : Str → Option Value} (hs : X.Is bx sc) (rm : Rm n X.A) (x0 : ST0 K X ρ ω m cm s) (g : Gr s s₂) {it : Value}
    {Z : Addr → Prop} (hi : ItOK prog w X.A (Wn X ω) Z t s s₂ it its) (hZ : ∀ b, ¬ Z b → b < s₂.heap.objs.size → ¬ Frm X b ∧ ¬ X.S b ∧ (ω.lookup b = none ∨ ∃ o, ∀ i ρ' ω', J i ρ' ω' → ∃ ds, ω'.lookup b = some (.pin o ds))) :
    codeAny (model prog w) X.A (.forLoop t it body [] X.env) (fun r s' => ∃ fl, r = .ok fl ∧ ∃ o, P o ∧ Ends K X ω s o fl s') s₂ := by
  obtain ⟨I, fp, wr, Pt, Md, St, rfl, W, hst, hwr, hfp, _, hitem⟩ := hi
  have y0 : ST0 K (X.more (· ∈ wr)) ρ ω m cm s₂ := x0.enter g hwr
  let T : Nat → Shared → Prop := fun i s' => ∃ ρ' ω' m' cm', J i ρ' ω' ∧ ST0 K (X.more (· ∈ wr)) ρ' ω' m' cm' s' ∧ St i s'.heap ∧ StpW X wr ω s₂ ω' s'
  have hUn : ∀ {b}, ¬ Wn X ω b → ¬ Frm X b ∧ (ω.lookup b).isSome = false ∧ ¬ X.S b := fun {b} q =>
    ⟨fun z => q (frm_wn z), by cases h : (ω.lookup b).isSome with | false => rfl | true => exact absurd (.inr (.inl h)) q, fun z => q (.inl (x0.su b z).1)⟩
  refine codeAny_forLoop_any (fun k s' => ∃ i, i ≤ its.length ∧ k = its.length + 1 - i ∧ T i s') ?_ (its.length + 1)
    ⟨0, Nat.zero_le _, rfl, ρ, ω, m, cm, h0, y0, hst, StpW.refl _ _ _ _⟩
  rintro k s' ⟨i, hi', rfl, ρ', ω', m', cm', hJ, x1, hst', st1⟩
  have fin : ∀ {ρ₃ : Vars} {ω₃ : Owns} {s₃}, (∃ m cm, ST0 K (X.more (· ∈ wr)) ρ₃ ω₃ m cm s₃) → StpW X wr ω s₂ ω₃ s₃ → FinAt K X ω s ρ₃ ω₃ s₃ := fun {ρ₃ ω₃ s₃} hz61 st3 => by obtain ⟨m₃, cm₃, x3⟩ := hz61; exact ⟨⟨m₃, cm₃, x3.leave⟩, st3.stp g fun b z => (hwr b z).1⟩
  by_cases hlt : i < its.length
  · refine wp_E (wp0 (W.item i _ _ _ hlt hst' fun v h₁ tk₁ hMd hk₁ htk₁ hsz₁ => ?_)) (fun _ _ q => q)
    have x2 := x1.step hk₁ htk₁ (fun b hb => .inr hb) hsz₁
    refine wp_E (wp0 (W.go i v _ _ _ hMd fun h₂ hP₂ hst₂ hk₂ htk₂ hsz₂ => ?_)) (fun _ _ q => q)
    have x3 := x2.step hk₂ htk₂ (fun b hb => .inr hb) hsz₂
    have st3 : StpW X wr ω s₂ ω' { s' with heap := h₂, toks := _ } := st1.trans (StpW.moved (fun b o _ z e => hk₂ b o z (hk₁ b o z e)) (Nat.le_trans hsz₁ hsz₂) (Nat.le_trans htk₁ htk₂))
    have horg' : ∀ b, Wn (X.more (· ∈ wr)) ω' b → Wn X ω b ∨ b ∈ wr ∨ s₂.heap.get? b = none := fun b q => by
      rcases Wn.more.mp q with (q | q | q) | q
      · exact .inl (.inl q)
      · exact (st1.org b q).elim (fun z => .inl (.inr (.inl z))) fun l => .inr (.inr (fresh_none' l))
      · exact .inl (.inr (.inr q))
      · exact .inr (.inl q)
    obtain ⟨d, hd, hRT⟩ := hitem i v h₂ (Wn (X.more (· ∈ wr)) ω') hP₂ (fun b o q z e => st3.kp b o (hUn q).1 (hUn q).2.1 (hUn q).2.2 z e) horg'
    refine wp_E (assign_ok (X := X.more (· ∈ wr)) rm.hd x3 ((ht i d hd).mono fun x hx => hs.ow x hx) hRT) (fun _ s₄ hz57 => ?_)
    obtain ⟨⟨m₄, cm₄, x4⟩, htk₄, hsz₄, hk₄⟩ := hz57
    have st4 := st3.trans (StpW.moved (s' := s₄) (fun b o q _ e => hk₄ b o q e) hsz₄ htk₄)
    refine wpAny_mono (step i d ρ' ω' hd hJ (X.more (· ∈ wr)) s₄ m₄ cm₄ hs.more rm x4) (fun fl s₅ hz58 => ?_) fun e s₅ hz59 => ?_
    · obtain ⟨o, p, e⟩ := hz58
      cases o with
      | next ρ₅ ω₅ =>
        obtain ⟨rfl, ⟨m₅, cm₅, x5⟩, st⟩ := e
        obtain ⟨ρ₁, ω₁, hJ', q1, q2⟩ := p
        have st5 := st4.trans (StpW.of (wr := wr) st.leave)
        refine ⟨its.length + 1 - (i + 1), by lia, i + 1, hlt, rfl, ρ₁, ω₁, m₅, cm₅, hJ', x5.subO q1 q2, ?_, ⟨st5.kp, fun a q => st5.org a (q2.some q), st5.sz, st5.tk⟩⟩
        refine W.frame _ _ _ hst₂ fun b hb o e => ?_
        by_cases hbw : b ∈ wr
        · have hf : ¬ Frm X b := fun q => (q.elim (fun q => (x3.vb b (.inr hbw)).2.1 q) fun hz62 => by obtain ⟨z, q⟩ := hz62; exact (x3.vb b (.inr hbw)).2.2 z q)
          refine st.kp b o hf ?_ (fun q => absurd (x3.slt q) (Nat.not_lt.mpr (x3.vb b (.inr hbw)).1)) (hk₄ b o hf e)
          cases h : (ω'.lookup b).isSome with
          | false => rfl
          | true => exact absurd (.inr hbw) (x3.ownb b h).2.2
        · obtain ⟨a, a', c⟩ := hZ b (hfp b hb hbw).1 (hfp b hb hbw).2
          rcases c with c | c
          · refine st.kp b o a ?_ a' (hk₄ b o a e)
            cases h : (ω'.lookup b).isSome with
            | false => rfl
            | true => exact absurd (st1.org b h) (not_or.mpr ⟨by rw [c]; decide, Nat.not_le.mpr (hfp b hb hbw).2⟩)
          · obtain ⟨o₁, c⟩ := c
            obtain ⟨ds₁, e₁⟩ := c i ρ' ω' hJ
            obtain ⟨ds₂, e₂⟩ := c (i + 1) ρ₁ ω₁ hJ'
            have g1 := (x1.own b _ e₁).1
            have g2 := (x5.own b _ (q2 b _ e₂)).1
            have g3 := hk₂ b _ hbw (hk₁ b _ hbw g1)
            rw [g3] at e
            cases e
            exact g2
      | brk ρ₅ ω₅ =>
        obtain ⟨rfl, x5, st⟩ := e
        exact ⟨_, rfl, _, p, rfl, fin x5 (st4.trans (StpW.of st.leave))⟩
      | ret d ω₅ =>
        obtain ⟨v, rfl, ⟨x5, st⟩, r⟩ := e
        exact ⟨_, rfl, _, p, v, rfl, fin x5 (st4.trans (StpW.of st.leave)), R.mono (fun a q => .inl (Wn.more.mpr (.inl q))) (fun _ _ _ e => e) _ r⟩
      | exc _ _ _ => exact e.elim
    · obtain ⟨o, p, y⟩ := hz59
      cases o with
      | exc _ _ _ => exact p.elim
      | _ => exact y.elim
  · have hin : i = its.length := by lia
    subst hin
    refine wp_E (wp0 (W.done _ _ _ hst' fun h₁ tk₁ hk₁ htk₁ hsz₁ => wpAny_execs_nil ?_)) (fun _ _ q => q)
    exact ⟨_, rfl, _, hP _ _ hJ, rfl, fin ⟨m', cm', x1.step hk₁ htk₁ (fun b hb => .inr hb) hsz₁⟩ (st1.trans (StpW.moved (fun b o _ z e => hk₁ b o z e) hsz₁ htk₁))⟩
theorem ex_for {t iter : Expr} {body : List Stmt} {pos : Pos} {its : List D} (hi : EVI prog w K sc n ρ iter t its) (J : Nat → Vars → Owns → Prop) (h0 : J 0 ρ ω)
    (ht : ∀ (i : Nat) d, its[i]? = some d → TgtOk (KindOk sc) t d)
    (step : ∀ (i : Nat) d ρ ω, its[i]? = some d → J i ρ ω → EX prog w K bx sc n body (bindT t d ρ) ω (fun o => match o with
      | .next ρ' ω' => ∃ ρ₁ ω₁, J (i + 1) ρ₁ ω₁ ∧ Sub ρ₁ ρ' ∧ SubO ω₁ ω'
      | .brk ρ' ω' => P (.next ρ' ω')
      | .ret d ω' => P (.ret d ω')
      | .exc _ _ _ => False))
    (hP : ∀ ρ ω, J its.length ρ ω → P (.next ρ ω)) : EX1 prog w K bx sc n (.For t iter body [] pos) ρ ω P := fun X s m cm hs rm x0 => by
  refine wpAny_For (wp_E (hi.2 _ _ _ s hs.sco rm x0.eok) fun xv s₁ h₁ => wp_E h₁ fun it s₂ hz60 => ?_) (fun x => hi.1 _ x hs.sco)
  obtain ⟨g, h₂⟩ := hz60
  refine codeAny_mono (for_core (iter := iter) J h0 ht step hP hs rm x0 g h₂ fun b q l => ⟨fun z => q (frm_wn z), fun z => q (.inl (x0.su b z).1), .inl ?_⟩) (fun r s' hz63 => by obtain ⟨fl, e, h⟩ := hz63; subst e; exact h)
  cases h : ω.lookup b with
  | none => rfl
  | some o => exact absurd (.inr (.inl (by rw [h]; rfl))) q
end
end Lw
end

section
open PySem PySem.W PyProof.Rows PySem.Calls
namespace Lw
noncomputable def WorkWp (prog : Program) (w : World) (A : Around) (elt : Expr) (gens : List Comprehension) (scope : Scope) (pos : Pos) (depth : Nat) (acc : Value) (env : Env) (Q : Shared → Prop) (s : Shared) : Prop :=
  match gens[depth + 1]? with
  | some g' => g'.is_async = 0 ∧ (∀ x, foldedSetIterable g'.iter env x = pure x) ∧
    wpAny (model prog w) A (eval g'.iter env) (fun x s₁ => wpAny (model prog w) A (pyIter x) (fun it' s₂ =>
      wpAny (model prog w) A (runOwn (.compStart (.ListComp elt gens scope pos) (depth + 1) it' acc env) env) (fun _ s₃ => Q s₃) (fun _ _ => False) s₂) (fun _ _ => False) s₁) (fun _ _ => False) s
  | none => wpAny (model prog w) A (eval elt env) (fun x s₁ => wpAny (model prog w) A (call (.builtin "list.append") [acc, x]) (fun _ s₂ => Q s₂) (fun _ _ => False) s₁) (fun _ _ => False) s
section
variable {prog : Program} {w : World} {A : Around} {R : Result → Shared → Prop} {s : Shared}
theorem comp_loop {elt : Expr} {gens : List Comprehension} {scope : Scope} {pos : Pos} {depth : Nat} {it acc : Value} {env : Env} {target iter : Expr} {ifs : List Expr} (hg : gens[depth]? = some ⟨target, iter, ifs, 0⟩) (I : Nat → Shared → Prop)
    (turn : ∀ n s, I n s → wpAny (model prog w) A (pyNext it) (fun r s₁ => match r with
      | none => R (.ok .next) s₁
      | some v => wpAny (model prog w) A (letOwnedTupleGo target it v) (fun _ s₁' => wpAny (model prog w) A (assign target env v) (fun _ s₂ =>
          wpAny (model prog w) A (forIn ifs true fun c r => if r = true then do let ok ← isTrue c env (eval c env); pure (ForInStep.yield ok) else pure (ForInStep.yield r)) (fun ok s₃ =>
            if ok = true then WorkWp prog w A elt gens scope pos depth acc env (fun s₅ => ∃ m, m < n ∧ I m s₅) s₃
            else ∃ m, m < n ∧ I m s₃) (fun _ _ => False) s₂) (fun _ _ => False) s₁') (fun _ _ => False) s₁) (fun _ _ => False) s)
    (n : Nat) (h : I n s) : codeAny (model prog w) A (.compLoop (.ListComp elt gens scope pos) depth it acc env) R s := by
  refine codeAny_loop rfl I (fun n s hI => ?_) n h
  show wpAny _ A ((compTurn (.ListComp elt gens scope pos) depth it acc env).onRaise (fun x => do noteFrame x env; theTreesLotGoes x)) _ _ s
  refine wpAny_noted ?_
  unfold compTurn
  simp only [hg]
  have e0 : ((0 : Int) != 0) = false := rfl
  simp only [e0, Bool.false_eq_true, if_false]
  refine wpAny_bind (wpAny_standAt (wpAny_bind (wpAny_mono (turn n s hI) (fun r s₁ h₁ => ?_) fun _ _ h' => h'.elim)))
  cases r with
  | none => exact wpAny_pure h₁
  | some v =>
    refine wpAny_bind (wpAny_mono h₁ (fun _ s₁' h₁' => ?_) fun _ _ h' => h'.elim)
    refine wpAny_bind (wpAny_mono h₁' (fun _ s₂ h₂ => wpAny_bind (wpAny_mono h₂ (fun ok s₃ h₃ => ?_) fun _ _ h' => h'.elim)) fun _ _ h' => h'.elim)
    cases ok with
    | false => exact wpAny_pure ⟨rfl, h₃⟩
    | true =>
      simp only [if_true] at h₃ ⊢
      unfold WorkWp at h₃
      cases hn : gens[depth + 1]? with
      | none =>
        rw [hn] at h₃
        simp only at h₃ ⊢
        exact wpAny_bind (wpAny_bind (wpAny_mono h₃ (fun x s₄ h₄ => wpAny_bind (wpAny_mono h₄ (fun _ s₅ h₅ => wpAny_pure (wpAny_pure ⟨rfl, h₅⟩)) fun _ _ h' => h'.elim)) fun _ _ h' => h'.elim))
      | some g' =>
        rw [hn] at h₃
        simp only at h₃ ⊢
        obtain ⟨ha, hf, h₃⟩ := h₃
        simp only [ha, e0, Bool.false_eq_true, if_false]
        refine wpAny_bind (wpAny_mono h₃ (fun x s₄ h₄ => wpAny_bind (wpAny_standAt ?_)) fun _ _ h' => h'.elim)
        refine wpAny_bind (wpAny_of_eq (hf x) (wpAny_bind (wpAny_holding ?_)))
        exact wpAny_mono h₄ (fun it' s₅ h₅ => wpAny_bind (wpAny_mono h₅ (fun _ s₆ h₆ => wpAny_pure ⟨rfl, h₆⟩) fun _ _ h' => h'.elim)) fun _ _ h' => h'.elim
theorem comp_start {elt target iter : Expr} {ifs : List Expr} {gens : List Comprehension} {scope : Scope} {pos : Pos} {depth : Nat} {it acc : Value} {env : Env} (hg : gens[depth]? = some ⟨target, iter, ifs, 0⟩)
    (h0 : codeAny (model prog w) A (.compLoop (.ListComp elt gens scope pos) depth it acc env) R s)
    (h : wpAny (model prog w) A (pyIter it) (fun it' s' => codeAny (model prog w) A (.compLoop (.ListComp elt gens scope pos) depth it' acc env) R s') (fun _ _ => False) s) :
    codeAny (model prog w) A (.compStart (.ListComp elt gens scope pos) depth it acc env) R s := by
  refine codeAny_of_tree ?_
  show wpAny _ _ ((compStart (.ListComp elt gens scope pos) depth it acc env).onRaise (fun x => do noteFrame x env; standAt theWindowsPlace)) _ _ s
  refine wpAny_notedAt ?_
  unfold compStart
  have hc : (clausesOf (.ListComp elt gens scope pos))[depth]? = some ⟨target, iter, ifs, 0⟩ := hg
  simp only [hc, Option.elim]
  rw [if_neg (by show ¬ ((0 : Int) != 0) = true; decide)]
  show wpAny _ _ (ask >>= _) _ _ s
  refine wpAny_bind (wpAny_askSetting (wpAny_ite ?_))
  split
  · exact wpAny_bind (wpAny_pure (wpAny_pure (And.intro rfl h0)))
  · exact wpAny_bind (wpAny_rule (wpAny_bind (wpAny_standAt (wpAny_bind (wpAny_mono h (fun it' s' h' => wpAny_pure (And.intro rfl h')) fun _ _ x => x.elim)))))
end
end Lw
end

section
open PySem PySem.W PyProof.Rows PySem.Calls
namespace Lw
section
variable (prog : Program) (w : World) (K : Frag)
noncomputable def TS (sc : Scope) (n : Nat) (ρ : Vars) (ifs : List Expr) (b : Bool) : Prop :=
  ∀ env A U s, env.scope = sc → Rm n A → EOK K U env ρ s → wpAny (model prog w) A (forIn ifs true fun c r => if r = true then do let ok ← isTrue c env (eval c env); pure (ForInStep.yield ok) else pure (ForInStep.yield r))
    (fun ok s' => Gr s s' ∧ ok = b) (fun _ _ => False) s
noncomputable def ChgA (X : FX) (acc : Addr) (s s' : Shared) : Prop :=
  (∀ b o, ¬ Frm X b → b ≠ acc → s.heap.get? b = some o → s'.heap.get? b = some o) ∧ s.heap.objs.size ≤ s'.heap.objs.size ∧ s.toks ≤ s'.toks
noncomputable def CPost (X : FX) (ρ : Vars) (acc : Addr) (vs : List Value) (ds : List D) (s s' : Shared) : Prop :=
  ∃ m cm new, ST0 K X ρ [] m cm s' ∧ s'.heap.PlainList acc (List.toArray (vs ++ new)) ∧ RL (Wn X []) s'.heap new ds ∧ ChgA X acc s s'
noncomputable def WorkOK (scope sc' : Scope) (n : Nat) (elt : Expr) (gens : List Comprehension) (pos : Pos) (depth : Nat) (ρ : Vars) (ds : List D) : Prop :=
  ∀ X s acc vs m cm, X.env.scope = sc' → (∀ x, KindOk scope x → X.ownk x) → Rm n X.A → ST0 K X ρ [] m cm s → X.V acc → s.heap.PlainList acc (List.toArray vs) → vs.length + ds.length ≤ sizeLine →
    ∀ Q, (∀ s', CPost K X ρ acc vs ds s s' → Q s') → WorkWp prog w X.A elt gens scope pos depth (.ref acc) X.env Q s
end
section
variable {sc scope : Scope} {n : Nat} {ρ : Vars}
theorem ts_nil : TS prog w K sc n ρ [] true := fun env A U s _ _ _ => wpAny_tests_nil ⟨Gr.refl s, rfl⟩
theorem ts_cons {c : Expr} {rest : List Expr} {b b' : Bool} (h : ET prog w K sc n ρ c b) (h' : b = true → TS prog w K sc n ρ rest b') : TS prog w K sc n ρ (c :: rest) (b && b') := fun env A U s hs rm ok => by
  rw [List.forIn_cons]
  simp only [if_true]
  refine wpAny_bind (wpAny_bind (wpAny_mono (h env A U s hs rm ok) (fun v s' hz64 => ?_) fun _ _ x => x))
  obtain ⟨g, e⟩ := hz64
  subst e
  refine wpAny_pure ?_
  cases v with
  | true => exact wpAny_mono (h' rfl env A U s' hs rm (ok.gr g)) (fun _ _ hz69 => by obtain ⟨g', e⟩ := hz69; exact ⟨g.trans g', e⟩) fun _ _ x => x
  | false =>
    simp only [Bool.false_and]
    have : ∀ l : List Expr, (forIn l false fun c r => if r = true then do let ok ← isTrue c env (eval c env); pure (ForInStep.yield ok) else pure (ForInStep.yield r) : Sem Bool) = pure false := by
      intro l
      induction l with
      | nil => rfl
      | cons x l ih =>
        rw [List.forIn_cons]
        simp only [Bool.false_eq_true, if_false, pure_bind] at ih ⊢
        exact ih
    rw [this]
    exact wpAny_pure ⟨g, rfl⟩
theorem work_last {sc' : Scope} {elt : Expr} {gens : List Comprehension} {pos : Pos} {depth : Nat} {d : D} (hn : gens[depth + 1]? = none) (he : EV prog w K sc' n ρ elt d) :
    WorkOK prog w K scope sc' n elt gens pos depth ρ [d] := fun X s acc vs m cm hs ho rm x0 hv hp hl Q hQ => by
  unfold WorkWp
  rw [hn]
  simp only
  refine wpAny_mono (he _ _ _ s hs rm x0.eok) (fun v s₁ hz65 => ?_) fun _ _ q => q
  obtain ⟨g, r⟩ := hz65
  have hp₁ : s₁.heap.PlainList acc (List.toArray vs) := hp.at fun o e => g.keep _ o e
  refine wpAny_list_append_plain hp₁ (fun h' hp' hsb => hQ _ ?_) (by simp at hl ⊢; lia)
  have hw : Wn X [] acc := .inr (.inr (.inr (.inr hv)))
  have x1 := (x0.after g).step (wr := [acc]) (h' := h') (tk := s₁.toks) (fun b o hb e => hsb.extBut b o (by simpa using hb) e) (Nat.le_refl _) (fun b hb => by rw [List.mem_singleton.mp hb]; exact hv) (by rw [hsb.1]; exact Nat.le_refl _)
  refine ⟨m, cm, [v], x1, ?_, RL.one (R.mono (fun _ q => .inl q) (fun b o q e => hsb.extBut b o (fun e' => q (e' ▸ hw)) e) _ r), fun b o q q' e => hsb.extBut b o q' (g.keep b o e), ?_, g.le⟩
  · have : (List.toArray vs).push v = List.toArray (vs ++ [v]) := by simp
    rw [← this]; exact hp'
  · show s.heap.objs.size ≤ h'.objs.size
    rw [hsb.1]; exact g.sz

noncomputable def catN (dss : Nat → List D) (i : Nat) : List D := (List.range i).flatMap dss
theorem catN_succ (dss : Nat → List D) (i : Nat) : catN dss (i + 1) = catN dss i ++ dss i := by
  unfold catN
  rw [List.range_succ, List.flatMap_append]
  simp
theorem catN_le (dss : Nat → List D) : ∀ {i k : Nat}, i ≤ k → (catN dss i).length ≤ (catN dss k).length
  | i, 0, h => by rw [Nat.le_zero.mp h]; exact Nat.le_refl _
  | i, k + 1, h => by
    by_cases e : i = k + 1
    · rw [e]; exact Nat.le_refl _
    · refine Nat.le_trans (catN_le dss (show i ≤ k by lia)) ?_
      rw [catN_succ, List.length_append]
      lia

structure Items (prog : Program) (w : World) (K : Frag) (scope sc' : Scope) (n : Nat) (elt : Expr) (gens : List Comprehension) (pos : Pos) (depth : Nat) (ρ : Vars) (t : Expr) (ifs : List Expr) (d : D) (ds : List D) : Prop where
  tgt : TgtOk (KindOk scope) t d
  sub : Sub ρ (bindT t d ρ)
  test : ∃ b, TS prog w K sc' n (bindT t d ρ) ifs b ∧ (b = true → WorkOK prog w K scope sc' n elt gens pos depth (bindT t d ρ) ds) ∧ (b = false → ds = [])

theorem comp_core {sc' : Scope} {elt t iter : Expr} {ifs : List Expr} {gens : List Comprehension} {pos : Pos} {depth : Nat} {its : List D} {dss : Nat → List D} (hg : gens[depth]? = some ⟨t, iter, ifs, 0⟩)
    (hit : ∀ i d, its[i]? = some d → Items prog w K scope sc' n elt gens pos depth ρ t ifs d (dss i))
    {X : FX} {s : Shared} {acc : Addr} {vs : List Value} {m cm : Str → Option Value} (hs : X.env.scope = sc') (ho : ∀ x, KindOk scope x → X.ownk x) (rm : Rm n X.A)
    {I : Addr} {fp wr : List Addr} {Pt Md : Nat → Value → Heap → Prop} {St : Nat → Heap → Prop} (y0 : ST0 K (X.more (· ∈ wr)) ρ [] m cm s) (hv : X.V acc) (haw : acc ∉ wr)
    (hp : s.heap.PlainList acc (List.toArray vs)) (hl : vs.length + (catN dss its.length).length ≤ sizeLine)
    (W : KTurns prog w X.A t I fp wr its.length Pt Md St) (hst : St 0 s.heap) (hfp : ∀ b ∈ fp, b ∉ wr → ¬ Frm X b ∧ b ≠ acc)
    (hself : ∀ (s : Shared) (Q : Value → Shared → Prop) (E : Value → Shared → Prop), St 0 s.heap → Q (.ref I) s → wpAny (model prog w) X.A (pyIter (.ref I)) Q E s)
    (hitem : ∀ i v h, Pt i v h → (∀ b o, ¬ Frm X b → b ≠ acc → b ∉ wr → s.heap.get? b = some o → h.get? b = some o) → ∃ d, its[i]? = some d ∧ RT (Wn (X.more (· ∈ wr)) []) h v t d) :
    codeAny (model prog w) X.A (.compStart (.ListComp elt gens scope pos) depth (.ref I) (.ref acc) X.env) (fun r s' => r = .ok .next ∧ ∃ m' cm' new, ST0 K (X.more (· ∈ wr)) ρ [] m' cm' s' ∧ s'.heap.PlainList acc (List.toArray (vs ++ new)) ∧
      RL (Wn (X.more (· ∈ wr)) []) s'.heap new (catN dss its.length) ∧ (∀ b o, ¬ Frm X b → b ≠ acc → b ∉ wr → s.heap.get? b = some o → s'.heap.get? b = some o) ∧ s.heap.objs.size ≤ s'.heap.objs.size ∧ s.toks ≤ s'.toks) s := by
  let J : Nat → Shared → Prop := fun i s' => ∃ m' cm' new, ST0 K (X.more (· ∈ wr)) ρ [] m' cm' s' ∧ St i s'.heap ∧ s'.heap.PlainList acc (List.toArray (vs ++ new)) ∧ RL (Wn (X.more (· ∈ wr)) []) s'.heap new (catN dss i) ∧
    (∀ b o, ¬ Frm X b → b ≠ acc → b ∉ wr → s.heap.get? b = some o → s'.heap.get? b = some o) ∧ s.heap.objs.size ≤ s'.heap.objs.size ∧ s.toks ≤ s'.toks
  have hJ0 : J 0 s := ⟨m, cm, [], y0, hst, by rw [List.append_nil]; exact hp, rfl, fun b o _ _ _ e => e, Nat.le_refl _, Nat.le_refl _⟩
  have hacc : ¬ Frm X acc := fun q => q.elim (fun q => (y0.vb acc (.inl hv)).2.1 q) fun hz70 => by obtain ⟨z, q⟩ := hz70; exact (y0.vb acc (.inl hv)).2.2 z q
  have hwrf : ∀ {b}, b ∈ wr → ¬ Frm X b := fun {b} hb q => q.elim (fun q => (y0.vb b (.inr hb)).2.1 q) fun hz71 => by obtain ⟨z, q⟩ := hz71; exact (y0.vb b (.inr hb)).2.2 z q
  have notW : ∀ {b}, ¬ Wn (X.more (· ∈ wr)) [] b → ¬ Frm X b ∧ b ≠ acc ∧ b ∉ wr := fun {b} q =>
    ⟨fun z => q (Wn.more.mpr (.inl (.inr (.inr (z.imp id .inl))))), fun e => q (Wn.more.mpr (.inl (.inr (.inr (.inr (.inr (e ▸ hv))))))), fun z => q (Wn.more.mpr (.inr z))⟩
  have loop : codeAny (model prog w) X.A (.compLoop (.ListComp elt gens scope pos) depth (.ref I) (.ref acc) X.env) (fun r s' => r = .ok .next ∧ ∃ m' cm' new, ST0 K (X.more (· ∈ wr)) ρ [] m' cm' s' ∧ s'.heap.PlainList acc (List.toArray (vs ++ new)) ∧
      RL (Wn (X.more (· ∈ wr)) []) s'.heap new (catN dss its.length) ∧ (∀ b o, ¬ Frm X b → b ≠ acc → b ∉ wr → s.heap.get? b = some o → s'.heap.get? b = some o) ∧ s.heap.objs.size ≤ s'.heap.objs.size ∧ s.toks ≤ s'.toks) s := by
    refine comp_loop hg (fun k s' => ∃ i, i ≤ its.length ∧ k = its.length + 1 - i ∧ J i s') ?_ (its.length + 1) ⟨0, Nat.zero_le _, rfl, hJ0⟩
    rintro k s' ⟨i, hi', rfl, m', cm', new, x1, hst', hp', hrl, hk', hsz, htk⟩
    by_cases hlt : i < its.length
    · refine wp0 (W.item i _ _ _ hlt hst' fun v h₁ tk₁ hMd hk₁ htk₁ hsz₁ => ?_)
      have x2 := x1.step hk₁ htk₁ (fun b hb => .inr hb) hsz₁
      refine wp0 (W.go i v _ _ _ hMd fun h₂ hP₂ hst₂ hk₂ htk₂ hsz₂ => ?_)
      have x3 := x2.step hk₂ htk₂ (fun b hb => .inr hb) hsz₂
      have hk3 : ∀ b o, ¬ Frm X b → b ≠ acc → b ∉ wr → s.heap.get? b = some o → h₂.get? b = some o :=
        fun b o q q' z e => hk₂ b o z (hk₁ b o z (hk' b o q q' z e))
      obtain ⟨d, hd, hRT⟩ := hitem i v h₂ hP₂ hk3
      have It := hit i d hd
      refine wpAny_mono (assign_ok (X := X.more (· ∈ wr)) rm.hd x3 (It.tgt.mono ho) hRT) (fun _ s₄ hz66 => ?_) fun _ _ q => q
      obtain ⟨⟨m₄, cm₄, x4⟩, htk₄, hsz₄, hk₄⟩ := hz66
      obtain ⟨b, hts, hw1, hw2⟩ := It.test
      refine wpAny_mono (hts _ _ _ s₄ hs rm x4.eok) (fun ok s₅ hz67 => ?_) fun _ _ q => q
      obtain ⟨g₅, e⟩ := hz67
      subst e
      have x5 := x4.after g₅
      have keep5 : ∀ b o, ¬ Frm X b → b ∉ wr → s'.heap.get? b = some o → s₅.heap.get? b = some o := fun b o q z e => g₅.keep b o (hk₄ b o q (hk₂ b o z (hk₁ b o z e)))
      have sz5 : s'.heap.objs.size ≤ s₅.heap.objs.size := Nat.le_trans (Nat.le_trans (Nat.le_trans hsz₁ hsz₂) hsz₄) g₅.sz
      have tk5 : s'.toks ≤ s₅.toks := Nat.le_trans (Nat.le_trans (Nat.le_trans htk₁ htk₂) htk₄) g₅.le
      have hp5 : s₅.heap.PlainList acc (List.toArray (vs ++ new)) := let ⟨k, e⟩ := hp'; ⟨k, keep5 _ _ hacc haw e⟩
      have hst5 : St (i + 1) s₅.heap := W.frame _ _ _ hst₂ fun b hb o e => by
        refine g₅.keep b o (hk₄ b o ?_ e)
        by_cases hbw : b ∈ wr
        · exact hwrf hbw
        · exact (hfp b hb hbw).1
      have hrl5 : RL (Wn (X.more (· ∈ wr)) []) s₅.heap new (catN dss i) := RL.mono (fun _ q => .inl q) (fun b o q e => keep5 b o (notW q).1 (notW q).2.2 e) _ hrl
      cases ok with
      | false =>
        simp only [Bool.false_eq_true, if_false]
        refine ⟨its.length + 1 - (i + 1), by lia, i + 1, hlt, rfl, m₄, cm₄, new, x5.subO It.sub (SubO.refl _), hst5, hp5, ?_, fun b o q q' z e => keep5 b o q z (hk' b o q q' z e), Nat.le_trans hsz sz5, Nat.le_trans htk tk5⟩
        rw [catN_succ, hw2 rfl, List.append_nil]
        exact hrl5
      | true =>
        simp only [if_true]
        have hlen : (vs ++ new).length + (dss i).length ≤ sizeLine := by
          have e1 := hrl.length
          have e2 := catN_le dss (show i + 1 ≤ its.length from hlt)
          rw [catN_succ, List.length_append] at e2
          rw [List.length_append]
          lia
        refine hw1 rfl (X.more (· ∈ wr)) s₅ acc (vs ++ new) m₄ cm₄ hs ho rm x5 (.inl hv) hp5 hlen _ fun s₆ hz68 => ?_
        obtain ⟨m₆, cm₆, new', x6, hp6, hrl6, hk6, hsz6, htk6⟩ := hz68
        refine ⟨its.length + 1 - (i + 1), by lia, i + 1, hlt, rfl, m₆, cm₆, new ++ new', x6.subO It.sub (SubO.refl _), ?_, by rw [← List.append_assoc]; exact hp6, ?_, fun b o q q' z e => hk6 b o q q' (keep5 b o q z (hk' b o q q' z e)), Nat.le_trans (Nat.le_trans hsz sz5) hsz6, Nat.le_trans (Nat.le_trans htk tk5) htk6⟩
        · refine W.frame _ _ _ hst5 fun b hb o e => hk6 b o ?_ ?_ e
          · by_cases hbw : b ∈ wr
            · exact hwrf hbw
            · exact (hfp b hb hbw).1
          · by_cases hbw : b ∈ wr
            · exact fun e => haw (e ▸ hbw)
            · exact (hfp b hb hbw).2
        · rw [catN_succ]
          exact RL.append (RL.mono (fun _ q => .inl q) (fun b o q e => hk6 b o (notW q).1 (notW q).2.1 e) _ hrl5) hrl6
    · have hin : i = its.length := by lia
      subst hin
      refine wp0 (W.done _ _ _ hst' fun h₁ tk₁ hk₁ htk₁ hsz₁ => ⟨rfl, ?_⟩)
      have x2 := x1.step hk₁ htk₁ (fun b hb => .inr hb) hsz₁
      exact ⟨m', cm', new, x2, let ⟨k, e⟩ := hp'; ⟨k, hk₁ _ _ haw e⟩, RL.mono (fun b q => .inl q) (fun b o q e => hk₁ b o (notW q).2.2 e) _ hrl, fun b o q q' z e => hk₁ b o z (hk' b o q q' z e), Nat.le_trans hsz hsz₁, Nat.le_trans htk htk₁⟩
  exact comp_start hg loop (hself _ _ _ hst loop)
end
end Lw
end

section
open PySem PySem.W PyProof.Rows PySem.Calls
namespace Lw
noncomputable def rlk (sc : Scope) (n : Str) (k : NameKind) : NameKind := if (k == .free && sc.kind == .function && sc.names.lookup n == some .cell) = true then .cell else k
noncomputable def rl (scope sc : Scope) : Scope :=
  { scope with names := scope.names.map fun (n, k) => if (k == .free && sc.kind == .function && sc.names.lookup n == some .cell) then (n, .cell) else (n, k) }
theorem rl_eq (scope : Scope) (env : Env) : relabel scope env = rl scope env.scope := rfl
theorem lookup_map_kind (f : Str → NameKind → NameKind) (x : Str) : ∀ l : List (Str × NameKind), (l.map fun p => (p.1, f p.1 p.2)).lookup x = (l.lookup x).map (f x)
  | [] => rfl
  | (n, k) :: r => by
    rw [List.map_cons]
    by_cases hx : x = n
    · subst hx; rw [lookup_cons_eq, lookup_cons_eq]; rfl
    · rw [lookup_cons_ne hx, lookup_cons_ne hx]; exact lookup_map_kind f x r
theorem rl_lookup (scope sc : Scope) (x : Str) : (rl scope sc).names.lookup x = (scope.names.lookup x).map (rlk sc x) := by
  rw [← lookup_map_kind (rlk sc) x scope.names]
  unfold rl
  simp only
  congr 1
  refine List.map_congr_left fun p hp => ?_
  obtain ⟨n, k⟩ := p
  unfold rlk
  simp only
  split <;> rfl
noncomputable def clOf (env : Env) : List (Str × NameKind) → List (Str × Addr) → List (Str × Addr)
  | [], acc => acc
  | (n, k) :: r, acc => if k == .free then clOf env r ((n, (env.cells.lookup n).getD 0) :: acc) else clOf env r acc
theorem closure_go (env : Env) : ∀ (names : List (Str × NameKind)) (acc : List (Str × Addr)), (∀ p ∈ names, p.2 = .free → ∃ c, env.cells.lookup p.1 = some c) →
    (forIn names acc (fun (x : Str × NameKind) (cs : List (Str × Addr)) => match x with | (name, kind) => if (kind == .free) = true then (do let c ← cellOf env name; pure (ForInStep.yield ((name, c) :: cs))) else pure (ForInStep.yield cs)) : Sem (List (Str × Addr))) = pure (clOf env names acc)
  | [], acc, _ => by rw [List.forIn_nil]; rfl
  | (n, k) :: r, acc, h => by
    rw [List.forIn_cons]
    unfold clOf
    have hr := fun p hp => h p (List.mem_cons_of_mem _ hp)
    by_cases hk : (k == .free) = true
    · obtain ⟨c, hc⟩ := h (n, k) List.mem_cons_self (beq_iff_eq.mp hk)
      simp only [hk, if_true, hc, Option.getD_some]
      unfold cellOf
      simp only [hc, pure_bind]
      exact closure_go env r _ hr
    · simp only [hk, Bool.false_eq_true, if_false, pure_bind]
      exact closure_go env r _ hr
theorem closure_ok {scope : Scope} {env : Env} (h : ∀ p ∈ scope.names, p.2 = .free → ∃ c, env.cells.lookup p.1 = some c) : closureFor scope env = pure (clOf env scope.names []) := by
  have := closure_go env scope.names [] h
  unfold closureFor
  rw [← this]
  simp only [bind_pure]
theorem clOf_lookup (env : Env) : ∀ (names : List (Str × NameKind)) (acc : List (Str × Addr)) (x : Str) (c : Addr), env.cells.lookup x = some c → ((x, NameKind.free) ∈ names ∨ acc.lookup x = some c) → (clOf env names acc).lookup x = some c
  | [], _, _, _, _, h => h.elim (fun h => nomatch h) id
  | (n, k) :: r, acc, x, c, hc, h => by
    unfold clOf
    by_cases hk : (k == .free) = true
    · rw [if_pos hk]
      refine clOf_lookup env r _ x c hc ?_
      rcases h with h | h
      · rcases List.mem_cons.mp h with h | h
        · cases h; right; rw [lookup_cons_eq, hc]; rfl
        · exact .inl h
      · right
        by_cases hx : x = n
        · subst hx; rw [lookup_cons_eq, hc]; rfl
        · rw [lookup_cons_ne hx]; exact h
    · rw [if_neg hk]
      refine clOf_lookup env r _ x c hc ?_
      rcases h with h | h
      · rcases List.mem_cons.mp h with h | h
        · cases h; exact absurd rfl hk
        · exact .inl h
      · exact .inr h
theorem cellsFrom_append : ∀ (names : List (Str × NameKind)) (n : Nat) (acc cl : List (Str × Addr)), cellsFrom n names (acc ++ cl) = cellsFrom n names acc ++ cl
  | [], _, _, _ => rfl
  | (x, k) :: r, n, acc, cl => by
    unfold cellsFrom
    by_cases hk : (k == NameKind.cell) = true
    · rw [if_pos hk, if_pos hk]
      exact cellsFrom_append r _ ((x, n) :: acc) cl
    · rw [if_neg hk, if_neg hk]
      exact cellsFrom_append r _ acc cl
theorem cellsFrom_names : ∀ (names : List (Str × NameKind)) (n : Nat) (acc : List (Str × Addr)) (x : Str) (c : Addr), (x, c) ∈ cellsFrom n names acc → (x, NameKind.cell) ∈ names ∨ (x, c) ∈ acc
  | [], _, _, _, _, h => .inr h
  | (y, k) :: r, n, acc, x, c, h => by
    unfold cellsFrom at h
    by_cases hk : (k == NameKind.cell) = true
    · rw [if_pos hk] at h
      rcases cellsFrom_names r _ _ x c h with h | h
      · exact .inl (List.mem_cons_of_mem _ h)
      · rcases List.mem_cons.mp h with h | h
        · cases h; left; rw [beq_iff_eq.mp hk]; exact List.mem_cons_self
        · exact .inr h
    · rw [if_neg hk] at h
      rcases cellsFrom_names r _ _ x c h with h | h
      · exact .inl (List.mem_cons_of_mem _ h)
      · exact .inr h
theorem lookup_of_mem {β : Type} : ∀ {l : List (Str × β)} {x : Str} {b : β}, (l.map (·.1)).Nodup → (x, b) ∈ l → l.lookup x = some b
  | [], _, _, _, h => nomatch h
  | (y, c) :: r, x, b, hn, h => by
    simp only [List.map_cons, List.nodup_cons] at hn
    rcases List.mem_cons.mp h with h | h
    · cases h; exact lookup_cons_eq
    · have : x ≠ y := fun e => hn.1 (e ▸ List.mem_map_of_mem (f := (·.1)) h)
      rw [lookup_cons_ne this]
      exact lookup_of_mem hn.2 h
theorem pushCells_size : ∀ (names : List (Str × NameKind)) (h : Heap), h.objs.size ≤ (pushCells h names).objs.size
  | [], _ => Nat.le_refl _
  | (_, k) :: r, h => by
    unfold pushCells
    split
    · exact Nat.le_trans (by rw [Heap.size_push]; lia) (pushCells_size r _)
    · exact pushCells_size r h

theorem newEnv_comp {M : Model} {A : Around} {E : Value → Shared → Prop} {s : Shared} {scope : Scope} {globals : Addr} {cl : List (Str × Addr)} {qual : Str} {env : Env} {Q : Env → Shared → Prop}
    (hQ : Q (newEnv scope s.heap.objs.size globals (cellsFrom (s.heap.objs.size + 1) scope.names cl) qual none .none (some env) builtinsNs) { s with heap := pushCells (s.heap.push { cls := .type "dict", data := .dict #[] }) scope.names }) :
    wpAny M A (newFunctionEnv scope globals cl [] qual none .none (some env)) Q E s := by
  simp only [newFunctionEnv, Option.isSome_some, if_true]
  refine wpAny_bind (wpAny_alloc ?_)
  refine wpAny_bind (wpAny_layCells _ (fun name kind cells => by cases hkc : kind == NameKind.cell <;> simp [hkc]) _ _ _ _ ?_)
  rw [show ({ s with heap := s.heap.push { cls := .type "dict", data := .dict #[] } } : Shared).heap.objs.size = s.heap.objs.size + 1 from Heap.size_push ..]
  rw [List.forIn_nil]
  exact wpAny_bind (wpAny_pure (wpAny_pure hQ))
end Lw
end

section
open PySem PySem.W PyProof.Rows PySem.Calls
namespace Lw
theorem ne_addr {a b : Addr} (h : (show Nat from a) < (show Nat from b) ∨ (show Nat from b) < (show Nat from a)) : a ≠ b := fun e => by
  subst e
  exact h.elim (Nat.lt_irrefl _) (Nat.lt_irrefl _)
structure CompScope (scope sc : Scope) (ρ : Vars) : Prop where
  kind : scope.kind = .function
  names : ∀ p ∈ scope.names, p.2 = .local → scope.names.lookup p.1 = some .local
  free : ∀ p ∈ scope.names, p.2 = .free → sc.names.lookup p.1 = some .cell ∨ sc.names.lookup p.1 = some .free
  own : ∀ x, KindOk scope x → ρ.lookup x = none
  nd : (scope.names.map (·.1)).Nodup
section
variable {sc scope : Scope} {n : Nat} {ρ : Vars}
theorem comp_run' {elt t iter : Expr} {ifs : List Expr} {rest : List Comprehension} {pos : Pos} {its : List D} {dss : Nat → List D} (C : CompScope scope sc ρ)
    (hit : ∀ i d, its[i]? = some d → Items prog w K scope (rl scope sc) n elt (⟨t, iter, ifs, 0⟩ :: rest) pos 0 ρ t ifs d (dss i)) (hl : (catN dss its.length).length ≤ 100000)
    {env : Env} {A : Around} {U : Addr → Prop} {s : Shared} (hs : env.scope = sc) (rm : Rm n A) (ok : EOK K U env ρ s) {Z : Addr → Prop} (hfold : ∀ x, foldedSetIterable iter env x = pure x)
    (hsrc : wpAny (model prog w) A (eval iter env) (fun xv s₁ => wpAny (model prog w) A (pyIter xv) (fun it s₂ => Gr s s₂ ∧ ItOK prog w A U Z t s s₂ it its) (fun _ _ => False) s₁) (fun _ _ => False) s) {use : Option (Value → Sem Unit)} {Q : Value → Shared → Prop}
    (hfin : ∀ s' a L vs m, Gr s s' → s.heap.objs.size ≤ a → s.heap.objs.size ≤ L → a ≠ L → s'.heap.PlainList a (List.toArray vs) → RL (fun b => U b ∨ b = a ∨ b = L) s'.heap vs (catN dss its.length) → s'.heap.Ns L m →
      compPost (model prog w) A (fun _ _ => False) use Q (.ref a) L (.ok .next) s') :
    wpAny (model prog w) A (comprehension (.ListComp elt (⟨t, iter, ifs, 0⟩ :: rest) scope pos) scope env (firstIterPos (⟨t, iter, ifs, 0⟩ :: rest) pos) (newList []) false (eval iter env) use) Q (fun _ _ => False) s := by
  have hce : ∀ p ∈ scope.names, p.2 = .free → ∃ c, env.cells.lookup p.1 = some c := fun p hp e => ok.ce p.1 ((C.free p hp e).imp (fun e => by show env.scope.names.lookup _ = _; rw [hs]; exact e) (fun e => by show env.scope.names.lookup _ = _; rw [hs]; exact e))
  refine wpAny_comprehension_free (gs := rest) rfl hfold (closure_ok hce) C.kind C.names (wpAny_mono hsrc (fun xv s₁ h₁ => wpAny_mono h₁ (fun it s₂ hz72 => ?_) fun _ _ q => q) fun _ _ q => q)
  obtain ⟨g, h₂⟩ := hz72
  obtain ⟨I, fp, wr, Pt, Md, St, rfl, W, hst, hwr, hfp, hself, hitem⟩ := h₂
  refine wpAny_newList (hsz := Nat.zero_le _) (newEnv_comp ?_)
  generalize ha : s₂.heap.objs.size = a
  have hL : ({ s₂ with heap := s₂.heap.push { cls := .type "list", data := .seq ([] : List Value).toArray } } : Shared).heap.objs.size = a + 1 := by
    show (s₂.heap.push _).objs.size = _
    rw [Heap.size_push, ha]
  rw [hL]
  generalize hh₃ : (s₂.heap.push { cls := .type "list", data := .seq ([] : List Value).toArray } : Heap) = h₃ at hL ⊢
  simp only at hL ⊢
  generalize hoc : cellsFrom (a + 1 + 1) scope.names [] = oc
  have hcl : cellsFrom (a + 1 + 1) scope.names (clOf env scope.names []) = oc ++ clOf env scope.names [] := by
    rw [← hoc]
    exact cellsFrom_append scope.names (a + 1 + 1) [] (clOf env scope.names [])
  rw [hcl]
  generalize hcenv : newEnv scope (a + 1) env.globals (oc ++ clOf env scope.names []) env.qual none .none (some env) builtinsNs = cenv
  have eloc : cenv.locals = a + 1 := by rw [← hcenv]; rfl
  have ecells : cenv.cells = oc ++ clOf env scope.names [] := by rw [← hcenv]; rfl
  rw [rl_eq, hs]
  generalize hh₄ : pushCells (h₃.push { cls := .type "dict", data := .dict #[] }) scope.names = h₄
  have k3 : ∀ b o, s₂.heap.get? b = some o → h₃.get? b = some o := fun b o e => by rw [← hh₃]; exact Heap.get?_push_of_some _ e
  have k4 : ∀ b o, h₃.get? b = some o → h₄.get? b = some o := fun b o e => by rw [← hh₄]; exact pushCells_keeps _ _ b o (Heap.get?_push_of_some _ e)
  have z4 : a + 2 ≤ h₄.objs.size := by
    rw [← hh₄]
    refine Nat.le_trans ?_ (pushCells_size _ _)
    rw [Heap.size_push, hL]
    lia
  have hacc : h₄.PlainList a (List.toArray []) := ⟨0, k4 _ _ (by rw [← hh₃, ← ha]; exact Heap.get?_push_size _ rfl)⟩
  have cok : CellsOk h₄ (a + 1 + 1) oc := by
    have := cellsFrom_ok scope.names (h₃.push { cls := .type "dict", data := .dict #[] }) (a + 1 + 1) [] ⟨fun _ _ hm => (nomatch hm), List.Pairwise.nil⟩ (by rw [Heap.size_push, hL]; exact Nat.le_refl _)
    rw [Heap.size_push, hL, hoc, hh₄] at this
    exact this
  have hns : h₄.Ns (a + 1) (fun _ => none) := by
    rw [← hh₄]
    refine Heap.Ns.keeps ?_ (pushCells_keeps _ _)
    have := Heap.Ns.new h₃ (.type "dict")
    rw [hL] at this
    exact this
  have hsa : s.heap.objs.size ≤ a := by rw [← ha]; exact g.sz
  have g4 : Gr s { s₂ with heap := h₄ } := by
    refine g.trans (Gr.of (t := s₂.toks) (fun b o e => k4 b o (k3 b o e)) (Nat.le_refl _) (by lia))
  have oc_lo : ∀ y c, (y, c) ∈ oc → a + 1 < c := fun y c h => (cok.empty y c h).2
  let X : FX := { env := { cenv with scope := rl scope sc }, A := A, base := s, U := U, oc := oc, ownk := KindOk scope, V := fun b => b = a }
  have own_lk : ∀ x, scope.names.lookup x = some .cell → ∃ c, oc.lookup x = some c := fun x e => by
    rw [← hoc]
    exact cellsFrom_mem _ _ _ _ (.inl (mem_of_lookup e))
  have oc_cell : ∀ x c, oc.lookup x = some c → scope.names.lookup x = some .cell := fun x c e => by
    rw [← hoc] at e
    rcases cellsFrom_names _ _ _ _ _ (mem_of_lookup e) with h | h
    · exact lookup_of_mem C.nd h
    · exact nomatch h
  have kindX : ∀ x, X.env.kindOf x = (scope.names.lookup x).map (rlk sc x) := fun x => rl_lookup scope sc x
  have hY : ST0 K (X.more (· ∈ wr)) ρ [] (fun _ => none) (fun _ => none) { s₂ with heap := h₄ } := by
    have hsame : ∃ h tk, ({ s₂ with heap := h₄ } : Shared) = { s with heap := h, toks := tk } := by
      obtain ⟨h, tk, e⟩ := g.kept
      exact ⟨h₄, tk, by rw [e.1]⟩
    have hWn : ∀ b, Wn (X.more (· ∈ wr)) [] b → U b ∨ s.heap.get? b = none := fun b q => by
      rcases Wn.more.mp q with (q | hy | q | ⟨y, q⟩ | q) | q
      · exact .inl q
      · cases hy
      · refine .inr (fresh_none' ?_)
        have q' : @Eq Nat b (a + 1) := q.trans eloc
        lia
      · have h2 : @LT.lt Nat _ (a + 1) b := oc_lo y b (mem_of_lookup q)
        exact .inr (fresh_none' (by lia))
      · have q' : @Eq Nat b a := q
        exact .inr (fresh_none' (by lia))
      · exact .inr (fresh_none' (hwr b q).1)
    refine ⟨⟨hsame, ?_, fun b o _ _ e => g4.keep b o e, fun b o q => q.elim, ?_, fun y c e => (cok.empty y c (mem_of_lookup e)).1, cok.apart, fun y c h => ?_, fun y c e => ?_⟩, ok.toHOK, ok.toHOK.gr g4, g4.le, C.kind, ?_, ?_, fun x hx => ?_, fun x hx => ?_, fun x d e hx => ?_, fun _ _ e => (by cases e), fun _ e => (by cases e), fun b q => ?_, fun b q => ?_, fun _ q => q.elim, fun _ q => q.elim, fun q => q.elim⟩
    · show h₄.Ns cenv.locals _
      rw [eloc]; exact hns
    · show s.heap.objs.size ≤ cenv.locals
      rw [eloc]; lia
    · show cenv.locals < c
      rw [eloc]; exact oc_lo y c h
    · show cenv.cells.lookup y = some c
      rw [ecells, List.lookup_append]
      have e' : oc.lookup y = some c := e
      rw [e']; rfl
    · show cenv.globals = mainGlobals
      rw [← hcenv]; exact ok.gl
    · show cenv.builtins = builtinsNs
      rw [← hcenv]; exact ok.bl
    · -- every cell's or free name has a cell
      have hk : ∃ k, scope.names.lookup x = some k ∧ (k = .cell ∨ k = .free) := by
        have e := kindX x
        cases hq : scope.names.lookup x with
        | none => rw [hq] at e; rcases hx with h | h <;> exact absurd (e.symm.trans h) (by simp)
        | some k =>
          refine ⟨k, rfl, ?_⟩
          rw [hq] at e
          cases k <;> first
            | exact .inl rfl
            | exact .inr rfl
            | (rcases hx with h | h <;> exact absurd (e.symm.trans h) (by simp [rlk]))
      obtain ⟨k, hk, hc⟩ := hk
      show ∃ c, cenv.cells.lookup x = some c
      rw [ecells]
      rcases hc with rfl | rfl
      · obtain ⟨c, e⟩ := own_lk x hk
        exact ⟨c, by rw [List.lookup_append, e]; rfl⟩
      · obtain ⟨c, e⟩ := hce (x, .free) (mem_of_lookup hk) rfl
        have hno : oc.lookup x = none := by
          cases q : oc.lookup x with
          | none => rfl
          | some c' => have := oc_cell x c' q; rw [hk] at this; cases this
        exact ⟨c, by rw [List.lookup_append, hno]; exact clOf_lookup env _ _ _ _ e (.inl (mem_of_lookup hk))⟩
    · rcases (show KindOk scope x from hx) with h | h
      · exact .inl (by rw [show (X.more (· ∈ wr)).env.kindOf x = _ from kindX x, h]; rfl)
      · exact .inr ⟨by rw [show (X.more (· ∈ wr)).env.kindOf x = _ from kindX x, h]; rfl, own_lk x h⟩
    · -- the names of the frame around
      have hfree : scope.names.lookup x = some .free := by
        have ek := rl_lookup scope sc x
        have hx' : (rl scope sc).names.lookup x = some .local ∨ (rl scope sc).names.lookup x = some .cell ∨ (rl scope sc).names.lookup x = some .free := hx
        cases hq : scope.names.lookup x with
        | none => rw [hq] at ek; rw [ek] at hx'; simp at hx'
        | some k =>
          rw [hq] at ek
          cases k <;> first
            | rfl
            | (have := C.own x (.inl hq); rw [e] at this; cases this)
            | (have := C.own x (.inr hq); rw [e] at this; cases this)
            | (rw [ek] at hx'; simp [rlk] at hx')
      have hf := C.free (x, .free) (mem_of_lookup hfree) rfl
      obtain ⟨v, b, r⟩ := ok.vars x d e (by rw [hs]; exact .inr hf)
      refine ⟨v, .inr ?_, R.mono hWn (fun b o _ e => g4.keep b o e) d r⟩
      have hkx : X.env.kindOf x = some .cell ∨ X.env.kindOf x = some .free := by
        rw [kindX, hfree]
        by_cases hc : (NameKind.free == .free && sc.kind == .function && sc.names.lookup x == some .cell) = true
        · left; simp only [Option.map_some, rlk, hc, if_true]
        · right
          simp only [Option.map_some, rlk]
          rw [if_neg hc]
      rcases b with ⟨k, _⟩ | ⟨_, c, hc, hcell⟩
      · exfalso
        have k' : sc.names.lookup x = some .local := by rw [← hs]; exact k
        rcases hf with h | h <;> · rw [k'] at h; cases h
      · refine ⟨hkx, c, ?_, hcell, id, id⟩
        show cenv.cells.lookup x = some c
        have hno : oc.lookup x = none := by
          cases q : oc.lookup x with
          | none => rfl
          | some c' => have := oc_cell x c' q; rw [hfree] at this; cases this
        rw [ecells, List.lookup_append, hno]
        exact clOf_lookup env _ _ _ _ hc (.inl (mem_of_lookup hfree))
    · show @LT.lt Nat _ b h₄.objs.size
      rcases q with q | q
      · have q' : @Eq Nat b a := q
        lia
      · have h1 : @LT.lt Nat _ b s₂.heap.objs.size := (hwr b q).2
        lia
    · rcases q with q | q
      · have q' : @Eq Nat b a := q
        refine ⟨by show @LE.le Nat _ s.heap.objs.size b; lia, by show b ≠ cenv.locals; rw [eloc]; exact ne_addr (.inl (by show @LT.lt Nat _ b (a + 1); lia)), fun y e => ?_⟩
        have h2 : @LT.lt Nat _ (a + 1) b := oc_lo y b (mem_of_lookup e)
        lia
      · have h1 : @LT.lt Nat _ b s₂.heap.objs.size := (hwr b q).2
        refine ⟨(hwr b q).1, by show b ≠ cenv.locals; rw [eloc]; exact ne_addr (.inl (by show @LT.lt Nat _ b (a + 1); lia)), fun y e => ?_⟩
        have h2 : @LT.lt Nat _ (a + 1) b := oc_lo y b (mem_of_lookup e)
        lia
  have notF : ∀ {b o}, s₂.heap.get? b = some o → ¬ Frm X b ∧ b ≠ a := fun {b o} e => by
    have hb : @LT.lt Nat _ b a := by rw [← ha]; exact Heap.lt_size e
    refine ⟨fun q => ?_, Nat.ne_of_lt hb⟩
    rcases q with q | ⟨y, q⟩
    · have q' : @Eq Nat b (a + 1) := q.trans eloc
      lia
    · have h2 : @LT.lt Nat _ (a + 1) b := oc_lo y b (mem_of_lookup q)
      lia
  have haw : a ∉ wr := fun q => by
    have q' := (hwr a q).2
    rw [ha] at q'
    exact Nat.lt_irrefl _ q'
  have st4 : St 0 h₄ := W.frame _ _ _ hst fun b _ o e => k4 b o (k3 b o e)
  refine codeAny_mono (comp_core (X := X) (s := { s₂ with heap := h₄ }) (acc := a) (vs := []) (its := its) (dss := dss) rfl hit rfl (fun _ h => h) rm hY rfl haw hacc (by
      show 0 + _ ≤ sizeLine
      exact Nat.le_trans (by lia) (show 100000 ≤ sizeLine by decide)) W st4 (fun b hb hbw => ?_) hself (fun i v h hP hk => ?_)) ?_
  · have hb : @LT.lt Nat _ b a := by have := (hfp b hb hbw).2; rw [ha] at this; exact this
    refine ⟨fun q => ?_, Nat.ne_of_lt hb⟩
    rcases q with q | ⟨y, q⟩
    · have q' : @Eq Nat b (a + 1) := q.trans eloc
      lia
    · have h2 : @LT.lt Nat _ (a + 1) b := oc_lo y b (mem_of_lookup q)
      lia
  · refine hitem i v h _ hP (fun b o q z e => hk b o (notF e).1 (notF e).2 z (k4 b o (k3 b o e))) fun b q => ?_
    rcases Wn.more.mp q with (q | hy | q | ⟨y, q⟩ | q) | q
    · exact .inl q
    · cases hy
    · have q' : @Eq Nat b (a + 1) := q.trans eloc
      exact .inr (.inr (fresh_none' (by show @LE.le Nat _ s₂.heap.objs.size b; lia)))
    · have h2 : @LT.lt Nat _ (a + 1) b := oc_lo y b (mem_of_lookup q)
      exact .inr (.inr (fresh_none' (by show @LE.le Nat _ s₂.heap.objs.size b; lia)))
    · have q' : @Eq Nat b a := q
      exact .inr (.inr (fresh_none' (by show @LE.le Nat _ s₂.heap.objs.size b; lia)))
    · exact .inr (.inl q)
  · rintro r s' ⟨rfl, m', cm', new, x1, hp', hrl, hk, hsz, htk⟩
    rw [eloc]
    have hg : Gr s s' := x1.gr (fun _ => id) (fun _ => id)
    refine hfin s' a (a + 1) new m' hg hsa (Nat.le_succ_of_le hsa) (Nat.ne_of_lt (Nat.lt_succ_self a)) (by simpa using hp') (RL.mono (fun b q => .inl ?_) (fun _ _ _ e => e) _ hrl) ?_
    · rcases q with q | q | q
      · exact Wn.more.mpr (.inl (.inl q))
      · exact Wn.more.mpr (.inl (.inr (.inr (.inr (.inr q)))))
      · exact Wn.more.mpr (.inl (.inr (.inr (.inl (q.trans eloc.symm)))))
    · have := x1.inC.ns
      show s'.heap.Ns (a + 1) m'
      rw [← eloc]; exact this
theorem comp_run {elt t iter : Expr} {ifs : List Expr} {rest : List Comprehension} {pos : Pos} {its : List D} {dss : Nat → List D} (C : CompScope scope sc ρ) (hi : EVI prog w K sc n ρ iter t its)
    (hit : ∀ i d, its[i]? = some d → Items prog w K scope (rl scope sc) n elt (⟨t, iter, ifs, 0⟩ :: rest) pos 0 ρ t ifs d (dss i)) (hl : (catN dss its.length).length ≤ 100000)
    {env : Env} {A : Around} {U : Addr → Prop} {s : Shared} (hs : env.scope = sc) (rm : Rm n A) (ok : EOK K U env ρ s) {use : Option (Value → Sem Unit)} {Q : Value → Shared → Prop}
    (hfin : ∀ s' a L vs m, Gr s s' → s.heap.objs.size ≤ a → s.heap.objs.size ≤ L → a ≠ L → s'.heap.PlainList a (List.toArray vs) → RL (fun b => U b ∨ b = a ∨ b = L) s'.heap vs (catN dss its.length) → s'.heap.Ns L m →
      compPost (model prog w) A (fun _ _ => False) use Q (.ref a) L (.ok .next) s') :
    wpAny (model prog w) A (comprehension (.ListComp elt (⟨t, iter, ifs, 0⟩ :: rest) scope pos) scope env (firstIterPos (⟨t, iter, ifs, 0⟩ :: rest) pos) (newList []) false (eval iter env) use) Q (fun _ _ => False) s :=
  comp_run' C hit hl hs rm ok (fun x => hi.1 env x hs) (hi.2 env A U s hs rm ok) hfin
end
end Lw
end

section
open PySem PySem.W PyProof.Rows PySem.Calls
namespace Lw
section
variable {bx : Fl} {sc scope : Scope} {n : Nat} {ρ : Vars} {ω : Owns} {P : Out → Prop}
theorem evl_comp {elt t iter : Expr} {ifs : List Expr} {rest : List Comprehension} {pos : Pos} {its : List D} (dss : Nat → List D) (C : CompScope scope sc ρ) (hi : EVI prog w K sc n ρ iter t its)
    (hit : ∀ i d, its[i]? = some d → Items prog w K scope (rl scope sc) n elt (⟨t, iter, ifs, 0⟩ :: rest) pos 0 ρ t ifs d (dss i)) (hl : (catN dss its.length).length ≤ 100000) :
    EVL prog w K sc n ρ (.ListComp elt (⟨t, iter, ifs, 0⟩ :: rest) scope pos) (catN dss its.length) := fun env A U s hs rm ok => by
  rw [eval_ListComp]
  refine comp_run (use := none) C hi hit hl hs rm ok fun s' a L vs m g ha hL hne hp hr hn => ⟨m, hn, fun h' hsb => ?_⟩
  have g' : Gr s { s' with heap := h' } := by
    obtain ⟨⟨h, tk, e, k⟩, l, z⟩ := g
    subst e
    refine Gr.of (fun b o e => hsb.extBut b o (fun q => ?_) (k b o e)) l (by rw [hsb.1]; exact z)
    rw [q] at e
    exact absurd (Heap.lt_size e) (Nat.not_lt.mpr hL)
  refine ⟨g', a, vs, rfl, ha, let ⟨k, e⟩ := hp; ⟨k, hsb.extBut a _ hne e⟩, RL.mono (fun b q => .inl (q.imp id .inl)) (fun b o q e => hsb.extBut b o (fun e' => q (.inr (.inr e'))) e) _ hr⟩
theorem ex_assignC {x : Str} {p pos pos' : Pos} {elt t iter : Expr} {ifs : List Expr} {rest : List Comprehension} {its : List D} (dss : Nat → List D) (C : CompScope scope sc ρ) (hi : EVI prog w K sc n ρ iter t its)
    (hit : ∀ i d, its[i]? = some d → Items prog w K scope (rl scope sc) n elt (⟨t, iter, ifs, 0⟩ :: rest) pos 0 ρ t ifs d (dss i)) (hl : (catN dss its.length).length ≤ 100000)
    (hk : KindOk sc x) (hsw : ∀ env : Env, env.scope = sc → swapsWith (.ListComp elt (⟨t, iter, ifs, 0⟩ :: rest) scope pos) (some (.Name x p)) pos'.line env = pure true) (h : P (.next ((x, .lst (catN dss its.length)) :: ρ) ω)) :
    EX1 prog w K bx sc n (.Assign [.Name x p] (.ListComp elt (⟨t, iter, ifs, 0⟩ :: rest) scope pos) pos') ρ ω P := fun X s m cm hs rm x0 => by
  rw [exec_Assign_Name_used _ _ _ _ (hsw _ hs.sco)]
  refine wpAny_bind (wpAny_standAt (wpAny_bind ?_))
  show wpAny _ X.A (do let _ ← comprehension (.ListComp elt (⟨t, iter, ifs, 0⟩ :: rest) scope pos) scope X.env (firstIterPos (⟨t, iter, ifs, 0⟩ :: rest) pos) (newList []) false (eval iter X.env) (some (assign (.Name x p) X.env))) _ _ s
  refine wpAny_bind (wp_E (Q := fun _ s' => ∃ o, P o ∧ Ends K X ω s o .next s') (comp_run C hi hit hl hs.sco rm x0.eok fun s' a L vs m' g ha hL hne hp hr hn => ?_) fun _ _ q => wpAny_pure (wpAny_pure q))
  have hL' : L < s'.heap.objs.size := hn.lt
  have x1 : ST0 K (X.more (· = L)) ρ ω m cm s' := x0.enter g fun b q => by subst q; exact ⟨hL, hL'⟩
  have rd : R (Wn (X.more (· = L)) ω) s'.heap (.ref a) (.lst (catN dss its.length)) := by
    refine ⟨a, vs, rfl, fun q => ?_, hp, RL.mono (fun b q => .inl ((Wn.more.mp q).imp id .inr)) (fun _ _ _ e => e) _ hr⟩
    rcases Wn.more.mp q with q | q
    · exact x0.hokW.not_fresh ha q
    · exact hne q
  show wpAny _ X.A (assign (.Name x p) X.env (.ref a)) _ _ s'
  refine wpAny_assign_Name (st_set (X := X.more (· = L)) x1 (x1.cl x (hs.ow x hk)) rd fun s'' hz73 le z hk₂ => ?_)
  obtain ⟨m₂, cm₂, x2⟩ := hz73
  have hLf : ¬ Frm X L := fun q => q.elim (fun q => (x1.vb L (.inr rfl)).2.1 q) fun hz74 => by obtain ⟨y, q⟩ := hz74; exact (x1.vb L (.inr rfl)).2.2 y q
  refine ⟨m', hn.at' fun o e => hk₂ L o hLf e, fun h' hsb => ⟨_, h, rfl, ⟨m₂, cm₂, ?_⟩, ?_⟩⟩
  · have := x2.step (wr := [L]) (h' := h') (tk := s''.toks) (fun b o hb e => hsb.extBut b o (by simpa using hb) e) (Nat.le_refl _) (fun b hb => .inr (List.mem_singleton.mp hb)) (by rw [hsb.1]; exact Nat.le_refl _)
    exact this.leave
  · refine ⟨fun b o q q' _ e => ?_, fun y hy => .inl hy, ?_, Nat.le_trans g.le le⟩
    · refine hsb.extBut b o (fun e' => ?_) (hk₂ b o q (g.keep b o e))
      rw [e'] at e
      exact absurd (Heap.lt_size e) (Nat.not_lt.mpr hL)
    · show s.heap.objs.size ≤ h'.objs.size
      rw [hsb.1]
      exact Nat.le_trans g.sz z
theorem item_one {sc' : Scope} {elt t iter : Expr} {ifs : List Expr} {pos : Pos} {d e : D} {b : Bool} (ht : TgtOk (KindOk scope) t d) (hsub : Sub ρ (bindT t d ρ)) (hts : TS prog w K sc' n (bindT t d ρ) ifs b)
    (he : b = true → EV prog w K sc' n (bindT t d ρ) elt e) : Items prog w K scope sc' n elt [⟨t, iter, ifs, 0⟩] pos 0 ρ t ifs d (if b then [e] else []) where
  tgt := ht
  sub := hsub
  test := ⟨b, hts, fun h => by subst h; exact work_last rfl (he rfl), fun h => by subst h; rfl⟩
end
end Lw
end

section
open PySem PySem.W PyProof.Rows PySem.Calls
namespace Lw
noncomputable def ShapeOk : Expr → D → Prop
  | .Tuple _ _ _, d => ∃ ds, d = .tup ds
  | .List _ _, _ => False
  | _, _ => True
theorem rt_of_r {U : Addr → Prop} {h : Heap} {v : Value} {t : Expr} {d : D} (hs : ShapeOk t d) (r : R U h v d) : RT U h v t d := by
  cases t <;> first
    | exact r
    | (obtain ⟨ds, rfl⟩ := hs; obtain ⟨a, vs, rfl, _, ht, rl⟩ := r; exact ⟨ds, a, vs, rfl, rfl, ht, rl⟩)
theorem go_plain {M : Model} {A : Around} {E : Value → Shared → Prop} {s : Shared} {Q : Unit → Shared → Prop} {t : Expr} {I : Addr} {v : Value} {o : Obj} {T : String} (ho : s.heap.get? I = some o) (hT : o.cls = .type T)
    (hn : ["enumerate", "zip", "dict_itemiterator", "dict_reverseitemiterator", "odict_iterator", "itertools.zip_longest", "itertools.pairwise"].contains T = false) (h : Q () s) : wpAny M A (letOwnedTupleGo t (.ref I) v) Q E s := by
  have go : wpAny M A (do
      let (.ref r, .ref a) := ((.ref I : Value), v) | return
      let o ← load r
      match o.cls, o.data with
      | .type n, .fields vs =>
        if ["enumerate", "zip", "dict_itemiterator", "dict_reverseitemiterator", "odict_iterator", "itertools.zip_longest", "itertools.pairwise"].contains n && vs[0]? == some (rawInt a) then
          rule "for.unpacks-the-owned-tuple"
          updateField r 0 .none
      | _, _ => pure ()) Q E s := by
    cases v <;> try exact wpAny_pure h
    refine wpAny_bind (wpAny_load ho ?_)
    rw [hT]
    cases o.data <;> try exact wpAny_pure h
    simp only [hn, Bool.false_and, Bool.false_eq_true, if_false]
    exact wpAny_pure h
  unfold letOwnedTupleGo
  cases t <;> first | exact go | exact wpAny_pure h

section
variable {sc : Scope} {n : Nat} {ρ : Vars}
noncomputable def FsOk (sc : Scope) (e : Expr) : Prop := ∀ (env : Env) x, env.scope = sc → foldedSetIterable e env x = pure x
theorem evi_list {e t : Expr} {its : List D} (hf : FsOk sc e) (h : EV prog w K sc n ρ e (.lst its)) (hsh : ∀ d ∈ its, ShapeOk t d) : EVI prog w K sc n ρ e t its := by
  refine ⟨hf, fun env A U s hs rm ok => wpAny_mono (h env A U s hs rm ok) (fun xv s₁ hz75 => ?_) fun _ _ q => q⟩
  obtain ⟨g, r⟩ := hz75
  obtain ⟨a, vs, rfl, hu, hl, rl⟩ := r
  have hl := hl.isList
  refine wpAny_pyIter_list hl ⟨g.trans Gr.push, ?_⟩
  have hal : a < s₁.heap.objs.size := by obtain ⟨o, e, _⟩ := hl; exact Heap.lt_size e
  have hlen : (List.toArray vs).size = its.length := by simp [rl.length]
  have W := Walks.list (prog := prog) (w := w) rm.hd s₁.heap.objs.size a (Nat.ne_of_lt hal) (List.toArray vs)
  rw [hlen] at W
  have up : ∀ b o, s₁.heap.get? b = some o → (s₁.heap.push { cls := .type "list_iterator", data := .fields #[.ref a, .int 0 0] }).get? b = some o := fun b o e => Heap.get?_push_of_some _ e
  refine ⟨_, _, _, _, _, _, rfl, KTurns.ofWalks W (fun i v s Q E st hQ => ?_), ⟨⟨_, Heap.get?_push_size _ rfl, rfl, rfl⟩, hl.push _⟩, fun b hb => ?_, fun b hb hbw => ?_, fun s Q E st hQ => W.self 0 s Q E st hQ, fun i v h' U' hP hk hU' => ?_⟩
  · obtain ⟨o, ho, hc, _⟩ := st.1
    exact go_plain ho hc (by decide +kernel) hQ
  · rw [List.mem_singleton.mp hb]
    refine ⟨g.sz, ?_⟩
    show s₁.heap.objs.size < (s₁.heap.push _).objs.size
    rw [Heap.size_push]; exact Nat.lt_succ_self _
  · have : b = a := by
      rcases List.mem_cons.mp hb with rfl | hb
      · exact absurd (List.mem_singleton.mpr rfl) hbw
      · exact List.mem_singleton.mp hb
    subst this
    refine ⟨hu, ?_⟩
    show b < (s₁.heap.push _).objs.size
    rw [Heap.size_push]; exact Nat.lt_succ_of_lt hal
  · have hP' : vs[i]? = some v := by simpa using hP
    have hi : i < its.length := by
      have := (List.getElem?_eq_some_iff.mp hP').1
      rw [rl.length] at this; exact this
    obtain ⟨v', e', r⟩ := rl.get (List.getElem?_eq_getElem hi)
    rw [hP'] at e'
    cases e'
    refine ⟨its[i], List.getElem?_eq_getElem hi, rt_of_r (hsh _ (List.getElem_mem hi)) (R.mono (fun b q => ?_) (fun b o q e => hk b o q (fun z => ?_) (up b o e)) _ r)⟩
    · rcases hU' b q with q | q | q
      · exact .inl q
      · right; rw [List.mem_singleton.mp q]; exact fresh_none _
      · right
        cases e : s₁.heap.get? b with
        | none => rfl
        | some o =>
          have q' : (s₁.heap.push { cls := .type "list_iterator", data := .fields #[.ref a, .int 0 0] }).get? b = none := q
          rw [up b o e] at q'; cases q'
    · rw [List.mem_singleton.mp z] at e
      exact absurd (Heap.lt_size e) (Nat.lt_irrefl _)
theorem evi_tuple {e t : Expr} {its : List D} (hf : FsOk sc e) (h : EV prog w K sc n ρ e (.tup its)) (hsh : ∀ d ∈ its, ShapeOk t d) : EVI prog w K sc n ρ e t its := by
  refine ⟨hf, fun env A U s hs rm ok => wpAny_mono (h env A U s hs rm ok) (fun xv s₁ hz76 => ?_) fun _ _ q => q⟩
  obtain ⟨g, r⟩ := hz76
  obtain ⟨a, vs, rfl, hu, hl, rl⟩ := r
  refine wpAny_pyIter_tuple hl ⟨g.trans Gr.push, ?_⟩
  have hal : a < s₁.heap.objs.size := by obtain ⟨o, e, _⟩ := hl; exact Heap.lt_size e
  have hlen : (List.toArray vs).size = its.length := by simp [rl.length]
  have W := Walks.tuple (prog := prog) (w := w) rm.hd s₁.heap.objs.size a (Nat.ne_of_lt hal) (List.toArray vs)
  rw [hlen] at W
  have up : ∀ b o, s₁.heap.get? b = some o → (s₁.heap.push { cls := .type "tuple_iterator", data := .fields #[.ref a, .int 0 0] }).get? b = some o := fun b o e => Heap.get?_push_of_some _ e
  refine ⟨_, _, _, _, _, _, rfl, KTurns.ofWalks W (fun i v s Q E st hQ => ?_), ⟨⟨_, Heap.get?_push_size _ rfl, rfl, rfl⟩, hl.push _⟩, fun b hb => ?_, fun b hb hbw => ?_, fun s Q E st hQ => W.self 0 s Q E st hQ, fun i v h' U' hP hk hU' => ?_⟩
  · obtain ⟨o, ho, hc, _⟩ := st.1
    exact go_plain ho hc (by decide +kernel) hQ
  · rw [List.mem_singleton.mp hb]
    refine ⟨g.sz, ?_⟩
    show s₁.heap.objs.size < (s₁.heap.push _).objs.size
    rw [Heap.size_push]; exact Nat.lt_succ_self _
  · have : b = a := by
      rcases List.mem_cons.mp hb with rfl | hb
      · exact absurd (List.mem_singleton.mpr rfl) hbw
      · exact List.mem_singleton.mp hb
    subst this
    refine ⟨hu, ?_⟩
    show b < (s₁.heap.push _).objs.size
    rw [Heap.size_push]; exact Nat.lt_succ_of_lt hal
  · have hP' : vs[i]? = some v := by simpa using hP
    have hi : i < its.length := by
      have := (List.getElem?_eq_some_iff.mp hP').1
      rw [rl.length] at this; exact this
    obtain ⟨v', e', r⟩ := rl.get (List.getElem?_eq_getElem hi)
    rw [hP'] at e'
    cases e'
    refine ⟨its[i], List.getElem?_eq_getElem hi, rt_of_r (hsh _ (List.getElem_mem hi)) (R.mono (fun b q => ?_) (fun b o q e => hk b o q (fun z => ?_) (up b o e)) _ r)⟩
    · rcases hU' b q with q | q | q
      · exact .inl q
      · right; rw [List.mem_singleton.mp q]; exact fresh_none _
      · right
        cases e : s₁.heap.get? b with
        | none => rfl
        | some o =>
          have q' : (s₁.heap.push { cls := .type "tuple_iterator", data := .fields #[.ref a, .int 0 0] }).get? b = none := q
          rw [up b o e] at q'; cases q'
    · rw [List.mem_singleton.mp z] at e
      exact absurd (Heap.lt_size e) (Nat.lt_irrefl _)
noncomputable def signsD (x : Str) : List D := x.cps.toList.map fun c => .str ⟨#[c]⟩
theorem evi_str {e : Expr} {y : Str} {p : Pos} {x : Str} (hf : FsOk sc e) (h : EV prog w K sc n ρ e (.str x)) : EVI prog w K sc n ρ e (.Name y p) (signsD x) := by
  refine ⟨hf, fun env A U s hs rm ok => wpAny_mono (h env A U s hs rm ok) (fun xv s₁ hz77 => ?_) fun _ _ q => q⟩
  obtain ⟨g, r⟩ := hz77
  obtain ⟨t, rfl⟩ := r
  refine wpAny_pyIter_str fun o St HW st => ⟨g.trans Gr.push, ?_⟩
  have W := HW A rm.hd
  have hlen : x.cps.size = (signsD x).length := by simp [signsD]
  rw [hlen] at W
  refine ⟨_, _, _, _, _, _, rfl, KTurns.ofWalks W (fun i v s Q E st hQ => ?_), st, fun b hb => ?_, fun b hb hbw => absurd hb hbw, fun s Q E st hQ => W.self 0 s Q E st hQ, fun i v h' U' hP hk hU' => ?_⟩
  · exact wpAny_pure hQ
  · rw [List.mem_singleton.mp hb]
    refine ⟨g.sz, ?_⟩
    show s₁.heap.objs.size < (s₁.heap.push _).objs.size
    rw [Heap.size_push]; exact Nat.lt_succ_self _
  · obtain ⟨c, u, e1, rfl⟩ := hP
    have : x.cps.toList[i]? = some c := by simpa using e1
    exact ⟨.str ⟨#[c]⟩, by simp [signsD, this], u, rfl⟩
end
end Lw
end

section
open PySem PySem.W PyProof.Rows PySem.Calls
namespace Lw
section
variable (prog : Program) (w : World) (K : Frag)
noncomputable def CallI (f : Value) (n : Nat) (ds : List D) (t : Expr) (its : List D) : Prop :=
  ∀ A U s vs, Rm n A → HOK K U s → RL U s.heap vs ds → wpAny (model prog w) A (call f vs) (fun xv s₁ => wpAny (model prog w) A (pyIter xv) (fun it s₂ => Gr s s₂ ∧ ItOK prog w A U U t s s₂ it its) (fun _ _ => False) s₁) (fun _ _ => False) s
end
section
variable {sc : Scope} {n : Nat} {ρ : Vars}
theorem ItOK.mono {A : Around} {U : Addr → Prop} {t : Expr} {s₀ s s₂ : Shared} {it : Value} {its : List D} (g : s₀.heap.objs.size ≤ s.heap.objs.size) (h : ItOK prog w A U U t s s₂ it its) : ItOK prog w A U U t s₀ s₂ it its := by
  obtain ⟨I, fp, wr, P, Md, St, e, W, st, hwr, r⟩ := h
  exact ⟨I, fp, wr, P, Md, St, e, W, st, fun b hb => ⟨Nat.le_trans g (hwr b hb).1, (hwr b hb).2⟩, r⟩
theorem evi_call {fe t : Expr} {es : List Expr} {pos : Pos} {f : Value} {ds its : List D} (hshape : ∀ env, eval (.Call fe es [] pos) env = (do callWith pos (← eval fe env) [] (backTo pos (starEach es env)) (backToKw pos (keywordEach [] env))))
    (hp : ∀ env, (backTo pos (starEach es env)).any (·.1) = false) (hk : (∃ id, f = .builtin id) ∨ (∃ t, f = .type t) ∨ keepIn K f = true) (hfs : FsOk sc (.Call fe es [] pos))
    (hf : EV prog w K sc n ρ fe (.val f)) (ha : ES prog w K sc n ρ es ds) (hc : CallI prog w K f n ds t its) : EVI prog w K sc n ρ (.Call fe es [] pos) t its := by
  refine ⟨hfs, fun env A U s hs rm ok => ?_⟩
  rw [hshape]
  refine wpAny_bind (wpAny_mono (hf env A U s hs rm ok) (fun v s₁ hz78 => ?_) fun _ _ x => x)
  obtain ⟨g, r⟩ := hz78
  cases r
  refine callWith_go hs hk (hp _) rm (ok.gr g) ha fun vs s' g' ok' rs => ?_
  exact wpAny_mono (hc A U s' vs rm ok'.toHOK rs) (fun xv s₂ h => wpAny_mono h (fun it s₃ hz79 => by obtain ⟨g₃, i⟩ := hz79; exact ⟨(g.trans g').trans g₃, i.mono (g.trans g').sz⟩) fun _ _ q => q) fun _ _ q => q

noncomputable def upto (a b : Int) : List D := (List.range (b - a).toNat).map fun (i : Nat) => D.int (a + (i : Int))
theorem range_iter {y : Str} {p : Pos} {a b : Int} (ha : -(2 ^ 62) ≤ a ∧ a < 2 ^ 62) (hb : -(2 ^ 62) ≤ b ∧ b < 2 ^ 62) {A : Around} {U : Addr → Prop} {s s₁ : Shared} (hh : A.handled = none) (g : Gr s s₁) {r : Addr} {t u v : Tok} (hr : IsRange s₁.heap r a b 1 t u v) :
    wpAny (model prog w) A (pyIter (.ref r)) (fun it s₂ => Gr s s₂ ∧ ItOK prog w A U U (.Name y p) s s₂ it (upto a b)) (fun _ _ => False) s₁ := by
  refine wpAny_pyIter_range hr (small_one ha.1 ha.2 hb.1 hb.2) ⟨g.trans Gr.push, ?_⟩
  have hlen : (upto a b).length = (b - a).toNat := by simp [upto]
  have hsz : Builtin.Range.rangeSize a b 1 = (((b - a).toNat : Nat) : Int) := by rw [rangeSize_one]; split <;> lia
  have W := (Walks.range (prog := prog) (w := w) hh s₁.heap.objs.size a 1 (b - a).toNat).bound
  rw [← hlen] at W
  refine ⟨_, _, _, _, _, _, rfl, KTurns.ofWalks W (fun i v s Q E st hQ => wpAny_pure hQ), ?_, fun b hb => ?_, fun b hb hbw => absurd hb hbw, fun s Q E st hQ => W.self 0 s Q E st hQ, fun i v h' U' hP hk hU' => ?_⟩
  · show IsRangeIter _ _ _ _ _
    rw [hlen, ← hsz]
    have e1 : a + ((0 : Nat) : Int) * 1 = a := by lia
    have e2 : Builtin.Range.rangeSize a b 1 - ((0 : Nat) : Int) = Builtin.Range.rangeSize a b 1 := by lia
    rw [e1, e2]
    exact Heap.get?_push_size _ rfl
  · rw [List.mem_singleton.mp hb]
    refine ⟨g.sz, ?_⟩
    show s₁.heap.objs.size < (s₁.heap.push _).objs.size
    rw [Heap.size_push]; exact Nat.lt_succ_self _
  · obtain ⟨hi, t', rfl⟩ := hP
    rw [hlen] at hi
    refine ⟨.int (a + (i : Int)), ?_, t', by rw [Int.mul_one]⟩
    show (upto a b)[i]? = _
    unfold upto
    rw [List.getElem?_map, List.getElem?_range hi]
    rfl
theorem rng1 {y : Str} {p : Pos} {a : Int} (ha : -(2 ^ 62) ≤ a ∧ a < 2 ^ 62) : CallI prog w K (.type "range") n [.int a] (.Name y p) (upto 0 a) := fun A U s vs rm ok rl => by
  obtain ⟨v, vs', rfl, ⟨t, rfl⟩, r⟩ := rl
  cases r
  refine call_range_1 (range_iter (by decide) ha rm.hd ?_ (IsRange.new ..))
  exact Gr.of (fun _ _ e => Heap.get?_push_of_some _ e) (Nat.le_add_right _ 2) (by rw [Heap.size_push]; lia)
theorem rng2 {y : Str} {p : Pos} {a b : Int} (ha : -(2 ^ 62) ≤ a ∧ a < 2 ^ 62) (hb : -(2 ^ 62) ≤ b ∧ b < 2 ^ 62) : CallI prog w K (.type "range") n [.int a, .int b] (.Name y p) (upto a b) := fun A U s vs rm ok rl => by
  obtain ⟨v, vs', rfl, ⟨t, rfl⟩, v2, vs2, rfl, ⟨t2, rfl⟩, r⟩ := rl
  cases r
  refine call_range_2 (range_iter ha hb rm.hd ?_ (IsRange.new ..))
  exact Gr.of (fun _ _ e => Heap.get?_push_of_some _ e) (Nat.le_add_right _ 1) (by rw [Heap.size_push]; lia)

noncomputable def numbered (its : List D) : List D := its.mapIdx fun i d => .tup [.int i, d]
theorem numbered_get {its : List D} {i : Nat} {d : D} (h : its[i]? = some d) : (numbered its)[i]? = some (.tup [.int i, d]) := by
  unfold numbered
  rw [List.getElem?_mapIdx, h]
  rfl
theorem enumL {elts : List Expr} {k : Nat} {p : Pos} {its : List D} : CallI prog w K (.type "enumerate") n [.lst its] (.Tuple elts k p) (numbered its) := fun A U s vs rm ok rl => by
  obtain ⟨v, vs', rfl, ⟨l, xs, rfl, hu, hl, rx⟩, r⟩ := rl
  cases r
  have hl := hl.isList
  refine call_enumerate_list hl fun h' he hit hsz hk => ?_
  have hal : l < s.heap.objs.size := by obtain ⟨o, e, _⟩ := hl; exact Heap.lt_size e
  have g : Gr s { s with heap := h' } := Gr.of (t := s.toks) hk (Nat.le_refl _) (by rw [hsz]; lia)
  have W := WalksT.enumerate (prog := prog) (w := w) rm.hd (s.heap.objs.size + 1) s.heap.objs.size l (Nat.ne_of_gt (Nat.lt_succ_self _)) (Nat.ne_of_lt (Nat.lt_succ_of_lt hal)) (Nat.ne_of_lt hal) (List.toArray xs)
  have hlen : (List.toArray xs).size = (numbered its).length := by simp [numbered, rx.length]
  rw [hlen] at W
  have st : (∃ old, IsEnum h' (s.heap.objs.size + 1) s.heap.objs.size ((0 : Nat) : Int) old) ∧ h'.IsListIter s.heap.objs.size l 0 ∧ h'.IsList l (List.toArray xs) := ⟨⟨_, he⟩, hit, hl.at fun o e => hk l o e⟩
  refine W.self 0 { s with heap := h' } _ _ st ⟨g, _, _, _, _, _, _, rfl, KTurns.ofWalksU W.toU, st, fun b hb => ?_, fun b hb hbw => ?_, fun s Q E st hQ => W.self 0 s Q E st hQ, fun i v h₁ U' hP hk₁ hU' => ?_⟩
  · show s.heap.objs.size ≤ b ∧ b < h'.objs.size
    rw [hsz]
    rcases List.mem_cons.mp hb with rfl | hb
    · exact ⟨Nat.le_succ _, Nat.lt_succ_self _⟩
    · rw [List.mem_singleton.mp hb]
      exact ⟨Nat.le_refl _, Nat.lt_of_lt_of_le (Nat.lt_succ_self _) (Nat.le_succ _)⟩
  · have : b = l := by
      rcases List.mem_cons.mp hb with rfl | hb
      · exact absurd List.mem_cons_self hbw
      · rcases List.mem_cons.mp hb with rfl | hb
        · exact absurd (List.mem_cons_of_mem _ List.mem_cons_self) hbw
        · exact List.mem_singleton.mp hb
    subst this
    exact ⟨hu, Nat.lt_of_lt_of_le hal g.sz⟩
  · obtain ⟨T, vals, rfl, ⟨t, x, hx, rfl⟩, hT⟩ := hP
    have hx' : xs[i]? = some x := by simpa using hx
    have hi : i < its.length := by
      have := (List.getElem?_eq_some_iff.mp hx').1
      rw [rx.length] at this; exact this
    obtain ⟨v', e', r⟩ := rx.get (List.getElem?_eq_getElem hi)
    rw [hx'] at e'
    cases e'
    refine ⟨_, numbered_get (List.getElem?_eq_getElem hi), _, T, [.int i t, x], rfl, rfl, hT, ⟨_, _, rfl, ⟨t, rfl⟩, RL.one (R.mono (fun b q => ?_) (fun b o q e => hk₁ b o q (fun z => ?_) (hk b o e)) _ r)⟩⟩
    · rcases hU' b q with q | q | q
      · exact .inl q
      · right
        rcases List.mem_cons.mp q with rfl | q
        · exact fresh_none' (Nat.le_succ _)
        · rw [List.mem_singleton.mp q]; exact fresh_none _
      · right
        cases e : s.heap.get? b with
        | none => rfl
        | some o =>
          have q' : h'.get? b = none := q
          rw [hk b o e] at q'; cases q'
    · have hb := Heap.lt_size e
      rcases List.mem_cons.mp z with rfl | z
      · exact absurd hb (Nat.not_lt.mpr (Nat.le_succ _))
      · rw [List.mem_singleton.mp z] at hb; exact absurd hb (Nat.lt_irrefl _)

theorem ne_nat {a b : Nat} (h : a < b ∨ b < a) : @Ne Addr a b := fun e => by
  have e' : @Eq Nat a b := e
  lia
noncomputable def zipped (xs ys : List D) : List D := List.zipWith (fun x y => D.tup [x, y]) xs ys
theorem zip2L {elts : List Expr} {k : Nat} {p : Pos} {xs ys : List D} : CallI prog w K (.type "zip") n [.lst xs, .lst ys] (.Tuple elts k p) (zipped xs ys) := fun A U s vs rm ok rl => by
  obtain ⟨v, vs', rfl, ⟨l₁, us, rfl, hu₁, hl₁, rx⟩, v2, vs2, rfl, ⟨l₂, ws, rfl, hu₂, hl₂, ry⟩, r⟩ := rl
  cases r
  have hl₁ := hl₁.isList
  have hl₂ := hl₂.isList
  have a₁ : @LT.lt Nat _ l₁ s.heap.objs.size := by obtain ⟨o, e, _⟩ := hl₁; exact Heap.lt_size e
  have a₂ : @LT.lt Nat _ l₂ s.heap.objs.size := by obtain ⟨o, e, _⟩ := hl₂; exact Heap.lt_size e
  refine call_zip_2 hl₁ hl₂ fun h' hz hTI hTO h1 h2 hsz hk => ?_
  have g : Gr s { s with heap := h' } := Gr.of (t := s.toks) hk (Nat.le_refl _) (by rw [hsz]; lia)
  have W := WalksT.zip2 (prog := prog) (w := w) rm.hd (s.heap.objs.size + 4) (s.heap.objs.size + 2) (s.heap.objs.size + 3) s.heap.objs.size (s.heap.objs.size + 1) l₁ l₂
    (by constructor <;> exact ne_nat (by lia)) (List.toArray us) (List.toArray ws)
  have hlen : min (List.toArray us).size (List.toArray ws).size = (zipped xs ys).length := by simp [zipped, rx.length, ry.length]
  rw [hlen] at W
  have up : ∀ b o, s.heap.get? b = some o → h'.get? b = some o := hk
  have st : IsZip h' (s.heap.objs.size + 4) (s.heap.objs.size + 2) (s.heap.objs.size + 3) .none ∧ IsPair h' (s.heap.objs.size + 2) (.ref s.heap.objs.size) (.ref (s.heap.objs.size + 1)) ∧ (∃ a b, IsPair h' (s.heap.objs.size + 3) a b) ∧
      h'.IsListIter s.heap.objs.size l₁ 0 ∧ h'.IsListIter (s.heap.objs.size + 1) l₂ 0 ∧ h'.IsList l₁ (List.toArray us) ∧ h'.IsList l₂ (List.toArray ws) :=
    ⟨hz, hTI, ⟨_, _, hTO⟩, h1, h2, hl₁.at fun o e => hk _ o e, hl₂.at fun o e => hk _ o e⟩
  have wlo : ∀ b ∈ [s.heap.objs.size + 4, s.heap.objs.size + 3, s.heap.objs.size, s.heap.objs.size + 1], @LE.le Nat _ s.heap.objs.size b ∧ @LT.lt Nat _ b (s.heap.objs.size + 5) := fun b hb => by
    simp only [List.mem_cons, List.not_mem_nil, or_false] at hb
    rcases hb with rfl | rfl | rfl | rfl <;> constructor <;> lia
  refine W.self 0 { s with heap := h' } _ _ st ⟨g, _, _, _, _, _, _, rfl, KTurns.ofWalksU W.toU, st, fun b hb => ?_, fun b hb hbw => ?_, fun s Q E st hQ => W.self 0 s Q E st hQ, fun i v h₁ U' hP hk₁ hU' => ?_⟩
  · show s.heap.objs.size ≤ b ∧ b < h'.objs.size
    rw [hsz]
    exact wlo b hb
  · have hb' : b = s.heap.objs.size + 2 ∨ b = l₁ ∨ b = l₂ := by
      simp only [List.mem_cons, List.not_mem_nil, or_false] at hb hbw
      rcases hb with q | q | q | q | q | q | q
      · exact absurd (.inl q) hbw
      · exact .inl q
      · exact absurd (.inr (.inl q)) hbw
      · exact absurd (.inr (.inr (.inl q))) hbw
      · exact absurd (.inr (.inr (.inr q))) hbw
      · exact .inr (.inl q)
      · exact .inr (.inr q)
    show ¬ U b ∧ @LT.lt Nat _ b h'.objs.size
    rw [hsz]
    rcases hb' with q | rfl | rfl
    · have q' : @Eq Nat b (s.heap.objs.size + 2) := q
      exact ⟨ok.not_fresh (show @LE.le Nat _ s.heap.objs.size b by lia), by lia⟩
    · exact ⟨hu₁, by lia⟩
    · exact ⟨hu₂, by lia⟩
  · obtain ⟨T, vals, rfl, ⟨x, y, hx, hy, rfl⟩, hT⟩ := hP
    have hx' : us[i]? = some x := by simpa using hx
    have hy' : ws[i]? = some y := by simpa using hy
    have hi : i < xs.length := by
      have := (List.getElem?_eq_some_iff.mp hx').1
      rw [rx.length] at this; exact this
    have hj : i < ys.length := by
      have := (List.getElem?_eq_some_iff.mp hy').1
      rw [ry.length] at this; exact this
    obtain ⟨v', e', r⟩ := rx.get (List.getElem?_eq_getElem hi)
    rw [hx'] at e'
    cases e'
    obtain ⟨v'', e'', r₂⟩ := ry.get (List.getElem?_eq_getElem hj)
    rw [hy'] at e''
    cases e''
    have tr : ∀ {v : Value} {d : D}, R U s.heap v d → R U' h₁ v d := fun r => R.mono (fun b q => by
      rcases hU' b q with q | q | q
      · exact .inl q
      · exact .inr (fresh_none' (wlo b q).1)
      · right
        cases e : s.heap.get? b with
        | none => rfl
        | some o =>
          have q' : h'.get? b = none := q
          rw [hk b o e] at q'; cases q') (fun b o q e => hk₁ b o q (fun z => absurd (wlo b z).1 (Nat.not_le.mpr (Heap.lt_size e))) (hk b o e)) _ r
    refine ⟨.tup [xs[i], ys[i]], ?_, _, T, [x, y], rfl, rfl, hT, ⟨_, _, rfl, tr r, RL.one (tr r₂)⟩⟩
    unfold zipped
    rw [List.getElem?_zipWith, List.getElem?_eq_getElem hi, List.getElem?_eq_getElem hj]
end
end Lw
end

section
open PySem PySem.W PyProof.Rows PySem.Calls
namespace Lw
section
variable {sc : Scope} {n : Nat} {ρ : Vars}
theorem bAdd {a b : Int} : BinG prog w K .Add n (.int a) (.int b) (.int (a + b)) := fun A U s _ _ rm ok hz85 hz86 => by
  obtain ⟨t, e⟩ := hz85
  obtain ⟨u, e'⟩ := hz86
  subst e e'; exact P.add_int ⟨Gr.toks, _, rfl⟩
theorem bSub {a b : Int} : BinG prog w K .Sub n (.int a) (.int b) (.int (a - b)) := fun A U s _ _ rm ok hz87 hz88 => by
  obtain ⟨t, e⟩ := hz87
  obtain ⟨u, e'⟩ := hz88
  subst e e'; exact P.sub_int ⟨Gr.toks, _, rfl⟩
theorem mulOk {a b : Int} (h : (-(2 ^ 63) < a ∧ a < 2 ^ 63) ∨ (-(2 ^ 63) < b ∧ b < 2 ^ 63)) : IntMulOk a b :=
  h.elim (fun h => .of_left (intBits_le_64 (by lia) (by lia))) fun h => .of_right (intBits_le_64 (by lia) (by lia))
theorem bMul {a b : Int} (h : (-(2 ^ 63) < a ∧ a < 2 ^ 63) ∨ (-(2 ^ 63) < b ∧ b < 2 ^ 63)) : BinG prog w K .Mult n (.int a) (.int b) (.int (a * b)) := fun A U s _ _ rm ok hz89 hz90 => by
  obtain ⟨t, e⟩ := hz89
  obtain ⟨u, e'⟩ := hz90
  subst e e'; exact P.mul_int ⟨Gr.toks, _, rfl⟩ (mulOk h)
theorem bDiv {a b : Int} (h0 : b ≠ 0) (h : b.natAbs < 1073741824) : BinG prog w K .FloorDiv n (.int a) (.int b) (.int (a.fdiv b)) := fun A U s _ _ rm ok hz91 hz92 => by
  obtain ⟨t, e⟩ := hz91
  obtain ⟨u, e'⟩ := hz92
  subst e e'; exact floordiv_int_or rm.hd (fun q => absurd q h0) (fun _ => ⟨Gr.toks, _, rfl⟩) fun _ => .inl (PyProof.noPylong_small h)
theorem bMod {a b : Int} (h0 : b ≠ 0) : BinG prog w K .Mod n (.int a) (.int b) (.int (a.fmod b)) := fun A U s _ _ rm ok hz93 hz94 => by
  obtain ⟨t, e⟩ := hz93
  obtain ⟨u, e'⟩ := hz94
  subst e e'; exact mod_int_or rm.hd (fun q => absurd q h0) (fun _ => ⟨Gr.toks, _, rfl⟩)
theorem bPow {a b : Int} (h0 : 0 ≤ b) (hb : b ≤ 1000000) (h : -(2 ^ 63) < a ∧ a < 2 ^ 63) : BinG prog w K .Pow n (.int a) (.int b) (.int (a ^ b.toNat)) := fun A U s _ _ rm ok hz95 hz96 => by
  obtain ⟨t, e⟩ := hz95
  obtain ⟨u, e'⟩ := hz96
  subst e e'
  refine pow_int h0 ?_ ⟨Gr.toks, _, rfl⟩
  have h1 : Builtin.Int.intBits a ≤ 64 := intBits_le_64 (by lia) (by lia)
  have h2 : (Builtin.Int.intBits a : Int) * b ≤ 64 * 1000000 := Int.mul_le_mul (by lia) hb h0 (by decide)
  lia
theorem cEq {a b : Int} : CmpG prog w K .Eq n (.int a) (.int b) (a == b) := fun A U s _ _ rm ok hz97 hz98 => by obtain ⟨t, e⟩ := hz97; obtain ⟨u, e'⟩ := hz98; subst e e'; exact P.eq_int ⟨Gr.refl s, rfl⟩
theorem cNe {a b : Int} : CmpG prog w K .NotEq n (.int a) (.int b) (a != b) := fun A U s _ _ rm ok hz99 hz100 => by obtain ⟨t, e⟩ := hz99; obtain ⟨u, e'⟩ := hz100; subst e e'; exact P.ne_int ⟨Gr.refl s, rfl⟩
theorem cLe {a b : Int} : CmpG prog w K .LtE n (.int a) (.int b) (decide (a ≤ b)) := fun A U s _ _ rm ok hz101 hz102 => by obtain ⟨t, e⟩ := hz101; obtain ⟨u, e'⟩ := hz102; subst e e'; exact P.le_int ⟨Gr.refl s, rfl⟩
theorem cGe {a b : Int} : CmpG prog w K .GtE n (.int a) (.int b) (decide (a ≥ b)) := fun A U s _ _ rm ok hz103 hz104 => by obtain ⟨t, e⟩ := hz103; obtain ⟨u, e'⟩ := hz104; subst e e'; exact P.ge_int ⟨Gr.refl s, rfl⟩
theorem cEqS {x y : Str} : CmpG prog w K .Eq n (.str x) (.str y) (x.cps.toList == y.cps.toList) := fun A U s _ _ rm ok hz105 hz106 => by obtain ⟨t, e⟩ := hz105; obtain ⟨u, e'⟩ := hz106; subst e e'; exact P.eq_str ⟨Gr.refl s, rfl⟩
theorem cNeS {x y : Str} : CmpG prog w K .NotEq n (.str x) (.str y) (x.cps.toList != y.cps.toList) := fun A U s _ _ rm ok hz107 hz108 => by obtain ⟨t, e⟩ := hz107; obtain ⟨u, e'⟩ := hz108; subst e e'; exact P.ne_str ⟨Gr.refl s, rfl⟩
theorem cInS {x y : Str} : CmpG prog w K .In n (.str y) (.str x) (!(Builtin.Str.occurrences x y 0 x.length 1).isEmpty) := fun A U s _ _ rm ok hz109 hz110 => by obtain ⟨t, e⟩ := hz109; obtain ⟨u, e'⟩ := hz110; subst e e'; exact P.in_str ⟨Gr.refl s, rfl⟩
theorem cIsNotB {a b : Bool} : CmpG prog w K .IsNot n (.bool a) (.bool b) (a != b) := fun A U s _ _ rm ok e e' => by
  cases e; cases e'
  refine wpAny_isNot_plain rfl ⟨Gr.refl s, ?_⟩
  cases a <;> cases b <;> rfl
noncomputable def isNoneD : D → Bool
  | .none => true
  | .val v => v == .none
  | _ => false
theorem cIsNone {d : D} (hd : match d with | .val _ | .obj _ => False | _ => True) : CmpG prog w K .Is n d .none (isNoneD d) := fun A U s a b rm ok r e' => by
  cases e'
  match d, r, hd with
  | .none, r, _ => cases r; exact wpAny_is_plain rfl ⟨Gr.refl s, rfl⟩
  | .bool _, r, _ => cases r; exact wpAny_is_plain rfl ⟨Gr.refl s, rfl⟩
  | .int _, ⟨_, r⟩, _ => subst r; exact wpAny_is_plain rfl ⟨Gr.refl s, rfl⟩
  | .str _, ⟨_, r⟩, _ => subst r; exact wpAny_is_plain rfl ⟨Gr.refl s, rfl⟩
  | .tup _, ⟨_, _, r, _⟩, _ => subst r; exact wpAny_is_plain rfl ⟨Gr.refl s, rfl⟩
  | .lst _, ⟨_, _, r, _⟩, _ => subst r; exact wpAny_is_plain rfl ⟨Gr.refl s, rfl⟩
  | .ins _ _, ⟨_, _, _, r, _⟩, _ => subst r; exact wpAny_is_plain rfl ⟨Gr.refl s, rfl⟩
theorem cIsNotNone {d : D} (hd : match d with | .val _ | .obj _ => False | _ => True) : CmpG prog w K .IsNot n d .none (!isNoneD d) := fun A U s a b rm ok r e' => by
  cases e'
  cases d with
  | none => cases r; exact wpAny_isNot_plain rfl ⟨Gr.refl s, rfl⟩
  | bool _ => cases r; exact wpAny_isNot_plain rfl ⟨Gr.refl s, rfl⟩
  | int _ => obtain ⟨_, rfl⟩ := r; exact wpAny_isNot_plain rfl ⟨Gr.refl s, rfl⟩
  | str _ => obtain ⟨_, rfl⟩ := r; exact wpAny_isNot_plain rfl ⟨Gr.refl s, rfl⟩
  | tup _ => obtain ⟨_, _, rfl, _⟩ := r; exact wpAny_isNot_plain rfl ⟨Gr.refl s, rfl⟩
  | lst _ => obtain ⟨_, _, rfl, _⟩ := r; exact wpAny_isNot_plain rfl ⟨Gr.refl s, rfl⟩
  | ins _ _ => obtain ⟨_, _, _, rfl, _⟩ := r; exact wpAny_isNot_plain rfl ⟨Gr.refl s, rfl⟩
  | val _ => exact hd.elim
  | obj _ => exact hd.elim
theorem cIsT {a b : String} : CmpG prog w K .Is n (.val (.type a)) (.val (.type b)) ((Value.type a) == (Value.type b)) := fun A U s _ _ rm ok e e' => by
  cases e; cases e'
  exact wpAny_is_plain rfl ⟨Gr.refl s, rfl⟩
theorem cIsNotT {a b : String} : CmpG prog w K .IsNot n (.val (.type a)) (.val (.type b)) (!((Value.type a) == (Value.type b))) := fun A U s _ _ rm ok e e' => by
  cases e; cases e'
  exact wpAny_isNot_plain rfl ⟨Gr.refl s, rfl⟩

theorem bAddS {x y : Str} (h : x.length + y.length ≤ 2 ^ 24) : BinG prog w K .Add n (.str x) (.str y) (.str (x ++ y)) := fun A U s _ _ rm ok hz111 hz112 => by
  obtain ⟨t, e⟩ := hz111
  obtain ⟨u, e'⟩ := hz112
  subst e e'
  refine P.add_str ?_
  split
  · rename_i h0
    have : x ++ y = y := by
      have : x.cps = #[] := by have := beq_iff_eq.mp h0; exact Array.eq_empty_of_size_eq_zero this
      apply Str.ext'
      rw [Str.cps_append, this]; simp
    rw [this]
    exact ⟨Gr.refl s, u, rfl⟩
  · split
    · rename_i h0
      have : x ++ y = x := by
        have : y.cps = #[] := by have := beq_iff_eq.mp h0; exact Array.eq_empty_of_size_eq_zero this
        apply Str.ext'
        rw [Str.cps_append, this]; simp
      rw [this]
      exact ⟨Gr.refl s, t, rfl⟩
    · refine ⟨?_, Gr.toks, _, rfl⟩
      rw [Str.length_append]
      exact h

theorem evl_add {l r : Expr} {pos : Pos} {as bs : List D} (h₁ : EV prog w K sc n ρ l (.lst as)) (h₂ : EV prog w K sc n ρ r (.lst bs)) (hsz : as.length + bs.length ≤ 1000000) : EVL prog w K sc n ρ (.BinOp l .Add r pos) (as ++ bs) := fun env A U s hs rm ok => by
  refine wpAny_BinOp (two h₁ h₂ hs rm ok fun a b s' g ok' ra rb => ?_)
  obtain ⟨l, vs, rfl, hu, hl, rl⟩ := ra
  obtain ⟨b, ws, rfl, hu', hb, rb⟩ := rb
  have hl := hl.isList
  have hb := hb.isList
  obtain ⟨⟨cls, dd, data, sl⟩, ho, hc, k, hd⟩ := id hl
  obtain ⟨⟨cls2, dd2, data2, sl2⟩, ho2, hc2, k2, hd2⟩ := id hb
  simp only at hc hd hc2 hd2
  subst hc hd hc2 hd2
  have e : List.toArray vs ++ List.toArray ws = List.toArray (vs ++ ws) := by simp
  have hz : (List.toArray vs).size + (List.toArray ws).size ≤ sizeLine := by
    simp only [List.size_toArray, rl.length, rb.length]
    exact Nat.le_trans hsz (by decide)
  refine concat_meets ⟨_, ho, rfl⟩ ⟨_, ho2, rfl⟩ noFill_list_add seq_list_add PySem.F.slot_list_add PySem.F.entry_list_add (PySem.F.args_list_add_2 _ _) (list_addW l b (List.toArray vs) (List.toArray ws) k k2 dd dd2 sl sl2 hz) ⟨ho, ho2, ?_⟩
  rw [e]
  refine ⟨g.trans Gr.push, _, vs ++ ws, rfl, g.sz, ⟨0, Heap.get?_push_size _ rfl⟩, RL.mono (fun b q => q.imp id fun e => by rw [e]; exact fresh_none _) (fun b o _ e => Heap.get?_push_of_some _ e) _ (RL.append rl rb)⟩
noncomputable def pickD (ds : List D) (lo hi st : Option Int) : List D :=
  (sliceRange (sliceBounds lo hi st ds.length).1 (sliceBounds lo hi st ds.length).2.1 (sliceBounds lo hi st ds.length).2.2).filterMap (ds[·]?)
theorem RL.places {U : Addr → Prop} {h : Heap} {vs : List Value} {ds : List D} (r : RL U h vs ds) : ∀ js : List Nat, RL U h (js.filterMap (vs[·]?)) (js.filterMap (ds[·]?))
  | [] => rfl
  | j :: js => by
    cases hn : ds[j]? with
    | some d =>
      obtain ⟨v, hv, rv⟩ := r.get hn
      simp only [List.filterMap_cons, hn, hv]
      exact ⟨v, _, rfl, rv, RL.places r js⟩
    | none =>
      have hv : vs[j]? = none := by
        rw [List.getElem?_eq_none_iff] at hn ⊢
        rw [r.length]; exact hn
      simp only [List.filterMap_cons, hn, hv]
      exact RL.places r js
theorem RL.pick {U : Addr → Prop} {h : Heap} {vs : List Value} {ds : List D} (r : RL U h vs ds) (lo hi st : Option Int) : ∃ us, slicePick (List.toArray vs) lo hi st = List.toArray us ∧ RL U h us (pickD ds lo hi st) := by
  refine ⟨_, rfl, ?_⟩
  have := r.places (sliceRange (sliceBounds lo hi st ds.length).1 (sliceBounds lo hi st ds.length).2.1 (sliceBounds lo hi st ds.length).2.2)
  simpa [pickD, r.length] using this
noncomputable def PartOk (prog : Program) (w : World) (K : Frag) (sc : Scope) (n : Nat) (ρ : Vars) : Option Expr → Option Int → Prop
  | none, i => i = none
  | some e, i => ∃ k, i = some k ∧ EV prog w K sc n ρ e (.int k)
theorem part_go {e : Option Expr} {i : Option Int} (h : PartOk prog w K sc n ρ e i) {env : Env} {A : Around} {U : Addr → Prop} {s : Shared} (hs : env.scope = sc) (rm : Rm n A) (ok : EOK K U env ρ s) :
    wpAny (model prog w) A (valueOrNone (evalOpt e env)) (fun v s' => Gr s s' ∧ IsPart v i) (fun _ _ => False) s := by
  cases e with
  | none => cases h; exact wpAny_pure ⟨Gr.refl s, .none⟩
  | some e =>
    obtain ⟨k, rfl, h⟩ := h
    exact wpAny_mono (h env A U s hs rm ok) (fun v s' hz113 => by obtain ⟨g, t, e⟩ := hz113; subst e; exact ⟨g, .int k t⟩) fun _ _ q => q
theorem slice_go {lo hi st : Option Expr} {p : Pos} {i j k : Option Int} (h₁ : PartOk prog w K sc n ρ lo i) (h₂ : PartOk prog w K sc n ρ hi j) (h₃ : PartOk prog w K sc n ρ st k) {env : Env} {A : Around} {U : Addr → Prop} {s : Shared} (hs : env.scope = sc) (rm : Rm n A) (ok : EOK K U env ρ s) :
    wpAny (model prog w) A (eval (.Slice lo hi st p) env) (fun v s' => Gr s s' ∧ ∃ a x y z, v = .ref a ∧ s.heap.objs.size ≤ a ∧ s'.heap.IsSliceOf a x y z ∧ IsPart x i ∧ IsPart y j ∧ IsPart z k) (fun _ _ => False) s := by
  show wpAny _ _ (do
    let l ← valueOrNone (evalOpt lo env)
    let u ← holding [l] (valueOrNone (evalOpt hi env))
    let s ← holding [l, u] (valueOrNone (evalOpt st env))
    newFields "slice" [l, u, s]) _ _ s
  refine wpAny_bind (wpAny_mono (part_go h₁ hs rm ok) (fun x s₁ hz80 => ?_) fun _ _ q => q)
  obtain ⟨g₁, px⟩ := hz80
  refine wpAny_bind (wpAny_holding (wpAny_mono (part_go h₂ hs rm (ok.gr g₁)) (fun y s₂ hz81 => ?_) fun _ _ q => q))
  obtain ⟨g₂, py⟩ := hz81
  refine wpAny_bind (wpAny_holding (wpAny_mono (part_go h₃ hs rm (ok.gr (g₁.trans g₂))) (fun z s₃ hz82 => ?_) fun _ _ q => q))
  obtain ⟨g₃, pz⟩ := hz82
  have g := (g₁.trans g₂).trans g₃
  exact wpAny_newObj_type (T := "slice") ⟨g.trans Gr.push, _, x, y, z, rfl, g.sz, Heap.IsSliceOf.new .., px, py, pz⟩ (by size_fits)
theorem evl_slice {value : Expr} {lo hi st : Option Expr} {p pos : Pos} {ds : List D} {i j k : Option Int} (hv : EV prog w K sc n ρ value (.lst ds)) (h₁ : PartOk prog w K sc n ρ lo i) (h₂ : PartOk prog w K sc n ρ hi j) (h₃ : PartOk prog w K sc n ρ st k) (h0 : k ≠ some 0)
    (hs' : ∀ o i, subscripted (.Slice lo hi st p) false o i = operate [o, i] (getItem o i) ∨ subscripted (.Slice lo hi st p) false o i = operate [i, o] (getItem o i)) (hsz : ds.length ≤ 1000000) :
    EVL prog w K sc n ρ (.Subscript value (.Slice lo hi st p) pos) (pickD ds i j k) := fun env A U s hs rm ok => by
  refine Subscript_ (wpAny_mono (hv env A U s hs rm ok) (fun v s₁ hz83 => ?_) fun _ _ q => q)
  obtain ⟨g₁, r⟩ := hz83
  obtain ⟨l, vs, rfl, hu, hl, rl⟩ := r
  have hl := hl.isList
  refine wpAny_mono (slice_go h₁ h₂ h₃ hs rm (ok.gr g₁)) (fun v s₂ hz84 => ?_) fun _ _ q => q
  obtain ⟨g₂, a, x, y, z, e, ha, hsl, px, py, pz⟩ := hz84
  subst e
  have hl₂ : s₂.heap.IsList l (List.toArray vs) := hl.at fun o e => g₂.keep _ o e
  refine tail_ok hl₂.typeIs list_getitem_lookup hs' (wpAny_getItem_list_slice hl₂ hsl px py pz h0 ?_ (by simp only [List.size_toArray, rl.length]; exact Nat.le_trans hsz (by decide)))
  obtain ⟨us, e, r⟩ := (rl.keeps g₂.keep).pick i j k
  rw [e]
  have g := g₁.trans g₂
  exact ⟨g.trans Gr.push, _, us, rfl, g.sz, ⟨0, Heap.get?_push_size _ rfl⟩, RL.mono (fun b q => q.imp id fun e => by rw [e]; exact fresh_none _) (fun b o _ e => Heap.get?_push_of_some _ e) _ r⟩
end
end Lw
end

section
open PySem PySem.W PyProof.Rows PySem.Calls
namespace Lw
section
variable {sc : Scope} {n : Nat} {ρ : Vars}
theorem gInt (ds : List D) (i : Int) (d : D) (h0 : 0 ≤ i) (hi : i < 2 ^ 63) (h : ds[i.toNat]? = some d) : SubG prog w K n (.lst ds) (.int i) d := fun A U s a b rm ok ra rb => by
  obtain ⟨l, vs, rfl, hu, hl, r⟩ := ra
  have hl := hl.isList
  obtain ⟨t, rfl⟩ := rb
  obtain ⟨v, hv, rv⟩ := r.get h
  exact wpAny_getItem_list hl h0 hi (by simpa using hv) ⟨Gr.refl s, rv⟩
theorem tuple_item (l : Addr) (dd : Option Addr) (sl : Array (Option Value)) (items : Array Value) (n : Nat) (i : Int) (u : Tok) (k : Nat) (y : Value) (hlo : -2 ^ 63 ≤ i) (hhi : i < 2 ^ 63) (hk : seqIndex? i items.size = some k) (hy : items[k]? = some y) :
    Meets (Builtin.«tuple.__getitem__» ⟨[.ref l, .int i u], []⟩)
      (fun _ R s => s.heap.get? l = some { cls := .type "tuple", dict := dd, data := .seq items n, slots := sl } ∧ R (.ok (.ret y)) s) :=
  .of_wp fun prog w A R s h => by
    obtain ⟨hp, g, d, tk, os⟩ := s; obtain ⟨hl, h⟩ := h
    have f1 := AutoSeq1.idx_int
    have hf : ¬ (decide (i < -2 ^ 63) || decide (i ≥ 2 ^ 63)) = true := by simp; lia
    wp_walk using AutoSeq1.wpAny_loadPart' hl
    simp only [hk, hy, Option.bind_some]
    refine wpAny_ite_false (by simp; lia) ?_
    wp_walk
    exact ⟨_, rfl, h⟩
theorem gTup (ds : List D) (i : Int) (d : D) (k : Nat) (hlo : -(2 ^ 63) ≤ i) (hhi : i < 2 ^ 63) (hk : seqIndex? i ds.length = some k) (h : ds[k]? = some d) : SubG prog w K n (.tup ds) (.int i) d := fun A U s a b rm ok ra rb => by
  obtain ⟨l, vs, rfl, hu, hl, r⟩ := ra
  obtain ⟨t, rfl⟩ := rb
  obtain ⟨v, hv, rv⟩ := r.get h
  obtain ⟨⟨cls, dd, data, sl⟩, ho, hc, m, hd⟩ := id hl
  simp only at hc hd
  subst hc hd
  exact getItem_meets ⟨_, ho, rfl⟩ (by decide) F.slot_tuple_getitem F.entry_tuple_getitem (F.args_tuple_getitem_2 _ _) (tuple_item l dd sl (List.toArray vs) m i t k v hlo hhi (by simpa [r.length] using hk) (by simpa using hv)) ⟨ho, Gr.refl s, rv⟩
theorem len_lst (ds : List D) (h : ds.length ≤ 2 ^ 60) : CallG prog w K (.builtin "len") n [.lst ds] (.int ds.length) := fun A U s vs rm ok rl => by
  obtain ⟨v, vs', rfl, ⟨l, xs, rfl, hu, hl, rx⟩, r⟩ := rl
  cases r
  have hl := hl.isList
  have e : (List.toArray xs).size = ds.length := by simp [rx.length]
  refine call_len_list hl (by rw [e]; lia) ⟨Gr.of (fun _ _ e => e) (Nat.le_add_right _ 2) (Nat.le_refl _), s.toks + 1, ?_⟩
  rw [e]
theorem collect_sz {A : Around} {E : Value → Shared → Prop} {s : Shared} {Q : List Value → Shared → Prop} (it : Addr) {T : String} {o : Obj} {items : Array Value} {n : Nat} (hT : T = "list" ∨ T = "tuple")
    (ho : s.heap.get? it = some o) (hc : o.cls = .type T) (hd : o.data = .seq items n) (hsz : items.size ≤ sizeLine)
    (hQ : ∀ h', (∀ b o', s.heap.get? b = some o' → h'.get? b = some o') ∧ s.heap.objs.size ≤ h'.objs.size → Q items.toList { s with heap := h' }) :
    wpAny (model prog w) A (collect (.ref it)) Q E s := wp_with_sz (Nat.le_refl _) (wpAny_collect_seq it hT ho hc hd (fun h' hk hz => hQ h' ⟨hk, hz⟩) hsz)
theorem tuple_new_sz (l : Addr) (o : Obj) (items : Array Value) (n : Nat) (hc : o.cls = .type "list") (hd : o.data = .seq items n) (hsz : items.size ≤ sizeLine) :
    Meets (Builtin.«tuple.__new__» ⟨[.type "tuple", .ref l], []⟩)
      (fun _ R s => s.heap.get? l = some o ∧ ∀ h' : Heap, ((∀ b o', s.heap.get? b = some o' → h'.get? b = some o') ∧ s.heap.objs.size ≤ h'.objs.size) → R (.ok (.ret (.ref h'.objs.size))) { s with heap := h'.push { cls := .type "tuple", data := .seq items } }) :=
  .of_wp fun prog w A R s h => by
    obtain ⟨hp, g, d, tk, os⟩ := s; obtain ⟨ht, h⟩ := h
    have hsub := sub_tuple_self
    have hinit := init_tuple_lookup
    have hmh := madeHere_tuple
    have hT : Shared.TypeIs ⟨hp, g, d, tk, os⟩ (.ref l) "list" := ⟨o, ht, hc⟩
    wp_walk using AutoSeq1.wpAny_loadPart' ht, wpAny_typeOf hT, collect_sz l (.inl rfl) ht hc hd hsz
    intro h' hk
    show wpAny _ _ (Builtin.Tuple.tupleExact items.toList.toArray >>= fun v => ret v) _ _ _
    unfold Builtin.Tuple.tupleExact
    refine wpAny_bind (wpAny_newObj_type ?_ (by show items.toList.toArray.size ≤ sizeLine; simpa using hsz))
    refine wpAny_pure ⟨_, rfl, ?_⟩
    have e : items.toList.toArray = items := by simp
    rw [e]
    exact h h' hk
theorem tup_lst (ds : List D) (h : ds.length ≤ 1000000) : CallG prog w K (.type "tuple") n [.lst ds] (.tup ds) := fun A U s vs rm ok rl => by
  obtain ⟨v, vs', rfl, ⟨l, xs, rfl, hu, hl, rx⟩, r⟩ := rl
  cases r
  have hl := hl.isList
  obtain ⟨o, ho, hc, m, hd⟩ := hl
  refine callType_new F.called_tuple (by decide) (F.typeCall_tuple_1 _) (F.newCall_tuple_1 _) (fun obj => F.args_object_init_2 obj _) F.entry_tuple_new
    (tuple_new_sz l o (List.toArray xs) m hc hd (by simp only [List.size_toArray, rx.length]; exact Nat.le_trans h (by decide))) ⟨ho, fun h' ⟨hk, hz⟩ => ⟨⟨_, Heap.get?_push_size _ rfl, rfl⟩, ?_, _, xs, rfl, ok.not_fresh hz, ⟨_, Heap.get?_push_size _ rfl, rfl, _, rfl⟩, RL.keeps (fun b o e => Heap.get?_push_of_some _ (hk b o e)) rx⟩⟩
  exact Gr.of (t := s.toks) (fun b o e => Heap.get?_push_of_some _ (hk b o e)) (Nat.le_refl _) (by rw [Heap.size_push]; lia)
theorem max_ints (a b : Int) : CallG prog w K (.builtin "max") n [.int a, .int b] (.int (max a b)) := fun A U s vs rm ok rl => by
  obtain ⟨v, vs', rfl, ⟨t, rfl⟩, v2, vs2, rfl, ⟨u, rfl⟩, r⟩ := rl
  cases r
  refine wp_gr (max_two_ints rm.hd fun h' tk hk => ⟨⟨h', tk, rfl, hk⟩, ?_⟩)
  by_cases h : b > a
  · rw [if_pos h, show max a b = b by lia]; exact ⟨u, rfl⟩
  · rw [if_neg h, show max a b = a by lia]; exact ⟨t, rfl⟩
noncomputable def iSum : List Int → Int
  | [] => 0
  | x :: xs => x + iSum xs
theorem preSum_cons (x : Int) (f : Nat → Int) : ∀ k, preSum (fun i => match i with | 0 => x | i + 1 => f i) (k + 1) = x + preSum f k
  | 0 => by simp [preSum]
  | k + 1 => by
    rw [preSum, preSum_cons x f k]
    simp only [preSum]
    lia
theorem preSum_list : ∀ xs : List Int, preSum (fun i => xs.getD i 0) xs.length = iSum xs
  | [] => rfl
  | x :: xs => by
    have := preSum_cons x (fun i => xs.getD i 0) xs.length
    rw [preSum_list xs] at this
    rw [iSum, ← this, List.length_cons]
    congr 1
    funext i
    cases i <;> rfl
theorem sum_lst (xs : List Int) : CallG prog w K (.builtin "sum") n [.lst (xs.map .int)] (.int (iSum xs)) := fun A U s vs rm ok rl => by
  obtain ⟨v, vs', rfl, ⟨l, us, rfl, hu, hl, rx⟩, r⟩ := rl
  cases r
  have hl := hl.isList
  have hlen : (List.toArray us).size = xs.length := by simp [rx.length]
  have hal : l < s.heap.objs.size := by obtain ⟨o, e, _⟩ := hl; exact Heap.lt_size e
  refine wp_gr (call_sum_walkAnyB (wpAny_pyIter_list hl ?_))
  have W := (Walks.list (prog := prog) (w := w) (A := A.in1) rm.hd s.heap.objs.size l (Nat.ne_of_lt hal) (List.toArray us)).toS
  rw [hlen] at W
  refine ⟨_, _, _, _, _, _, _, fun i => xs.getD i 0, rfl, W, ⟨⟨_, Heap.get?_push_size _ rfl, rfl, rfl⟩, hl.push _⟩, fun b hb => ?_, fun i v hP => .inl ?_, fun s' t' mv => ⟨?_, t', ?_⟩⟩
  · show b < (s.heap.push _).objs.size
    rw [Heap.size_push]
    rcases List.mem_cons.mp hb with rfl | hb
    · exact Nat.lt_succ_self _
    · rw [List.mem_singleton.mp hb]; exact Nat.lt_succ_of_lt hal
  · have hP' : us[i]? = some v := by simpa using hP
    have hi : i < xs.length := by
      have := (List.getElem?_eq_some_iff.mp hP').1
      rw [rx.length] at this; simpa using this
    obtain ⟨v', e', r⟩ := rx.get (i := i) (d := .int xs[i]) (by simp [hi])
    rw [hP'] at e'
    cases e'
    obtain ⟨t, e⟩ := r
    exact ⟨t, by rw [e]; simp [List.getD, hi]⟩
  · obtain ⟨m1, m2, m3, m4, m5⟩ := mv
    obtain ⟨h', g', d', k', o'⟩ := s'
    simp only at m1 m2 m3 m4 m5
    subst m2 m3 m4
    exact ⟨h', k', rfl, fun b o e => m1 b o (fun z => by rw [List.mem_singleton.mp z] at e; exact absurd (Heap.lt_size e) (Nat.lt_irrefl _)) (Heap.get?_push_of_some _ e)⟩
  · rw [preSum_list]
theorem evl_mul {l r : Expr} {pos : Pos} {as : List D} {k : Int} (h₁ : EVL prog w K sc n ρ l as) (h₂ : EV prog w K sc n ρ r (.int k)) (hne : as ≠ []) (hlo : -(2 ^ 62) ≤ k) (hhi : k < 2 ^ 62) (hsz : as.length * k.toNat ≤ 1000000) :
    EVL prog w K sc n ρ (.BinOp l .Mult r pos) (List.replicate k.toNat as).flatten := fun env A U s hs rm ok => by
  refine wpAny_BinOp (wpAny_mono (h₁ env A U s hs rm ok) (fun v s₁ hz114 => ?_) fun _ _ q => q)
  obtain ⟨g₁, a, vs, e, ha, hp, r⟩ := hz114
  subst e
  refine wpAny_mono (h₂ env A U s₁ hs rm (ok.gr g₁)) (fun v s₂ hz115 => ?_) fun _ _ q => q
  obtain ⟨g₂, t, e⟩ := hz115
  subst e
  obtain ⟨m, hp'⟩ := hp
  have hl := g₂.keep _ _ hp'
  refine wpAny_binaryOp_repeat_ref (T := "list") (U := "int") (by decide) ⟨_, hl, rfl⟩ (fun s' => typeIs_int s' k t) noFill_list_mul F.fills_int_mul F.slot_int_rmul repeat_list F.slot_int_index.lookup
    (call_meets F.slot_int_rmul (typeIs_int s₂ k t) F.entry_int_rmul (F.args_int_rmul_2 _ _) (int___rmul___int_list k t a (List.toArray vs) m) ⟨hl, rfl, ⟨_, hl, rfl⟩,
      call_meets F.slot_list_mul ⟨_, hl, rfl⟩ F.entry_list_mul (F.args_list_mul_2 _ _)
        (AutoListH.list___mul___list_int_3 a (List.toArray vs) m k t (by simp [Builtin.List.listFitsIndex]; lia) (by have := r.length; simp only [List.size_toArray, this]; lia) (by have := r.length; simp [Builtin.List.listTooLong, sizeLine, this]; lia)) ⟨hl, ?_⟩⟩)
  have hvs : (List.toArray vs).isEmpty = false := by
    cases vs with
    | nil => have := r.length; cases as with | nil => exact absurd rfl hne | cons _ _ => simp at this
    | cons _ _ => rfl
  rw [hvs]
  simp only [Bool.false_eq_true, if_false, listMul_foldl]
  have rr : ∀ k : Nat, RL (fun b => U b ∨ b = s₂.heap.objs.size) s₂.heap (List.replicate k vs).flatten (List.replicate k as).flatten := by
    intro k
    induction k with
    | zero => rfl
    | succ k ih =>
      rw [List.replicate_succ, List.replicate_succ, List.flatten_cons, List.flatten_cons]
      exact RL.append (RL.mono (fun b q => q.elim (fun q => .inl (.inl q)) fun q => .inr (by rw [q]; exact fresh_none' g₂.sz)) (fun b o _ e => g₂.keep b o e) _ r) ih
  refine ⟨(g₁.trans g₂).trans Gr.push, _, _, rfl, (g₁.trans g₂).sz, ⟨0, ?_⟩, RL.mono (fun b q => .inl q) (fun b o _ e => Heap.get?_push_of_some _ e) _ (rr k.toNat)⟩
  have := Heap.get?_push_size s₂.heap (o := { cls := .type "list", data := .seq (List.replicate k.toNat vs).flatten.toArray }) rfl
  simpa using this
end
end Lw
end

section
open PySem PySem.W PyProof.Rows PySem.Calls PySem.SeqAt
namespace Lw
noncomputable def deqL (f : D → D → Option Bool) : List D → List D → Option Bool
  | [], [] => some true
  | [], _ :: _ => some false
  | _ :: _, [] => some false
  | a :: as, b :: bs => (f a b).bind fun x => (deqL f as bs).map fun y => x && y
noncomputable def deq : Nat → D → D → Option Bool
  | _, .none, .none => some true
  | _, .bool a, .bool b => some (a == b)
  | _, .int a, .int b => some (a == b)
  | _, .str a, .str b => some (a == b)
  | k + 1, .lst as, .lst bs => deqL (deq k) as bs
  | k + 1, .tup as, .tup bs => deqL (deq k) as bs
  | _, _, _ => none
theorem deqL_same {f : D → D → Option Bool} : ∀ {as bs : List D} {b : Bool}, deqL f as bs = some b → as.length = bs.length → b = (List.range as.length).all (fun j => ((f (as.getD j .none) (bs.getD j .none)).getD false)) ∧ ∀ (j : Nat), j < as.length → ∃ c, f (as.getD j .none) (bs.getD j .none) = some c
  | [], [], b, h, _ => by cases h; exact ⟨rfl, fun j hj => absurd hj (Nat.not_lt_zero _)⟩
  | a :: as, b' :: bs, b, h, hl => by
    obtain ⟨x, hx, h⟩ := Option.bind_eq_some_iff.mp h
    obtain ⟨y, hy, rfl⟩ := Option.map_eq_some_iff.mp h
    obtain ⟨e, h'⟩ := deqL_same hy (by simpa using hl)
    refine ⟨?_, fun j hj => ?_⟩
    · rw [List.length_cons, List.range_succ_eq_map, List.all_cons, List.all_map, e]
      simp only [List.getD_cons_zero, hx, Option.getD_some]
      congr 1
    · cases j with
      | zero => exact ⟨x, hx⟩
      | succ j => exact h' j (by simpa using hj)
theorem deqL_len {f : D → D → Option Bool} : ∀ {as bs : List D} {b : Bool}, deqL f as bs = some b → as.length ≠ bs.length → b = false
  | [], [], _, _, hl => absurd rfl hl
  | [], _ :: _, _, h, _ => by cases h; rfl
  | _ :: _, [], _, h, _ => by cases h; rfl
  | a :: as, b' :: bs, b, h, hl => by
    obtain ⟨x, hx, h⟩ := Option.bind_eq_some_iff.mp h
    obtain ⟨y, hy, rfl⟩ := Option.map_eq_some_iff.mp h
    rw [deqL_len hy (by simpa using hl), Bool.and_false]
theorem deqL_pre {f : D → D → Option Bool} : ∀ {as bs : List D} {b : Bool}, deqL f as bs = some b → ∀ (j : Nat), j < as.length → j < bs.length → ∃ c, f (as.getD j .none) (bs.getD j .none) = some c
  | [], _, _, _, j, hj, _ => absurd hj (Nat.not_lt_zero _)
  | _ :: _, [], _, _, j, _, hj => absurd hj (Nat.not_lt_zero _)
  | a :: as, b' :: bs, b, h, j, hj, hj' => by
    obtain ⟨x, hx, h⟩ := Option.bind_eq_some_iff.mp h
    obtain ⟨y, hy, rfl⟩ := Option.map_eq_some_iff.mp h
    cases j with
    | zero => exact ⟨x, hx⟩
    | succ j => exact deqL_pre hy j (by simpa using hj) (by simpa using hj')
theorem plain_det {h : Heap} {a : Addr} {xs ys : List Value} (x : h.PlainList a (List.toArray xs)) (y : h.PlainList a (List.toArray ys)) : xs = ys := by
  obtain ⟨k, e⟩ := x
  obtain ⟨k', e'⟩ := y
  rw [e] at e'
  simp only [Option.some.injEq, Obj.mk.injEq, Data.seq.injEq, true_and, and_true] at e'
  simpa using congrArg Array.toList e'.1
theorem tuple_det {h : Heap} {a : Addr} {xs ys : List Value} (x : h.IsTuple a (List.toArray xs)) (y : h.IsTuple a (List.toArray ys)) : xs = ys := by
  obtain ⟨o, e, _, k, d⟩ := x
  obtain ⟨o', e', _, k', d'⟩ := y
  rw [e] at e'
  cases e'
  rw [d] at d'
  simp only [Data.seq.injEq] at d'
  simpa using congrArg Array.toList d'.1
theorem RL.getD {U : Addr → Prop} {h : Heap} {ds : List D} {vs : List Value} (r : RL U h vs ds) {j : Nat} (hj : j < ds.length) : ∃ v, vs[j]? = some v ∧ R U h v (ds.getD j .none) := r.get (by simp [List.getD, hj])
theorem deq_toNone {k : Nat} {d : D} {b : Bool} (h : deq k d .none = some b) : b = true := by
  cases d <;> cases k <;> first
    | (cases (show (none : Option Bool) = some b from h); done)
    | exact (Option.some.inj h).symm
theorem deq_toBool {k : Nat} {d : D} {y : Bool} {b : Bool} (h : deq k d (.bool y) = some b) : ∃ x, d = .bool x ∧ b = (x == y) := by
  cases d <;> cases k <;> first
    | (cases (show (none : Option Bool) = some b from h); done)
    | exact ⟨_, rfl, (Option.some.inj h).symm⟩
theorem deq_toInt {k : Nat} {d : D} {y : Int} {b : Bool} (h : deq k d (.int y) = some b) : ∃ x, d = .int x ∧ b = (x == y) := by
  cases d <;> cases k <;> first
    | (cases (show (none : Option Bool) = some b from h); done)
    | exact ⟨_, rfl, (Option.some.inj h).symm⟩
theorem deq_toStr {k : Nat} {d : D} {y : Str} {b : Bool} (h : deq k d (.str y) = some b) : ∃ x, d = .str x ∧ b = (x == y) := by
  cases d <;> cases k <;> first
    | (cases (show (none : Option Bool) = some b from h); done)
    | exact ⟨_, rfl, (Option.some.inj h).symm⟩
theorem deq_toLst {k : Nat} {d : D} {bs : List D} {b : Bool} (h : deq k d (.lst bs) = some b) : ∃ j as, k = j + 1 ∧ d = .lst as ∧ deqL (deq j) as bs = some b := by
  cases d <;> cases k <;> first
    | (cases (show (none : Option Bool) = some b from h); done)
    | exact ⟨_, _, rfl, rfl, h⟩
theorem deq_toTup {k : Nat} {d : D} {bs : List D} {b : Bool} (h : deq k d (.tup bs) = some b) : ∃ j as, k = j + 1 ∧ d = .tup as ∧ deqL (deq j) as bs = some b := by
  cases d <;> cases k <;> first
    | (cases (show (none : Option Bool) = some b from h); done)
    | exact ⟨_, _, rfl, rfl, h⟩
theorem deq_noVal {k : Nat} {d : D} {u : Value} {b : Bool} (h : deq k d (.val u) = some b) : False := by
  cases d <;> cases k <;> (cases (show (none : Option Bool) = some b from h); done)
theorem deq_noIns {k : Nat} {d : D} {C : Addr} {l : List (Str × D)} {b : Bool} (h : deq k d (.ins C l) = some b) : False := by
  cases d <;> cases k <;> (cases (show (none : Option Bool) = some b from h); done)
theorem deq_noObj {k : Nat} {d : D} {p : Heap → Value → Prop} {b : Bool} (h : deq k d (.obj p) = some b) : False := by
  cases d <;> cases k <;> (cases (show (none : Option Bool) = some b from h); done)
theorem deq_none {k : Nat} {d : D} {b : Bool} (h : deq k d .none = some b) : d = .none := by
  cases d <;> cases k <;> first
    | (cases (show (none : Option Bool) = some b from h); done)
    | rfl
theorem deq_det {h : Heap} {U U' : Addr → Prop} : ∀ (k : Nat) {d e d' : D} {b b' : Bool} {v : Value}, R U h v d → R U' h v d' → deq k d e = some b → deq k d' e = some b' → b = b' := by
  have lists : ∀ (f : D → D → Option Bool), (∀ {d e d' : D} {b b' : Bool} {v : Value}, R U h v d → R U' h v d' → f d e = some b → f d' e = some b' → b = b') →
      ∀ {as as' bs : List D} {vs : List Value} {b b' : Bool}, RL U h vs as → RL U' h vs as' → deqL f as bs = some b → deqL f as' bs = some b' → b = b' := by
    intro f hf as
    induction as with
    | nil =>
      intro as' bs vs b b' r r' hb hb'
      cases r
      cases as' with
      | nil => rw [hb] at hb'; exact Option.some.inj hb'
      | cons _ _ => obtain ⟨_, _, e, _⟩ := r'; cases e
    | cons a as ih =>
      intro as' bs vs b b' r r' hb hb'
      obtain ⟨v, vs', rfl, ra, rl⟩ := r
      cases as' with
      | nil => cases r'
      | cons a' as' =>
        obtain ⟨v', vs'', e, ra', rl'⟩ := r'
        cases e
        cases bs with
        | nil => cases hb; cases hb'; rfl
        | cons c bs =>
          obtain ⟨x, hx, h1⟩ := Option.bind_eq_some_iff.mp hb
          obtain ⟨y, hy, rfl⟩ := Option.map_eq_some_iff.mp h1
          obtain ⟨x', hx', h1'⟩ := Option.bind_eq_some_iff.mp hb'
          obtain ⟨y', hy', rfl⟩ := Option.map_eq_some_iff.mp h1'
          rw [hf ra ra' hx hx', ih rl rl' hy hy']
  intro k
  induction k using Nat.strongRecOn with
  | _ k ih =>
    intro d e d' b b' v r r' hb hb'
    cases e with
    | none => rw [deq_toNone hb, deq_toNone hb']
    | bool y =>
      obtain ⟨x, rfl, rfl⟩ := deq_toBool hb
      obtain ⟨x', rfl, rfl⟩ := deq_toBool hb'
      have r : v = .bool x := r
      have r' : v = .bool x' := r'
      rw [r] at r'; cases r'; rfl
    | int y =>
      obtain ⟨x, rfl, rfl⟩ := deq_toInt hb
      obtain ⟨x', rfl, rfl⟩ := deq_toInt hb'
      obtain ⟨t, rfl⟩ := r; obtain ⟨t', e'⟩ := r'; cases e'; rfl
    | str y =>
      obtain ⟨x, rfl, rfl⟩ := deq_toStr hb
      obtain ⟨x', rfl, rfl⟩ := deq_toStr hb'
      obtain ⟨t, rfl⟩ := r; obtain ⟨t', e'⟩ := r'; cases e'; rfl
    | lst bs =>
      obtain ⟨j, as, rfl, rfl, hl⟩ := deq_toLst hb
      obtain ⟨j', as', q, rfl, hl'⟩ := deq_toLst hb'
      cases q
      obtain ⟨a, vs, rfl, _, p, rl⟩ := r
      obtain ⟨a', vs', e, _, p', rl'⟩ := r'
      cases e
      have := plain_det p p'
      subst this
      exact lists (deq j) (fun ra rb h1 h2 => ih j (Nat.lt_succ_self j) ra rb h1 h2) rl rl' hl hl'
    | tup bs =>
      obtain ⟨j, as, rfl, rfl, hl⟩ := deq_toTup hb
      obtain ⟨j', as', q, rfl, hl'⟩ := deq_toTup hb'
      cases q
      obtain ⟨a, vs, rfl, _, p, rl⟩ := r
      obtain ⟨a', vs', e, _, p', rl'⟩ := r'
      cases e
      have := tuple_det p p'
      subst this
      exact lists (deq j) (fun ra rb h1 h2 => ih j (Nat.lt_succ_self j) ra rb h1 h2) rl rl' hl hl'
    | val _ => exact (deq_noVal hb).elim
    | ins _ _ => exact (deq_noIns hb).elim
    | obj _ => exact (deq_noObj hb).elim
theorem deq_same {h : Heap} {U U' : Addr → Prop} : ∀ (k : Nat) {d e : D} {b : Bool} {v : Value}, R U h v d → R U' h v e → deq k d e = some b → b = true := by
  have lists : ∀ (f : D → D → Option Bool), (∀ {d e : D} {b : Bool} {v : Value}, R U h v d → R U' h v e → f d e = some b → b = true) →
      ∀ {as bs : List D} {vs : List Value} {b : Bool}, RL U h vs as → RL U' h vs bs → deqL f as bs = some b → b = true := by
    intro f hf as
    induction as with
    | nil =>
      intro bs vs b r r' hb
      cases r
      cases bs with
      | nil => cases hb; rfl
      | cons _ _ => obtain ⟨_, _, e, _⟩ := r'; cases e
    | cons a as ih =>
      intro bs vs b r r' hb
      obtain ⟨v, vs', rfl, ra, rl⟩ := r
      cases bs with
      | nil => cases r'
      | cons c bs =>
        obtain ⟨v', vs'', e, rc, rl'⟩ := r'
        cases e
        obtain ⟨x, hx, h1⟩ := Option.bind_eq_some_iff.mp hb
        obtain ⟨y, hy, rfl⟩ := Option.map_eq_some_iff.mp h1
        rw [hf ra rc hx, ih rl rl' hy]; rfl
  intro k
  induction k using Nat.strongRecOn with
  | _ k ih =>
    intro d e b v r r' hb
    cases e with
    | none => exact deq_toNone hb
    | bool y =>
      obtain ⟨x, rfl, rfl⟩ := deq_toBool hb
      have r : v = .bool x := r
      have r' : v = .bool y := r'
      rw [r] at r'; cases r'; exact beq_self_eq_true _
    | int y =>
      obtain ⟨x, rfl, rfl⟩ := deq_toInt hb
      obtain ⟨t, rfl⟩ := r; obtain ⟨t', e'⟩ := r'; cases e'; exact beq_self_eq_true _
    | str y =>
      obtain ⟨x, rfl, rfl⟩ := deq_toStr hb
      obtain ⟨t, rfl⟩ := r; obtain ⟨t', e'⟩ := r'; cases e'; exact beq_self_eq_true _
    | lst bs =>
      obtain ⟨j, as, rfl, rfl, hl⟩ := deq_toLst hb
      obtain ⟨a, vs, rfl, _, p, rl⟩ := r
      obtain ⟨a', vs', e, _, p', rl'⟩ := r'
      cases e
      have := plain_det p p'
      subst this
      exact lists (deq j) (fun ra rb h1 => ih j (Nat.lt_succ_self j) ra rb h1) rl rl' hl
    | tup bs =>
      obtain ⟨j, as, rfl, rfl, hl⟩ := deq_toTup hb
      obtain ⟨a, vs, rfl, _, p, rl⟩ := r
      obtain ⟨a', vs', e, _, p', rl'⟩ := r'
      cases e
      have := tuple_det p p'
      subst this
      exact lists (deq j) (fun ra rb h1 => ih j (Nat.lt_succ_self j) ra rb h1) rl rl' hl
    | val _ => exact (deq_noVal hb).elim
    | ins _ _ => exact (deq_noIns hb).elim
    | obj _ => exact (deq_noObj hb).elim
theorem RL.arr {U : Addr → Prop} {h : Heap} {ds : List D} {vs : List Value} (r : RL U h vs ds) {j : Nat} (hj : j < (List.toArray vs).size) : R U h (List.toArray vs)[j] (ds.getD j .none) := by
  have hj' : j < vs.length := by simpa using hj
  obtain ⟨v, e, r'⟩ := r.getD (show j < ds.length by rw [← r.length]; exact hj')
  have : (List.toArray vs)[j] = v := by
    rw [List.getElem?_eq_getElem hj'] at e
    simpa using e
  rw [this]; exact r'
theorem eqAt : ∀ (k : Nat) {d e : D} {b : Bool} {v u : Value} {A : Around} {s : Shared} {U U' : Addr → Prop}, deq k d e = some b → R U s.heap v d → R U' s.heap u e → A.units + k < cLine → EqAt A s v u b := by
  intro k
  induction k using Nat.strongRecOn with
  | _ k ih =>
    intro d e b v u A s U U' hb r r' hu
    cases e with
    | none =>
      have ed : d = .none := deq_none hb
      subst ed
      rw [deq_toNone hb]
      have r : v = .none := r
      have r' : u = .none := r'
      subst r r'
      exact EqAt.same _
    | bool y =>
      obtain ⟨x, rfl, rfl⟩ := deq_toBool hb
      have r : v = .bool x := r
      have r' : u = .bool y := r'
      subst r r'
      exact EqAt.bool_bool _ _
    | int y =>
      obtain ⟨x, rfl, rfl⟩ := deq_toInt hb
      obtain ⟨t, rfl⟩ := r; obtain ⟨t', rfl⟩ := r'
      exact EqAt.int_int _ _ _ _
    | str y =>
      obtain ⟨x, rfl, rfl⟩ := deq_toStr hb
      obtain ⟨t, rfl⟩ := r; obtain ⟨t', rfl⟩ := r'
      exact EqAt.str_str _ _ _ _
    | lst bs =>
      obtain ⟨k, as, rfl, rfl, hl⟩ := deq_toLst hb
      by_cases hvu : v = u
      · subst hvu
        rw [deq_same (k + 1) r r' hb]
        exact EqAt.same _
      obtain ⟨a, vs, rfl, _, p, rl⟩ := r
      obtain ⟨c, us, rfl, _, p', rl'⟩ := r'
      have hne : a ≠ c := fun q => hvu (by rw [q])
      have hb' : deqL (deq k) as bs = some b := hb
      by_cases hlen : as.length = bs.length
      · obtain ⟨e1, e2⟩ := deqL_same hb' hlen
        rw [e1]
        have hs1 : (List.toArray vs).size = as.length := by simp [rl.length]
        rw [← hs1]
        refine EqAt.of_refs hne (RcAt.lists p.isList p'.isList (by simp [rl.length, rl'.length, hlen]) (by lia) fun j h1 h2 => ?_)
        obtain ⟨c, hc⟩ := e2 j (by rw [← hs1]; exact h1)
        rw [hc]
        exact ih k (Nat.lt_succ_self k) hc (rl.arr h1) (rl'.arr h2) (by show A.units + 1 + k < cLine; lia)
      · rw [deqL_len hb' hlen]
        exact EqAt.of_refs hne (RcAt.lists_lengths p.isList p'.isList (by simp [rl.length, rl'.length, hlen]) (by lia))
    | tup bs =>
      obtain ⟨k, as, rfl, rfl, hl⟩ := deq_toTup hb
      by_cases hvu : v = u
      · subst hvu
        rw [deq_same (k + 1) r r' hb]
        exact EqAt.same _
      obtain ⟨a, vs, rfl, _, p, rl⟩ := r
      obtain ⟨c, us, rfl, _, p', rl'⟩ := r'
      have hne : a ≠ c := fun q => hvu (by rw [q])
      have hb' : deqL (deq k) as bs = some b := hb
      have hs1 : (List.toArray vs).size = as.length := by simp [rl.length]
      have hs2 : (List.toArray us).size = bs.length := by simp [rl'.length]
      have main := EqAt.of_refs hne (RcAt.tuples (A := A) (s := s) (e := fun j => (deq k (as.getD j .none) (bs.getD j .none)).getD false) p p' (by lia) fun j h1 h2 => by
        obtain ⟨c, hc⟩ := deqL_pre hb' j (by rw [← hs1]; exact h1) (by rw [← hs2]; exact h2)
        rw [hc]
        exact ih k (Nat.lt_succ_self k) hc (rl.arr h1) (rl'.arr h2) (by show A.units + 1 + k < cLine; lia))
      rw [hs1, hs2] at main
      by_cases hlen : as.length = bs.length
      · rw [(deqL_same hb' hlen).1]
        rw [hlen, Nat.min_self, beq_self_eq_true, Bool.and_true, ← hlen] at main
        exact main
      · rw [deqL_len hb' hlen]
        rw [beq_eq_false_iff_ne.mpr hlen, Bool.and_false] at main
        exact main
    | val _ => exact (deq_noVal hb).elim
    | ins _ _ => exact (deq_noIns hb).elim
    | obj _ => exact (deq_noObj hb).elim
end Lw
end

section
open PySem PySem.W PyProof.Rows PySem.Calls PySem.SeqAt
namespace Lw
section
variable {sc : Scope} {n : Nat} {ρ : Vars}
theorem cEqL (k : Nat) {as bs : List D} {b : Bool} (hk : k ≤ 20) (hb : deqL (deq k) as bs = some b) : CmpG prog w K .Eq n (.lst as) (.lst bs) b := fun A U s _ _ rm ok hz117 hz118 => by
  obtain ⟨a, vs, e, _, p, rl⟩ := hz117
  obtain ⟨c, us, e', _, p', rl'⟩ := hz118
  subst e e'
  have hu : A.units + 100 * n ≤ 9000 := rm.units
  have hc : cLine = 9900 := rfl
  have hs1 : (List.toArray vs).size = as.length := by simp [rl.length]
  by_cases hlen : as.length = bs.length
  · obtain ⟨e1, e2⟩ := deqL_same hb hlen
    rw [e1]
    refine eq_listAt p.isList p'.isList (by simp [rl.length, rl'.length, hlen]) (by lia) (fun j h1 h2 => ?_) ⟨Gr.refl s, by rw [hs1]⟩
    obtain ⟨c, hc'⟩ := e2 j (by rw [← hs1]; exact h1)
    rw [hc']
    exact eqAt k hc' (rl.arr h1) (rl'.arr h2) (by show A.units + 1 + k < cLine; lia)
  · rw [deqL_len hb hlen]
    exact eq_list_lengthsAt p.isList p'.isList (by simp [rl.length, rl'.length, hlen]) (by lia) ⟨Gr.refl s, rfl⟩
theorem cNeL (k : Nat) {as bs : List D} {b : Bool} (hk : k ≤ 20) (hb : deqL (deq k) as bs = some b) : CmpG prog w K .NotEq n (.lst as) (.lst bs) (!b) := fun A U s _ _ rm ok hz119 hz120 => by
  obtain ⟨a, vs, e, _, p, rl⟩ := hz119
  obtain ⟨c, us, e', _, p', rl'⟩ := hz120
  subst e e'
  have hu : A.units + 100 * n ≤ 9000 := rm.units
  have hc : cLine = 9900 := rfl
  have hs1 : (List.toArray vs).size = as.length := by simp [rl.length]
  by_cases hlen : as.length = bs.length
  · obtain ⟨e1, e2⟩ := deqL_same hb hlen
    rw [e1]
    refine RcNeAt.lists (s := s) p.isList p'.isList (by simp [rl.length, rl'.length, hlen]) (by lia) (fun j h1 h2 => ?_) prog w _ _ ⟨Gr.refl s, by rw [hs1]⟩
    obtain ⟨c, hc'⟩ := e2 j (by rw [← hs1]; exact h1)
    rw [hc']
    exact eqAt k hc' (rl.arr h1) (rl'.arr h2) (by show A.units + 1 + k < cLine; lia)
  · rw [deqL_len hb hlen]
    exact RcNeAt.lists_lengths (s := s) p.isList p'.isList (by simp [rl.length, rl'.length, hlen]) (by lia) prog w _ _ ⟨Gr.refl s, rfl⟩
open Classical in
noncomputable def eqV (k : Nat) (U : Addr → Prop) (h : Heap) (ds : List D) (x : D) (v : Value) : Bool :=
  if hv : ∃ d ∈ ds, ∃ b, R U h v d ∧ deq k d x = some b then Classical.choose (Classical.choose_spec hv).2 else false
theorem eqV_of {k : Nat} {U : Addr → Prop} {h : Heap} {ds : List D} {x d : D} {b : Bool} {v : Value} (hd : d ∈ ds) (r : R U h v d) (hb : deq k d x = some b) : eqV k U h ds x v = b := by
  have hv : ∃ d ∈ ds, ∃ b, R U h v d ∧ deq k d x = some b := ⟨d, hd, b, r, hb⟩
  unfold eqV
  rw [dif_pos hv]
  have := Classical.choose_spec (Classical.choose_spec hv).2
  exact deq_det k this.1 r this.2 hb
noncomputable def hasD (k : Nat) (ds : List D) (x : D) : Bool := ds.any fun d => (deq k d x).getD false
theorem any_eqV {k : Nat} {U : Addr → Prop} {h : Heap} {x : D} {all : List D} : ∀ {ds : List D} {vs : List Value}, RL U h vs ds → (∀ d ∈ ds, d ∈ all) → (∀ d ∈ ds, (deq k d x).isSome = true) → vs.any (eqV k U h all x) = hasD k ds x
  | [], _, r, _, _ => by cases r; rfl
  | d :: ds, _, hz15, ha, hc => by
    obtain ⟨v, vs', e, r, rl⟩ := hz15
    subst e
    obtain ⟨b, hb⟩ := Option.isSome_iff_exists.mp (hc d List.mem_cons_self)
    unfold hasD
    rw [List.any_cons, List.any_cons, eqV_of (ha d List.mem_cons_self) r hb, hb]
    congr 1
    exact any_eqV rl (fun d hd => ha d (List.mem_cons_of_mem _ hd)) fun d hd => hc d (List.mem_cons_of_mem _ hd)
theorem RL.mem {U : Addr → Prop} {h : Heap} : ∀ {ds : List D} {vs : List Value}, RL U h vs ds → ∀ {v}, v ∈ vs → ∃ d ∈ ds, R U h v d
  | [], _, r, v, hv => by cases r; cases hv
  | d :: ds, _, hz16, v, hv => by
    obtain ⟨u, vs', e, r, rl⟩ := hz16
    subst e
    rcases List.mem_cons.mp hv with rfl | hv
    · exact ⟨d, List.mem_cons_self, r⟩
    · obtain ⟨d', h1, h2⟩ := RL.mem rl hv
      exact ⟨d', List.mem_cons_of_mem _ h1, h2⟩
theorem eqV_at {k : Nat} {U : Addr → Prop} {ds : List D} {vs : List Value} {x : D} {v u : Value} {A : Around} {s : Shared} (r : RL U s.heap vs ds) (rx : R U s.heap u x) (hc : ∀ d ∈ ds, (deq k d x).isSome = true) (hu : A.units + k < cLine) (hv : v ∈ vs) : EqAt A s v u (eqV k U s.heap ds x v) := by
  obtain ⟨d, hd, rd⟩ := r.mem hv
  obtain ⟨b, hb⟩ := Option.isSome_iff_exists.mp (hc d hd)
  rw [eqV_of hd rd hb]
  exact eqAt k hb rd rx hu
theorem cNotInL (k : Nat) {ds : List D} {x : D} (hk : k ≤ 20) (hc : ∀ d ∈ ds, (deq k d x).isSome = true) : CmpG prog w K .NotIn n x (.lst ds) (!hasD k ds x) := fun A U s _ u rm ok rx hz121 => by
  obtain ⟨a, vs, e, _, p, rl⟩ := hz121
  subst e
  have hu : A.units + 100 * n ≤ 9000 := rm.units
  have hcl : cLine = 9900 := rfl
  refine notIn_listAt (eqV k U s.heap ds x) p.isList (fun y hy => eqV_at rl rx hc (by show A.units + 1 + k < cLine; lia) (by simpa using hy)) ⟨Gr.refl s, ?_⟩
  rw [← any_eqV rl (fun _ h => h) hc]
  simp
theorem m_join {x : Str} : GetG prog w K (.str x) "join" (.builtin "str.join") := fun A U s v pl ok hz122 => by obtain ⟨t, e⟩ := hz122; subst e; exact GM.join ⟨rfl, rfl⟩
theorem m_upper {x : Str} : GetG prog w K (.str x) "upper" (.builtin "str.upper") := fun A U s v pl ok hz123 => by obtain ⟨t, e⟩ := hz123; subst e; exact GM.upper ⟨rfl, rfl⟩
theorem m_lower {x : Str} : GetG prog w K (.str x) "lower" (.builtin "str.lower") := fun A U s v pl ok hz124 => by obtain ⟨t, e⟩ := hz124; subst e; exact GM.lower ⟨rfl, rfl⟩
theorem c_upper {x : Str} (h : (Txt.upper x).length ≤ 2 ^ 24) : CallG prog w K (.builtin "str.upper") n [.str x] (.str (Txt.upper x)) := fun A U s vs rm ok rl => by
  obtain ⟨v, vs', rfl, ⟨t, rfl⟩, r⟩ := rl
  cases r
  exact SC.upper (by unfold Builtin.Str.tooLong sizeLine; exact decide_eq_false (by lia)) ⟨Gr.toks, _, rfl⟩
theorem c_lower {x : Str} (h : (Txt.lower x).length ≤ 2 ^ 24) : CallG prog w K (.builtin "str.lower") n [.str x] (.str (Txt.lower x)) := fun A U s vs rm ok rl => by
  obtain ⟨v, vs', rfl, ⟨t, rfl⟩, r⟩ := rl
  cases r
  exact SC.lower (by unfold Builtin.Str.tooLong sizeLine; exact decide_eq_false (by lia)) ⟨Gr.toks, _, rfl⟩
theorem strs_are {U : Addr → Prop} {h : Heap} : ∀ {ys : List Str} {vs : List Value}, RL U h vs (ys.map .str) → StrsAre vs ys
  | [], _, r => by cases r; exact .nil
  | y :: ys, _, hz17 => by obtain ⟨v, vs', e, ⟨t, e'⟩, rl⟩ := hz17; subst e e'; exact .cons y t (strs_are rl)
theorem c_join {x : Str} {ys : List Str} (hok : (ys.map (·.length)).sum + ys.length * x.length ≤ 16777216) : CallG prog w K (.builtin "str.join") n [.str x, .lst (ys.map .str)] (.str (Txt.join x ys)) := fun A U s vs rm ok rl => by
  obtain ⟨v, vs', rfl, ⟨t, rfl⟩, v2, vs2, rfl, ⟨a, us, rfl, hu, p, ru⟩, r⟩ := rl
  cases r
  exact wp_gr (join_list p.isList (by simpa using strs_are ru) hok fun t' k => ⟨⟨s.heap, k, rfl, fun _ _ e => e⟩, t', rfl⟩)
end
end Lw
end

section
open PySem PySem.W PyProof.Rows PySem.Calls PySem.SeqAt
namespace Lw
section
variable {sc : Scope} {n : Nat} {ρ : Vars}
theorem callWith_raw {f : Value} {first : List Value} {es : List Expr} {pos : Pos} {env : Env} {A : Around} {s : Shared} {Q : Value → Shared → Prop} {E : Value → Shared → Prop} {T : List Value → Shared → Prop} (top : ∀ s', Gr s s' → K.In s'.heap)
    (hk : (∃ id, f = .builtin id) ∨ (∃ t, f = .type t) ∨ keepIn K f = true) (hp : (backTo pos (starEach es env)).any (·.1) = false)
    (h : wpAny (model prog w) A (spliced (backTo pos (starEach es env))) (fun vs s' => Gr s s' ∧ T vs s') E s)
    (hc : ∀ vs s', Gr s s' → T vs s' → wpAny (model prog w) A (call f (first ++ vs)) Q E s') :
    wpAny (model prog w) A (callWith pos f first (backTo pos (starEach es env)) []) Q E s := by
  exact callWith_core (T := fun vs s' => Gr s s' ∧ T vs s') hk hp (wpAny_mono h (fun vs s' z => ⟨top s' z.1, z⟩) fun _ _ x => x) fun vs s' z => hc vs s' z.1 z.2
theorem ev_replace {o : Expr} {apos p₁ p₂ pos : Pos} {k₁ k₂ : Nat} {x y z : Str} {pl : Env → Sem Bool}
    (hshape : ∀ env, eval (.Call (.Attribute o "replace" apos) [.Constant (.str y) k₁ p₁, .Constant (.str z) k₂ p₂] [] pos) env = (do
      let ov ← eval o env
      standAt apos.atName
      let (f, first) ← holding [ov] (getMethod ov "replace" (pl env))
      callWith pos f first (backTo pos (starEach [.Constant (.str y) k₁ p₁, .Constant (.str z) k₂ p₂] env)) [])) (ho : EV prog w K sc n ρ o (.str x)) (hyz : (y == z) = false) (hb : x.length + (x.length + 1) * z.length ≤ 16777216) :
    EV prog w K sc n ρ (.Call (.Attribute o "replace" apos) [.Constant (.str y) k₁ p₁, .Constant (.str z) k₂ p₂] [] pos) (.str (Txt.replace x y z)) := fun env A U s hs rm ok => by
  refine MethodCall_ (pl := pl env) (wpAny_mono (ho env A U s hs rm ok) (fun v s₁ hz125 => ?_) fun _ _ x => x) (hshape env)
  obtain ⟨g, t, e⟩ := hz125
  subst e
  refine GM.replace ?_
  have ok₁ := ok.gr g
  refine callWith_raw (K := K) (T := fun vs s' => ∃ u v, vs = [.str y u, .str z v] ∧ u ≠ 0 ∧ v ≠ 0 ∧ u ≠ v) (fun s' g' => (ok₁.toHOK.gr g').top) (.inl ⟨_, rfl⟩) rfl ?_ fun vs s₂ g₂ hz126 => ?_
  · show wpAny _ A (spliced [(false, eval (.Constant (.str y) k₁ p₁) env), (false, eval (.Constant (.str z) k₂ p₂) env)]) _ _ s₁
    refine spliced_cons (Constant_str (spliced_cons (Constant_str (spliced_nil ?_))))
    have tk := ok₁.tk
    exact ⟨Gr.of (fun _ _ e => e) (Nat.le_add_right _ 2) (Nat.le_refl _), s₁.toks, s₁.toks + 1, rfl, by show ¬ (s₁.toks = 0); lia, by show ¬ (s₁.toks + 1 = 0); lia, by show ¬ (s₁.toks = s₁.toks + 1); lia⟩
  · obtain ⟨u, v, e, h1, h2, h3⟩ := hz126
    subst e
    exact wpAny_mono (wp_gr (P := fun v s' => R U s'.heap v (.str (Txt.replace x y z))) (SC.replace h1 h2 h3 hyz hb fun t' k => ⟨⟨s₂.heap, k, rfl, fun _ _ e => e⟩, t', rfl⟩)) (fun v s' hz129 => by obtain ⟨g', r⟩ := hz129; exact ⟨(g.trans g₂).trans g', r⟩) fun _ _ q => q
end
section
variable {bx : Fl} {sc : Scope} {n : Nat} {ρ : Vars} {ω : Owns} {P : Out → Prop}
theorem ex_try0 {body : List Stmt} {h₀ : ExceptHandler} {hs' : List ExceptHandler} {pos : Pos} (h : EX prog w K bx sc n body ρ ω fun o => match o with | .exc _ _ _ => False | o => P o) : EX1 prog w K bx sc n (.Try body (h₀ :: hs') [] [] pos) ρ ω P := fun X s m cm hs rm x0 => by
  refine wpAny_Try_except (wpAny_mono (h X s m cm hs rm x0) (fun fl s' hz127 => ?_) fun e s' hz128 => ?_)
  · obtain ⟨o, p, e⟩ := hz127
    cases o with
    | next ρ' ω' => obtain ⟨rfl, f⟩ := e; exact wpAny_execs_nil ⟨_, p, rfl, f⟩
    | brk ρ' ω' => obtain ⟨rfl, f⟩ := e; exact ⟨_, p, rfl, f⟩
    | ret d ω' => obtain ⟨v, rfl, f⟩ := e; exact ⟨_, p, v, rfl, f⟩
    | exc _ _ _ => exact p.elim
  · obtain ⟨o, p, y⟩ := hz128
    cases o with
    | exc _ _ _ => exact p.elim
    | _ => exact y.elim
end
end Lw
end

section
open PySem PySem.W PyProof.Rows PySem.Calls
namespace Lw
theorem len0 {α : Type} {vs : List α} (h : vs.length = 0) : vs = [] := List.eq_nil_of_length_eq_zero h
theorem len1 {α : Type} {vs : List α} (h : vs.length = 1) : ∃ a, vs = [a] := List.length_eq_one_iff.mp h
theorem lenS {α : Type} {vs : List α} {k : Nat} (h : vs.length = k + 1) : ∃ a r, vs = a :: r ∧ r.length = k := by
  cases vs with
  | nil => cases h
  | cons a r => exact ⟨a, r, rfl, Nat.succ.inj h⟩
theorem len2 {α : Type} {vs : List α} (h : vs.length = 2) : ∃ a b, vs = [a, b] := by
  obtain ⟨a, r, rfl, h2⟩ := lenS h
  obtain ⟨b, rfl⟩ := len1 h2
  exact ⟨a, b, rfl⟩
theorem len3 {α : Type} {vs : List α} (h : vs.length = 3) : ∃ a b c, vs = [a, b, c] := by
  obtain ⟨a, r, rfl, h2⟩ := lenS h
  obtain ⟨b, c, rfl⟩ := len2 h2
  exact ⟨a, b, c, rfl⟩
theorem len4 {α : Type} {vs : List α} (h : vs.length = 4) : ∃ a b c d, vs = [a, b, c, d] := by
  obtain ⟨a, r, rfl, h2⟩ := lenS h
  obtain ⟨b, c, d, rfl⟩ := len3 h2
  exact ⟨a, b, c, d, rfl⟩
theorem lt5 {d : Nat} (h : d < 5) : d = 0 ∨ d = 1 ∨ d = 2 ∨ d = 3 ∨ d = 4 := by lia
theorem lt3 {d : Nat} (h : d < 3) : d = 0 ∨ d = 1 ∨ d = 2 := by lia
structure Def (K : Frag) (fa : Addr) (st : Stmt) (fd : FuncData) : Prop extends FnOk K fa fd (fnBody st) where
  params : fnArgs st = some fd.params
  scope : fnScope st = some fd.scope
  dflt : fd.defaults = .none
  kwd : fd.kwdefaults = .none
section
variable {n : Nat}
theorem bind_eq {ps : Arguments} {fd : FuncData} {vs : List Value} {r : Sem (List (Str × Value))} (hp : fd.params = ps) (hd : fd.defaults = .none) (hk : fd.kwdefaults = .none)
    (h : ∀ name qual body scope gl clo doc md an code ct bi, bindArgs ⟨name, qual, ps, body, scope, gl, clo, .none, .none, doc, md, an, code, ct, bi⟩ ⟨vs, []⟩ = r) : bindArgs fd ⟨vs, []⟩ = r := by
  obtain ⟨a, b, c, d, e, f, g, df, kd, i, j, k, l, m, o⟩ := fd
  simp only at hp hd hk
  subst hp hd hk
  exact h ..
end
end Lw
namespace Lw
section
variable {bx : Fl} {sc : Scope} {n : Nat} {ρ : Vars} {ω : Owns} {P : Out → Prop}
theorem ex_sub {ss : List Stmt} {ρ' : Vars} {ω' : Owns} (h : EX prog w K bx sc n ss ρ' ω' P) (hs : Sub ρ' ρ) (ho : SubO ω' ω) : EX prog w K bx sc n ss ρ ω P := fun X s m cm hi rm x0 => by
  have cv : ∀ {ω₂ : Owns} {s' : Shared}, Stp X ω' s ω₂ s' → Stp X ω s ω₂ s' := fun {ω₂ s'} st => ⟨fun b o a n c e => st.kp b o a (by
    cases q : (ω'.lookup b).isSome with
    | false => rfl
    | true => rw [ho.some q] at n; cases n) c e, fun a q => (st.org a q).imp ho.some id, st.sz, st.tk⟩
  refine wpAny_mono (h X s m cm hi rm (x0.subO hs ho)) (fun fl s' ⟨o, p, e⟩ => ⟨o, p, ?_⟩) fun e s' ⟨o, p, y⟩ => ⟨o, p, ?_⟩
  · cases o with
    | next _ _ => exact ⟨e.1, e.2.1, cv e.2.2⟩
    | brk _ _ => exact ⟨e.1, e.2.1, cv e.2.2⟩
    | ret _ _ => obtain ⟨v, a, ⟨b, c⟩, d⟩ := e; exact ⟨v, a, ⟨b, cv c⟩, d⟩
    | exc _ _ _ => exact e.elim
  · cases o with
    | exc _ _ _ => obtain ⟨⟨b, c⟩, d⟩ := y; exact ⟨⟨b, cv c⟩, d⟩
    | _ => exact y.elim
theorem Sub.one {x : Str} {d : D} (h : ρ.lookup x = some d) : Sub [(x, d)] ρ := fun y e hy => by
  by_cases hx : y = x
  · subst hx; rw [lookup_cons_eq] at hy; cases hy; exact h
  · rw [lookup_cons_ne hx] at hy; cases hy
theorem Sub.more {ρ' : Vars} {x : Str} {d : D} (h : ρ.lookup x = some d) (hs : Sub ρ' ρ) : Sub ((x, d) :: ρ') ρ := fun y e hy => by
  by_cases hx : y = x
  · subst hx; rw [lookup_cons_eq] at hy; cases hy; exact h
  · rw [lookup_cons_ne hx] at hy; exact hs y e hy
theorem Sub.nil : Sub [] ρ := fun _ _ h => by cases h
noncomputable def escStep (c r x : Str) : Str := if (!(Builtin.Str.occurrences x c 0 x.length 1).isEmpty) = true then Txt.replace x c r else x
theorem esc_if {c r x t : Str} {k₁ k₂ k₃ : Nat} {q1 q2 q3 q4 q5 q6 q7 q8 q9 q10 q11 : Pos} {rest : List Stmt} {pl : Env → Sem Bool}
    (hshape : ∀ env, eval (.Call (.Attribute (.Name t q1) "replace" q2) [.Constant (.str c) k₁ q3, .Constant (.str r) k₂ q4] [] q5) env = (do
      let ov ← eval (.Name t q1) env
      standAt q2.atName
      let (f, first) ← holding [ov] (getMethod ov "replace" (pl env))
      callWith q5 f first (backTo q5 (starEach [.Constant (.str c) k₁ q3, .Constant (.str r) k₂ q4] env)) []))
    (hk : KindOk sc t) (hsw : NoSwap sc (.Call (.Attribute (.Name t q1) "replace" q2) [.Constant (.str c) k₁ q3, .Constant (.str r) k₂ q4] [] q5) t q6 q7)
    (hd : (t == ("__classdict__" : Str)) = false) (hd' : (t == ("__debug__" : Str)) = false) (hcr : (c == r) = false) (hb : x.length + (x.length + 1) * r.length ≤ 16777216)
    (h : EX prog w K bx sc n rest [(t, .str (escStep c r x))] ω P) :
    EX prog w K bx sc n (.If (.Compare (.Constant (.str c) k₃ q8) [.In] [.Name t q9] q10) [.Assign [.Name t q6] (.Call (.Attribute (.Name t q1) "replace" q2) [.Constant (.str c) k₁ q3, .Constant (.str r) k₂ q4] [] q5) q7] [] q11 :: rest) [(t, .str x)] ω P := by
  have hn : ∀ q, EV prog w K sc n [(t, .str x)] (.Name t q) (.str x) := fun q => ev_name lookup_cons_eq (hk.imp id .inl) hd hd'
  refine ex_cons (ex_if (emt_et (et_cmp rfl ev_str (hn _) cInS)) (fun hb' => ?_) fun hb' => ?_)
  · refine ex_cons (ex_assign (ev_replace hshape (hn _) hcr hb) hk hsw (ex_nil ?_))
    refine ex_sub h (Sub.one ?_) (SubO.refl _)
    rw [lookup_cons_eq]
    unfold escStep
    rw [if_pos hb']
  · refine ex_nil ?_
    have : escStep c r x = x := by
      unfold escStep
      rw [hb']
      rfl
    rw [this] at h
    exact h
end
theorem len_replace (x y z : Str) : (Txt.replace x y z).length ≤ x.length + (x.length + 1) * z.length := by
  unfold Txt.replace
  split
  · lia
  · have h1 := StrLaws.occ_length_le x y 0 x.length (x.length + 1)
    have hy : (Builtin.Str.glued y (Builtin.Str.partsBetween x (Builtin.Str.occurrences x y 0 x.length (x.length + 1)) y.length)).length = x.length := by rw [StrLaws.glued_between_self]
    rw [size_glued, length_partsBetween, Nat.add_sub_cancel] at hy
    rw [size_glued, length_partsBetween, Nat.add_sub_cancel]
    have h2 := Nat.mul_le_mul_right z.length h1
    lia
theorem len_esc {c r x : Str} {a b : Nat} (hr : r.length ≤ 6) (hx : x.length ≤ a) (hb : 7 * a + 6 ≤ b) : (escStep c r x).length ≤ b := by
  unfold escStep
  split
  · have h1 := len_replace x c r
    have h2 : (x.length + 1) * r.length ≤ (x.length + 1) * 6 := Nat.mul_le_mul_left _ hr
    lia
  · lia
theorem esc_room {r x : Str} {a : Nat} (hr : r.length ≤ 6) (hx : x.length ≤ a) (ha : 7 * a + 6 ≤ 16777216) : x.length + (x.length + 1) * r.length ≤ 16777216 := by
  have h2 : (x.length + 1) * r.length ≤ (x.length + 1) * 6 := Nat.mul_le_mul_left _ hr
  lia
theorem def_call {n : Nat} {fa : Addr} {st : Stmt} {fd : FuncData} (F : Def K fa st fd) {ps : Arguments} {sc : Scope} (hps : fnArgs st = some ps) (hsc : fnScope st = some sc) {xs : List Str} {ds : List D} {d : D}
    (hb : ∀ vs : List Value, vs.length = ds.length → ∀ name qual body scope gl clo doc md an code ct bi, bindArgs ⟨name, qual, ps, body, scope, gl, clo, .none, .none, doc, md, an, code, ct, bi⟩ ⟨vs, []⟩ = pure (xs.zip vs)) (hx : xs.length = ds.length) (hnd : xs.Nodup)
    (hkind : ∀ x ∈ xs, KindOk sc x) (h : EX prog w K ⟨false, []⟩ sc n (fnBody st) (xs.zip ds) [] (Ret false fun r => ∃ ω, r = .val d ω)) : CallG prog w K (.ref fa) (n + 1) ds d := by
  have e1 : fd.params = ps := Option.some.inj (F.params.symm.trans hps)
  have e2 : fd.scope = sc := Option.some.inj (F.scope.symm.trans hsc)
  subst e2
  exact call_fn F.toFnOk (fun vs hl => bind_eq e1 F.dflt F.kwd (hb vs hl)) hx hnd hkind h
end Lw
end

section
open PySem PySem.W PyProof.Rows PySem.Calls PySem.SeqAt
namespace Lw
theorem setItem_plain {prog : Program} {w : World} {A : Around} {E : Value → Shared → Prop} {s : Shared} {l : Addr} {items : Array Value} {k : Int} {t : Tok} {v : Value} {Q : Unit → Shared → Prop} (hl : s.heap.PlainList l items)
    (h0 : 0 ≤ k) (hfit : k < 2 ^ 63) (hn : k < items.size)
    (hQ : ∀ h', h'.PlainList l (items.setIfInBounds k.toNat v) → Heap.SameBut l s.heap h' → Q () { s with heap := h' }) :
    wpAny (model prog w) A (setItem (.ref l) (.int k t) v) Q E s := by
  have hi := hl.isList
  obtain ⟨ne, ho⟩ := hl
  unfold setItem
  try with_reducible refine wpAny_holding ?_
  first | refine wpAny_bind (wpAny_pure ?_) | skip
  refine wpAny_bind (wpAny_sequenceKey hi.typeIs (by decide) ?_)
  refine wpAny_bind (wpAny_callSpecial?_slot (name := Str.ofString "__setitem__") hi.typeIs slot_list_setitem
    (wpAny_call_entry slot_list_setitem hi.typeIs entry_list_setitem ?_ (args_list_setitem _ _ _)))
  show wpAny _ _ (Builtin.List.listSubscript? (.int k t) >>= _) _ _ s
  refine wpAny_bind (wpAny_listSubscript_int (fitsIndex_of h0 hfit) ?_)
  clear hfit
  obtain ⟨j, rfl⟩ := Int.eq_ofNat_of_zero_le h0
  have hj : j < items.size := by lia
  have hx' : items[j]? = some items[j] := Array.getElem?_eq_getElem hj
  show wpAny _ _ ((seqItemAt l j >>= fun r => pure (r.map (j, ·))) >>= _) _ _ s
  refine wpAny_bind (wpAny_bind (wpAny_seqItemAt ho rfl (wpAny_pure ?_)))
  rw [hx']
  show wpAny _ _ (setSeqItemAt l j v >>= _) _ _ s
  have hfin : (s.heap.update l (Obj.mapSeq (·.setIfInBounds j v))).PlainList l (items.setIfInBounds j v) := by
    obtain ⟨n', hd'⟩ := Obj.data_mapSeq (o := { cls := .type "list", data := .seq items ne }) rfl (·.setIfInBounds j v)
    have e : Obj.mapSeq (·.setIfInBounds j v) { cls := .type "list", data := .seq items ne } = { cls := .type "list", data := .seq (items.setIfInBounds j v) n' } := by
      simp only [Obj.mapSeq] at hd' ⊢
      simp only [Obj.mk.injEq, true_and, and_true]
      exact hd'
    exact ⟨n', by rw [Heap.get?_update_self _ ho (by rw [e]; rfl), e]⟩
  refine wpAny_bind (wpAny_setSeqItemAt ho rfl ?_)
  first
    | exact wpAny_bind (wpAny_pure (wpAny_pure ⟨.none, rfl, wpAny_pure (hQ _ hfin (Heap.SameBut.update ..))⟩))
    | exact wpAny_pure ⟨.none, rfl, wpAny_pure (hQ _ hfin (Heap.SameBut.update ..))⟩

section
variable {K : Frag} {X : FX} {ρ : Vars} {ω : Owns} {m cm : Str → Option Value} {s : Shared}
noncomputable def readL (L : List (Str × Addr × List D)) : Vars := L.map fun p => (p.1, .lst p.2.2)
noncomputable def OwnsL (ρ : Vars) (ω : Owns) (L : List (Str × Addr × List D)) : Prop := ∀ p ∈ L, ρ.lookup p.1 = some (.val (.ref p.2.1)) ∧ ω.lookup p.2.1 = some (.lst p.2.2)
theorem readL_some : ∀ {L : List (Str × Addr × List D)} {y : Str} {d : D}, (readL L).lookup y = some d → ∃ p ∈ L, p.1 = y ∧ d = .lst p.2.2
  | [], _, _, h => by cases h
  | (x, a, ds) :: L, y, d, h => by
    unfold readL at h
    rw [List.map_cons] at h
    by_cases hx : y = x
    · subst hx; rw [lookup_cons_eq] at h; cases h; exact ⟨_, List.mem_cons_self, rfl, rfl⟩
    · rw [lookup_cons_ne hx] at h
      obtain ⟨p, hp, r⟩ := readL_some h
      exact ⟨p, List.mem_cons_of_mem _ hp, r⟩
noncomputable def Rd (X : FX) (ω : Owns) (L : List (Str × Addr × List D)) (b : Addr) : Prop := Wn X ω b ∧ ∀ p ∈ L, p.2.1 ≠ b
theorem ST0.eokL (x : ST0 K X ρ ω m cm s) {L : List (Str × Addr × List D)} (hL : OwnsL ρ ω L) : EOK K (Rd X ω L) X.env (readL L ++ ρ) s where
  top := x.hokS.top
  lim := x.hokS.lim
  tk := x.hokS.tk
  lt := fun a q => x.wlt a q.1
  fn := x.fn
  gl := x.gl
  bl := x.bl
  ce := x.ce
  vars := fun y d e hy => by
    rw [List.lookup_append] at e
    cases h : (readL L).lookup y with
    | none =>
      rw [h] at e
      obtain ⟨v, b, r⟩ := x.vars y d (by simpa using e) hy
      exact ⟨v, Val.bnd b x.inC, R.mono (fun a q => .inl q.1) (fun _ _ _ e => e) d r⟩
    | some d' =>
      rw [h] at e
      simp at e
      subst e
      obtain ⟨p, hp, e1, rfl⟩ := readL_some h
      obtain ⟨h1, h2⟩ := hL p hp
      rw [e1] at h1
      obtain ⟨v, b, r⟩ := x.vars y _ h1 hy
      have r' : v = .ref p.2.1 := r
      subst r'
      obtain ⟨vs, pl, rl⟩ := x.own _ _ h2
      exact ⟨_, Val.bnd b x.inC, _, vs, rfl, fun q => q.2 p hp rfl, pl, RL.mono (fun a q => .inl q.1) (fun _ _ _ e => e) _ rl⟩
theorem ST0.free {K : Frag} {X : FX} {ρ : Vars} {ω : Owns} {m cm : Str → Option Value} {s : Shared} (x : ST0 K X ρ ω m cm s) {bx : Fl} {sc : Scope} (hs : X.Is bx sc) {a : Addr} {ω' : Owns} (ha : (ω.lookup a).isSome = true) (hn : a ∉ bx.ks) (hd : ω'.lookup a = none) : ¬ Wn X ω' a := by
  obtain ⟨b1, b2, b3⟩ := x.ownb a ha
  rintro (q | q | q | q | q)
  · exact b1.elim (fun l => absurd (x.hok.lt a q) (Nat.not_lt.mpr l)) fun w => hn ((hs.wk a).mp w)
  · rw [hd] at q; cases q
  · exact b2 (.inl q)
  · exact b2 (.inr q)
  · exact b3 q
theorem ST0.freeze (x : ST0 K X ρ ω m cm s) {bx : Fl} {sc : Scope} (hs : X.Is bx sc) {y : Str} {a : Addr} {ds : List D} {ω' : Owns} (hy : ρ.lookup y = some (.val (.ref a))) (ha : ω.lookup a = some (.lst ds)) (hn : a ∉ bx.ks) (ho : SubO ω' ω) (hd : ω'.lookup a = none) :
    ST0 K X ((y, .lst ds) :: ρ) ω' m cm s := by
  have z := x.subO (Sub.refl ρ) ho
  refine { z with vars := fun u d e hu => ?_ }
  by_cases hx : u = y
  · subst hx
    rw [lookup_cons_eq] at e
    cases e
    obtain ⟨v, b, r⟩ := x.vars u _ hy hu
    have r' : v = .ref a := r
    subst r'
    obtain ⟨vs, pl, rl⟩ := x.own _ _ ha
    exact ⟨_, b, a, vs, rfl, x.free hs (by rw [ha]; rfl) hn hd, pl, RL.mono (fun c q => .inl (q.imp id (Or.imp ho.some id))) (fun _ _ _ e => e) _ rl⟩
  · rw [lookup_cons_ne hx] at e
    exact z.vars u d e hu
end
section
variable {bx : Fl} {sc : Scope} {n : Nat} {ρ : Vars} {ω : Owns} {P : Out → Prop}
theorem emt_read (L : List (Str × Addr × List D)) {e : Expr} {b : Bool} (hL : OwnsL ρ ω L) (h : ET prog w K sc n (readL L ++ ρ) e b) : EMT prog w K bx sc n ρ ω e b := fun X s m cm hs rm x0 =>
  wp_E (h _ _ _ s hs.sco rm (x0.eokL hL)) fun v s' hz137 => by obtain ⟨g, r⟩ := hz137; exact ⟨r, g⟩
theorem ex_freeze {ss : List Stmt} {y : Str} {a : Addr} {ds : List D} {ω' : Owns} (hy : ρ.lookup y = some (.val (.ref a))) (ha : ω.lookup a = some (.lst ds)) (hn : a ∉ bx.ks) (ho : SubO ω' ω) (hd : ω'.lookup a = none)
    (h : EX prog w K bx sc n ss ((y, .lst ds) :: ρ) ω' P) : EX prog w K bx sc n ss ρ ω P := fun X s m cm hi rm x0 => by
  have cv : ∀ {ω₂ : Owns} {s' : Shared}, Stp X ω' s ω₂ s' → Stp X ω s ω₂ s' := fun {ω₂ s'} st => ⟨fun b o a n c e => st.kp b o a (by
    cases q : (ω'.lookup b).isSome with
    | false => rfl
    | true => rw [ho.some q] at n; cases n) c e, fun a q => (st.org a q).imp ho.some id, st.sz, st.tk⟩
  refine wpAny_mono (h X s m cm hi rm (x0.freeze hi hy ha hn ho hd)) (fun fl s' ⟨o, p, e⟩ => ⟨o, p, ?_⟩) fun e s' ⟨o, p, y⟩ => ⟨o, p, ?_⟩
  · cases o with
    | next _ _ => exact ⟨e.1, e.2.1, cv e.2.2⟩
    | brk _ _ => exact ⟨e.1, e.2.1, cv e.2.2⟩
    | ret _ _ => obtain ⟨v, a, ⟨b, c⟩, d⟩ := e; exact ⟨v, a, ⟨b, cv c⟩, d⟩
    | exc _ _ _ => exact e.elim
  · cases o with
    | exc _ _ _ => obtain ⟨⟨b, c⟩, d⟩ := y; exact ⟨⟨b, cv c⟩, d⟩
    | _ => exact y.elim
theorem em_append {o e : Expr} {apos pos : Pos} {pl : Env → Sem Bool} {a : Addr} {ds : List D} {d : D} {Q : Res → Prop}
    (hshape : ∀ env, eval (.Call (.Attribute o "append" apos) [e] [] pos) env = (do
      let ov ← eval o env
      standAt apos.atName
      let (f, first) ← holding [ov] (getMethod ov "append" (pl env))
      callWith pos f first (backTo pos (starEach [e] env)) []))
    (hse : ∀ env, starEach [e] env = [(false, eval e env)])
    (ho : EV prog w K sc n ρ o (.val (.ref a))) (ha : ω.lookup a = some (.lst ds)) (he : EV prog w K sc n ρ e d) (hl : ds.length ≤ 1000000) (q : Q (.val .none ((a, .lst (ds ++ [d])) :: ω))) :
    EM prog w K bx sc n ρ ω (.Call (.Attribute o "append" apos) [e] [] pos) Q := fun X s m cm hs rm x0 => by
  refine MethodCall_ (pl := pl X.env) (wp_E (ho _ _ _ s hs.sco rm x0.eok) fun v s₁ hz132 => ?_) (hshape _)
  obtain ⟨g, r⟩ := hz132
  have r' : v = .ref a := r
  subst r'
  have x1 := x0.after g
  obtain ⟨vs, ⟨k, hp⟩, rl⟩ := x1.own a _ ha
  refine getMethod_builtin ⟨_, hp, rfl⟩ PySem.F.plainAttrs_list PySem.F.slot_list_append PySem.F.type_list_append (fun a e => by cases e; exact ⟨_, hp, rfl⟩) ?_
  refine callWith_raw (K := K) (T := fun us s' => ∃ u, us = [u] ∧ R (Wn X ω) s'.heap u d) (fun s' g' => (x1.hokS.gr g').top) (.inl ⟨_, rfl⟩) (by rw [hse]; rfl) ?_ fun us s₂ g₂ hz133 => ?_
  · rw [hse]
    exact spliced_cons (wp_E (he _ _ _ s₁ hs.sco rm x1.eok) fun u s₂ hz140 => by obtain ⟨g₂, ru⟩ := hz140; exact spliced_nil ⟨g₂, u, rfl, ru⟩)
  · obtain ⟨u, e, ru⟩ := hz133
    subst e
    have x2 := x1.after g₂
    have hp₂ : s₂.heap.PlainList a (List.toArray vs) := ⟨k, g₂.keep _ _ hp⟩
    have hW : Wn X ω a := .inr (.inl (by rw [ha]; rfl))
    refine wpAny_list_append_plain hp₂ (fun h' hp' sb => ?_) (by simp only [List.size_toArray, rl.length]; exact Nat.le_trans hl (by decide))
    have up : ∀ b o, ¬ Wn X ω b → s₂.heap.get? b = some o → h'.get? b = some o := fun b o q e => sb.extBut b o (fun e' => q (e' ▸ hW)) e
    have e1 : (List.toArray vs).push u = List.toArray (vs ++ [u]) := by simp
    rw [e1] at hp'
    have hst := Stp.gr (X := X) (ω := ω) (g.trans g₂)
    exact ⟨.none, _, q, x2.put ha sb (Nat.le_refl _) ⟨vs ++ [u], hp', RL.append (RL.mono (fun _ q => .inl q) up _ (rl.keeps g₂.keep)) (RL.one (R.mono (fun _ q => .inl q) up _ ru))⟩, hst.trans (Stp.put (by rw [ha]; rfl) sb (Nat.le_refl _)), rfl⟩
theorem RL.set {U : Addr → Prop} {h : Heap} : ∀ {ds : List D} {vs : List Value} {i : Nat} {v : Value} {d : D}, RL U h vs ds → R U h v d → RL U h (vs.set i v) (ds.set i d)
  | [], _, _, _, _, r, _ => by cases r; rfl
  | _ :: _, _, 0, _, _, hz18, rv => by obtain ⟨_, vs', e, _, rl⟩ := hz18; subst e; exact ⟨_, vs', rfl, rv, rl⟩
  | _ :: _, _, i + 1, _, _, hz19, rv => by obtain ⟨_, vs', e, r, rl⟩ := hz19; subst e; exact ⟨_, _, rfl, r, RL.set rl rv⟩
theorem st_setItem {X : FX} {m cm : Str → Option Value} {s : Shared} {a : Addr} {ds : List D} {k : Int} {t : Tok} {v : Value} {d : D} {A : Around} {E : Value → Shared → Prop} {Q : Unit → Shared → Prop} (x : ST0 K X ρ ω m cm s) (ha : ω.lookup a = some (.lst ds)) (h0 : 0 ≤ k) (hk : k < 2 ^ 62) (hl : k.toNat < ds.length)
    (r : R (Wn X ω) s.heap v d) (hQ : ∀ h', ST0 K X ρ ((a, .lst (ds.set k.toNat d)) :: ω) m cm { s with heap := h' } → Stp X ω s ((a, .lst (ds.set k.toNat d)) :: ω) { s with heap := h' } → Q () { s with heap := h' }) :
    wpAny (model prog w) A (setItem (.ref a) (.int k t) v) Q E s := by
  obtain ⟨vs, hp, rl⟩ := x.own a _ ha
  have hsz : (List.toArray vs).size = ds.length := by simp [rl.length]
  have hW : Wn X ω a := .inr (.inl (by rw [ha]; rfl))
  refine setItem_plain hp h0 (by lia) (by rw [hsz]; lia) fun h' hp' sb => ?_
  have up : ∀ b o, ¬ Wn X ω b → s.heap.get? b = some o → h'.get? b = some o := fun b o q e => sb.extBut b o (fun e' => q (e' ▸ hW)) e
  have e1 : (List.toArray vs).setIfInBounds k.toNat v = List.toArray (vs.set k.toNat v) := by simp
  rw [e1] at hp'
  exact hQ h' (x.put ha sb (Nat.le_refl _) ⟨_, hp', RL.set (RL.mono (fun _ q => .inl q) up _ rl) (R.mono (fun _ q => .inl q) up _ r)⟩) (Stp.put (by rw [ha]; rfl) sb (Nat.le_refl _))
theorem ex_setItem (L : List (Str × Addr × List D)) {o i value : Expr} {p pos : Pos} {a : Addr} {ds : List D} {k : Int} {d : D} (hL : OwnsL ρ ω L) (hv : EV prog w K sc n (readL L ++ ρ) value d) (hd : Scal d) (ho : EV prog w K sc n ρ o (.val (.ref a))) (hi : EV prog w K sc n ρ i (.int k))
    (ha : ω.lookup a = some (.lst ds)) (h0 : 0 ≤ k) (hk : k < 2 ^ 62) (hl : k.toNat < ds.length) (hsw : ∀ env : Env, env.scope = sc → swapsWith value (some (.Subscript o i p)) pos.line env = pure false) (h : P (.next ρ ((a, .lst (ds.set k.toNat d)) :: ω))) :
    EX1 prog w K bx sc n (.Assign [.Subscript o i p] value pos) ρ ω P := fun X s m cm hs rm x0 => by
  refine wpAny_Assign_Subscript (hs := hsw _ hs.sco) (wp_E (hv _ _ _ s hs.sco rm (x0.eokL hL)) fun v s₁ hz134 => ?_)
  obtain ⟨g₁, r⟩ := hz134
  have r₁ : R (Wn X ω) s₁.heap v d := r.scal hd
  have x1 := x0.after g₁
  refine wp_E (ho _ _ _ s₁ hs.sco rm x1.eok) fun ov s₂ hz135 => ?_
  obtain ⟨g₂, ro⟩ := hz135
  have ro' : ov = .ref a := ro
  subst ro'
  have x2 := x1.after g₂
  refine wp_E (hi _ _ _ s₂ hs.sco rm x2.eok) fun iv s₃ hz136 => ?_
  obtain ⟨g₃, t, e⟩ := hz136
  subst e
  have x3 := x2.after g₃
  have st := Stp.gr (X := X) (ω := ω) ((g₁.trans g₂).trans g₃)
  exact st_setItem x3 ha h0 hk hl (r₁.keeps fun b o e => g₃.keep b o (g₂.keep b o e)) fun h' x4 st4 => ⟨_, h, rfl, ⟨m, cm, x4⟩, st.trans st4⟩
end
end Lw
end

section
open PySem PySem.W PyProof.Rows PySem.Calls PySem.SeqAt
namespace Lw
noncomputable abbrev kv (x : Str) (d : D) : Str × D := (x, d)
theorem upto_get {a b : Int} {i : Nat} {d : D} (h : (upto a b)[i]? = some d) : d = .int (a + (i : Int)) ∧ (i : Int) < b - a := by
  unfold upto at h
  rw [List.getElem?_map] at h
  cases hr : (List.range (b - a).toNat)[i]? with
  | none => rw [hr] at h; cases h
  | some k =>
    rw [hr] at h
    cases h
    have := List.getElem?_eq_some_iff.mp hr
    obtain ⟨h1, h2⟩ := this
    simp at h1 h2
    subst h2
    exact ⟨rfl, by lia⟩
theorem subO_one {ω : Owns} {a : Addr} {o : Ow} (h : ω.lookup a = some o) : SubO [(a, o)] ω := fun b o' e => by
  by_cases hb : b = a
  · subst hb; rw [lookup_cons_eq] at e; cases e; exact h
  · rw [lookup_cons_ne hb] at e; cases e
theorem subO_more {ω ω' : Owns} {a : Addr} {o : Ow} (h : ω.lookup a = some o) (hs : SubO ω' ω) : SubO ((a, o) :: ω') ω := fun b o' e => by
  by_cases hb : b = a
  · subst hb; rw [lookup_cons_eq] at e; cases e; exact h
  · rw [lookup_cons_ne hb] at e; exact hs b o' e
noncomputable def scopeOk (scope sc : Scope) (ρ : Vars) : Bool :=
  scope.kind == .function && scope.names.all (fun p => !(p.2 == .local) || scope.names.lookup p.1 == some .local) && scope.names.all (fun p => !(p.2 == .free) || (sc.names.lookup p.1 == some .cell || sc.names.lookup p.1 == some .free)) &&
  scope.names.all (fun p => !(p.2 == .local || p.2 == .cell) || (ρ.lookup p.1).isNone) && decide ((scope.names.map (·.1)).Nodup)
theorem CompScope.of {scope sc : Scope} {ρ : Vars} (h : scopeOk scope sc ρ = true) : CompScope scope sc ρ := by
  unfold scopeOk at h
  simp only [Bool.and_eq_true, List.all_eq_true, decide_eq_true_eq] at h
  obtain ⟨⟨⟨⟨h1, h2⟩, h3⟩, h4⟩, h5⟩ := h
  refine ⟨by simpa using h1, fun p hp e => ?_, fun p hp e => ?_, fun x hx => ?_, h5⟩
  · have := h2 p hp
    rw [e] at this
    simpa using this
  · have := h3 p hp
    rw [e] at this
    simpa using this
  · have key : ∀ k, (k = NameKind.local ∨ k = .cell) → scope.names.lookup x = some k → ρ.lookup x = none := by
      intro k hk e
      have := h4 (x, k) (mem_of_lookup e)
      rcases hk with rfl | rfl <;> simpa using this
    rcases hx with e | e
    · exact key _ (.inl rfl) e
    · exact key _ (.inr rfl) e
section
variable {bx : Fl} {sc scope : Scope} {n : Nat} {ρ : Vars} {ω : Owns} {P : Out → Prop}
theorem zipped_get {xs ys : List D} {i : Nat} {d : D} (h : (zipped xs ys)[i]? = some d) : ∃ x y, xs[i]? = some x ∧ ys[i]? = some y ∧ d = .tup [x, y] := by
  unfold zipped at h
  rw [List.getElem?_zipWith] at h
  cases hx : xs[i]? with
  | none => rw [hx] at h; simp at h
  | some x =>
    cases hy : ys[i]? with
    | none => rw [hx, hy] at h; simp at h
    | some y =>
      rw [hx, hy] at h
      simp at h
      exact ⟨x, y, rfl, rfl, h.symm⟩
end
theorem ints_get {xs : List Int} {i : Nat} {d : D} (h : (xs.map D.int)[i]? = some d) : i < xs.length ∧ d = .int (xs.getD i 0) := by
  rw [List.getElem?_map] at h
  cases hx : xs[i]? with
  | none => rw [hx] at h; cases h
  | some x =>
    rw [hx] at h
    cases h
    exact ⟨(List.getElem?_eq_some_iff.mp hx).1, by simp [List.getD, hx]⟩
structure Tops (K : Frag) : Prop where
  bi : ∀ x v, (x, v) ∈ ([("range", .type "range"), ("zip", .type "zip"), ("enumerate", .type "enumerate"), ("tuple", .type "tuple"), ("list", .type "list"), ("str", .type "str"), ("type", .type "type"), ("len", .builtin "len"), ("sum", .builtin "sum"), ("all", .builtin "all"), ("max", .builtin "max")] : List (Str × Value)) →
    nsIn K mainGlobals x = some none ∧ nsIn K builtinsNs x = some (some v)
theorem Tops.ev {sc : Scope} {n : Nat} {ρ : Vars} (T : Tops K) {x : Str} {pos : Pos} {v : Value} (hm : (x, v) ∈ ([("range", .type "range"), ("zip", .type "zip"), ("enumerate", .type "enumerate"), ("tuple", .type "tuple"), ("list", .type "list"), ("str", .type "str"), ("type", .type "type"), ("len", .builtin "len"), ("sum", .builtin "sum"), ("all", .builtin "all"), ("max", .builtin "max")] : List (Str × Value)))
    (hx : sc.names.lookup x = some .globalImplicit) (hd : (x == ("__debug__" : Str)) = false) : EV prog w K sc n ρ (.Name x pos) (.val v) :=
  ev_builtin hx (T.bi x v hm).1 (T.bi x v hm).2 hd
section
variable {sc : Scope} {n : Nat} {ρ : Vars}
theorem ev_len (T : Tops K) {e : Expr} {p pos : Pos} {ds : List D} {k : Int} (hshape : ∀ env, eval (.Call (.Name "len" p) [e] [] pos) env = (do callWith pos (← eval (.Name "len" p) env) [] (backTo pos (starEach [e] env)) (backToKw pos (keywordEach [] env))))
    (hse : ∀ env, starEach [e] env = [(false, eval e env)]) (hx : sc.names.lookup ("len" : Str) = some .globalImplicit) (h : EV prog w K sc n ρ e (.lst ds)) (hl : ds.length ≤ 1000000) (hk : (ds.length : Int) = k) : EV prog w K sc n ρ (.Call (.Name "len" p) [e] [] pos) (.int k) := by
  rw [← hk]
  exact ev_call (f := .builtin "len") hshape (fun env => by rw [hse]; rfl) (.inl ⟨_, rfl⟩) (T.ev (by decide) hx (by decide)) (es_cons (fun env => by rw [hse]; rfl) h es_nil) (len_lst _ (by lia))
end
theorem upto0_get {b : Int} {i : Nat} {d : D} (h : (upto 0 b)[i]? = some d) : d = .int (i : Int) ∧ (i : Int) < b := by
  obtain ⟨e, l⟩ := upto_get h
  exact ⟨by rw [e, Int.zero_add], by lia⟩
section
variable {bx : Fl} {sc scope : Scope} {n : Nat} {ρ : Vars} {ω : Owns} {P : Out → Prop}
end
section
variable {sc : Scope} {n : Nat} {ρ : Vars}
theorem ev_item {value slice : Expr} {pos : Pos} {ds : List D} {i : Int} {d : D} (hs : ∀ o i, subscripted slice false o i = operate [o, i] (getItem o i) ∨ subscripted slice false o i = operate [i, o] (getItem o i))
    (h₁ : EV prog w K sc n ρ value (.lst ds)) (h₂ : EV prog w K sc n ρ slice (.int i)) (h0 : 0 ≤ i) (hi : i < 2 ^ 63) (hd : ds[i.toNat]? = some d) : EV prog w K sc n ρ (.Subscript value slice pos) d :=
  ev_sub (d₁ := .lst ds) (T := "list") (fun U s v hz141 => by obtain ⟨a, vs, e, _, ⟨k, p⟩, _⟩ := hz141; subst e; exact ⟨_, p, rfl⟩) list_getitem_lookup hs h₁ h₂ (gInt ds i d h0 hi hd)
end
theorem getD_mem {α : Type} {l : List α} {i : Nat} {d : α} (h : i < l.length) : l.getD i d ∈ l := by
  rw [List.getD, List.getElem?_eq_getElem h]; exact List.getElem_mem h
end Lw
end

section
open PySem PySem.W PyProof.Rows PySem.Calls PySem.SeqAt
namespace Lw
noncomputable def S1 (X : FX) (b : Addr) : Prop := X.S b ∨ b = X.env.locals
section
variable {K : Frag} {X : FX} {ρ : Vars} {ω : Owns} {m cm : Str → Option Value} {s : Shared}
theorem app_some {ω' : Owns} {a : Addr} : ((ω' ++ ω).lookup a).isSome = true ↔ (ω'.lookup a).isSome = true ∨ (ω.lookup a).isSome = true := by
  rw [List.lookup_append]
  cases ω'.lookup a <;> simp
theorem wn_app {ω' : Owns} {a : Addr} : Wn X (ω' ++ ω) a ↔ UW (Wn X ω) ω' a := by
  unfold Wn UW
  rw [app_some]
  constructor
  · rintro (q | (q | q) | q)
    · exact .inl (.inl q)
    · exact .inr q
    · exact .inl (.inr (.inl q))
    · exact .inl (.inr (.inr q))
  · rintro ((q | q | q) | q)
    · exact .inl q
    · exact .inr (.inl (.inr q))
    · exact .inr (.inr q)
    · exact .inr (.inl (.inl q))
theorem ST0.in0 (x : ST0 K X ρ ω m cm s) {ω₁ : Owns} (h1 : SubO ω₁ ω) : In0 K (Wn X ω) (S1 X) ω₁ s where
  ok := x.hokW
  own := fun a o e => x.own a o (h1 a o e)
  wu := fun a q => by
    have h := h1.some q
    obtain ⟨b1, b2, b3⟩ := x.ownb a h
    refine ⟨.inr (.inl h), x.loose b1, fun f => f.elim (fun f => ?_) fun f => b2 (.inl f)⟩
    exact b1.elim (fun l => absurd (x.slt f) (Nat.not_lt.mpr l)) fun w => (x.wu a w).2.2 f
  su := fun a q => q.elim (fun q => ⟨.inl (x.su a q).1, (x.su a q).2⟩) fun q => ⟨.inr (.inr (.inl q)), loose_new x.hok (by rw [q]; exact x.inC.fresh)⟩
theorem ST0.frames (x : ST0 K X ρ ω m cm s) (hf : X.fok) : ∃ outer, X.A.frames = some outer ∧ FramesIn (S1 X) outer s.heap := by
  obtain ⟨outer, a, b, c⟩ := x.fr hf
  refine ⟨_, a, fun env he => ?_⟩
  rcases List.mem_cons.mp he with rfl | he
  · obtain ⟨o, es, ep, ho, hd, _⟩ := x.inC.ns
    exact ⟨by rw [x.fn]; decide, X.env.locals, o, b, .inr rfl, ho, fun vs q => by rw [hd] at q; cases q⟩
  · obtain ⟨k, L, o, f, l, g, d⟩ := c env he
    exact ⟨k, L, o, f, .inl l, g, d⟩
theorem ST0.back (x : ST0 K X ρ ω m cm s) {ω₁ ω' : Owns} {s' : Shared} (h1 : SubO ω₁ ω) (B : Back K (Wn X ω) (S1 X) ω₁ s ω' s') (hd : ∀ a, (ω₁.lookup a).isSome = true → (ω'.lookup a).isSome = true) :
    ST0 K X ρ (ω' ++ ω) m cm s' ∧ Stp X ω s (ω' ++ ω) s' := by
  have inC := x.inC
  have no₁ : ∀ {b}, (ω.lookup b).isSome = false → (ω₁.lookup b).isSome = false := fun {b} q => by
    cases h : (ω₁.lookup b).isSome with
    | false => rfl
    | true => rw [h1.some h] at q; cases q
  have kp : ∀ b o, (ω.lookup b).isSome = false → ¬ S1 X b → s.heap.get? b = some o → s'.heap.get? b = some o := fun b o q q' e => B.keep b o (no₁ q) q' e
  have up : ∀ b o, ¬ Wn X ω b → s.heap.get? b = some o → s'.heap.get? b = some o := fun b o q e => kp b o (by
    cases h : (ω.lookup b).isSome with
    | false => rfl
    | true => exact absurd (.inr (.inl h)) q) (fun f => q (f.elim (fun f => .inl (x.su b f).1) fun f => .inr (.inr (.inl f)))) e
  have hU : ∀ b, Wn X (ω' ++ ω) b → Wn X ω b ∨ s.heap.get? b = none := fun b q => (wn_app.mp q).elim .inl fun q => (B.org b q).elim (fun q => .inl (.inr (.inl (h1.some q)))) fun l => .inr (fresh_none' l)
  have nS : ∀ {a}, (ω.lookup a).isSome = true → ¬ S1 X a := fun {a} h f => by
    obtain ⟨b1, b2, b3⟩ := x.ownb a h
    exact f.elim (fun f => b1.elim (fun l => absurd (x.slt f) (Nat.not_lt.mpr l)) fun w => (x.wu a w).2.2 f) fun f => b2 (.inl f)
  refine ⟨{ inC := ⟨?_, ns_slots inC.ns fun o e => B.slots _ o (.inr rfl) e, fun b o w q e => ?_, fun b o q e => ?_, inC.fresh, fun y c e => ?_, inC.apart, inC.above, inC.look⟩
            hok := x.hok
            hokS := ⟨B.hok.top, B.hok.lim, fun a q => B.hok.lt a (.inl q), B.hok.tk⟩
            le := Nat.le_trans x.le B.le, fn := x.fn, gl := x.gl, bl := x.bl, ce := x.ce, cl := x.cl,
            vars := fun z d e hz => let ⟨v, b, r⟩ := x.vars z d e hz; ⟨v, b, R.mono hU up _ r⟩,
            own := fun a o e => ?_,
            ownb := fun a q => ?_,
            vlt := fun b q => Nat.lt_of_lt_of_le (x.vlt b q) B.sz, vb := x.vb, wu := x.wu, su := x.su, fr := fun f => ?_ }, ?_⟩
  · obtain ⟨h₀, t₀, e⟩ := inC.same
    obtain ⟨h₁, t₁, e'⟩ := B.same
    exact ⟨h₁, t₁, by rw [e', e]⟩
  · have hb := Heap.lt_size e
    refine kp b o ?_ (fun f => f.elim q fun f => absurd hb (by rw [f]; exact Nat.not_lt.mpr inC.fresh)) (inC.keep b o w q e)
    cases h : (ω.lookup b).isSome with
    | false => rfl
    | true => exact ((x.ownb b h).1.elim (fun l => absurd hb (Nat.not_lt.mpr l)) fun w' => absurd w' w)
  · obtain ⟨sl, z⟩ := inC.slots b o q e
    obtain ⟨sl', z'⟩ := B.slots b _ (.inl q) z
    exact ⟨sl', z'⟩
  · obtain ⟨o, eo, ed⟩ := inC.cell y c e
    have hc := inC.above y c (mem_of_lookup e)
    refine ⟨o, kp c o ?_ (fun f => f.elim (fun f => ?_) fun f => ?_) eo, ed⟩
    · cases h : (ω.lookup c).isSome with
      | false => rfl
      | true => exact absurd (.inr ⟨y, e⟩) (x.ownb c h).2.1
    · exact absurd (Nat.lt_trans (Nat.lt_of_lt_of_le (x.slt f) inC.fresh) hc) (Nat.lt_irrefl _)
    · rw [f] at hc; exact Nat.lt_irrefl _ hc
  · rw [List.lookup_append] at e
    cases h : ω'.lookup a with
    | some o' =>
      rw [h] at e
      cases e
      exact (B.own a o h).mono (fun b q => .inl (wn_app.mp q)) (fun _ _ _ e => e) fun _ e => e
    | none =>
      rw [h] at e
      have e' : ω.lookup a = some o := by simpa using e
      have hs : (ω.lookup a).isSome = true := by rw [e']; rfl
      have hn : (ω₁.lookup a).isSome = false := by
        cases q : (ω₁.lookup a).isSome with
        | false => rfl
        | true => have := hd a q; rw [h] at this; cases this
      exact (x.own a o e').mono hU up fun o' eo => B.keep a o' hn (nS hs) eo
  · rcases app_some.mp q with q | q
    · rcases B.org a q with q | l
      · exact x.ownb a (h1.some q)
      · exact ⟨.inl (Nat.le_trans x.sz l), fun f => absurd (x.wlt a (frm_wn f)) (Nat.not_lt.mpr l), fun f => absurd (x.vlt a f) (Nat.not_lt.mpr l)⟩
    · exact x.ownb a q
  · obtain ⟨outer, a, b, c⟩ := x.fr f
    refine ⟨outer, a, b, fun env he => ?_⟩
    obtain ⟨k, L, o, f1, f2, f3, f4⟩ := c env he
    obtain ⟨sl, z⟩ := B.slots L o (.inl f2) f3
    exact ⟨k, L, _, f1, f2, z, f4⟩
  · exact ⟨fun b o q q' q'' e => kp b o q' (fun f => f.elim q'' fun f => q (.inl f)) e, fun a q => (app_some.mp q).elim (fun q => (B.org a q).imp h1.some id) .inl, B.sz, B.le⟩
end
section
variable {bx : Fl} {sc : Scope} {n : Nat} {ρ : Vars} {ω : Owns} {P : Out → Prop}
noncomputable def Onw (ks : List Addr) (ω ω₁ : Owns) (Q : Res → Prop) : Res → Prop
  | .val d ω' => (∀ a, (ω₁.lookup a).isSome = true → (ω'.lookup a).isSome = true) ∧ ((∀ a, (ω'.lookup a).isSome = true → (ω₁.lookup a).isSome = true ∨ (ω.lookup a = none ∧ a ∉ ks)) → Q (.val d (ω' ++ ω)))
  | .exc d ω' => (∀ a, (ω₁.lookup a).isSome = true → (ω'.lookup a).isSome = true) ∧ ((∀ a, (ω'.lookup a).isSome = true → (ω₁.lookup a).isSome = true ∨ (ω.lookup a = none ∧ a ∉ ks)) → Q (.exc d (ω' ++ ω)))
theorem st_call {b : Bool} {f : Value} {ω₁ : Owns} {ds : List D} {kds : List (Str × D)} {Q : Res → Prop} (hb : b = true → bx.b = true) (h1 : SubO ω₁ ω) (hc : CallM prog w K b f n ω₁ ds kds (Onw bx.ks ω ω₁ Q)) {X : FX} {s : Shared} {m cm : Str → Option Value} (hs : X.Is bx sc) (rm : Rm n X.A) (x : ST0 K X ρ ω m cm s)
    {vs : List Value} {kw : List (Str × Value)} (rl : RL (Wn X ω) s.heap vs ds) (kwl : KwOk (Wn X ω) s.heap kw kds) :
    wpAny (model prog w) X.A (call f vs kw) (fun v s' => ∃ d ω', Q (.val d ω') ∧ ST0 K X ρ ω' m cm s' ∧ Stp X ω s ω' s' ∧ R (Wn X ω') s'.heap v d)
      (fun e s' => ∃ d ω', Q (.exc d ω') ∧ ST0 K X ρ ω' m cm s' ∧ Stp X ω s ω' s' ∧ R (Wn X ω') s'.heap e d) s := by
  refine wpAny_mono (hc X.A (Wn X ω) (S1 X) s vs kw rm (x.in0 h1) (fun e => x.frames (hs.fk (hb e))) rl kwl) (fun v s' hz142 => ?_) fun v s' hz143 => ?_
  · obtain ⟨d, ω', q, B, r⟩ := hz142
    obtain ⟨y, st⟩ := x.back h1 B q.1
    exact ⟨d, _, q.2 fun a z => (B.org a z).imp id fun l => ⟨x.newAddr l, x.notKs hs l⟩, y, st, R.mono (fun a q => .inl (wn_app.mp q)) (fun _ _ _ e => e) _ r⟩
  · obtain ⟨d, ω', q, B, r⟩ := hz143
    obtain ⟨y, st⟩ := x.back h1 B q.1
    exact ⟨d, _, q.2 fun a z => (B.org a z).imp id fun l => ⟨x.newAddr l, x.notKs hs l⟩, y, st, R.mono (fun a q => .inl (wn_app.mp q)) (fun _ _ _ e => e) _ r⟩
theorem em_call {b : Bool} {fe : Expr} {es : List Expr} {pos : Pos} {f : Value} {ω₁ : Owns} {ds : List D} {Q : Res → Prop} (hshape : ∀ env, eval (.Call fe es [] pos) env = (do callWith pos (← eval fe env) [] (backTo pos (starEach es env)) (backToKw pos (keywordEach [] env))))
    (hp : ∀ env, (backTo pos (starEach es env)).any (·.1) = false) (hk : (∃ id, f = .builtin id) ∨ (∃ t, f = .type t) ∨ keepIn K f = true) (hf : EV prog w K sc n ρ fe (.val f)) (ha : ES prog w K sc n ρ es ds) (hb : b = true → bx.b = true) (h1 : SubO ω₁ ω)
    (hc : CallM prog w K b f n ω₁ ds [] (Onw bx.ks ω ω₁ Q)) : EM prog w K bx sc n ρ ω (.Call fe es [] pos) Q := fun X s m cm hs rm x0 => by
  rw [hshape]
  refine wpAny_bind (wp_E (hf _ _ _ s hs.sco rm x0.eok) fun v s₁ hz144 => ?_)
  obtain ⟨g, r⟩ := hz144
  have r' : v = f := r
  subst r'
  have x1 := x0.after g
  refine callWith_raw (K := K) (T := fun vs s' => RL (Wn X ω) s'.heap vs ds) (fun s' g' => (x1.hokS.gr g').top) hk (hp _) (wp_E (ha _ _ _ _ s₁ hs.sco rm x1.eok) fun vs s₂ h => h) fun vs s₂ g₂ rl => ?_
  have x2 := x1.after g₂
  have st := Stp.gr (X := X) (ω := ω) (g.trans g₂)
  exact wpAny_mono (st_call hb h1 hc hs rm x2 rl KwOk.nil) (fun v s' hz145 => by obtain ⟨d, ω', q, y, st', r⟩ := hz145; exact ⟨d, ω', q, y, st.trans st', r⟩) fun v s' hz146 => by obtain ⟨d, ω', q, y, st', r⟩ := hz146; exact ⟨d, ω', q, y, st.trans st', r⟩
end
end Lw
end

section
open PySem PySem.W PyProof.Rows PySem.Calls PySem.SeqAt
namespace Lw
theorem ns_lookIn {h : Heap} {dx : Addr} {mm : Str → Option Value} (x : h.Ns dx mm) : ∃ od, h.get? dx = some od ∧ ∀ y, lookIn y od = some (mm y) := by
  obtain ⟨o, es, ep, ho, hd, hk, hm⟩ := x
  refine ⟨o, ho, fun y => ?_⟩
  have hany : es.toList.any (·.refKey) = false := by
    rw [List.any_eq_false]
    intro e he
    obtain ⟨n, t, h⟩ := hk e (by simpa using he)
    simp [DictEntry.refKey, h]
  rw [← hm y]
  unfold lookIn
  rw [hd]
  simp only
  rw [hany]
  have hf : nsFind es y = (es.toList.find? (·.key.isStr y)).map (·.val) := by
    unfold nsFind findBy
    simp
  rw [hf]
  cases es.toList.find? (·.key.isStr y) <;> rfl
structure ClsOk (K : Frag) (C : Addr) : Prop where
  hga : findIn K (.ref C) "__getattribute__" = some (some (.builtin "object.__getattribute__"))
  hk : findIn K (.ref C) "__getattr__" = some none
  cd : ∃ cd, clsIn K C = some cd ∧ cd.hasDict = true
noncomputable def Handed : D → Prop
  | .val v => handedIn v = true
  | .obj _ => False
  | _ => True
theorem handed {U : Addr → Prop} {h : Heap} {v : Value} : ∀ {d : D}, Handed d → R U h v d → handedIn v = true
  | .none, _, r => by cases r; rfl
  | .bool _, _, r => by cases r; rfl
  | .int _, _, hz20 => by obtain ⟨_, r⟩ := hz20; subst r; rfl
  | .str _, _, hz21 => by obtain ⟨_, r⟩ := hz21; subst r; rfl
  | .tup _, _, hz22 => by obtain ⟨_, _, r, _⟩ := hz22; subst r; rfl
  | .lst _, _, hz23 => by obtain ⟨_, _, r, _⟩ := hz23; subst r; rfl
  | .ins _ _, _, hz24 => by obtain ⟨_, _, _, r, _⟩ := hz24; subst r; rfl
  | .val _, hd, r => by cases r; exact hd
theorem find_own {K : Frag} {C : Addr} {od : Obj} {name : Str} {v : Value} (CO : ClsOk K C) (hn : findIn K (.ref C) name = some none) (hl : lookIn name od = some (some v)) : findObj K C (some od) name = some (.value v) := by
  obtain ⟨cd, h1, h2⟩ := CO.cd
  have ho : W.ownOf cd (some od) name = some (some v) := by
    unfold W.ownOf
    rw [if_pos h2]
    exact hl
  exact Option.bind_eq_some_iff.mpr ⟨cd, h1, Option.bind_eq_some_iff.mpr ⟨none, hn, Option.bind_eq_some_iff.mpr ⟨none, rfl, Option.bind_eq_some_iff.mpr ⟨false, rfl, Option.bind_eq_some_iff.mpr ⟨some v, ho, rfl⟩⟩⟩⟩⟩
section
variable {X : FX} {ρ : Vars} {ω : Owns} {m cm : Str → Option Value} {s : Shared}
theorem ST0.instAt (x : ST0 K X ρ ω m cm s) {a dx C : Addr} {fs : List (Str × D)} (hx : ω.lookup a = some (.ins C dx)) (hd : ω.lookup dx = some (.att fs)) : ∃ od, InstAt s.heap a (instObj C dx) C (some od) ∧ ∀ name, match fs.lookup name with
    | some d => ∃ v, lookIn name od = some (some v) ∧ R (Wn X ω) s.heap v d
    | none => lookIn name od = some none := by
  have h1 := x.own a _ hx
  obtain ⟨mm, n1, f⟩ := x.own dx _ hd
  obtain ⟨od, ho, hl⟩ := ns_lookIn n1.ns
  refine ⟨od, ⟨h1, rfl, rfl, ho⟩, fun name => ?_⟩
  have := f name
  cases e : fs.lookup name with
  | none => rw [e] at this; rw [hl, this]
  | some d => rw [e] at this; exact let ⟨v, a, r⟩ := this; ⟨v, by rw [hl, a], r⟩
theorem st_attr {A : Around} {E : Value → Shared → Prop} {a dx C : Addr} {fs : List (Str × D)} {name : Str} {d : D} {expr : Bool} {Q : Value → Shared → Prop} (x : ST0 K X ρ ω m cm s) (CO : ClsOk K C) (hx : ω.lookup a = some (.ins C dx)) (hd : ω.lookup dx = some (.att fs)) (hf : fs.lookup name = some d)
    (hn : findIn K (.ref C) name = some none) (hh : Handed d) (h : ∀ v, R (Wn X ω) s.heap v d → Q v { s with toks := s.toks + 1 }) : wpAny (model prog w) A (getAttr (.ref a) name expr) Q E s := by
  obtain ⟨od, I, f⟩ := x.instAt hx hd
  have := f name
  rw [hf] at this
  obtain ⟨v, hl, r⟩ := this
  exact get_value x.hokS.top I CO.hga (find_own CO hn hl) (handed hh r) (h v r)
end
theorem RF.get {U : Addr → Prop} {h : Heap} {od : Obj} : ∀ {fs : List (Str × D)} {x : Str} {d : D}, RF U h od fs → fs.lookup x = some d → ∃ v, lookIn x od = some (some v) ∧ R U h v d
  | [], _, _, _, e => by cases e
  | (y, c) :: fs, x, d, hz25, e => by
    obtain ⟨r, rf⟩ := hz25
    by_cases hx : x = y
    · subst hx; rw [lookup_cons_eq] at e; cases e; exact r
    · rw [lookup_cons_ne hx] at e; exact RF.get rf e
section
variable {bx : Fl} {sc : Scope} {n : Nat} {ρ : Vars} {ω : Owns} {P : Out → Prop}
theorem em_attr {x attr : Str} {np pos : Pos} {a dx C : Addr} {fs : List (Str × D)} {d : D} {Q : Res → Prop} (hv : EV prog w K sc n ρ (.Name x np) (.val (.ref a))) (CO : ClsOk K C) (hx : ω.lookup a = some (.ins C dx)) (hd : ω.lookup dx = some (.att fs)) (hf : fs.lookup attr = some d)
    (hn : findIn K (.ref C) attr = some none) (hh : Handed d) (q : Q (.val d ω)) : EM prog w K bx sc n ρ ω (.Attribute (.Name x np) attr pos) Q := fun X s m cm hs rm x0 =>
  Attribute_name (wp_E (hv _ _ _ s hs.sco rm x0.eok) fun v s₁ hz148 => by
    obtain ⟨g, r⟩ := hz148
    have r' : v = .ref a := r
    subst r'
    refine st_attr (x0.after g) CO hx hd hf hn hh fun v rv => ⟨d, ω, q, ?_, ?_, rv⟩
    · exact (x0.after g).after Gr.toks
    · exact Stp.gr (g.trans Gr.toks))
theorem ev_attr {o : Expr} {attr : Str} {pos : Pos} {C : Addr} {fs : List (Str × D)} {d : D} (he : ∀ env, eval (.Attribute o attr pos) env = (do
      let ov ← eval o env
      standAt pos.atName
      let r ← holding [ov] (getAttr ov attr true)
      letTemporaryGo o ov r
      pure r)) (hv : EV prog w K sc n ρ o (.ins C fs)) (CO : ClsOk K C) (hf : fs.lookup attr = some d) (hn : findIn K (.ref C) attr = some none) (hh : Handed d) : EV prog w K sc n ρ (.Attribute o attr pos) d := fun env A U s hs rm ok => by
  refine Attribute_any_ (wpAny_mono (hv env A U s hs rm ok) (fun ov s₁ hz147 => ?_) fun _ _ q => q) (he env)
  obtain ⟨g, a, dx, od, e, _, _, h1, h2, rf, _⟩ := hz147
  subst e
  obtain ⟨v, hl, r⟩ := RF.get rf hf
  exact get_value (ok.gr g).top ⟨h1, rfl, rfl, h2⟩ CO.hga (find_own CO hn hl) (handed hh r) ⟨g.trans Gr.toks, r⟩
end
end Lw
end

section
open PySem PySem.W PyProof.Rows PySem.Calls PySem.SeqAt
namespace Lw
section
variable {bx : Fl} {sc : Scope} {n : Nat} {ρ : Vars} {ω : Owns} {P : Out → Prop}
structure MethOk (K : Frag) (C : Addr) (name : Str) (f : Addr) : Prop where
  find : findIn K (.ref C) name = some (some (.ref f))
  typ : typeIn K (.ref f) = some (.type "function")
  keep : keepIn K (.ref f) = true
theorem em_meth {b : Bool} {o : Expr} {name : Str} {es : List Expr} {apos pos : Pos} {pl : Env → Sem Bool} {a dx C f : Addr} {fs : List (Str × D)} {ω₁ : Owns} {ds : List D} {Q : Res → Prop}
    (hshape : ∀ env, eval (.Call (.Attribute o name apos) es [] pos) env = (do
      let ov ← eval o env
      standAt apos.atName
      let (f, first) ← holding [ov] (getMethod ov name (pl env))
      callWith pos f first (backTo pos (starEach es env)) []))
    (hp : ∀ env, (backTo pos (starEach es env)).any (·.1) = false) (ho : EV prog w K sc n ρ o (.val (.ref a))) (CO : ClsOk K C) (MO : MethOk K C name f) (hx : ω.lookup a = some (.ins C dx)) (hd : ω.lookup dx = some (.att fs)) (hno : fs.lookup name = none)
    (ha : ES prog w K sc n ρ es ds) (hb : b = true → bx.b = true) (h1 : SubO ω₁ ω) (hc : CallM prog w K b (.ref f) n ω₁ (.val (.ref a) :: ds) [] (Onw bx.ks ω ω₁ Q)) : EM prog w K bx sc n ρ ω (.Call (.Attribute o name apos) es [] pos) Q := fun X s m cm hs rm x0 => by
  refine MethodCall_ (pl := pl X.env) (wp_E (ho _ _ _ s hs.sco rm x0.eok) fun v s₁ hz149 => ?_) (hshape _)
  obtain ⟨g, r⟩ := hz149
  have r' : v = .ref a := r
  subst r'
  have x1 := x0.after g
  obtain ⟨od, I, hl⟩ := x1.instAt hx hd
  have hl := hl name
  rw [hno] at hl
  refine method_fn x1.hokS.top I CO.hga CO.hk MO.find MO.typ (by unfold shadowIn; simp only [hl]; rfl) ?_
  refine callWith_raw (K := K) (T := fun vs s' => RL (Wn X ω) s'.heap vs ds) (fun s' g' => (x1.hokS.gr g').top) (.inr (.inr MO.keep)) (hp _) (wp_E (ha _ _ _ _ s₁ hs.sco rm x1.eok) fun vs s₂ h => h) fun vs s₂ g₂ rl => ?_
  have x2 := x1.after g₂
  have st := Stp.gr (X := X) (ω := ω) (g.trans g₂)
  exact wpAny_mono (st_call (ds := .val (.ref a) :: ds) hb h1 hc hs rm x2 ⟨_, _, rfl, rfl, rl⟩ KwOk.nil) (fun v s' hz150 => by obtain ⟨d, ω', q, y, st', r⟩ := hz150; exact ⟨d, ω', q, y, st.trans st', r⟩) fun v s' hz151 => by obtain ⟨d, ω', q, y, st', r⟩ := hz151; exact ⟨d, ω', q, y, st.trans st', r⟩
end
end Lw
end

section
open PySem PySem.W PyProof.Rows PySem.Calls PySem.SeqAt
namespace Lw
structure SetOk (K : Frag) (C : Addr) : Prop extends ClsOk K C where
  set : findIn K (.ref C) "__setattr__" = some (some (.builtin "object.__setattr__"))
  over : plainOver K C = true
section
variable {X : FX} {ρ : Vars} {ω : Owns} {m cm : Str → Option Value} {s : Shared}
theorem within_fs {W : Addr → Prop} {h : Heap} {mm : Str → Option Value} {fs : List (Str × D)} (f : FldOk W h mm fs) : Within mm (fs.map (·.1)) := fun y hy => by
  have := f y
  cases e : fs.lookup y with
  | none => rw [e] at this; exact absurd this hy
  | some d => exact List.mem_map_of_mem (f := (·.1)) (mem_of_lookup e)
theorem st_setAttr {A : Around} {E : Value → Shared → Prop} {a dx C : Addr} {fs : List (Str × D)} {name : Str} {v : Value} {d : D} {Q : Unit → Shared → Prop} (x : ST0 K X ρ ω m cm s) (CO : SetOk K C) (ht : takerIn K C name = some none) (hx : ω.lookup a = some (.ins C dx)) (hd : ω.lookup dx = some (.att fs))
    (hl : fs.length ≤ 1000) (r : R (Wn X ω) s.heap v d) (hQ : ∀ s', ST0 K X ρ ((dx, .att ((name, d) :: fs)) :: ω) m cm s' → Stp X ω s ((dx, .att ((name, d) :: fs)) :: ω) s' → Q () s') : wpAny (model prog w) A (setAttr (.ref a) name v) Q E s := by
  have h1 := x.own a _ hx
  obtain ⟨mm, n1, f⟩ := x.own dx _ hd
  obtain ⟨od, I, -⟩ := x.instAt hx hd
  obtain ⟨cd, hc, hd'⟩ := CO.cd
  refine set_plain x.hokS.top I CO.set (osa_open (s := { s with toks := s.toks + 1 }) x.hokS.top I CO.over ht fun b => ?_)
  refine wpAny_bind (wpAny_pure (wpAny_bind (wpAny_bind (wpAny_loadPart h1 (wpAny_bind (Looks.here (s := { s with toks := s.toks + 1 }) (looks_clsIn x.hokS.top hc) ?_))))))
  rw [hd']
  refine wpAny_pure (a := some dx) (wpAny_bind (wpAny_pure (wpAny_bind (wpAny_nsSet1 n1 fun h' hn' sb => ?_))))
  obtain ⟨oD, esD, epD, hoD, hdD, hcD⟩ := hn'.count (Within.cons name v (within_fs f))
  refine wpAny_bind (wpAny_lookBehind hoD (by rw [hdD]; exact pastItsLine_dict (Nat.le_trans hcD (by rw [List.length_cons, List.length_map, sizeLine_eq]; lia))) ?_)
  refine wpAny_pure ?_
  have hW : Wn X ω dx := .inr (.inl (by rw [hd]; rfl))
  have up : ∀ b o, ¬ Wn X ω b → s.heap.get? b = some o → h'.get? b = some o := fun b o q e => sb.extBut b o (fun e' => q (e' ▸ hW)) e
  refine hQ _ (x.put (o' := .att ((name, d) :: fs)) (tk := s.toks + 1 + 1) hd sb (Nat.le_add_right s.toks 2) ⟨_, hn', fun y => ?_⟩) (Stp.put (by rw [hd]; rfl) sb (Nat.le_add_right s.toks 2))
  by_cases hy : y = name
  · subst hy
    rw [lookup_cons_eq]
    exact ⟨v, if_pos rfl, R.mono (fun _ q => .inl q) up _ r⟩
  · rw [lookup_cons_ne hy]
    have := f y
    cases e : fs.lookup y with
    | none => rw [e] at this; exact (if_neg hy).trans this
    | some d' => rw [e] at this; exact let ⟨u, h, r⟩ := this; ⟨u, (if_neg hy).trans h, R.mono (fun _ q => .inl q) up _ r⟩
end
section
variable {bx : Fl} {sc : Scope} {n : Nat} {ρ : Vars} {ω : Owns} {P : Out → Prop}
theorem ex_setAttr {o value : Expr} {attr : Str} {p pos : Pos} {a dx C : Addr} {fs : List (Str × D)} (CO : SetOk K C) (ht : takerIn K C attr = some none) (ho : EV prog w K sc n ρ o (.val (.ref a)))
    (hv : EM prog w K bx sc n ρ ω value fun
      | .val d ω' => ω'.lookup a = some (.ins C dx) ∧ ∃ fs, ω'.lookup dx = some (.att fs) ∧ fs.length ≤ 1000 ∧ P (.next ρ ((dx, .att ((attr, d) :: fs)) :: ω'))
      | .exc _ _ => False)
    (hsw : ∀ env : Env, env.scope = sc → swapsWith value (some (.Attribute o attr p)) pos.line env = pure false) : EX1 prog w K bx sc n (.Assign [.Attribute o attr p] value pos) ρ ω P := fun X s m cm hs rm x0 => by
  refine plainObj_wpAny_Assign_Attribute (hs := hsw _ hs.sco) (wpAny_mono (hv X s m cm hs rm x0) (fun v s₁ hz152 => ?_) fun e s₁ hz154 => by obtain ⟨d, ω', q, _⟩ := hz154; exact q.elim)
  obtain ⟨d, ω', ⟨hx, fs, hd, hl, hP⟩, x1, st, r⟩ := hz152
  refine wp_E (ho _ _ _ s₁ hs.sco rm x1.eok) fun ov s₂ hz153 => ?_
  obtain ⟨g, ro⟩ := hz153
  have ro' : ov = .ref a := ro
  subst ro'
  have x2 := x1.after g
  exact st_setAttr x2 CO ht hx hd hl (r.keeps g.keep) fun s' x3 st3 => ⟨_, hP, rfl, ⟨m, cm, x3⟩, st.trans ((Stp.gr g).trans st3)⟩
end
end Lw
end

section
open PySem PySem.W PyProof.Rows PySem.Calls PySem.SeqAt
namespace Lw
structure MakeOk (K : Frag) (C fI : Addr) : Prop where
  makes : makesIn K C = true
  init : findIn K (.ref C) "__init__" = some (some (.ref fI))
  typ : typeIn K (.ref fI) = some (.type "function")
theorem tc_weight (C : Addr) (rest : List Value) (kw : List (Str × Value)) : (Code.builtin "type.__call__" ⟨.ref C :: rest, kw⟩).weight = 1 := by kernel_rfl
theorem tc_units (C : Addr) (rest : List Value) (kw : List (Str × Value)) : (Code.builtin "type.__call__" ⟨.ref C :: rest, kw⟩).cUnits = 1 := by kernel_rfl
theorem tc_envs (C : Addr) (rest : List Value) (kw : List (Str × Value)) : (Code.builtin "type.__call__" ⟨.ref C :: rest, kw⟩).envs = [] := by kernel_rfl
theorem Rm.tc {n : Nat} {A : Around} (rm : Rm (n + 1) A) (C : Addr) (rest : List Value) (kw : List (Str × Value)) : Rm n (A.under (.builtin "type.__call__" ⟨.ref C :: rest, kw⟩)) where
  hd := rm.hd
  depth := by have := rm.depth; show A.depth + (Code.builtin "type.__call__" ⟨.ref C :: rest, kw⟩).weight + 10 * n ≤ 800; rw [tc_weight]; lia
  units := by have := rm.units; show A.units + (Code.builtin "type.__call__" ⟨.ref C :: rest, kw⟩).cUnits + 100 * n ≤ 9000; rw [tc_units]; lia
section
variable {n : Nat} {bx : Bool} {ω : Owns}
theorem call_class {C fI : Addr} (MO : MakeOk K C fI) {ds : List D} {kds : List (Str × D)} {Q : Res → Prop}
    (h : ∀ x dx, x ≠ dx → ω.lookup x = none → ω.lookup dx = none → CallC prog w K bx (.ref fI) n ((x, .ins C dx) :: (dx, .att []) :: ω) (.val (.ref x) :: ds) kds (fun r => match r with
      | .val d ω' => d = .none ∧ Q (.val (.val (.ref x)) ω')
      | .exc d ω' => Q (.exc d ω'))) : CallC prog w K bx (.ref C) (n + 1) ω ds kds Q := fun A U S s vs kw rm i0 hfr rl kwl => by
  obtain ⟨hp, gens, drawn, tk, os⟩ := s
  let dx := hp.objs.size
  let x := hp.objs.size + 1
  have kk : ∀ b o, hp.get? b = some o → ((hp.push emptyDict).push (instObj C dx)).get? b = some o := fun b o e => Heap.get?_push_of_some _ (Heap.get?_push_of_some _ e)
  have hsz : ((hp.push emptyDict).push (instObj C dx)).objs.size = hp.objs.size + 2 := by rw [Heap.size_push, Heap.size_push]
  have g : Gr (⟨hp, gens, drawn, tk, os⟩ : Shared) ⟨(hp.push emptyDict).push (instObj C dx), gens, drawn, tk, os⟩ := Gr.of (s := ⟨hp, gens, drawn, tk, os⟩) kk (Nat.le_refl _) (by rw [hsz]; exact Nat.le_add_right _ _)
  have ltO : ∀ {a : Addr}, (ω.lookup a).isSome = true → a < hp.objs.size := fun {a} q => i0.ok.lt a (i0.wu a q).1
  have nx : ω.lookup x = none := by
    cases q : ω.lookup x with
    | none => rfl
    | some o => exact absurd (ltO (a := x) (by rw [q]; rfl)) (Nat.not_lt.mpr (Nat.le_succ _))
  have nd : ω.lookup dx = none := by
    cases q : ω.lookup dx with
    | none => rfl
    | some o => exact absurd (ltO (a := dx) (by rw [q]; rfl)) (Nat.lt_irrefl _)
  have hxd : x ≠ dx := Nat.succ_ne_self _
  have hdx : ((hp.push emptyDict).push (instObj C dx)).get? dx = some emptyDict := Heap.get?_push_of_some _ (Heap.get?_push_size _ rfl)
  have hx : ((hp.push emptyDict).push (instObj C dx)).get? x = some (instObj C dx) := by
    have : x = (hp.push emptyDict).objs.size := by rw [Heap.size_push]
    rw [this]; exact Heap.get?_push_size _ rfl
  let U' : Addr → Prop := fun a => U a ∨ a = x ∨ a = dx
  have hU : ∀ b, U' b → U b ∨ hp.get? b = none := fun b q => q.imp id fun q => q.elim (fun q => by rw [q]; exact fresh_none' (Nat.le_succ _)) fun q => by rw [q]; exact fresh_none' (Nat.le_refl _)
  have ok1 := i0.ok.gr g
  have nl : ∀ a, hp.objs.size ≤ a → Loose K a := fun a q => loose_new i0.ok q
  have i1 : In0 K U' S ((x, .ins C dx) :: (dx, .att []) :: ω) ⟨(hp.push emptyDict).push (instObj C dx), gens, drawn, tk, os⟩ := by
    refine ⟨⟨ok1.top, ok1.lim, fun a q => ?_, ok1.tk⟩, fun a o e => ?_, fun a q => ?_, fun a q => ⟨.inl (i0.su a q).1, (i0.su a q).2⟩⟩
    · show a < ((hp.push emptyDict).push (instObj C dx)).objs.size
      rw [hsz]
      rcases q with q | q | q
      · have := i0.ok.lt a q; exact Nat.lt_of_lt_of_le this (Nat.le_add_right _ _)
      · rw [q]; exact Nat.lt_succ_self _
      · rw [q]; exact Nat.lt_add_of_pos_right (by decide)
    · by_cases h1 : a = x
      · rw [h1, lookup_cons_eq] at e; cases e; rw [h1]; exact hx
      · rw [lookup_cons_ne h1] at e
        by_cases h2 : a = dx
        · rw [h2, lookup_cons_eq] at e; cases e; rw [h2]
          exact ⟨fun _ => none, Heap.Ns1.of_empty ⟨_, #[], 0, hdx, rfl, fun _ h => by simp at h, fun _ => rfl⟩, fun y => rfl⟩
        · rw [lookup_cons_ne h2] at e
          exact (i0.own a o e).mono hU (fun b o _ e => kk b o e) fun o e => kk _ o e
    · by_cases h1 : a = x
      · exact ⟨.inr (.inl h1), nl a (by rw [h1]; exact Nat.le_succ _), fun f => absurd (i0.ok.lt a (i0.su a f).1) (by rw [h1]; exact Nat.not_lt.mpr (Nat.le_succ _))⟩
      · by_cases h2 : a = dx
        · exact ⟨.inr (.inr h2), nl a (by rw [h2]; exact Nat.le_refl _), fun f => absurd (i0.ok.lt a (i0.su a f).1) (by rw [h2]; exact Nat.lt_irrefl _)⟩
        · rw [lookup_cons_ne h1, lookup_cons_ne h2] at q
          exact ⟨.inl (i0.wu a q).1, (i0.wu a q).2⟩
  have cvB : ∀ {ω' s'}, Back K U' S ((x, .ins C dx) :: (dx, .att []) :: ω) ⟨(hp.push emptyDict).push (instObj C dx), gens, drawn, tk, os⟩ ω' s' → Back K U S ω ⟨hp, gens, drawn, tk, os⟩ ω' s' := fun {ω' s'} B => by
    refine ⟨?_, fun b o q q' e => B.keep b o ?_ q' (kk b o e), fun b o q e => B.slots b o q (kk b o e), B.le, Nat.le_trans g.sz B.sz, ⟨B.hok.top, B.hok.lim, fun a q => B.hok.lt a (.inl q), B.hok.tk⟩, fun a o e => (B.own a o e).mono (fun c q => .inl (q.imp .inl id)) (fun _ _ _ e => e) fun _ e => e, fun a q => ?_⟩
    · obtain ⟨h₁, t₁, e⟩ := B.same; exact ⟨h₁, t₁, e⟩
    · have hb := Heap.lt_size e
      rw [lookup_cons_ne (fun z => absurd hb (by rw [z]; exact Nat.not_lt.mpr (Nat.le_succ _))), lookup_cons_ne (fun z => absurd hb (by rw [z]; exact Nat.lt_irrefl _))]
      exact q
    · rcases B.org a q with q | q
      · by_cases h1 : a = x
        · exact .inr (by rw [h1]; exact Nat.le_succ _)
        · by_cases h2 : a = dx
          · exact .inr (by rw [h2]; exact Nat.le_refl _)
          · rw [lookup_cons_ne h1, lookup_cons_ne h2] at q; exact .inl q
      · exact .inr (Nat.le_trans g.sz q)
  refine make_core (makes_of i0.ok.top MO.makes) (looks_findIn i0.ok.top MO.init) (fun self => bind_fn i0.ok.top self MO.typ) (.inl rfl) ?_
  refine codeAny_mono (h x dx hxd nx nd (A.under _) U' S ⟨(hp.push emptyDict).push (instObj C dx), gens, drawn, tk, os⟩ (.ref x :: vs) kw (rm.tc _ _ _) i1 (fun e => ?_) ⟨_, _, rfl, rfl, RL.mono hU (fun b o _ e => kk b o e) _ rl⟩ ⟨kwl.1, RL.mono hU (fun b o _ e => kk b o e) _ kwl.2⟩) fun r s' z => ?_
  · obtain ⟨outer, a, b⟩ := hfr e
    exact ⟨outer, by unfold Around.under; simp only [tc_envs]; exact a, b.at fun b o _ e => kk b o e⟩
  · rcases r with e | (v | _ | _ | _) <;> first | exact z.elim | skip
    · obtain ⟨d, ω', q, B, r⟩ := z
      exact ⟨d, ω', q, cvB B, R.mono (fun c q => .inl (q.imp .inl id)) (fun _ _ _ e => e) _ r⟩
    · obtain ⟨d, ω', ⟨q1, q2⟩, B, r⟩ := z
      subst q1
      exact ⟨r, _, ω', q2, cvB B, rfl⟩
end
end Lw
end

section
open PySem PySem.W PySem.Calls PySem.Sre
namespace Lw
structure SetCode (code : Array Nat) (b k : Nat) (bad : Nat → Bool) : Prop where
  hdr : header code = (1, b)
  first : ∀ m : M, m.code = code → m.hasFirstSet = true
  adm : ∀ c seen, ∃ s', inSet code c code.size 5 true seen = .ok (bad c, s')
  lt : b < code.size
  lt' : b + k < code.size
  op : ops[code.getD b 0]? = some .IN
  acc : ∀ c seen, ∃ s', accepts code b c seen = .ok (bad c, s')
  wid : itemWidth code b = k
  fin : ops[code.getD (b + k) 0]? = some .SUCCESS
theorem admitted_ok {code : Array Nat} {b k : Nat} {bad : Nat → Bool} (C : SetCode code b k bad) (m : M) (hc : m.code = code) : ∀ (fuel s : Nat) (seen : Sre.Seen),
    ∃ r seen', m.admitted fuel s seen = .ok (r, seen') ∧ ((∃ p, r = some p ∧ s ≤ p ∧ p < m.lim ∧ bad (m.text.getD p 0) = true) ∨
      (r = none ∧ ∀ p, s ≤ p → p < m.lim → p < s + fuel → bad (m.text.getD p 0) = false))
  | 0, s, seen => ⟨none, seen, rfl, .inr ⟨rfl, fun p h1 h2 h3 => by lia⟩⟩
  | fuel + 1, s, seen => by
    unfold M.admitted
    by_cases h : s ≥ m.lim
    · rw [if_pos h]
      exact ⟨none, seen, rfl, .inr ⟨rfl, fun p h1 h2 h3 => by lia⟩⟩
    · rw [if_neg h]
      obtain ⟨s', e⟩ := C.adm (m.text.getD s 0) seen
      rw [hc, e]
      cases hb : bad (m.text.getD s 0) with
      | true => exact ⟨some s, s', rfl, .inl ⟨s, rfl, Nat.le_refl _, by lia, hb⟩⟩
      | false =>
        obtain ⟨r, seen', e', q⟩ := admitted_ok C m hc fuel (s + 1) s'
        refine ⟨r, seen', e', ?_⟩
        rcases q with ⟨p, q1, q2, q3⟩ | ⟨q1, q2⟩
        · exact .inl ⟨p, q1, by lia, q3⟩
        · refine .inr ⟨q1, fun p h1 h2 h3 => ?_⟩
          by_cases hp : p = s
          · rw [hp]; exact hb
          · exact q2 p (by lia) h2 (by lia)
theorem step_in (m : M) (h1 : m.outcome = none) (h2 : m.answer = none) (h3 : m.pc < m.code.size) (h4 : ops[m.word 0]? = some .IN) (h5 : m.pos < m.lim) (h6 : ∀ seen, ∃ s', accepts m.code m.pc (m.text.getD m.pos 0) seen = .ok (true, s')) :
    ∃ s', m.step = { m with seen := s', pc := m.pc + itemWidth m.code m.pc, pos := m.pos + 1 } := by
  obtain ⟨s', e⟩ := h6 (m.seen.add (m.word 0))
  refine ⟨s', ?_⟩
  unfold M.step
  rw [h1]
  obtain ⟨code, text, lim, start, lastStart, wholeText, mustAdvance, pc, pos, handed, outermost, marks, lastmark, lastindex, loops, inner, frames, weight, answer, seen, outcome⟩ := m
  simp only at h1 h2 h3 h5 e
  subst h1 h2
  simp only [Option.isSome_none, Bool.false_eq_true, if_false, h3, if_true]
  unfold M.exec
  simp only [h4]
  rw [if_neg (by lia)]
  simp only [e]
theorem step_success (m : M) (h1 : m.outcome = none) (h2 : m.answer = none) (h3 : m.pc < m.code.size) (h4 : ops[m.word 0]? = some .SUCCESS) (h5 : m.wholeText = false) (h6 : m.mustAdvance = false) :
    ∃ s', m.step = { m with seen := s', handed := m.pos, answer := some true } := by
  refine ⟨m.seen.add (m.word 0), ?_⟩
  unfold M.step
  obtain ⟨code, text, lim, start, lastStart, wholeText, mustAdvance, pc, pos, handed, outermost, marks, lastmark, lastindex, loops, inner, frames, weight, answer, seen, outcome⟩ := m
  simp only at h1 h2 h3 h5 h6
  subst h1 h2 h5 h6
  simp only [Option.isSome_none, Bool.false_eq_true, if_false, h3, if_true]
  unfold M.exec
  simp only [h4, Bool.false_and, Bool.or_false, Bool.and_false, Bool.false_eq_true, if_false]
  rfl
theorem runFor_succ (n : Nat) (m : M) (h : m.outcome = none) : m.runFor (n + 1) = m.step.runFor n := by
  show (if m.outcome.isSome = true then m else M.runFor n m.step) = _
  rw [h]; rfl
theorem from_steps {code text : Array Nat} {b k : Nat} {bad : Nat → Bool} (C : SetCode code b k bad) (m : M) (h1 : m.code = code) (h2 : m.text = text) (h3 : m.lim = text.size) (h4 : m.pc = b) (h5 : m.outcome = none) (h6 : m.answer = none) (h7 : m.wholeText = false) (h8 : m.frames = []) (h9 : m.weight = 0) :
    ((∃ p, p < text.size ∧ bad (text.getD p 0) = true) ∧ (((m.attemptFrom 0 true).runFor 4).outcome = some .matched)) ∨ ((∀ p, p < text.size → bad (text.getD p 0) = false) ∧ ((m.attemptFrom 0 true).runFor 4).outcome = some .failed) := by
  obtain ⟨r, seen', e, q⟩ := admitted_ok C m h1 (m.lim + 1 - 0) 0 m.seen
  unfold M.attemptFrom
  rw [C.first m h1, e]
  obtain ⟨code, text, lim, start, lastStart, wholeText, mustAdvance, pc, pos, handed, outermost, marks, lastmark, lastindex, loops, inner, frames, weight, answer, seen, outcome⟩ := m
  simp only at h1 h2 h3 h4 h5 h6 h7 h8 h9 q
  subst h1 h2 h3 h4 h5 h6 h7 h8 h9
  rcases q with ⟨p, rfl, q1, q2, q3⟩ | ⟨rfl, q⟩
  · left
    refine ⟨⟨p, q2, q3⟩, ?_⟩
    rw [if_neg (by decide)]
    obtain ⟨s1, e1⟩ := step_in { code, text, lim := text.size, start := p, lastStart, wholeText := false, mustAdvance := false, pc, pos := p, handed := p, outermost := true, marks, lastmark := -1, lastindex := -1, loops, inner, frames := [{ wait := .nextStart, pc, pos := p, outermost := true }], weight := 0 + 1 + 0, answer := none, seen := seen', outcome := none } rfl rfl C.lt C.op q2 (fun seen => by
      obtain ⟨s', e'⟩ := C.acc (text.getD p 0) seen
      rw [q3] at e'
      exact ⟨s', e'⟩)
    obtain ⟨s2, e2⟩ := step_success { code, text, lim := text.size, start := p, lastStart, wholeText := false, mustAdvance := false, pc := pc + itemWidth code pc, pos := p + 1, handed := p, outermost := true, marks, lastmark := -1, lastindex := -1, loops, inner, frames := [{ wait := .nextStart, pc, pos := p, outermost := true }], weight := 0 + 1 + 0, answer := none, seen := s1, outcome := none } rfl rfl (by rw [C.wid]; exact C.lt') (by unfold M.word; simp only [Nat.add_zero]; rw [C.wid]; exact C.fin) rfl rfl
    have e0 : M.attemptAt { code, text, lim := text.size, start, lastStart, wholeText := false, mustAdvance := false, pc, pos, handed, outermost, marks, lastmark, lastindex, loops, inner, frames := [], weight := 0, answer := none, seen := seen', outcome := none } p true =
      { code, text, lim := text.size, start := p, lastStart, wholeText := false, mustAdvance := false, pc, pos := p, handed := p, outermost := true, marks, lastmark := -1, lastindex := -1, loops, inner, frames := [{ wait := .nextStart, pc, pos := p, outermost := true }], weight := 0 + 1 + 0, answer := none, seen := seen', outcome := none } := rfl
    simp only
    rw [e0, runFor_succ _ _ rfl, e1, runFor_succ _ _ rfl, e2]
    rfl
  · right
    refine ⟨fun p hp => q p (Nat.zero_le _) hp (by lia), ?_⟩
    rfl
theorem search_steps {code text : Array Nat} {b k : Nat} {bad : Nat → Bool} (C : SetCode code b k bad) :
    ((∃ p, p < text.size ∧ bad (text.getD p 0) = true) ∧ ((forSearch code text 0 0 text.size false).runFor 4).outcome = some .matched) ∨ ((∀ p, p < text.size → bad (text.getD p 0) = false) ∧ ((forSearch code text 0 0 text.size false).runFor 4).outcome = some .failed) := by
  unfold forSearch
  simp only [C.hdr]
  by_cases h0 : text.size = 0
  · right
    refine ⟨fun p hp => by lia, ?_⟩
    rw [if_pos (by simp [h0])]
    rfl
  · rw [if_neg (by rw [Bool.or_eq_true, decide_eq_true_eq, decide_eq_true_eq]; lia)]
    exact from_steps C _ rfl rfl rfl (show (header code).2 = b by rw [C.hdr]) rfl rfl rfl rfl rfl
noncomputable def badName (c : Nat) : Bool := decide (c ≤ 31) || c == 127
noncomputable def badValue (c : Nat) : Bool := c < 256 && (valueCode.getD (6 + c / 32) 0).testBit (c % 32)
theorem inSet_range {code : Array Nat} {c i fuel : Nat} {seen : Sre.Seen} (h : ops[code.getD (i + 0) 0]? = some .RANGE) :
    inSet code c (fuel + 1) i true seen = if (decide (code.getD (i + 1) 0 ≤ c) && decide (c ≤ code.getD (i + 2) 0)) = true then .ok (true, seen.add (code.getD (i + 0) 0)) else inSet code c fuel (i + 3) true (seen.add (code.getD (i + 0) 0)) := by
  conv => lhs; whnf; arg 2; rw [h]
theorem inSet_literal {code : Array Nat} {c i fuel : Nat} {seen : Sre.Seen} (h : ops[code.getD (i + 0) 0]? = some .LITERAL) :
    inSet code c (fuel + 1) i true seen = if (c == code.getD (i + 1) 0) = true then .ok (true, seen.add (code.getD (i + 0) 0)) else inSet code c fuel (i + 2) true (seen.add (code.getD (i + 0) 0)) := by
  conv => lhs; whnf; arg 2; rw [h]
theorem inSet_failure {code : Array Nat} {c i fuel : Nat} {seen : Sre.Seen} (h : ops[code.getD (i + 0) 0]? = some .FAILURE) :
    inSet code c (fuel + 1) i true seen = .ok (false, seen.add (code.getD (i + 0) 0)) := by
  conv => lhs; whnf; arg 2; rw [h]
  rfl
theorem inSet_charset {code : Array Nat} {c i fuel : Nat} {seen : Sre.Seen} (h : ops[code.getD (i + 0) 0]? = some .CHARSET) :
    inSet code c (fuel + 1) i true seen = if (decide (c < 256) && (code.getD (i + (1 + c / 32)) 0).testBit (c % 32)) = true then .ok (true, seen.add (code.getD (i + 0) 0)) else inSet code c fuel (i + 9) true (seen.add (code.getD (i + 0) 0)) := by
  conv => lhs; whnf; arg 2; rw [h]
theorem inSet_name (c i fuel : Nat) (seen : Sre.Seen) (h0 : ops[nameCode.getD (i + 0) 0]? = some .RANGE) (h1 : nameCode.getD (i + 1) 0 = 0) (h2 : nameCode.getD (i + 2) 0 = 31) (h3 : ops[nameCode.getD (i + 3 + 0) 0]? = some .LITERAL) (h4 : nameCode.getD (i + 3 + 1) 0 = 127) (h5 : ops[nameCode.getD (i + 3 + 2 + 0) 0]? = some .FAILURE) :
    ∃ s', inSet nameCode c (fuel + 3) i true seen = .ok (badName c, s') := by
  rw [inSet_range h0, h1, h2]
  by_cases hc : c ≤ 31
  · simp only [Nat.zero_le, decide_true, hc, Bool.and_self, if_true]
    exact ⟨_, by unfold badName; simp [hc]; rfl⟩
  · simp only [Nat.zero_le, decide_true, hc, decide_false, Bool.and_false, Bool.false_eq_true, if_false]
    rw [inSet_literal h3, h4]
    by_cases h7 : (c == 127) = true
    · rw [if_pos h7]
      exact ⟨_, by unfold badName; rw [h7]; simp; rfl⟩
    · rw [if_neg h7]
      rw [inSet_failure h5]
      exact ⟨_, by unfold badName; simp [hc]; simp at h7; exact ⟨h7, rfl⟩⟩
theorem inSet_value (c i fuel : Nat) (seen : Sre.Seen) (h0 : ops[valueCode.getD (i + 0) 0]? = some .CHARSET) (h1 : ∀ j, j < 8 → valueCode.getD (i + (1 + j)) 0 = valueCode.getD (6 + j) 0) (h5 : ops[valueCode.getD (i + 9 + 0) 0]? = some .FAILURE) :
    ∃ s', inSet valueCode c (fuel + 2) i true seen = .ok (badValue c, s') := by
  rw [inSet_charset h0]
  by_cases hc : (decide (c < 256) && (valueCode.getD (i + (1 + c / 32)) 0).testBit (c % 32)) = true
  · rw [if_pos hc]
    have : badValue c = true := by
      unfold badValue
      simp only [Bool.and_eq_true, decide_eq_true_eq] at hc
      rw [← h1 _ (by lia)]
      rw [Bool.and_eq_true]
      exact ⟨decide_eq_true hc.1, hc.2⟩
    rw [this]
    exact ⟨_, rfl⟩
  · rw [if_neg hc]
    rw [inSet_failure h5]
    have : badValue c = false := by
      unfold badValue
      by_cases hl : c < 256
      · rw [← h1 _ (by lia)]
        cases e : (valueCode.getD (i + (1 + c / 32)) 0).testBit (c % 32) with
        | false => rw [Bool.and_false]
        | true => rw [e] at hc; exact absurd (by rw [Bool.and_true]; exact decide_eq_true hl) hc
      · rw [decide_eq_false hl]; rfl
    rw [this]
    exact ⟨_, rfl⟩
theorem setName : SetCode nameCode 11 8 badName where
  hdr := by decide +kernel
  first := fun m e => by unfold M.hasFirstSet; rw [e]; rfl
  adm := fun c seen => inSet_name c 5 17 seen rfl rfl rfl rfl rfl rfl
  lt := by decide
  lt' := by decide
  op := rfl
  acc := fun c seen => by
    unfold accepts
    exact inSet_name c 13 17 seen rfl rfl rfl rfl rfl rfl
  wid := rfl
  fin := rfl
theorem setValue : SetCode valueCode 15 12 badValue where
  hdr := by decide +kernel
  first := fun m e => by unfold M.hasFirstSet; rw [e]; rfl
  adm := fun c seen => inSet_value c 5 26 seen rfl (by decide) rfl
  lt := by decide
  lt' := by decide
  op := rfl
  acc := fun c seen => by
    unfold accepts
    exact inSet_value c 17 26 seen rfl (by decide) rfl
  wid := rfl
  fin := rfl
end Lw
end

section
open PySem PySem.W PyProof.Rows PySem.Calls PySem.SeqAt PySem.Builtin.Re
namespace Lw
theorem plainAttrs_pat : PlainAttrs "re.Pattern" :=
  ⟨⟨"object.__getattribute__", by rw [typeLookup_type, builtinLookup_eq_fast]; kernel_rfl, by decide +kernel⟩, by rw [typeLookup_type, builtinLookup_eq_fast]; kernel_rfl⟩
theorem slot_search : Slot "re.Pattern" "search" "re.Pattern.search" :=
  .of (owner := "re.Pattern") (n := "search") (by rw [typeLookup_type, builtinLookup_eq_fast]; kernel_rfl) (by decide +kernel) (by decide +kernel) (by decide +kernel)
    (by first | exact .inl (by decide +kernel) | exact .inr (by decide +kernel)) (by rw [isSubtype_type]; kernel_rfl)
theorem type_search : typeOf (.builtin "re.Pattern.search") = pure (.type "method_descriptor") := by show builtinType _ = _; rw [builtinType_eq_fast]; kernel_rfl
theorem entry_search : entryFor table "re.Pattern.search" = some Builtin.«re.Pattern.search» := entryFor_of_tree (by kernel_rfl)
theorem args_search (a b : Value) : argsOk "re.Pattern.search" ⟨[a, b], []⟩ := by unfold argsOk; kernel_rfl
structure PatOk (K : Frag) (p : Addr) (code : Array Nat) : Prop where
  at_ : ∃ o vs c oc xs n, K.lookup p = some o ∧ o.cls = .type "re.Pattern" ∧ o.dict = none ∧ o.data = .fields vs ∧ vs.getD 2 .none = rawInt 0 ∧ vs.getD 5 .none = .ref c ∧ vs.getD 6 .none = rawInt 0 ∧
    K.lookup c = some oc ∧ oc.data = .seq xs n ∧ (xs.map reRawOf).map (·.toNat) = code
section
variable {n : Nat}
theorem rules_ok {M : Model} {A : Around} {E : Value → Shared → Prop} {s : Shared} {f : Nat → PUnit → Sem (ForInStep PUnit)} (hf : ∀ i {Q : ForInStep PUnit → Shared → Prop}, Q (.yield ⟨⟩) s → wpAny M A (f i ⟨⟩) Q E s) : ∀ (l : List Nat) {Q : PUnit → Shared → Prop}, Q ⟨⟩ s → wpAny M A (forIn l PUnit.unit f) Q E s
  | [], Q, h => wpAny_pure h
  | i :: l, Q, h => by
    rw [List.forIn_cons]
    exact wpAny_bind (hf i (rules_ok hf l h))
theorem drive_done {m : Sre.M} (h : ((m.runFor 4).outcome).isSome = true) : reDrive (2 ^ 64) m = pure (m.runFor 4) := by
  have : (2 : Nat) ^ 64 = (2 ^ 64 - 1) + 1 := by decide
  rw [this]
  unfold reDrive
  exact if_pos h
theorem runToEnd_ok {M : Model} {A : Around} {E : Value → Shared → Prop} {s : Shared} {m : Sre.M} {Q : Option Sre.M → Shared → Prop} (hb : (m.runFor 4).outcome = some .matched ∧ Q (some (m.runFor 4)) s ∨ (m.runFor 4).outcome = some .failed ∧ Q none s) : wpAny M A (reRunToEnd m) Q E s := by
  have h : ((m.runFor 4).outcome).isSome = true := by rcases hb with ⟨e, _⟩ | ⟨e, _⟩ <;> rw [e] <;> rfl
  unfold reRunToEnd
  rw [drive_done h]
  refine wpAny_bind (wpAny_pure ?_)
  refine wpAny_bind (rules_ok (fun i Q q => ?_) _ ?_)
  · split
    · exact wpAny_bind (wpAny_rule (wpAny_pure q))
    · exact wpAny_pure q
  rcases hb with ⟨e, q⟩ | ⟨e, q⟩ <;> rw [e] <;> exact wpAny_pure q
theorem named_search (v : Value) : reNamed "re.Pattern.search" "search" ["string", "pos", "endpos"] 1 [v] [] = pure [some v, none, none] := by kernel_rfl
theorem newMatch_ok {M : Model} {A : Around} {E : Value → Shared → Prop} {s : Shared} {pattern string : Value} {pos lim : Nat} {m : Sre.M} {Q : Value → Shared → Prop} (h : ∀ s', Gr s s' → ∀ a o, s.heap.objs.size ≤ a → s'.heap.get? a = some o → o.cls = .type "re.Match" → Q (.ref a) s') :
    wpAny M A (reNewMatch pattern string 0 pos lim m) Q E s := by
  unfold reNewMatch
  refine wpAny_bind (wpAny_newTuple ?_ (by show 2 ≤ _; decide))
  unfold newFields
  refine wpAny_newObj_type ?_ (by size_fits)
  refine h _ (Gr.push.trans Gr.push) _ _ ?_ (Heap.get?_push_size _ rfl) rfl
  show s.heap.objs.size ≤ (s.heap.push _).objs.size
  rw [Heap.size_push]
  exact Nat.le_succ _
noncomputable def Found (b : Bool) : D := .obj fun h v => if b = true then ∃ a o, v = .ref a ∧ h.get? a = some o ∧ o.cls = .type "re.Match" else v = .none
theorem call_search {p : Addr} {code : Array Nat} {b k : Nat} {bad : Nat → Bool} (P : PatOk K p code) (C : SetCode code b k bad) {x : Str} (hx : x.length ≤ 1000000) : CallG prog w K (.builtin "re.Pattern.search") n [.val (.ref p), .str x] (Found (x.cps.toList.any bad)) := fun A U s vs rm ok rl => by
  obtain ⟨v₁, vs', rfl, r1, v₂, vs'', rfl, ⟨t, rfl⟩, rfl⟩ := rl
  cases r1
  obtain ⟨o, fs, c, oc, xs, n', h1, h2, h3, h4, h5, h6, h7, h8, h9, h10⟩ := P.at_
  have ho := ok.top _ _ h1
  have hc := ok.top _ _ h8
  refine wpAny_call_entry slot_search ⟨o, ho, h2⟩ entry_search ?_ (args_search _ _)
  unfold Builtin.«re.Pattern.search»
  have target : wpAny (model prog w) A.in1 (reTarget "re.Pattern.search" "search" ⟨[.ref p, .str x t], []⟩) (fun t' s' => s' = s ∧ t' = ⟨.ref p, .str x t, code, x.cps, 0, 0, 0, x.cps.size⟩) (fun _ _ => False) s := by
    unfold reTarget
    show wpAny _ _ (reNamed "re.Pattern.search" "search" ["string", "pos", "endpos"] 1 [.str x t] [] >>= _) _ _ s
    rw [named_search]
    refine wpAny_bind (wpAny_pure ?_)
    refine wpAny_bind (wpAny_pure (wpAny_bind (wpAny_pure ?_)))
    refine wpAny_bind (wpAny_bind (wpAny_load ho ?_))
    rw [h4]
    refine wpAny_pure ?_
    show wpAny _ _ (reTextOf (.str x t) >>= _) _ _ s
    refine wpAny_bind ?_
    have e1 : reTextOf (.str x t) = pure (x.cps, 0) := by kernel_rfl
    rw [e1]
    refine wpAny_pure ?_
    have e2 : reRawNat (fs.getD 6 .none) = 0 := by rw [h7]; rfl
    have e3 : reRawNat (fs.getD 2 .none) = 0 := by rw [h5]; rfl
    simp only [e2, e3, h6]
    rw [if_neg (by decide)]
    first | (refine wpAny_bind (wpAny_pure ?_); rw [if_neg (by decide)]; refine wpAny_bind (wpAny_pure ?_)) | (rw [if_neg (by decide)])
    refine wpAny_bind (wpAny_pure ?_)
    unfold reRawItems
    refine wpAny_bind (wpAny_bind (wpAny_seqItems hc h9 (wpAny_pure ?_)))
    refine wpAny_pure ⟨rfl, ?_⟩
    have e5 : min (2 ^ 63 - 1 : Int).toNat x.cps.size = x.cps.size := Nat.min_eq_right (Nat.le_trans (show x.cps.size ≤ 1000000 from hx) (by decide))
    rw [e5]
    show ReTarget.mk _ _ ((xs.map reRawOf).map (·.toNat)) _ _ _ _ _ = _
    rw [h10]
    rfl
  refine wpAny_bind (wpAny_mono target (fun t' s' hz155 => ?_) fun _ _ q => q.elim)
  obtain ⟨e1, e2⟩ := hz155
  subst e1 e2
  unfold reAnswer
  have hany : x.cps.toList.any bad = true ↔ ∃ p, p < x.cps.size ∧ bad (x.cps.getD p 0) = true := by
    rw [List.any_eq_true]
    constructor
    · rintro ⟨c, hc, hb⟩
      obtain ⟨i, hi, e⟩ := List.getElem_of_mem hc
      refine ⟨i, by simpa using hi, ?_⟩
      have : x.cps.getD i 0 = c := by rw [Array.getD_eq_getD_getElem?, ← Array.getElem?_toList, List.getElem?_eq_getElem hi, e]; rfl
      rw [this]; exact hb
    · rintro ⟨i, hi, hb⟩
      have hi' : i < x.cps.toList.length := by simpa using hi
      refine ⟨x.cps.toList[i], List.getElem_mem hi', ?_⟩
      have : x.cps.getD i 0 = x.cps.toList[i] := by rw [Array.getD_eq_getD_getElem?, ← Array.getElem?_toList, List.getElem?_eq_getElem hi']; rfl
      rw [← this]; exact hb
  rcases search_steps C (text := x.cps) with ⟨q, e⟩ | ⟨q, e⟩
  · refine wpAny_bind (runToEnd_ok (.inl ⟨e, ?_⟩))
    rw [hany.mpr q]
    refine wpAny_bind (newMatch_ok fun s₂ g a o h1 h2 h3 => wpAny_pure ⟨_, rfl, g, fun h' kp => ⟨_, _, rfl, kp _ _ (ok.not_fresh h1) h2, h3⟩⟩)
  · refine wpAny_bind (runToEnd_ok (.inr ⟨e, ?_⟩))
    have : x.cps.toList.any bad = false := by
      cases h : x.cps.toList.any bad with
      | false => rfl
      | true => obtain ⟨i, hi, hb⟩ := hany.mp h; rw [q i hi] at hb; cases hb
    rw [this]
    exact wpAny_pure ⟨_, rfl, Gr.refl _, fun h' _ => rfl⟩
end
end Lw
end

section
open PySem PySem.W PyProof.Rows PySem.Calls PySem.SeqAt
namespace Lw
section
variable {sc : Scope} {n : Nat} {ρ : Vars}
theorem callWith_kw1 {f : Value} {first : List Value} {e₀ : Sem Value} {l : List (Bool × Sem Value)} {x : Str} {b : Bool} {c : Nat} {cp p pos : Pos} {env : Env} {A : Around} {s : Shared} {Q : Value → Shared → Prop} {E : Value → Shared → Prop} {T : List Value → Shared → Prop} (top : ∀ s', Gr s s' → K.In s'.heap)
    (hk : (∃ id, f = .builtin id) ∨ (∃ t, f = .type t) ∨ keepIn K f = true) (hp : l.any (·.1) = false)
    (h : wpAny (model prog w) A (spliced ((false, e₀) :: l)) (fun vs s' => Gr s s' ∧ T vs s') E s)
    (hc : ∀ vs s', Gr s s' → T vs s' → wpAny (model prog w) A (call f (first ++ vs) [(x, .bool b)]) Q E s') :
    wpAny (model prog w) A (callWith pos f first ((false, e₀) :: l) (backToKw pos (keywordEach [⟨some x, .Constant (.bool b) c cp, p⟩] env))) Q E s := by
  unfold callWith
  have hkw : backToKw pos (keywordEach [⟨some x, .Constant (.bool b) c cp, p⟩] env) = [(some x, do let v ← eval (.Constant (.bool b) c cp) env; standAt pos; pure v)] := rfl
  rw [hkw]
  have ha : wpAny (model prog w) A (evalArgs f true ((false, e₀) :: l) [(some x, do let v ← eval (.Constant (.bool b) c cp) env; standAt pos; pure v)]) (fun a s' => ∃ vs, a = ⟨vs, [(x, .bool b)]⟩ ∧ Gr s s' ∧ T vs s') E s := by
    refine evalArgs_kw rfl (wpAny_mono h (fun vs s₁ hz156 => ?_) fun _ _ q => q)
    obtain ⟨g, t⟩ := hz156
    show wpAny _ A (evalAll [do let v ← eval (.Constant (.bool b) c cp) env; standAt pos; pure v]) _ _ s₁
    refine wpAny_evalAll_cons (wpAny_bind (Constant_bool (wpAny_bind (wpAny_standAt (wpAny_pure (wpAny_evalAll_nil ?_))))))
    exact ⟨vs, rfl, g, t⟩
  refine wpAny_bind (wpAny_holding (wpAny_mono ha (fun a s' hz157 => ?_) fun _ _ x => x))
  obtain ⟨vs, e, g, r⟩ := hz157
  subst e
  have hcall := hc vs s' g r
  refine wpAny_bind (wpAny_standAt ?_)
  obtain ⟨k, L⟩ := keeper_looks (M := model prog w) hk (top s' g)
  have hst : ((((false, e₀) :: l).any (·.1)) || ([(some x, do let v ← eval (.Constant (.bool b) c cp) env; standAt pos; pure v)] : List (Option Str × Sem Value)).any (·.1.isNone)) = false := by
    simp only [List.any_cons, hp, List.any_nil]; rfl
  rw [hst]
  refine wpAny_bind (L.here ?_)
  have tail : ∀ {t : Sem Value}, wpAny (model prog w) A t Q E s' → wpAny (model prog w) A (t >>= fun r => holding [r] point >>= fun _ => pure r) Q E s' :=
    fun ht => wpAny_bind (wpAny_mono ht (fun r s₂ hr => wpAny_bind (wpAny_holding (wpAny_point (wpAny_pure hr)))) fun _ _ x => x)
  have marked (mk : Value) : wpAny (model prog w) A (callMarked mk f (first ++ vs) [(x, .bool b)]) Q E s' := by unfold callMarked; exact Calls.wpAny_keep hcall
  cases k <;> dsimp only <;> (try split) <;> first | exact tail hcall | exact tail (marked _) | exact tail (wpAny_operate' hcall)
end
section
variable {bx : Fl} {sc : Scope} {n : Nat} {ρ : Vars} {ω : Owns} {P : Out → Prop}
theorem em_methKw {bb : Bool} {o e : Expr} {name x : Str} {b : Bool} {c : Nat} {cp p : Pos} {apos pos : Pos} {pl : Env → Sem Bool} {a dx C f : Addr} {fs : List (Str × D)} {ω₁ : Owns} {d : D} {Q : Res → Prop}
    (hshape : ∀ env, eval (.Call (.Attribute o name apos) [e] [⟨some x, .Constant (.bool b) c cp, p⟩] pos) env = (do
      let ov ← eval o env
      standAt apos.atName
      let (f, first) ← holding [ov] (getMethod ov name (pl env))
      callWith pos f first (backTo pos (starEach [e] env)) (backToKw pos (keywordEach [⟨some x, .Constant (.bool b) c cp, p⟩] env))))
    (he : ∀ env, starEach [e] env = [(false, eval e env)]) (ho : EV prog w K sc n ρ o (.val (.ref a))) (CO : ClsOk K C) (MO : MethOk K C name f) (hx : ω.lookup a = some (.ins C dx)) (hd : ω.lookup dx = some (.att fs)) (hno : fs.lookup name = none)
    (ha : EV prog w K sc n ρ e d) (hb : bb = true → bx.b = true) (h1 : SubO ω₁ ω) (hc : CallM prog w K bb (.ref f) n ω₁ [.val (.ref a), d] [(x, .bool b)] (Onw bx.ks ω ω₁ Q)) : EM prog w K bx sc n ρ ω (.Call (.Attribute o name apos) [e] [⟨some x, .Constant (.bool b) c cp, p⟩] pos) Q := fun X s m cm hs rm x0 => by
  rw [hshape]
  refine wpAny_bind (wp_E (ho _ _ _ s hs.sco rm x0.eok) fun v s₁ hz158 => ?_)
  obtain ⟨g, r⟩ := hz158
  have r' : v = .ref a := r
  subst r'
  have x1 := x0.after g
  obtain ⟨od, I, hl⟩ := x1.instAt hx hd
  have hl := hl name
  rw [hno] at hl
  refine wpAny_bind (wpAny_standAt (wpAny_bind (wpAny_holding ?_)))
  refine method_fn x1.hokS.top I CO.hga CO.hk MO.find MO.typ (by unfold shadowIn; simp only [hl]; rfl) ?_
  obtain ⟨e₀, hst⟩ : ∃ e₀, backTo pos (starEach [e] X.env) = [(false, e₀)] := by rw [he]; exact ⟨_, rfl⟩
  have hargs : wpAny (model prog w) X.A (spliced (backTo pos (starEach [e] X.env))) (fun vs s' => Gr s₁ s' ∧ RL (Wn X ω) s'.heap vs [d]) (fun _ _ => False) s₁ := (es_cons (n := n) he ha es_nil) X.env pos X.A (Wn X ω) s₁ hs.sco rm x1.eok
  rw [hst] at hargs ⊢
  refine callWith_kw1 (K := K) (T := fun vs s' => RL (Wn X ω) s'.heap vs [d]) (fun s' g' => (x1.hokS.gr g').top) (.inr (.inr MO.keep)) rfl (wp_E hargs fun vs s₂ h => h) fun vs s₂ g₂ rl => ?_
  have x2 := x1.after g₂
  have st := Stp.gr (X := X) (ω := ω) (g.trans g₂)
  exact wpAny_mono (st_call (ds := .val (.ref a) :: [d]) hb h1 hc hs rm x2 ⟨_, _, rfl, rfl, rl⟩ ⟨rfl, _, _, rfl, rfl, rfl⟩) (fun v s' hz159 => by obtain ⟨d, ω', q, y, st', r⟩ := hz159; exact ⟨d, ω', q, y, st.trans st', r⟩) fun v s' hz160 => by obtain ⟨d, ω', q, y, st', r⟩ := hz160; exact ⟨d, ω', q, y, st.trans st', r⟩
end
end Lw
end

section
open PySem PySem.W PyProof.Rows PySem.Calls PySem.SeqAt
namespace Lw
structure ExcAt (h h' : Heap) (e t : Addr) (X : String) (rest : List Value) : Prop where
  keep : ∀ b o, h.get? b = some o → h'.get? b = some o
  le : h.objs.size ≤ e
  lt : h.objs.size ≤ t
  ne : t ≠ e
  at_ : h'.get? e = some { cls := .type X, data := .fields #[.ref t, .none, .none, .none, .bool false, .none] }
  args : h'.get? t = some { cls := .type "tuple", data := .seq rest.toArray }
  sz : h.objs.size ≤ h'.objs.size
section
variable {prog : Program} {w : World} {A : Around} {E : Value → Shared → Prop} {s : Shared} {X N I : String}
theorem exc_made (hc : ExcClass X N I) {rest : List Value} {Q : Value → Shared → Prop} (hrest : rest.length ≤ sizeLine) (h : ∀ h' e t, ExcAt s.heap h' e t X rest → Q (.ref e) { s with heap := h' }) : wpAny (model prog w) A (call (.type X) rest) Q E s := by
  refine wpAny_call (codeAny_of_tree ?_)
  show wpAny _ _ (callAny (.type X) ⟨rest, []⟩) _ _ s
  simp only [callAny]
  refine wpAny_pure ⟨Code.quiet_builtin _ (by decide +kernel), codeAny_builtin entry_type_call ?_⟩
  rw [Around.under_plain (weight_type_call X _ _) (by first | rfl | kernel_rfl | decide +kernel)]
  unfold Builtin.«type.__call__»
  dsimp only
  rw [if_neg (by rw [hc.notType]; exact Bool.false_ne_true), if_neg (by rw [hc.canNew]; exact Bool.false_ne_true)]
  obtain ⟨l, hl, hle⟩ := hc.mro
  refine wpAny_bind (wpAny_of_eq (hc.typeCall rest) (wpAny_bind (wpAny_of_eq hl ?_)))
  rw [if_neg (by rw [hle]; exact Bool.false_ne_true)]
  refine wpAny_bind (wpAny_of_eq hc.madeBy ?_)
  dsimp only
  refine wpAny_bind (wpAny_pure (wpAny_bind (wpAny_holding (new_exc hc ?_ hrest))))
  refine wpAny_bind (wpAny_isInstance (T := X) ⟨_, Heap.get?_push_size _ rfl, rfl⟩ hc.self ?_)
  simp only [Bool.not_true, Bool.false_eq_true, if_false]
  refine wpAny_bind (wpAny_holding (wpAny_callSpecial?_slot (name := Str.ofString "__init__") (T := X) ⟨_, Heap.get?_push_size _ rfl, rfl⟩ hc.init
    (init_exc hc (Heap.get?_push_size _ rfl) rfl rfl rfl ?_ hrest)))
  dsimp only
  rw [if_neg (by simp)]
  have hsz : (((s.heap.push { cls := .type "tuple", data := .seq rest.toArray }).push { cls := .type X, data := .fields #[.ref s.heap.objs.size, .none, .none, .none, .bool false, .none] })).objs.size = s.heap.objs.size + 2 := by simp
  have hsz1 : (s.heap.push { cls := .type "tuple", data := .seq rest.toArray }).objs.size = s.heap.objs.size + 1 := by simp
  refine wpAny_pure (h _ _ (s.heap.objs.size + 2) ⟨fun b o hb => ?_, ?_, Nat.le_add_right _ _, ?_, ?_, ?_, ?_⟩)
  · rw [Heap.get?_update_other _ _ (Nat.ne_of_gt (Nat.lt_of_lt_of_le (Heap.lt_size hb) (by simp)))]
    exact Heap.get?_push_of_some _ (Heap.get?_push_of_some _ (Heap.get?_push_of_some _ hb))
  · rw [hsz1]; exact Nat.le_succ _
  · rw [hsz1]; exact fun q => absurd q (Nat.succ_ne_self _)
  · rw [Heap.get?_update_self _ (Heap.get?_push_of_some _ (Heap.get?_push_size _ rfl)) (Obj.isFreed_of_fields (Obj.data_mapFields rfl _))]
    rw [hsz]
    rfl
  · rw [Heap.get?_update_other _ _ (by rw [hsz1]; exact fun q => absurd q.symm (Nat.succ_ne_self _))]
    exact Heap.get?_push_at hsz.symm rfl
  · rw [Heap.size_after_update, Heap.size_push, hsz]
    exact Nat.le_add_right _ 3
end
section
variable {bx : Fl} {sc : Scope} {n : Nat} {ρ : Vars} {ω : Owns} {P : Out → Prop}
theorem ex_raise {X N I : String} (hc : ExcClass X N I) (G : ExcRaiseFacts X) {x : Str} {np cpos pos : Pos} {es : List Expr} {ds : List D} (hp : ∀ env, (backTo cpos (starEach es env)).any (·.1) = false)
    (hf : EV prog w K sc n ρ (.Name x np) (.val (.type X))) (ha : ES prog w K sc n ρ es ds) (hl : ds.length ≤ 1000) (h : ∀ e, ω.lookup e = none → e ∉ bx.ks → P (.exc (.val (.ref e)) ρ ((e, .exn X none ds) :: ω))) :
    EX1 prog w K bx sc n (.Raise (some (.Call (.Name x np) es [] cpos)) none pos) ρ ω P := fun Y s m cm hs rm x0 => by
  refine wpAny_Raise_made G rm.hd (wpAny_Call_ofName (wpAny_mono (hf _ _ _ s hs.sco rm x0.eok) (fun v s₁ hz161 => ?_) fun _ _ q => q.elim))
  obtain ⟨g, r⟩ := hz161
  have r' : v = .type X := r
  subst r'
  have x1 := x0.after g
  refine callWith_excType (hp _) (evalArgs_go (hp _) (wpAny_mono (ha _ cpos _ _ s₁ hs.sco rm x1.eok) (fun vs s₂ hz162 => ?_) fun _ _ q => q.elim))
  obtain ⟨g₂, rl⟩ := hz162
  have x2 := x1.after g₂
  refine exc_made hc (by have := rl.length; show vs.length ≤ _; rw [this]; exact Nat.le_trans hl (by decide)) fun h' e t M => ⟨e, t, rfl, M.at_, ?_⟩
  have g3 : Gr s₂ { s₂ with heap := h' } := Gr.of (t := s₂.toks) M.keep (Nat.le_refl _) M.sz
  refine ⟨_, h e (x2.newAddr M.le) (x2.notKs hs M.le), ⟨⟨m, cm, ?_⟩, ?_⟩, rfl⟩
  · refine x2.grow g3 M.le ⟨_, _, t, vs, M.at_, rfl, rfl, rfl, rfl, fun q => ?_, ⟨_, _, M.args, rfl, rfl⟩, RL.mono (fun b q => q.imp id fun q => by rw [q]; exact fresh_none' M.le) (fun b o _ z => M.keep b o z) _ rl⟩
    exact q.elim (fun q => absurd (x2.wlt t q) (Nat.not_lt.mpr M.lt)) fun q => M.ne q
  · exact (Stp.gr (g.trans g₂)).trans (Stp.grow g3 M.le)
end
end Lw
end

section
open PySem PySem.W PyProof.Rows PySem.Calls PySem.SeqAt
namespace Lw
section
variable {n : Nat}
theorem bind_kw {fd : FuncData} {ds : List D} {kds : List (Str × D)} {xs : List Str} (hb : ∀ vs us : List Value, vs.length = ds.length → us.length = kds.length → bindArgs fd ⟨vs, (kds.map (·.1)).zip us⟩ = pure (xs.zip (vs ++ us))) (hx : xs.length = ds.length + kds.length) :
    BindG prog w K fd ds kds xs (ds ++ kds.map (·.2)) := fun A U s vs kw ok r k => by
  have hl : (kw.map (·.2)).length = kds.length := by rw [k.2.length, List.length_map]
  have e : kw = (kds.map (·.1)).zip (kw.map (·.2)) := by rw [← k.1, zip_map]
  rw [e, hb vs (kw.map (·.2)) r.length hl]
  have hz : xs.length = (vs ++ kw.map (·.2)).length := by rw [List.length_append, r.length, hl, hx]
  refine wpAny_pure ⟨Gr.refl s, List.map_fst_zip (Nat.le_of_eq hz), ?_⟩
  rw [List.map_snd_zip (Nat.le_of_eq hz.symm)]
  exact r.append k.2
structure DefD (K : Frag) (fa : Addr) (st : Stmt) (fd : FuncData) (dv : Value) : Prop extends FnOk K fa fd (fnBody st) where
  params : fnArgs st = some fd.params
  scope : fnScope st = some fd.scope
  dflt : fd.defaults = dv
  kwd : fd.kwdefaults = .none
theorem bindG_eq {ps : Arguments} {dv : Value} {fd : FuncData} {ds : List D} {kds : List (Str × D)} {xs : List Str} {bs : List D} (hp : fd.params = ps) (hd : fd.defaults = dv) (hk : fd.kwdefaults = .none)
    (h : ∀ name qual body scope gl clo doc md an code ct bi, BindG prog w K ⟨name, qual, ps, body, scope, gl, clo, dv, .none, doc, md, an, code, ct, bi⟩ ds kds xs bs) : BindG prog w K fd ds kds xs bs := by
  obtain ⟨a, b, c, d, e, f, g, df, kd, i, j, k, l, m, o⟩ := fd
  simp only at hp hd hk
  subst hp hd hk
  exact h a b d e f g i j k l m o
theorem def_callC {bx : Bool} {ω : Owns} {fa : Addr} {st : Stmt} {fd : FuncData} {dv : Value} (F : DefD K fa st fd dv) {ps : Arguments} {sc : Scope} (hps : fnArgs st = some ps) (hsc : fnScope st = some sc) {xs : List Str} {ds bs : List D} {kds : List (Str × D)} {Q : Res → Prop}
    (hb : ∀ name qual body scope gl clo doc md an code ct bi, BindG prog w K ⟨name, qual, ps, body, scope, gl, clo, dv, .none, doc, md, an, code, ct, bi⟩ ds kds xs bs) (hnd : xs.Nodup)
    (hkind : ∀ x ∈ xs, KindOk sc x) (h : EX prog w K ⟨bx, ω.map (·.1)⟩ sc n (fnBody st) (xs.zip bs) ω (Ret bx Q)) : CallC prog w K bx (.ref fa) (n + 1) ω ds kds Q := by
  have e1 : fd.params = ps := Option.some.inj (F.params.symm.trans hps)
  have e2 : fd.scope = sc := Option.some.inj (F.scope.symm.trans hsc)
  subst e2
  exact call_fnC F.toFnOk (bindG_eq e1 F.dflt F.kwd hb) hnd hkind h
theorem Def.toD {fa : Addr} {st : Stmt} {fd : FuncData} (F : Def K fa st fd) : DefD K fa st fd .none := ⟨F.toFnOk, F.params, F.scope, F.dflt, F.kwd⟩
theorem callM_mono {bx : Bool} {f : Value} {ω : Owns} {ds : List D} {kds : List (Str × D)} {Q Q' : Res → Prop} (h : CallM prog w K bx f n ω ds kds Q) (hq : ∀ r, Q r → Q' r) : CallM prog w K bx f n ω ds kds Q' := fun A U S s vs kw rm i0 hfr rl kwl =>
  wpAny_mono (h A U S s vs kw rm i0 hfr rl kwl) (fun v s' hz163 => by obtain ⟨d, o, q, B, r⟩ := hz163; exact ⟨d, o, hq _ q, B, r⟩) fun v s' hz164 => by obtain ⟨d, o, q, B, r⟩ := hz164; exact ⟨d, o, hq _ q, B, r⟩
theorem callC_mono {bx : Bool} {f : Value} {ω : Owns} {ds : List D} {kds : List (Str × D)} {Q Q' : Res → Prop} (h : CallC prog w K bx f n ω ds kds Q) (hq : ∀ r, Q r → Q' r) : CallC prog w K bx f n ω ds kds Q' := fun A U S s vs kw rm i0 hfr rl kwl => by
  refine codeAny_mono (h A U S s vs kw rm i0 hfr rl kwl) fun r s' z => ?_
  rcases r with e | (v | _ | _ | _) <;> first | exact z | exact (let ⟨d, o, q, B, r⟩ := z; ⟨d, o, hq _ q, B, r⟩)
end
section
variable {sc : Scope} {n : Nat} {ρ : Vars}
theorem getG_search {p : Addr} {code : Array Nat} (P : PatOk K p code) : GetG prog w K (.val (.ref p)) "search" (.builtin "re.Pattern.search") := fun A U s v pl ok r => by
  have r' : v = .ref p := r
  subst r'
  obtain ⟨o, fs, c, oc, xs, n', h1, h2, h3, h4, _⟩ := P.at_
  have ho := ok.top _ _ h1
  exact getMethod_builtin ⟨o, ho, h2⟩ plainAttrs_pat slot_search type_search (fun a e => by cases e; exact ⟨o, ho, h3⟩) ⟨rfl, rfl⟩
theorem match_bool : typeLookup (.type "re.Match") "__bool__" = pure none := by rw [typeLookup_type, builtinLookup_eq_fast]; kernel_rfl
theorem match_len : typeLookup (.type "re.Match") "__len__" = pure none := by rw [typeLookup_type, builtinLookup_eq_fast]; kernel_rfl
theorem truthy_found {M : Model} {A : Around} {E : Value → Shared → Prop} {s : Shared} {U : Addr → Prop} {b : Bool} {v : Value} {Q : Bool → Shared → Prop} (r : R U s.heap v (Found b)) (h : Q b s) : wpAny M A (truthy v) Q E s := by
  have r' := r s.heap (fun _ _ _ e => e)
  cases b with
  | false =>
    rw [if_neg (by decide)] at r'
    subst r'
    exact wpAny_pure h
  | true =>
    rw [if_pos rfl] at r'
    obtain ⟨a, o, rfl, ho, hc⟩ := r'
    unfold truthy
    have hT : s.TypeIs (.ref a) "re.Match" := ⟨o, ho, hc⟩
    refine wpAny_bind (wpAny_callSpecial?_none hT match_bool ?_)
    refine wpAny_bind (wpAny_specialOf hT match_len ?_)
    exact wpAny_pure h
theorem et_found {e : Expr} {b : Bool} (h : EV prog w K sc n ρ e (Found b)) (he : ∀ env whole, isTrue e env whole = (do let v ← whole; standAt e.pos; holding [v] (truthy v))) : ET prog w K sc n ρ e b := fun env A U s hs rm ok =>
  isTrue_plain (wpAny_mono (h env A U s hs rm ok) (fun v s' hz165 => by obtain ⟨g, r⟩ := hz165; exact truthy_found r ⟨g, rfl⟩) fun _ _ x => x) (he _ _)
end
end Lw
end

section
open PySem PySem.W PyProof.Rows PySem.Calls PySem.SeqAt
namespace Lw
section
variable {n : Nat}
theorem type_str (x : Str) : CallG prog w K (.type "type") n [.str x] (.val (.type "str")) := fun A U s vs rm ok rl => by
  obtain ⟨v₁, vs', rfl, ⟨t, rfl⟩, rfl⟩ := rl
  exact call_type_of (typeIs_str _ _ _) (by decide) ⟨Gr.refl s, rfl⟩
theorem type_lst (ds : List D) : CallG prog w K (.type "type") n [.lst ds] (.val (.type "list")) := fun A U s vs rm ok rl => by
  obtain ⟨v₁, vs', rfl, ⟨a, us, rfl, _, ⟨k, hp⟩, _⟩, rfl⟩ := rl
  exact call_type_of ⟨_, hp, rfl⟩ (by decide) ⟨Gr.refl s, rfl⟩
theorem cIsT1 {a : String} : CmpG prog w K .Is n (.val (.type a)) (.val (.type a)) true := by
  have h : (Value.type a == Value.type a) = true := by simp
  have := cIsT (prog := prog) (w := w) (K := K) (n := n) (a := a) (b := a)
  rw [h] at this
  exact this
theorem cIsNotT1 {a : String} : CmpG prog w K .IsNot n (.val (.type a)) (.val (.type a)) false := by
  have h : (!(Value.type a == Value.type a)) = false := by simp
  have := cIsNotT (prog := prog) (w := w) (K := K) (n := n) (a := a) (b := a)
  rw [h] at this
  exact this
end
theorem kinds_ok {sc : Scope} {xs : List Str} (h : xs.all (fun x => sc.names.lookup x == some .local || sc.names.lookup x == some .cell) = true) : ∀ x ∈ xs, KindOk sc x := fun x hx => by
  have := List.all_eq_true.mp h x hx
  simp only [Bool.or_eq_true, beq_iff_eq] at this
  exact this
noncomputable def ctlMsg : Str := "Control characters not allowed in headers"
noncomputable def badStr (b : Bool) (x : Str) : Bool := if b = true then x.cps.toList.any badName else x.cps.toList.any badValue
structure Tops2 (K : Frag) (pn pv : Addr) : Prop extends Tops K where
  gn : nsIn K mainGlobals "_name_disallowed_re" = some (some (.ref pn))
  gv : nsIn K mainGlobals "_value_disallowed_re" = some (some (.ref pv))
  pn : PatOk K pn nameCode
  pv : PatOk K pv valueCode
  ve : nsIn K mainGlobals "ValueError" = some none ∧ nsIn K builtinsNs "ValueError" = some (some (.type "ValueError"))
end Lw
end

section
open PySem PySem.W PyProof.Rows PySem.Calls PySem.SeqAt
namespace Lw
mutual
noncomputable def Flat : D → Prop
  | .none | .bool _ | .int _ | .str _ | .val _ => True
  | .tup l => FlatL l
  | _ => False
noncomputable def FlatL : List D → Prop
  | [] => True
  | d :: ds => Flat d ∧ FlatL ds
end
mutual
theorem R.flat {U U' : Addr → Prop} {h : Heap} (hU : ∀ b, U' b → U b ∨ ∀ vs, ¬ h.IsTuple b vs) : ∀ (d : D) {v : Value}, Flat d → R U h v d → R U' h v d
  | .none, _, _, x => x
  | .bool _, _, _, x => x
  | .int _, _, _, x => x
  | .str _, _, _, x => x
  | .val _, _, _, x => x
  | .tup ds, _, f, hz26 => by obtain ⟨a, vs, e, hu, ht, hl⟩ := hz26; exact ⟨a, vs, e, fun q => (hU a q).elim hu (fun n => n _ ht), ht, RL.flat hU ds f hl⟩
  | .lst _, _, f, _ => False.elim f
  | .ins _ _, _, f, _ => False.elim f
  | .obj _, _, f, _ => False.elim f
theorem RL.flat {U U' : Addr → Prop} {h : Heap} (hU : ∀ b, U' b → U b ∨ ∀ vs, ¬ h.IsTuple b vs) : ∀ (ds : List D) {vs : List Value}, FlatL ds → RL U h vs ds → RL U' h vs ds
  | [], _, _, x => x
  | d :: ds, _, f, hz27 => by obtain ⟨v, vs', e, x, y⟩ := hz27; exact ⟨v, vs', e, R.flat hU d f.1 x, RL.flat hU ds f.2 y⟩
end
theorem FlatL.of : ∀ {ds : List D}, (∀ d ∈ ds, Flat d) → FlatL ds
  | [], _ => trivial
  | d :: ds, h => ⟨h d (.head _), FlatL.of fun e he => h e (.tail _ he)⟩
noncomputable def Lent (X : FX) (ω : Owns) (T : List Addr) (b : Addr) : Prop := Wn X ω b ∧ b ∉ T
structure Own1 (ω : Owns) (a C dx : Addr) (at_ : Str) (l : Addr) (ds : List D) : Prop where
  ins : ω.lookup a = some (.ins C dx)
  att : ω.lookup dx = some (.att [(at_, .val (.ref l))])
  lst : ω.lookup l = some (.lst ds)
section
variable {K : Frag} {X : FX} {ρ : Vars} {ω : Owns} {m cm : Str → Option Value} {s : Shared}
theorem ST0.eokS (x : ST0 K X ρ ω m cm s) (T : List Addr) {ρ' : Vars} (h : ∀ y d', ρ'.lookup y = some d' → ∃ d, ρ.lookup y = some d ∧ ∀ v, R (Wn X ω) s.heap v d → R (Lent X ω T) s.heap v d') : EOK K (Lent X ω T) X.env ρ' s where
  top := x.hokS.top
  lim := x.hokS.lim
  tk := x.hokS.tk
  lt := fun a q => x.wlt a q.1
  fn := x.fn
  gl := x.gl
  bl := x.bl
  ce := x.ce
  vars := fun y d' e hy => by
    obtain ⟨d, e0, f⟩ := h y d' e
    obtain ⟨v, b, r⟩ := x.vars y d e0 hy
    exact ⟨v, Val.bnd b x.inC, f v r⟩
theorem R.lent {T : List Addr} {h : Heap} {v : Value} {d : D} (r : R (Wn X ω) h v d) : R (Lent X ω T) h v d := R.mono (fun a q => .inl q.1) (fun _ _ _ e => e) d r
theorem RL.lent {T : List Addr} {h : Heap} {vs : List Value} {ds : List D} (r : RL (Wn X ω) h vs ds) : RL (Lent X ω T) h vs ds := RL.mono (fun a q => .inl q.1) (fun _ _ _ e => e) ds r
theorem ST0.insR (x : ST0 K X ρ ω m cm s) {a C dx l : Addr} {at_ : Str} {ds : List D} (O : Own1 ω a C dx at_ l ds) : R (Lent X ω [a, dx, l]) s.heap (.ref a) (.ins C [(at_, .lst ds)]) := by
  have h1 := x.own a _ O.ins
  obtain ⟨mm, n1, f⟩ := x.own dx _ O.att
  obtain ⟨vs, pl, rl⟩ := x.own l _ O.lst
  obtain ⟨od, ho, hl⟩ := ns_lookIn n1.ns
  refine ⟨a, dx, od, rfl, fun q => q.2 (by simp), fun q => q.2 (by simp), h1, ho, ⟨⟨.ref l, ?_, l, vs, rfl, fun q => q.2 (by simp), pl, rl.lent⟩, trivial⟩, fun y hy => by
    have := f y
    have hy' : List.lookup y [(at_, D.val (Value.ref l))] = none := by
      by_cases hz : y = at_
      · rw [hz, lookup_cons_eq] at hy; cases hy
      · rw [lookup_cons_ne hz]; rfl
    rw [hy'] at this
    rw [hl, this]⟩
  have := f at_
  rw [lookup_cons_eq] at this
  obtain ⟨v, e, r⟩ := this
  have r' : v = .ref l := r
  rw [hl, e, r']
theorem ST0.eokI (x : ST0 K X ρ ω m cm s) {y : Str} {a C dx l : Addr} {at_ : Str} {ds : List D} (hy : ρ.lookup y = some (.val (.ref a))) (O : Own1 ω a C dx at_ l ds) : EOK K (Lent X ω [a, dx, l]) X.env ((y, .ins C [(at_, .lst ds)]) :: ρ) s :=
  x.eokS [a, dx, l] fun z d' e => by
    by_cases hz : z = y
    · subst hz
      rw [lookup_cons_eq] at e
      cases e
      exact ⟨_, hy, fun v r => by have r' : v = .ref a := r; subst r'; exact x.insR O⟩
    · rw [lookup_cons_ne hz] at e
      exact ⟨d', e, fun v r => r.lent⟩
theorem ST0.notTup (x : ST0 K X ρ ω m cm s) {a C dx l : Addr} {at_ : Str} {ds : List D} (O : Own1 ω a C dx at_ l ds) : ∀ b ∈ [a, dx, l], ∀ vs, ¬ s.heap.IsTuple b vs := fun b hb vs hz168 => by
  obtain ⟨o, ho, hc, n, hd⟩ := hz168
  have h1 := x.own a _ O.ins
  obtain ⟨mm, n1, f⟩ := x.own dx _ O.att
  obtain ⟨us, ⟨k, pl⟩, rl⟩ := x.own l _ O.lst
  simp only [List.mem_cons, List.not_mem_nil, or_false] at hb
  rcases hb with rfl | rfl | rfl
  · have h1' : s.heap.get? b = some (instObj C dx) := h1
    rw [ho] at h1'; cases h1'; cases hd
  · obtain ⟨o', es, ep, h1, h2, _⟩ := n1
    rw [ho] at h1; cases h1; rw [hd] at h2; cases h2
  · rw [ho] at pl; cases pl; exact absurd (show Value.type "list" = Value.type "tuple" from hc) (by decide)
theorem RL.unlent {s' : Shared} {q : Addr} {vs : List Value} {ds : List D} {T : List Addr} (hT : ∀ b ∈ T, ∀ vs, ¬ s'.heap.IsTuple b vs) (f : FlatL ds) (r : RL (fun b => Lent X ω T b ∨ b = q) s'.heap vs ds) : RL (fun b => Wn X ω b ∨ b = q) s'.heap vs ds :=
  RL.flat (fun b z => by
    rcases z with z | z
    · by_cases h : b ∈ T
      · exact .inr (hT b h)
      · exact .inl (.inl ⟨z, h⟩)
    · exact .inl (.inr z)) ds f r
end
section
variable {bx : Fl} {sc : Scope} {n : Nat} {ρ : Vars} {ω : Owns} {P : Out → Prop}
theorem eml_lendI {y : Str} {a C dx l : Addr} {at_ : Str} {ds ds' : List D} {e : Expr} {Q : Res → Prop} (hy : ρ.lookup y = some (.val (.ref a))) (O : Own1 ω a C dx at_ l ds) (h : EVL prog w K sc n ((y, .ins C [(at_, .lst ds)]) :: ρ) e ds') (hf : FlatL ds') (q : ∀ c, ω.lookup c = none → c ∉ bx.ks → Q (.val (.val (.ref c)) ((c, .lst ds') :: ω))) : EM prog w K bx sc n ρ ω e Q := fun X s m cm hs rm x0 =>
  wp_E (h _ _ _ s hs.sco rm (x0.eokI hy O)) fun v s' hz169 => by
    obtain ⟨g, c, vs, e, hc, p, r⟩ := hz169
    subst e
    exact ⟨_, _, q c (x0.newAddr hc) (x0.notKs hs hc), x0.grow g hc ⟨vs, p, RL.unlent ((x0.after g).notTup O) hf r⟩, Stp.grow g hc, rfl⟩
theorem eml_read {y : Str} {l : Addr} {ds ds' : List D} {e : Expr} {Q : Res → Prop} (hy : ρ.lookup y = some (.val (.ref l))) (hl : ω.lookup l = some (.lst ds)) (h : EVL prog w K sc n ((y, .lst ds) :: ρ) e ds') (hf : FlatL ds') (q : ∀ c, ω.lookup c = none → c ∉ bx.ks → Q (.val (.val (.ref c)) ((c, .lst ds') :: ω))) : EM prog w K bx sc n ρ ω e Q := fun X s m cm hs rm x0 => by
  have ok : EOK K (Lent X ω [l]) X.env ((y, .lst ds) :: ρ) s := x0.eokS [l] fun z d' e => by
    by_cases hz : z = y
    · subst hz
      rw [lookup_cons_eq] at e
      cases e
      refine ⟨_, hy, fun v r => ?_⟩
      have r' : v = .ref l := r
      subst r'
      obtain ⟨vs, pl, rl⟩ := x0.own l _ hl
      exact ⟨l, vs, rfl, fun q => q.2 (by simp), pl, rl.lent⟩
    · rw [lookup_cons_ne hz] at e
      exact ⟨d', e, fun v r => r.lent⟩
  refine wp_E (h _ _ _ s hs.sco rm ok) fun v s' hz166 => ?_
  obtain ⟨g, c, vs, e, hc, p, r⟩ := hz166
  subst e
  refine ⟨_, _, q c (x0.newAddr hc) (x0.notKs hs hc), x0.grow g hc ⟨vs, p, RL.unlent (fun b hb us hz167 => ?_) hf r⟩, Stp.grow g hc, rfl⟩
  obtain ⟨o, ho, hcl, _⟩ := hz167
  rw [List.mem_singleton.mp hb] at ho
  obtain ⟨us', ⟨k, pl⟩, _⟩ := x0.own l _ hl
  have := g.keep _ _ pl
  rw [ho] at this; cases this; exact absurd (show Value.type "list" = Value.type "tuple" from hcl) (by decide)
end
end Lw
end

section
open PySem PySem.W PyProof.Rows PySem.Calls PySem.SeqAt
namespace Lw
theorem places_run (ds : List D) (a : Nat) : ∀ k, ((List.range k).map (a + ·)).filterMap (ds[·]?) = (ds.drop a).take k
  | 0 => by simp
  | k + 1 => by
    rw [List.range_succ, List.map_append, List.filterMap_append, places_run ds a k]
    rw [List.take_add_one, List.getElem?_drop]
    cases h : ds[a + k]? with
    | none => simp [h]
    | some d => simp [h]
theorem pickD_range (ds : List D) (a b : Nat) (i j : Option Int) (h : sliceBounds i j none ds.length = (((a : Nat) : Int), ((b : Nat) : Int), 1)) : pickD ds i j none = (ds.drop a).take (b - a) := by
  unfold pickD
  rw [h]
  simp only
  rw [sliceRange_one, places_run]
theorem pickD_all (ds : List D) : pickD ds none none none = ds := by
  rw [pickD_range ds 0 ds.length none none (by rfl)]
  simp
theorem pickD_to (ds : List D) (b : Nat) : pickD ds none (some (b : Int)) none = ds.take b := by
  rw [pickD_range ds 0 (min b ds.length) none (some (b : Int)) ?_]
  · simp
  · unfold sliceBounds
    simp only [Option.getD_none, Int.reduceLT, gt_iff_lt, if_true]
    have h1 : ¬ ((b : Int) < 0) := by lia
    have h2 : (max 0 (min (b : Int) (ds.length : Int))) = ((min b ds.length : Nat) : Int) := by lia
    simp only [h1, if_false, h2]
    rfl
theorem pickD_from (ds : List D) (a : Nat) : pickD ds (some (a : Int)) none none = ds.drop a := by
  rw [pickD_range ds (min a ds.length) ds.length (some (a : Int)) none ?_]
  · by_cases h : a ≤ ds.length
    · rw [Nat.min_eq_left h, List.take_of_length_le (by simp)]
    · rw [Nat.min_eq_right (by lia), List.drop_eq_nil_of_le (Nat.le_refl _), List.drop_eq_nil_of_le (by lia)]; simp
  · unfold sliceBounds
    simp only [Option.getD_none, Int.reduceLT, gt_iff_lt, if_true]
    have h1 : ¬ ((a : Int) < 0) := by lia
    have h2 : (max 0 (min (a : Int) (ds.length : Int))) = ((min a ds.length : Nat) : Int) := by lia
    simp only [h1, if_false, h2]
end Lw
end

section
open PySem PySem.W PyProof.Rows PySem.Calls PySem.SeqAt
namespace Lw
section
variable {bx : Fl} {sc : Scope} {n : Nat} {ρ : Vars} {ω : Owns} {P : Out → Prop}
theorem em_tuple2 {e₁ e₂ : Expr} {k : Nat} {pos : Pos} {Q : Res → Prop} (hs1 : ∀ env, starEach [e₁, e₂] env = [(false, eval e₁ env), (false, eval e₂ env)]) (h : EM prog w K bx sc n ρ ω e₁ fun
      | .val d₁ ω₁ => Scal d₁ ∧ EM prog w K bx sc n ρ ω₁ e₂ fun
        | .val d₂ ω₂ => Q (.val (.tup [d₁, d₂]) ω₂)
        | .exc d ω₂ => Q (.exc d ω₂)
      | .exc d ω₁ => Q (.exc d ω₁)) : EM prog w K bx sc n ρ ω (.Tuple [e₁, e₂] k pos) Q := fun X s m cm hs rm x0 => by
  refine Tuple_ ?_
  rw [hs1]
  refine spliced_cons (wpAny_mono (h X s m cm hs rm x0) (fun v₁ s₁ hz170 => ?_) fun e s₁ q => q)
  obtain ⟨d₁, ω₁, ⟨hd, h2⟩, x1, st1, r1⟩ := hz170
  refine spliced_cons (wpAny_mono (h2 X s₁ m cm hs rm x1) (fun v₂ s₂ ⟨d₂, ω₂, q, x2, st2, r2⟩ => spliced_nil ?_) fun e s₂ hz173 => by obtain ⟨d, ω₂, q, x2, st2, r2⟩ := hz173; exact ⟨d, ω₂, q, x2, st1.trans st2, r2⟩)
  refine wpAny_newTuple (hsz := by show 2 ≤ _; decide) ?_
  refine ⟨_, ω₂, q, x2.after Gr.push, (st1.trans st2).trans (Stp.gr Gr.push), _, [v₁, v₂], rfl, x2.hokW.not_fresh (Nat.le_refl _), ⟨_, Heap.get?_push_size _ rfl, rfl, _, rfl⟩, v₁, _, rfl, r1.scal hd, v₂, _, rfl, r2.keeps Gr.push.keep, rfl⟩
theorem em_appendM {o e : Expr} {apos pos : Pos} {pl : Env → Sem Bool} {l : Addr} {ds₀ : List D} {Q : Res → Prop}
    (hshape : ∀ env, eval (.Call (.Attribute o "append" apos) [e] [] pos) env = (do
      let ov ← eval o env
      standAt apos.atName
      let (f, first) ← holding [ov] (getMethod ov "append" (pl env))
      callWith pos f first (backTo pos (starEach [e] env)) []))
    (hse : ∀ env, starEach [e] env = [(false, eval e env)]) (ho : EM prog w K bx sc n ρ ω o fun r => r = .val (.val (.ref l)) ω) (hl₀ : ω.lookup l = some (.lst ds₀)) (he : EM prog w K bx sc n ρ ω e fun
      | .val d ω' => ∃ ds, ω'.lookup l = some (.lst ds) ∧ ds.length ≤ 1000000 ∧ Q (.val .none ((l, .lst (ds ++ [d])) :: ω'))
      | .exc d ω' => Q (.exc d ω')) : EM prog w K bx sc n ρ ω (.Call (.Attribute o "append" apos) [e] [] pos) Q := fun X s m cm hs rm x0 => by
  refine MethodCall_ (pl := pl X.env) (wpAny_mono (ho X s m cm hs rm x0) (fun v s₁ hz171 => ?_) fun v s₁ hz174 => by obtain ⟨d, ω', q, _⟩ := hz174; cases q) (hshape _)
  obtain ⟨d, ω', q, x1, st1, r⟩ := hz171
  cases q
  have r' : v = .ref l := r
  subst r'
  obtain ⟨vs₀, ⟨k₀, hp₀⟩, rl₀⟩ := x1.own l _ hl₀
  refine getMethod_builtin ⟨_, hp₀, rfl⟩ PySem.F.plainAttrs_list PySem.F.slot_list_append PySem.F.type_list_append (fun a e => by cases e; exact ⟨_, hp₀, rfl⟩) ?_
  have hpl : (backTo pos (starEach [e] X.env)).any (·.1) = false := by rw [hse]; rfl
  refine Calls.callWith_builtin hpl (evalArgs_go hpl ?_)
  rw [hse]
  refine spliced_cons (wpAny_mono (he X s₁ m cm hs rm x1) (fun u s₂ ⟨d, ω₂, ⟨ds, hds, hlen, q⟩, x2, st2, ru⟩ => spliced_nil ?_) fun e s₂ hz176 => by obtain ⟨d, ω₂, q, x2, st2, r2⟩ := hz176; exact ⟨d, ω₂, q, x2, st1.trans st2, r2⟩)
  obtain ⟨vs, ⟨k, hp⟩, rl⟩ := x2.own l _ hds
  have hW : Wn X ω₂ l := .inr (.inl (by rw [hds]; rfl))
  refine wpAny_list_append_plain ⟨k, hp⟩ (fun h' hp' sb => ?_) (by simp only [List.size_toArray, rl.length]; exact Nat.le_trans hlen (by decide))
  have up : ∀ b o, ¬ Wn X ω₂ b → s₂.heap.get? b = some o → h'.get? b = some o := fun b o q e => sb.extBut b o (fun e' => q (e' ▸ hW)) e
  have e1 : (List.toArray vs).push u = List.toArray (vs ++ [u]) := by simp
  rw [e1] at hp'
  exact ⟨.none, _, q, x2.put hds sb (Nat.le_refl _) ⟨vs ++ [u], hp', RL.append (RL.mono (fun _ q => .inl q) up _ rl) (RL.one (R.mono (fun _ q => .inl q) up _ ru))⟩, (st1.trans st2).trans (Stp.put (by rw [hds]; rfl) sb (Nat.le_refl _)), rfl⟩
end
end Lw
end

section
open PySem PySem.W PyProof.Rows PySem.Calls PySem.SeqAt
namespace Lw
theorem mapSeq_plain {h : Heap} {l : Addr} {items new : Array Value} {ne : Nat} {f : Array Value → Array Value} (ho : h.get? l = some { cls := .type "list", data := .seq items ne }) (he : f items = new) : (h.update l (Obj.mapSeq f)).PlainList l new := by
  obtain ⟨n', hd'⟩ := Obj.data_mapSeq (o := { cls := .type "list", data := .seq items ne }) rfl f
  have e : Obj.mapSeq f { cls := .type "list", data := .seq items ne } = { cls := .type "list", data := .seq (f items) n' } := by
    simp only [Obj.mapSeq] at hd' ⊢
    simp only [Obj.mk.injEq, true_and, and_true]
    exact hd'
  exact ⟨n', by rw [Heap.get?_update_self _ ho (by rw [e]; rfl), e, he]⟩
theorem setItem_whole {prog : Program} {w : World} {A : Around} {E : Value → Shared → Prop} {s : Shared} {l q sl : Addr} {items new : Array Value} {Q : Unit → Shared → Prop} (hl : s.heap.PlainList l items) (hq : s.heap.PlainList q new) (hlq : l ≠ q)
    (hs : s.heap.IsSliceOf sl .none .none .none) (hsz : items.size + new.size ≤ sizeLine)
    (hQ : ∀ h', h'.PlainList l new → Heap.SameBut l s.heap h' → Q () { s with heap := h' }) :
    wpAny (model prog w) A (setItem (.ref l) (.ref sl) (.ref q)) Q E s := by
  have hi := hl.isList
  obtain ⟨ne, ho⟩ := hl
  obtain ⟨nq, hoq⟩ := hq
  obtain ⟨os, hos, hcs, hds⟩ := id hs
  have hTs : s.TypeIs (.ref sl) "slice" := ⟨os, hos, hcs⟩
  unfold setItem
  try with_reducible refine wpAny_holding ?_
  refine wpAny_bind (wpAny_sequenceKey hi.typeIs (by decide) ?_)
  refine wpAny_bind (wpAny_callSpecial?_slot (name := Str.ofString "__setitem__") hi.typeIs slot_list_setitem
    (wpAny_call_entry slot_list_setitem hi.typeIs entry_list_setitem ?_ (args_list_setitem _ _ _)))
  show wpAny _ _ (Builtin.List.listSubscript? (.ref sl) >>= _) _ _ s
  refine wpAny_bind ?_
  unfold Builtin.List.listSubscript?
  refine wpAny_bind (wpAny_specialOf hTs slice_no_index ?_)
  rw [if_pos (show (none : Option Value).isNone = true from rfl)]
  refine wpAny_pure ?_
  show wpAny _ _ (typeOf (.ref sl) >>= _) _ _ s
  refine wpAny_bind (wpAny_typeOf hTs ?_)
  rw [if_neg (by decide)]
  rw [listSliceParts_eq]
  refine wpAny_bind (wpAny_bind (wpAny_field hos hds (x := .none) rfl (wpAny_bind (wpAny_listPart .none ?_))))
  rw [if_neg (by decide)]
  refine wpAny_bind (wpAny_field hos hds (x := .none) rfl (wpAny_bind (wpAny_listPart .none ?_)))
  refine wpAny_bind (wpAny_field hos hds (x := .none) rfl (wpAny_bind (wpAny_listPart .none (wpAny_pure ?_))))
  have hsame : Builtin.List.listSameRef (.ref l) (.ref q) = false := by
    show (l == q) = false
    exact beq_eq_false_iff_ne.mpr hlq
  dsimp only
  rw [if_neg (by rw [hsame]; decide)]
  refine wpAny_bind ?_
  unfold Builtin.List.listAllItems
  refine wpAny_bind (wpAny_typeOf (T := "list") ⟨_, hoq, rfl⟩ ?_)
  rw [if_pos (by decide)]
  have li : ∀ {a : Addr} {xs : Array Value} {k : Nat} {Q : Array Value → Shared → Prop} {E : Value → Shared → Prop} {A : Around}, s.heap.get? a = some { cls := .type "list", data := .seq xs k } → Q xs s → wpAny (model prog w) A (Builtin.List.listItems (.ref a)) Q E s := fun h hQ => by
    unfold Builtin.List.listItems
    exact wpAny_bind (wpAny_seqItems h rfl (wpAny_pure hQ))
  refine li hoq ?_
  refine wpAny_bind (li ho ?_)
  refine wpAny_bind (wpAny_of_eq (sliceIndices_raw none none none items.size (by decide)) ?_)
  rw [if_pos (by rfl)]
  refine wpAny_bind (wpAny_rule ?_)
  have htl : Builtin.List.listTooLong (items.size + new.size) = false := by
    unfold Builtin.List.listTooLong; exact decide_eq_false (by lia)
  rw [if_neg (by rw [htl]; decide)]
  have he : (fun xs : Array Value => xs.extract 0 ((sliceBounds none none none items.size).1).toNat ++ new ++ xs.extract (max (sliceBounds none none none items.size).1 (sliceBounds none none none items.size).2.1).toNat) items = new := by
    have e1 : (sliceBounds none none none items.size).1 = 0 := rfl
    have e2 : (sliceBounds none none none items.size).2.1 = (items.size : Int) := rfl
    simp only [e1, e2]
    have e3 : (max (0 : Int) (items.size : Int)).toNat = items.size := by lia
    rw [e3]
    simp
  refine wpAny_bind (wpAny_updateSeq ho rfl ?_ (by lia) ?_)
  · refine wpAny_bind (wpAny_letGo ?_)
    refine wpAny_pure ⟨_, rfl, wpAny_pure (hQ _ ?_ (Heap.SameBut.update ..))⟩
    exact mapSeq_plain ho he
  · exact Nat.le_trans (Nat.le_of_eq (congrArg Array.size he)) (by lia)
end Lw
end

section
open PySem PySem.W PyProof.Rows PySem.Calls PySem.SeqAt
namespace Lw
section
variable {M : Model} {A : Around} {E : Value → Shared → Prop} {s : Shared} {K : Frag} {x C f : Addr} {ox : Obj} {od : Option Obj} {i v : Value}
theorem del_meth {Q : Unit → Shared → Prop} (X : K.In s.heap) (I : InstAt s.heap x ox C od) (hq : noSeq K C = true) (hs : findIn K (.ref C) "__delitem__" = some (some (.ref f))) (hf : typeIn K (.ref f) = some (.type "function"))
    (h : wpAny M A (call (.ref f) [.ref x, i]) (fun _ s' => Q () s') E s) : wpAny M A (delItem (.ref x) i) Q E s := by
  unfold delItem sequenceKey
  refine wpAny_holding (wpAny_bind (wpAny_bind (I.type.here ?_)))
  refine wpAny_bind ((anyM_none X hq).here ?_)
  rw [if_pos (show (!false) = true from rfl)]
  exact wpAny_pure (wpAny_bind (special_fn X I hs hf (wpAny_mono h (fun _ _ z => wpAny_pure z) fun _ _ z => z)))
end
section
variable {bx : Fl} {sc : Scope} {n : Nat} {ρ : Vars} {ω : Owns} {P : Out → Prop}
theorem ex_delMeth {b : Bool} {o i : Expr} {p pos : Pos} {a dx C f : Addr} {fs : List (Str × D)} {ω₁ : Owns} {d₁ : D} (hq : noSeq K C = true) (MO : MethOk K C "__delitem__" f) (hx : ω.lookup a = some (.ins C dx)) (hd : ω.lookup dx = some (.att fs))
    (ho : EV prog w K sc n ρ o (.val (.ref a))) (hi : EV prog w K sc n ρ i d₁) (hb : b = true → bx.b = true) (h1 : SubO ω₁ ω)
    (hc : CallM prog w K b (.ref f) n ω₁ [.val (.ref a), d₁] [] (Onw bx.ks ω ω₁ fun
      | .val _ ω' => P (.next ρ ω')
      | .exc d ω' => P (.exc d ρ ω'))) : EX1 prog w K bx sc n (.Delete [.Subscript o i p] pos) ρ ω P := fun X s m cm hs rm x0 => by
  refine wpAny_Delete (wpAny_deleteEach_cons (wpAny_delete_Subscript (wp_E (ho _ _ _ s hs.sco rm x0.eok) fun ov s₂ hz177 => ?_)))
  obtain ⟨g₂, ro⟩ := hz177
  have ro' : ov = .ref a := ro
  subst ro'
  have x2 := x0.after g₂
  refine wp_E (hi _ _ _ s₂ hs.sco rm x2.eok) fun iv s₃ hz178 => ?_
  obtain ⟨g₃, ri⟩ := hz178
  have x3 := x2.after g₃
  have st := Stp.gr (X := X) (ω := ω) (g₂.trans g₃)
  obtain ⟨od, I, -⟩ := x3.instAt hx hd
  refine del_meth x3.hokS.top I hq MO.find MO.typ ?_
  refine wpAny_mono (st_call (ds := [.val (.ref a), d₁]) hb h1 hc hs rm x3 ⟨_, _, rfl, rfl, iv, _, rfl, ri, rfl⟩ KwOk.nil) (fun v s' hz182 => by obtain ⟨d, ω', q, y, st', r⟩ := hz182; exact wpAny_deleteEach_nil ⟨_, q, rfl, ⟨m, cm, y⟩, st.trans st'⟩) fun v s' hz183 => by obtain ⟨d, ω', q, y, st', r⟩ := hz183; exact ⟨_, q, ⟨⟨m, cm, y⟩, st.trans st'⟩, r⟩
theorem ex_setWhole {o value : Expr} {p p₁ pos : Pos} {l : Addr}
    (hv : EM prog w K bx sc n ρ ω value fun
      | .val d ω' => ∃ q ds ds', d = .val (.ref q) ∧ q ≠ l ∧ ω'.lookup q = some (.lst ds') ∧ ω'.lookup l = some (.lst ds) ∧ ds.length ≤ 100000 ∧ ds'.length ≤ 100000 ∧ EM prog w K bx sc n ρ ω' o (fun r => r = .val (.val (.ref l)) ω') ∧ P (.next ρ ((l, .lst ds') :: ω'))
      | .exc d ω' => P (.exc d ρ ω'))
    (hsw : ∀ env : Env, env.scope = sc → swapsWith value (some (.Subscript o (.Slice none none none p₁) p)) pos.line env = pure false) : EX1 prog w K bx sc n (.Assign [.Subscript o (.Slice none none none p₁) p] value pos) ρ ω P := fun X s m cm hs rm x0 => by
  refine wpAny_Assign_Subscript (hs := hsw _ hs.sco) (wpAny_mono (hv X s m cm hs rm x0) (fun v s₁ hz179 => ?_) fun e s₁ hz184 => by obtain ⟨d, ω', q, x1, st1, r⟩ := hz184; exact ⟨_, q, ⟨⟨m, cm, x1⟩, st1⟩, r⟩)
  obtain ⟨d, ω', ⟨q, ds, ds', e, hql, h1, h2, l1, l2, ho, hP⟩, x1, st1, r⟩ := hz179
  subst e
  have r' : v = .ref q := r
  subst r'
  refine wpAny_mono (ho X s₁ m cm hs rm x1) (fun ov s₂ hz180 => ?_) fun e s₂ hz185 => by obtain ⟨d, ω₂, e', _⟩ := hz185; cases e'
  obtain ⟨d, ω₂, e, x2, st2, r2⟩ := hz180
  cases e
  have r2' : ov = .ref l := r2
  subst r2'
  refine wp_E (slice_go (lo := none) (hi := none) (st := none) (i := none) (j := none) (k := none) rfl rfl rfl hs.sco rm x2.eok) fun iv s₃ hz181 => ?_
  obtain ⟨g₃, sl, x, y, z, e, hsl, hS, px, py, pz⟩ := hz181
  subst e
  cases px; cases py; cases pz
  have x3 := x2.after g₃
  obtain ⟨vs, pl, rl⟩ := x3.own l _ h2
  obtain ⟨us, pq, ru⟩ := x3.own q _ h1
  have hW : Wn X ω' l := .inr (.inl (by rw [h2]; rfl))
  refine setItem_whole pl pq (fun e => hql e.symm) hS (by simp only [List.size_toArray, rl.length, ru.length]; exact Nat.le_trans (Nat.add_le_add l1 l2) (by decide)) fun h' hp' sb => ?_
  have up : ∀ b o, ¬ Wn X ω' b → s₃.heap.get? b = some o → h'.get? b = some o := fun b o q e => sb.extBut b o (fun e' => q (e' ▸ hW)) e
  exact ⟨_, hP, rfl, ⟨m, cm, x3.put h2 sb (Nat.le_refl _) ⟨us, hp', RL.mono (fun _ q => .inl q) up _ ru⟩⟩, (st1.trans (st2.trans (Stp.gr g₃))).trans (Stp.put (by rw [h2]; rfl) sb (Nat.le_refl _))⟩
end
end Lw
end

section
open PySem PySem.W PyProof.Rows PySem.Calls PySem.SeqAt
namespace Lw
noncomputable def atL {α β : Type} (l : List α) (f : α → List β) (i : Nat) : List β := match l[i]? with
  | some x => f x
  | none => []
theorem catN_atL {α : Type} (l : List α) (f : α → List D) : catN (atL l f) l.length = l.flatMap f := by
  induction l with
  | nil => rfl
  | cons x l ih =>
    unfold catN at ih ⊢
    rw [List.length_cons, List.range_succ_eq_map, List.flatMap_cons, List.flatMap_map, List.flatMap_cons, ← ih]
    rfl
theorem flatMap_one {α β : Type} (l : List α) (f : α → β) : l.flatMap (fun x => [f x]) = l.map f := by
  induction l with
  | nil => rfl
  | cons x l ih => rw [List.flatMap_cons, List.map_cons, ih]; rfl
theorem flatMap_filter {α β : Type} (l : List α) (p : α → Bool) (f : α → β) : l.flatMap (fun x => if p x = true then [f x] else []) = (l.filter p).map f := by
  induction l with
  | nil => rfl
  | cons x l ih =>
    rw [List.flatMap_cons, ih, List.filter_cons]
    split <;> rfl
section
variable {bx : Fl} {sc scope : Scope} {n : Nat} {ρ : Vars} {ω : Owns} {P : Out → Prop}
theorem ev_titem {value slice : Expr} {pos : Pos} {ds : List D} {i : Int} {k : Nat} {d : D} (hs : ∀ o i, subscripted slice false o i = operate [o, i] (getItem o i) ∨ subscripted slice false o i = operate [i, o] (getItem o i))
    (h₁ : EV prog w K sc n ρ value (.tup ds)) (h₂ : EV prog w K sc n ρ slice (.int i)) (h0 : -(2 ^ 63) ≤ i) (hi : i < 2 ^ 63) (hk : seqIndex? i ds.length = some k) (hd : ds[k]? = some d) : EV prog w K sc n ρ (.Subscript value slice pos) d :=
  ev_sub (d₁ := .tup ds) (T := "tuple") (fun U s v hz186 => by obtain ⟨a, vs, e, _, ⟨o, ho, hc, _⟩, _⟩ := hz186; subst e; exact ⟨o, ho, hc⟩) slot_tuple_getitem.lookup hs h₁ h₂ (gTup ds i d k h0 hi hk hd)
theorem its_get {α : Type} {l : List α} {g : α → D} {i : Nat} {d : D} (h : (l.map g)[i]? = some d) : ∃ x, x ∈ l ∧ l[i]? = some x ∧ d = g x := by
  rw [List.getElem?_map] at h
  cases hx : l[i]? with
  | none => rw [hx] at h; cases h
  | some x => rw [hx] at h; cases h; exact ⟨x, List.mem_of_getElem? hx, rfl, rfl⟩
theorem evl_compL {α : Type} {elt t iter : Expr} {ifs : List Expr} {rest : List Comprehension} {pos : Pos} (l : List α) (g : α → D) (dss : α → List D) (C : scopeOk scope sc ρ = true) (hi : EVI prog w K sc n ρ iter t (l.map g))
    (hit : ∀ x ∈ l, Items prog w K scope (rl scope sc) n elt (⟨t, iter, ifs, 0⟩ :: rest) pos 0 ρ t ifs (g x) (dss x)) (hl : (l.flatMap dss).length ≤ 100000) :
    EVL prog w K sc n ρ (.ListComp elt (⟨t, iter, ifs, 0⟩ :: rest) scope pos) (l.flatMap dss) := by
  rw [← catN_atL]
  have e : l.length = (l.map g).length := by rw [List.length_map]
  rw [e]
  refine evl_comp (atL l dss) (CompScope.of C) hi (fun i d hd => ?_) (by rw [← e, catN_atL]; exact hl)
  obtain ⟨x, hx, e1, rfl⟩ := its_get hd
  have : atL l dss i = dss x := by unfold atL; rw [e1]
  rw [this]
  exact hit x hx
theorem evl_mapL {α : Type} {elt t iter : Expr} {pos : Pos} (l : List α) (g f : α → D) (C : scopeOk scope sc ρ = true) (hi : EVI prog w K sc n ρ iter t (l.map g)) (hl : l.length ≤ 100000)
    (hit : ∀ x ∈ l, TgtOk (KindOk scope) t (g x) ∧ Sub ρ (bindT t (g x) ρ) ∧ EV prog w K (rl scope sc) n (bindT t (g x) ρ) elt (f x)) :
    EVL prog w K sc n ρ (.ListComp elt [⟨t, iter, [], 0⟩] scope pos) (l.map f) := by
  rw [← flatMap_one]
  refine evl_compL l g (fun x => [f x]) C hi (fun x hx => ?_) (by rw [flatMap_one, List.length_map]; exact hl)
  obtain ⟨a, b, c⟩ := hit x hx
  exact item_one (b := true) a b ts_nil fun _ => c
theorem evl_filterL {α : Type} {elt t iter : Expr} {c : Expr} {pos : Pos} (l : List α) (g f : α → D) (p : α → Bool) (C : scopeOk scope sc ρ = true) (hi : EVI prog w K sc n ρ iter t (l.map g)) (hl : l.length ≤ 100000)
    (hit : ∀ x ∈ l, TgtOk (KindOk scope) t (g x) ∧ Sub ρ (bindT t (g x) ρ) ∧ ET prog w K (rl scope sc) n (bindT t (g x) ρ) c (p x) ∧ (p x = true → EV prog w K (rl scope sc) n (bindT t (g x) ρ) elt (f x))) :
    EVL prog w K sc n ρ (.ListComp elt [⟨t, iter, [c], 0⟩] scope pos) ((l.filter p).map f) := by
  rw [← flatMap_filter]
  refine evl_compL l g (fun x => if p x = true then [f x] else []) C hi (fun x hx => ?_) (by rw [flatMap_filter, List.length_map]; exact Nat.le_trans (List.length_filter_le _ _) hl)
  obtain ⟨a, b, c, d⟩ := hit x hx
  refine item_one (b := p x) a b ?_ d
  have := ts_cons (rest := []) (b' := true) c fun _ => ts_nil
  rwa [Bool.and_true] at this
theorem ex_assignCL {α : Type} {x : Str} {p pos pos' : Pos} {elt t iter : Expr} {ifs : List Expr} {rest : List Comprehension} (l : List α) (g : α → D) (dss : α → List D) (C : scopeOk scope sc ρ = true) (hi : EVI prog w K sc n ρ iter t (l.map g))
    (hit : ∀ x ∈ l, Items prog w K scope (rl scope sc) n elt (⟨t, iter, ifs, 0⟩ :: rest) pos 0 ρ t ifs (g x) (dss x)) (hl : (l.flatMap dss).length ≤ 100000)
    (hk : KindOk sc x) (hsw : ∀ env : Env, env.scope = sc → swapsWith (.ListComp elt (⟨t, iter, ifs, 0⟩ :: rest) scope pos) (some (.Name x p)) pos'.line env = pure true) (h : P (.next ((x, .lst (l.flatMap dss)) :: ρ) ω)) :
    EX1 prog w K bx sc n (.Assign [.Name x p] (.ListComp elt (⟨t, iter, ifs, 0⟩ :: rest) scope pos) pos') ρ ω P := by
  rw [← catN_atL] at h
  have e : l.length = (l.map g).length := by rw [List.length_map]
  rw [e] at h
  refine ex_assignC (atL l dss) (CompScope.of C) hi (fun i d hd => ?_) (by rw [← e, catN_atL]; exact hl) hk hsw h
  obtain ⟨x, hx, e1, rfl⟩ := its_get hd
  have : atL l dss i = dss x := by unfold atL; rw [e1]
  rw [this]
  exact hit x hx
theorem ex_assign_mapL {α : Type} {x : Str} {p pos pos' : Pos} {elt t iter : Expr} (l : List α) (g f : α → D) (C : scopeOk scope sc ρ = true) (hi : EVI prog w K sc n ρ iter t (l.map g)) (hl : l.length ≤ 100000)
    (hit : ∀ x ∈ l, TgtOk (KindOk scope) t (g x) ∧ Sub ρ (bindT t (g x) ρ) ∧ EV prog w K (rl scope sc) n (bindT t (g x) ρ) elt (f x))
    (hk : KindOk sc x) (hsw : ∀ env : Env, env.scope = sc → swapsWith (.ListComp elt [⟨t, iter, [], 0⟩] scope pos) (some (.Name x p)) pos'.line env = pure true) (h : P (.next ((x, .lst (l.map f)) :: ρ) ω)) :
    EX1 prog w K bx sc n (.Assign [.Name x p] (.ListComp elt [⟨t, iter, [], 0⟩] scope pos) pos') ρ ω P := by
  rw [← flatMap_one] at h
  refine ex_assignCL l g (fun x => [f x]) C hi (fun x hx => ?_) (by rw [flatMap_one, List.length_map]; exact hl) hk hsw h
  obtain ⟨a, b, c⟩ := hit x hx
  exact item_one (b := true) a b ts_nil fun _ => c
end
end Lw
end

section
open PySem PySem.W PyProof.Rows PySem.Calls PySem.SeqAt
namespace Lw
theorem two_lt {K : Frag} {U : Addr → Prop} {s : Shared} (x : HOK K U s) : (show Nat from 2) < s.heap.objs.size := by
  obtain ⟨mc, a, b⟩ := x.lim
  exact a.lt
theorem empty_at {prog : Program} {w : World} {h : Heap} {d : Addr} (e : h.get? d = some emptyDict) : h.DictAt (PySem.strKind prog w) d [] 0 :=
  ⟨_, #[], e, ⟨rfl, rfl, rfl⟩, rfl, fun _ h => by simp at h, PySem.Pairs.nil, by simp⟩
section
variable {sc : Scope} {n : Nat} {ρ : Vars}
end
end Lw
end

section
open PySem PySem.W PyProof.Rows PySem.Calls PySem.SeqAt
namespace Lw
section
variable {A : Around}
theorem itok_list {U Z : Addr → Prop} {t : Expr} {s s₁ : Shared} {l : Addr} {vs : List Value} {its : List D} (hh : A.handled = none) (hs : s.heap.objs.size ≤ s₁.heap.objs.size) (hu : ¬ Z l) (hp : s₁.heap.PlainList l (List.toArray vs)) (rl : RL U s₁.heap vs its) (hsh : ∀ d ∈ its, ShapeOk t d) :
    ItOK prog w A U Z t s { s₁ with heap := s₁.heap.push { cls := .type "list_iterator", data := .fields #[.ref l, .int 0 0] } } (.ref s₁.heap.objs.size) its := by
  have hl := hp.isList
  have hal : l < s₁.heap.objs.size := by obtain ⟨o, e, _⟩ := hl; exact Heap.lt_size e
  have hlen : (List.toArray vs).size = its.length := by simp [rl.length]
  have W := Walks.list (prog := prog) (w := w) hh s₁.heap.objs.size l (Nat.ne_of_lt hal) (List.toArray vs)
  rw [hlen] at W
  have up : ∀ b o, s₁.heap.get? b = some o → (s₁.heap.push { cls := .type "list_iterator", data := .fields #[.ref l, .int 0 0] }).get? b = some o := fun b o e => Heap.get?_push_of_some _ e
  refine ⟨_, _, _, _, _, _, rfl, KTurns.ofWalks W (fun i v s Q E st hQ => ?_), ⟨⟨_, Heap.get?_push_size _ rfl, rfl, rfl⟩, hl.push _⟩, fun b hb => ?_, fun b hb hbw => ?_, fun s Q E st hQ => W.self 0 s Q E st hQ, fun i v h' U' hP hk hU' => ?_⟩
  · obtain ⟨o, ho, hc, _⟩ := st.1
    exact go_plain ho hc (by decide +kernel) hQ
  · rw [List.mem_singleton.mp hb]
    refine ⟨hs, ?_⟩
    show s₁.heap.objs.size < (s₁.heap.push _).objs.size
    rw [Heap.size_push]; exact Nat.lt_succ_self _
  · have : b = l := by
      rcases List.mem_cons.mp hb with rfl | hb
      · exact absurd (List.mem_singleton.mpr rfl) hbw
      · exact List.mem_singleton.mp hb
    subst this
    refine ⟨hu, ?_⟩
    show b < (s₁.heap.push _).objs.size
    rw [Heap.size_push]; exact Nat.lt_succ_of_lt hal
  · have hP' : vs[i]? = some v := by simpa using hP
    have hi : i < its.length := by
      have := (List.getElem?_eq_some_iff.mp hP').1
      rw [rl.length] at this; exact this
    obtain ⟨v', e', r⟩ := rl.get (List.getElem?_eq_getElem hi)
    rw [hP'] at e'
    cases e'
    refine ⟨its[i], List.getElem?_eq_getElem hi, rt_of_r (hsh _ (List.getElem_mem hi)) (R.mono (fun b q => ?_) (fun b o q e => hk b o q (fun z => ?_) (up b o e)) _ r)⟩
    · rcases hU' b q with q | q | q
      · exact .inl q
      · right; rw [List.mem_singleton.mp q]; exact fresh_none _
      · right
        cases e : s₁.heap.get? b with
        | none => rfl
        | some o =>
          have q' : (s₁.heap.push { cls := .type "list_iterator", data := .fields #[.ref l, .int 0 0] }).get? b = none := q
          rw [up b o e] at q'; cases q'
    · rw [List.mem_singleton.mp z] at e
      exact absurd (Heap.lt_size e) (Nat.lt_irrefl _)
end
section
variable {K : Frag} {X : FX} {ρ : Vars} {ω : Owns} {m cm : Str → Option Value} {s : Shared}
theorem ST0.swap (x : ST0 K X ρ ω m cm s) {a : Addr} {o o' : Ow} (ha : ω.lookup a = some o) (hn : OwAt (Wn X ω) s.heap a o') : ST0 K X ρ ((a, o') :: ω) m cm s :=
  x.put (h' := s.heap) (tk := s.toks) ha (Heap.SameBut.refl _ _) (Nat.le_refl _) hn
theorem ST0.pin (x : ST0 K X ρ ω m cm s) {a : Addr} {ds : List D} (ha : ω.lookup a = some (.lst ds)) : ∃ o vs, ST0 K X ρ ((a, .pin o ds) :: ω) m cm s ∧ s.heap.PlainList a (List.toArray vs) ∧ RL (Wn X ω) s.heap vs ds := by
  obtain ⟨vs, pl, rl⟩ := x.own a _ ha
  obtain ⟨k, ho⟩ := id pl
  exact ⟨_, vs, x.swap ha ⟨ho, vs, pl, rl⟩, pl, rl⟩
theorem ST0.unpin (x : ST0 K X ρ ω m cm s) {a : Addr} {o : Obj} {ds : List D} (ha : ω.lookup a = some (.pin o ds)) : ST0 K X ρ ((a, .lst ds) :: ω) m cm s := by
  obtain ⟨_, vs, pl, rl⟩ := x.own a _ ha
  exact x.swap ha ⟨vs, pl, rl⟩
theorem cons_keys {a b : Addr} {o : Ow} (ha : (ω.lookup a).isSome = true) : ((((a, o) :: ω : Owns)).lookup b).isSome = true ↔ (ω.lookup b).isSome = true := by
  by_cases h : b = a
  · rw [h, lookup_cons_eq]; simp [ha]
  · rw [lookup_cons_ne h]
theorem Stp.keysL {ω₁ ω₂ : Owns} {s' : Shared} (x : Stp X ω₁ s ω₂ s') (h : ∀ b, (ω₁.lookup b).isSome = true ↔ (ω.lookup b).isSome = true) : Stp X ω s ω₂ s' :=
  ⟨fun b o a n c e => x.kp b o a (by
    cases q : (ω₁.lookup b).isSome with
    | false => rfl
    | true => rw [(h b).mp q] at n; cases n) c e, fun a q => (x.org a q).imp (h a).mp id, x.sz, x.tk⟩
end
section
variable {bx : Fl} {sc : Scope} {n : Nat} {ρ : Vars} {ω : Owns} {P : Out → Prop}
theorem ex_forPin {t iter : Expr} {body : List Stmt} {pos : Pos} {l : Addr} {its : List D} (hf : FsOk sc iter) (hi : EV prog w K sc n ρ iter (.val (.ref l))) (hl : ω.lookup l = some (.lst its)) (hsh : ∀ d ∈ its, ShapeOk t d) (J : Obj → Nat → Vars → Owns → Prop) (h0 : ∀ o, J o 0 ρ ((l, .pin o its) :: ω))
    (hJ : ∀ o i ρ ω, J o i ρ ω → ω.lookup l = some (.pin o its))
    (ht : ∀ (i : Nat) d, its[i]? = some d → TgtOk (KindOk sc) t d)
    (step : ∀ o (i : Nat) d ρ ω, its[i]? = some d → J o i ρ ω → EX prog w K bx sc n body (bindT t d ρ) ω (fun r => match r with
      | .next ρ' ω' => ∃ ρ₁ ω₁, J o (i + 1) ρ₁ ω₁ ∧ Sub ρ₁ ρ' ∧ SubO ω₁ ω'
      | _ => False))
    (hP : ∀ o ρ ω, J o its.length ρ ω → P (.next ρ ((l, .lst its) :: ω))) : EX1 prog w K bx sc n (.For t iter body [] pos) ρ ω P := fun X s m cm hs rm x0 => by
  refine wpAny_For (wp_E (hi _ _ _ s hs.sco rm x0.eok) fun xv s₁ hz187 => ?_) (fun x => hf _ x hs.sco)
  obtain ⟨g, r⟩ := hz187
  have r' : xv = .ref l := r
  subst r'
  have x1 := x0.after g
  obtain ⟨o, vs, x2, pl, rl⟩ := x1.pin hl
  have hks : ∀ b, ((((l, Ow.pin o its) :: ω : Owns)).lookup b).isSome = true ↔ (ω.lookup b).isSome = true := fun b => cons_keys (by rw [hl]; rfl)
  refine wpAny_pyIter_list pl.isList ?_
  have g2 : Gr s₁ { s₁ with heap := s₁.heap.push { cls := .type "list_iterator", data := .fields #[.ref l, .int 0 0] } } := Gr.push
  have hWeq : ∀ b, Wn X ((l, Ow.pin o its) :: ω) b → Wn X ω b := fun b q => (wn_cons.mp q).elim id fun e => .inr (.inl (by rw [e, hl]; rfl))
  have it := itok_list (prog := prog) (w := w) (A := X.A) (U := Wn X ((l, Ow.pin o its) :: ω)) (Z := fun b => Wn X ((l, Ow.pin o its) :: ω) b ∧ b ≠ l) (t := t) rm.hd (Nat.le_refl _) (fun q => q.2 rfl) pl (RL.mono (fun b q => .inl (hWeq b q)) (fun _ _ _ e => e) _ rl) hsh
  refine codeAny_mono (for_core (P := fun r => match r with
      | .next ρ ω => ω.lookup l = some (.pin o its) ∧ P (.next ρ ((l, .lst its) :: ω))
      | _ => False) (iter := iter) (J o) (h0 o) ht (fun i d ρ ω hd hj => ex_mono (step o i d ρ ω hd hj) fun r q => by cases r <;> first | exact q | exact q.elim) (fun ρ ω hj => ⟨hJ _ _ _ _ hj, hP o ρ ω hj⟩) hs rm x2 g2 it fun b q lt => ?_) fun r s' ⟨fl, e, r₂, p, E⟩ => ?_
  · refine ⟨fun z => ?_, fun z => ?_, ?_⟩
    · by_cases hb : b = l
      · rw [hb] at z; exact (x1.ownb l (by rw [hl]; rfl)).2.1 z
      · exact q ⟨frm_wn z, hb⟩
    · by_cases hb : b = l
      · rw [hb] at z; exact (x1.ownb l (by rw [hl]; rfl)).1.elim (fun k => absurd (x1.slt z) (Nat.not_lt.mpr k)) fun k => (x1.wu l k).2.2 z
      · exact q ⟨.inl (x1.su b z).1, hb⟩
    · by_cases hb : b = l
      · exact .inr ⟨o, fun i ρ' ω' hj => ⟨its, by rw [hb]; exact hJ _ _ _ _ hj⟩⟩
      · refine .inl ?_
        cases h : (((l, Ow.pin o its) :: ω : Owns)).lookup b with
        | none => rfl
        | some o' => exact absurd ⟨.inr (.inl (by rw [h]; rfl)), hb⟩ q
  · subst e
    cases r₂ with
    | next ρ' ω' =>
      obtain ⟨rfl, ⟨m', cm', y⟩, st⟩ := E
      obtain ⟨p1, p2⟩ := p
      refine ⟨_, p2, rfl, ⟨m', cm', y.unpin p1⟩, (Stp.gr g).trans ((st.keysL hks).less fun b q => (cons_keys (by rw [p1]; rfl)).mp q)⟩
    | _ => exact p.elim
theorem em_if {t e₁ e₂ : Expr} {pos : Pos} {b : Bool} {Q : Res → Prop} (ht : EMT prog w K bx sc n ρ ω t b) (h₁ : b = true → EM prog w K bx sc n ρ ω e₁ Q) (h₂ : b = false → EM prog w K bx sc n ρ ω e₂ Q) : EM prog w K bx sc n ρ ω (.IfExp t e₁ e₂ pos) Q := fun X s m cm hs rm x0 =>
  IfExp_ (wp_E (ht X s m cm hs rm x0) fun c s' hz189 => by
    obtain ⟨r, g⟩ := hz189
    subst r
    cases c with
    | true => exact wpAny_mono (h₁ rfl X s' m cm hs rm (x0.after g)) (fun v s₂ hz190 => by obtain ⟨d, ω', q, x, st, r⟩ := hz190; exact ⟨d, ω', q, x, (Stp.gr g).trans st, r⟩) fun v s₂ hz191 => by obtain ⟨d, ω', q, x, st, r⟩ := hz191; exact ⟨d, ω', q, x, (Stp.gr g).trans st, r⟩
    | false => exact wpAny_mono (h₂ rfl X s' m cm hs rm (x0.after g)) (fun v s₂ hz192 => by obtain ⟨d, ω', q, x, st, r⟩ := hz192; exact ⟨d, ω', q, x, (Stp.gr g).trans st, r⟩) fun v s₂ hz193 => by obtain ⟨d, ω', q, x, st, r⟩ := hz193; exact ⟨d, ω', q, x, (Stp.gr g).trans st, r⟩)
theorem cIsNotNoneR {a : Addr} : CmpG prog w K .IsNot n (.val (.ref a)) .none true := fun A U s v u rm ok r e' => by
  have r' : v = .ref a := r
  have e'' : u = .none := e'
  subst r' e''
  exact wpAny_of_eq (a := .bool true) (by rfl) ⟨Gr.refl s, rfl⟩
end
end Lw
end

section
open PySem PySem.W PyProof.Rows PySem.Calls PySem.SeqAt
namespace Lw
section
variable {bx : Fl} {sc : Scope} {n : Nat} {ρ : Vars} {ω : Owns} {P : Out → Prop}
theorem getG_ins {C f : Addr} {fs : List (Str × D)} {name : Str} (CO : ClsOk K C) (MO : MethOk K C name f) (hno : fs.lookup name = none) : GetG prog w K (.ins C fs) name (.ref f) := fun A U s v pl ok hz194 => by
  obtain ⟨a, dx, od, e, _, _, h1, h2, _, hn⟩ := hz194
  subst e
  have I : InstAt s.heap a (instObj C dx) C (some od) := ⟨h1, rfl, rfl, h2⟩
  exact method_fn ok.top I CO.hga CO.hk MO.find MO.typ (by unfold shadowIn; simp only [hn name hno]; rfl) ⟨rfl, rfl⟩
end
end Lw
end

section
open PySem PySem.W PyProof.Rows PySem.Calls PySem.SeqAt
namespace Lw
section
variable {K : Frag} {X : FX} {ρ : Vars} {ω : Owns} {m cm : Str → Option Value} {s : Shared}
theorem st_del {M : Model} {A : Around} {E : Value → Shared → Prop} {x : Str} {v : Value} {ρ' : Vars} {Q : Unit → Shared → Prop} (x0 : ST0 K X ρ ω m cm s) (hk : X.env.kindOf x = some .local) (hv : m x = some v) (hρ : ∀ y d, ρ'.lookup y = some d → y ≠ x ∧ ρ.lookup y = some d)
    (h : ∀ s', (∃ m cm, ST0 K X ρ' ω m cm s') → s.toks ≤ s'.toks → s.heap.objs.size ≤ s'.heap.objs.size → (∀ b o, ¬ Frm X b → s.heap.get? b = some o → s'.heap.get? b = some o) → Q () s') : wpAny M A (unbindName X.env x) Q E s := by
  have inC := x0.inC
  refine wpAny_unbindName_local hk inC.ns hv (by rw [x0.fn]; rfl) fun h' u hn hs => ?_
  have frm : Frm X X.env.locals := .inl rfl
  refine h _ ⟨fun y => if y = x then u else m y, cm, ?_⟩ (Nat.le_refl _) (by show _ ≤ h'.objs.size; rw [hs.1]; exact Nat.le_refl _) fun b o q e => hs.extBut b o (fun e' => q (e' ▸ frm)) e
  have up : ∀ b o, ¬ Wn X ω b → s.heap.get? b = some o → h'.get? b = some o := fun b o q e => hs.extBut b o (fun e' => q (by subst e'; exact frm_wn frm)) e
  have rm : ∀ {v : Value} {d : D}, R (Wn X ω) s.heap v d → R (Wn X ω) h' v d := fun r => R.mono (fun _ q => .inl q) up _ r
  have mem : Mem X.base X.W X.S X.env X.oc (fun y => if y = x then u else m y) cm { s with heap := h' } := by
    refine ⟨?_, hn, fun b o w q e => ?_, fun b o q e => (let ⟨sl, z⟩ := inC.slots b o q e; ⟨sl, hs.extBut _ _ (Nat.ne_of_lt (Nat.lt_of_lt_of_le (Heap.lt_size e) inC.fresh)) z⟩), inC.fresh, fun k c hc => ?_, inC.apart, inC.above, inC.look⟩
    · obtain ⟨h₁, tk, e⟩ := inC.same
      exact ⟨h', s.toks, by rw [e]⟩
    · exact hs.extBut b o (Nat.ne_of_lt (Nat.lt_of_lt_of_le (Heap.lt_size e) inC.fresh)) (inC.keep b o w q e)
    · exact (inC.cell k c hc).sameBut hs (Nat.ne_of_gt (inC.above k c (PySem.mem_of_lookup hc)))
  refine ⟨mem, x0.hok, x0.hokS.chg (fun b o q e => hs.extBut b o (fun e' => q (e' ▸ loose_new x0.hok (x0.frm frm))) e) (by rw [hs.1]; exact Nat.le_refl _) (Nat.le_refl _), x0.le, x0.fn, x0.gl, x0.bl, x0.ce, x0.cl, fun y d' e hy => ?_, fun b o e => (x0.own b o e).mono (fun _ q => .inl q) up (fun o' => hs.extBut b o' fun e' => (x0.ownb b (by rw [e]; rfl)).2.1 (e' ▸ frm)), x0.ownb, fun b q => by show _ < h'.objs.size; rw [hs.1]; exact x0.vlt b q, x0.vb, x0.wu, x0.su, fun f => (x0.fr f).at fun b o q e => hs.extBut b o (fun e' => absurd (x0.frm (e' ▸ frm)) (Nat.not_le.mpr (x0.slt q))) e⟩
  obtain ⟨hyx, e0⟩ := hρ y d' e
  obtain ⟨w, b, r⟩ := x0.vars y d' e0 hy
  refine ⟨w, b.imp (fun b => ?_) id, rm r⟩
  rcases b with ⟨a, b⟩ | ⟨a, b, c⟩
  · exact .inl ⟨a, (if_neg hyx).trans b⟩
  · exact .inr ⟨a, b, c⟩
theorem nm_any {prog : Program} {w : World} {A : Around} {E : Value → Shared → Prop} {U : Addr → Prop} {env : Env} {x : Str} {pos : Pos} {d : D} {Q : Value → Shared → Prop} (ok : EOK K U env ρ s) (hl : ρ.lookup x = some d) (hx : Has env.scope x) (hd : (x == ("__classdict__" : Str)) = false) (hd' : (x == ("__debug__" : Str)) = false) (h : ∀ v, R U s.heap v d → Q v s) :
    wpAny (model prog w) A (eval (.Name x pos) env) Q E s := by
  obtain ⟨v, b, r⟩ := ok.vars x d hl hx
  exact wpAny_Name (load_bnd ok.fn b (h v r) hd) hd'
theorem nb_any {prog : Program} {w : World} {A : Around} {E : Value → Shared → Prop} {U : Addr → Prop} {env : Env} {x : Str} {pos : Pos} {v : Value} {Q : Value → Shared → Prop} (ok : EOK K U env ρ s) (hx : env.scope.names.lookup x = some .globalImplicit) (e : nsIn K mainGlobals x = some none) (e' : nsIn K builtinsNs x = some (some v)) (hd : (x == ("__debug__" : Str)) = false) (h : Q v s) :
    wpAny (model prog w) A (eval (.Name x pos) env) Q E s := by
  refine Name_function_global ok.fn hx ?_ hd
  unfold loadGlobal
  rw [ok.gl, ok.bl]
  exact wpAny_bind ((looks_nsIn ok.top e).here (wpAny_bind ((looks_nsIn ok.top e').here (wpAny_pure h))))
end
section
variable {bx : Fl} {sc : Scope} {n : Nat} {ρ : Vars} {ω : Owns} {P : Out → Prop}
theorem ex_gen {K : Frag} {X : FX} {ω : Owns} {P : Out → Prop} {M : Model} {A : Around} {t : Sem Flow} {s₀ s : Shared}
    (h : ∀ (Q : Flow → Shared → Prop) (E : Value → Shared → Prop), (∀ o fl s', P o → Ends K X ω s₀ o fl s' → Q fl s') → (∀ o e s', P o → EndsE K X ω s₀ o e s' → E e s') → wpAny M A t Q E s) :
    wpAny M A t (fun fl s' => ∃ o, P o ∧ Ends K X ω s₀ o fl s') (fun e s' => ∃ o, P o ∧ EndsE K X ω s₀ o e s') s := h _ _ (fun o _ _ p e => ⟨o, p, e⟩) fun o _ _ p e => ⟨o, p, e⟩
theorem try_unbind {A : Around} {E : Value → Shared → Prop} {Q : Unit → Shared → Prop} {X : FX} {ρ' : Vars} {d : D} {ω : Owns} {m cm : Str → Option Value} {s : Shared} {nm : Str} {hpos : Pos} (kn : X.env.kindOf nm = some .local) (hn : Has X.env.scope nm)
    (x0 : ST0 K X ((nm, d) :: ρ) ω m cm s) (hρ : ∀ z d, ρ'.lookup z = some d → z ≠ nm ∧ ρ.lookup z = some d)
    (h : ∀ sH, (∃ m cm, ST0 K X ρ' ω m cm sH) → Stp X ω s ω sH → Q () sH) :
    wpAny (model prog w) A (do bindName X.env nm .none; unbindBehindTheSuite X.env nm hpos) Q E s := by
  refine wpAny_bind (wpAny_bindName (st_set x0 (.inl kn) (v := .none) (d := .none) rfl fun sG hz leG zG kG => ?_))
  obtain ⟨mG, cmG, xG⟩ := hz
  unfold unbindBehindTheSuite
  obtain ⟨u, bu, ru⟩ := xG.vars nm .none lookup_cons_eq hn
  have hm : mG nm = some u := by
    rcases bu with (⟨_, z⟩ | ⟨z, _⟩) | ⟨z, _⟩
    · exact z
    · rw [kn] at z; cases z
    · rcases z with z | z <;> (rw [kn] at z; cases z)
  refine wpAny_onRaise (st_del (ρ' := ρ') xG kn hm (fun z d hz => ?_) fun sH hzz leH zH kH => ?_)
  · obtain ⟨z1, z2⟩ := hρ z d hz
    exact ⟨z1, by rw [lookup_cons_ne z1, lookup_cons_ne z1]; exact z2⟩
  · exact h sH hzz ((Stp.set (Gr.refl _) leG zG kG).trans (Stp.set (Gr.refl _) leH zH kH))
theorem note_flight {M : Model} {E E2 : Value → Shared → Prop} {X : FX} {m cm : Str → Option Value} {s : Shared} {e T : Addr} {cls : String} {ds : List D} {Q : Shared → Prop} (x : ST0 K X ρ ω m cm s) (hf : X.fok) (he : ω.lookup e = some (.exn cls (some T) ds)) (hT : ω.lookup T = some (.tbk .none))
    (hQ : ∀ s' ω' T', ST0 K X ρ ω' m cm s' → Stp X ω s ω' s' → ω'.lookup e = some (.exn cls (some T') ds) → ω'.lookup T' = some (.tbk .none) →
      (∀ a o, ω.lookup a = some o → (∀ fl, o ≠ .tbk fl) → a ≠ e → a ≠ T' ∧ ω'.lookup a = some o) → Q s') :
    wpAny M X.A (noteFrame (.ref e) X.env) (fun _ s₂ => wpAny M X.A (setFlight (.ref e) none) (fun _ s₃ => Q s₃) E2 s₂) E s := by
  refine note_own x hf he (fun T' e' => by cases e'; exact hT) fun hA TA ωA NA xA stA => ?_
  refine flight_own xA NA.1 NA.2.1 none fun hB xB stB => ?_
  refine hQ _ _ TA xB (stA.trans stB) (by rw [lookup_cons_ne NA.2.2.1]; exact NA.1) lookup_cons_eq fun a o h ho hae => ?_
  have h1 : a ≠ TA := fun z => by rw [z, NA.2.2.2.1] at h; cases h
  refine ⟨h1, ?_⟩
  rw [lookup_cons_ne h1, NA.2.2.2.2 a hae h1 fun fl z => by rw [h] at z; cases z; exact ho fl rfl]
  exact h
theorem flight_any {M : Model} {A : Around} {E : Value → Shared → Prop} {X : FX} {m cm : Str → Option Value} {s : Shared} {e T : Addr} {cls : String} {ds : List D} {Q : Shared → Prop} (x : ST0 K X ρ ω m cm s) (he : ω.lookup e = some (.exn cls (some T) ds)) (hT : ω.lookup T = some (.tbk .none))
    (hQ : ∀ s' ω', ST0 K X ρ ω' m cm s' → Stp X ω s ω' s' → (∀ a, a ≠ T → ω'.lookup a = ω.lookup a) → Q s') : wpAny M A (setFlight (.ref e) none) (fun _ s₃ => Q s₃) E s :=
  flight_own x he hT none fun hB xB stB => hQ _ _ xB stB fun a h => lookup_cons_ne h
end
end Lw
end

section
open PySem PySem.W PyProof.Rows PySem.Calls PySem.SeqAt
namespace Lw
section
variable {bx : Fl} {sc : Scope} {n : Nat} {ρ : Vars} {ω : Owns} {P : Out → Prop}
theorem ex_assignTM {es : List Expr} {k : Nat} {p pos : Pos} {value : Expr} (he : EM prog w K bx sc n ρ ω value fun
      | .val d ω' => ∃ ds, d = .tup ds ∧ TgtsOk (KindOk sc) es ds ∧ P (.next (bindTs es ds ρ) ω')
      | .exc d ω' => P (.exc d ρ ω'))
    (hsw : ∀ env : Env, env.scope = sc → swapsWithSole [.Tuple es k p] value pos.line env = pure false) (hw : ∀ env : Env, env.scope = sc → swappedStores [.Tuple es k p] value env = pure none) :
    EX1 prog w K bx sc n (.Assign [.Tuple es k p] value pos) ρ ω P := fun X s m cm hs rm x0 => by
  refine wpAny_Assign_stores (wpAny_mono (he X s m cm hs rm x0) (fun v s₁ hz195 => ?_) fun e s₁ hz208 => by obtain ⟨d, ω', q, x1, st1, r⟩ := hz208; exact ⟨_, q, ⟨⟨m, cm, x1⟩, st1⟩, r⟩) (hsw _ hs.sco) (hw _ hs.sco)
  obtain ⟨d, ω', ⟨ds, e, ht, hP⟩, x1, st1, r⟩ := hz195
  subst e
  obtain ⟨a, vs, rfl, hu, htup, rl⟩ := r
  show wpAny _ X.A (assign (.Tuple es k p) X.env (.ref a)) _ _ s₁
  refine wp_E (assign_ok (t := .Tuple es k p) (d := .tup ds) rm.hd x1 (ht.mono fun x hx => hs.ow x hx) ⟨ds, a, vs, rfl, rfl, htup, rl⟩) fun _ s₂ hz196 => ?_
  obtain ⟨x2, le, z, hk⟩ := hz196
  exact ⟨_, hP, rfl, x2, st1.trans (Stp.set (Gr.refl _) le z hk)⟩
theorem ex_swapM {x y : Str} {px py : Pos} {k : Nat} {p pos : Pos} {value : Expr} (he : EM prog w K bx sc n ρ ω value fun
      | .val d ω' => ∃ d₁ d₂, d = .tup [d₁, d₂] ∧ P (.next ((x, d₁) :: (y, d₂) :: ρ) ω')
      | .exc d ω' => P (.exc d ρ ω')) (hx : KindOk sc x) (hy : KindOk sc y) (hxy : x ≠ y)
    (hsw : ∀ env : Env, env.scope = sc → swapsWithSole [.Tuple [.Name x px, .Name y py] k p] value pos.line env = pure false) (hw : ∀ env : Env, env.scope = sc → swappedStores [.Tuple [.Name x px, .Name y py] k p] value env = pure (some [x, y])) :
    EX1 prog w K bx sc n (.Assign [.Tuple [.Name x px, .Name y py] k p] value pos) ρ ω P := fun X s m cm hs rm x0 => by
  rw [exec_Assign_arm]
  refine wpAny_bind (wpAny_standAt ?_)
  rw [hsw _ hs.sco]
  refine wpAny_bind (wpAny_pure ?_)
  rw [if_neg (by decide)]
  refine wpAny_bind (wpAny_mono (he X s m cm hs rm x0) (fun v s₁ hz197 => ?_) fun e s₁ hz209 => by obtain ⟨d, ω', q, x1, st1, r⟩ := hz209; exact ⟨_, q, ⟨⟨m, cm, x1⟩, st1⟩, r⟩)
  obtain ⟨d, ω', ⟨d₁, d₂, e, hP⟩, x1, st1, r⟩ := hz197
  subst e
  obtain ⟨a, vs, rfl, hu, htup, rl⟩ := r
  rw [hw _ hs.sco]
  refine wpAny_bind (wpAny_pure ?_)
  unfold assignStores
  refine wpAny_bind (wpAny_rule ?_)
  obtain ⟨v1, _, rfl, r1, v2, _, rfl, r2, e0⟩ := rl
  have e0' : _ = [] := e0
  subst e0'
  have hun : wpAny (model prog w) X.A (unpackItems (.ref a) [x, y].length none) (fun l s' => l = [v1, v2] ∧ Gr s₁ s') (fun _ _ => False) s₁ :=
    wp0 (unpackItems_tuple (items := List.toArray [v1, v2]) rm.hd htup fun h' he' le z => ⟨by simp, Gr.of (t := s₁.toks) (fun b o e => he' b o (Nat.ne_of_lt (Heap.lt_size e)) e) le z⟩)
  refine wpAny_bind (wp_E hun fun l s₂ hz198 => ?_)
  obtain ⟨e, g⟩ := hz198
  subst e
  have x2 := x1.after g
  show wpAny _ X.A (assignInOrder [bindName X.env y, bindName X.env x] [v2, v1] >>= fun _ => pure Flow.next) _ _ s₂
  refine wpAny_bind ?_
  unfold assignInOrder
  refine wpAny_bind (wpAny_holding (wpAny_bindName (st_set x2 (x2.kind hs hy) (r2.keeps g.keep) fun s₃ hz199 le₃ z₃ k₃ => ?_)))
  obtain ⟨m₃, cm₃, x3⟩ := hz199
  unfold assignInOrder
  have r1' : R (Wn X ω') s₃.heap v1 d₁ := R.mono (fun _ q => .inl q) (fun b o q e => k₃ b o (fun f => q (frm_wn f)) e) _ (r1.keeps g.keep)
  refine wpAny_bind (wpAny_holding (wpAny_bindName (st_set x3 (x3.kind hs hx) r1' fun s₄ hz200 le₄ z₄ k₄ => ?_)))
  obtain ⟨m₄, cm₄, x4⟩ := hz200
  unfold assignInOrder
  refine wpAny_pure (wpAny_pure ⟨_, hP, rfl, ⟨m₄, cm₄, x4⟩, ((st1.trans (Stp.gr g)).trans (Stp.set (Gr.refl _) le₃ z₃ k₃)).trans (Stp.set (Gr.refl _) le₄ z₄ k₄)⟩)
theorem ex_assign3 {x y z : Str} {px py pz pos : Pos} {value : Expr} {d : D} (he : EV prog w K sc n ρ value d) (hx : KindOk sc x) (hy : KindOk sc y) (hz : KindOk sc z)
    (hw : ∀ env : Env, env.scope = sc → swappedStores [.Name x px, .Name y py, .Name z pz] value env = pure none) (hP : P (.next ((z, d) :: (y, d) :: (x, d) :: ρ) ω)) :
    EX1 prog w K bx sc n (.Assign [.Name x px, .Name y py, .Name z pz] value pos) ρ ω P := fun X s m cm hs rm x0 => by
  refine wpAny_Assign_three (wp_E (he _ _ _ s hs.sco rm x0.eok) fun v s₁ hz201 => ?_) rfl (hw _ hs.sco)
  obtain ⟨g, r⟩ := hz201
  have x1 := x0.after g
  refine wp_E (assign_name x1 (hs.ow x hx) r) fun _ s₂ hz202 => ?_
  obtain ⟨⟨m₂, cm₂, x2⟩, le₂, z₂, k₂⟩ := hz202
  have r2 : R (Wn X ω) s₂.heap v d := R.mono (fun _ q => .inl q) (fun b o q e => k₂ b o (fun f => q (frm_wn f)) e) _ r
  refine wp_E (assign_name x2 (hs.ow y hy) r2) fun _ s₃ hz203 => ?_
  obtain ⟨⟨m₃, cm₃, x3⟩, le₃, z₃, k₃⟩ := hz203
  have r3 : R (Wn X ω) s₃.heap v d := R.mono (fun _ q => .inl q) (fun b o q e => k₃ b o (fun f => q (frm_wn f)) e) _ r2
  refine wp_E (assign_name x3 (hs.ow z hz) r3) fun _ s₄ hz204 => ?_
  obtain ⟨⟨m₄, cm₄, x4⟩, le₄, z₄, k₄⟩ := hz204
  exact ⟨_, hP, rfl, ⟨m₄, cm₄, x4⟩, (((Stp.gr g).trans (Stp.set (Gr.refl _) le₂ z₂ k₂)).trans (Stp.set (Gr.refl _) le₃ z₃ k₃)).trans (Stp.set (Gr.refl _) le₄ z₄ k₄)⟩
theorem iter_str {A : Around} {U : Addr → Prop} {s₁ : Shared} {y : Str} {p : Pos} {x : Str} {t : Tok} (hh : A.handled = none) : wpAny (model prog w) A (pyIter (.str x t)) (fun it s₂ => Gr s₁ s₂ ∧ ItOK prog w A U U (.Name y p) s₁ s₂ it (signsD x)) (fun _ _ => False) s₁ := by
  refine wpAny_pyIter_str fun o St HW st => ⟨Gr.push, ?_⟩
  have W := HW A hh
  have hlen : x.cps.size = (signsD x).length := by simp [signsD]
  rw [hlen] at W
  refine ⟨_, _, _, _, _, _, rfl, KTurns.ofWalks W (fun i v s Q E st hQ => ?_), st, fun b hb => ?_, fun b hb hbw => absurd hb hbw, fun s Q E st hQ => W.self 0 s Q E st hQ, fun i v h' U' hP hk hU' => ?_⟩
  · exact wpAny_pure hQ
  · rw [List.mem_singleton.mp hb]
    refine ⟨Nat.le_refl _, ?_⟩
    show s₁.heap.objs.size < (s₁.heap.push _).objs.size
    rw [Heap.size_push]; exact Nat.lt_succ_self _
  · obtain ⟨c, u, e1, rfl⟩ := hP
    have : x.cps.toList[i]? = some c := by simpa using e1
    exact ⟨.str ⟨#[c]⟩, by simp [signsD, this], u, rfl⟩
theorem ex_forStr {y : Str} {py : Pos} {iter : Expr} {body : List Stmt} {pos : Pos} {x : Str} (hf : FsOk sc iter) (hi : EM prog w K bx sc n ρ ω iter fun r => r = .val (.str x) ω) (J : Nat → Vars → Owns → Prop) (h0 : J 0 ρ ω) (hk : KindOk sc y)
    (step : ∀ (i : Nat) c ρ ω, x.cps.toList[i]? = some c → J i ρ ω → EX prog w K bx sc n body ((y, .str ⟨#[c]⟩) :: ρ) ω (fun o => match o with
      | .next ρ' ω' => ∃ ρ₁ ω₁, J (i + 1) ρ₁ ω₁ ∧ Sub ρ₁ ρ' ∧ SubO ω₁ ω'
      | .brk ρ' ω' => P (.next ρ' ω')
      | .ret d ω' => P (.ret d ω')
      | .exc _ _ _ => False))
    (hP : ∀ ρ ω, J x.cps.toList.length ρ ω → P (.next ρ ω)) : EX1 prog w K bx sc n (.For (.Name y py) iter body [] pos) ρ ω P := fun X s m cm hs rm x0 => by
  refine wpAny_For (wpAny_mono (hi X s m cm hs rm x0) (fun xv s₁ hz205 => ?_) fun e s₁ hz210 => by obtain ⟨d, ω', q, _⟩ := hz210; cases q) (fun z => hf _ z hs.sco)
  obtain ⟨d, ω', e, x1, st1, r⟩ := hz205
  cases e
  obtain ⟨t, rfl⟩ := r
  refine wp_E (iter_str (U := Wn X ω) (y := y) (p := py) rm.hd) fun it s₂ hz206 => ?_
  obtain ⟨g, h₂⟩ := hz206
  have hget : ∀ {i : Nat} {d : D}, (signsD x)[i]? = some d → ∃ c, x.cps.toList[i]? = some c ∧ d = .str ⟨#[c]⟩ := fun {i d} hd => by
    unfold signsD at hd
    rw [List.getElem?_map] at hd
    cases hr : x.cps.toList[i]? with
    | none => rw [hr] at hd; cases hd
    | some c => rw [hr] at hd; exact ⟨c, rfl, (Option.some.inj hd).symm⟩
  have hlen : (signsD x).length = x.cps.toList.length := by simp [signsD]
  refine codeAny_mono (for_core (t := .Name y py) (iter := iter) J h0 (fun i d hd => by obtain ⟨c, _, rfl⟩ := hget hd; exact hk) (fun i d ρ ω hd hj => by obtain ⟨c, hc, rfl⟩ := hget hd; exact step i c ρ ω hc hj) (fun ρ ω hj => hP ρ ω (by rw [← hlen]; exact hj)) hs rm x1 g h₂ fun b q l => ⟨fun z => q (frm_wn z), fun z => q (.inl (x1.su b z).1), .inl ?_⟩) fun r s' hz207 => ?_
  · cases h : ω.lookup b with
    | none => rfl
    | some o => exact absurd (.inr (.inl (by rw [h]; rfl))) q
  · obtain ⟨fl, e, o, p, h⟩ := hz207
    subst e
    cases o with
    | next _ _ => exact ⟨_, p, h.1, h.2.1, st1.trans h.2.2⟩
    | brk _ _ => exact ⟨_, p, h.1, h.2.1, st1.trans h.2.2⟩
    | ret _ _ => obtain ⟨v, a, ⟨b, c⟩, d⟩ := h; exact ⟨_, p, v, a, ⟨b, st1.trans c⟩, d⟩
    | exc _ _ _ => exact h.elim
end
end Lw
end

section
open PySem PySem.W PyProof.Rows PySem.Calls PySem.SeqAt
namespace Lw
section
variable {bx : Fl} {sc : Scope} {n : Nat} {ρ : Vars} {ω : Owns} {P : Out → Prop}
theorem ev_clsAttr {o : Expr} {attr : Str} {pos : Pos} {C : Addr} {x : Str} (he : ∀ env, eval (.Attribute o attr pos) env = (do
      let ov ← eval o env
      standAt pos.atName
      let r ← holding [ov] (getAttr ov attr true)
      letTemporaryGo o ov r
      pure r)) (hv : EV prog w K sc n ρ o (.val (.ref C))) (hr : readsIn K C (.type "type") = true) (hf : ∃ t, findCls K (.ref C) (.type "type") attr = some (.val (.str x t))) : EV prog w K sc n ρ (.Attribute o attr pos) (.str x) := fun env A U s hs rm ok => by
  refine Attribute_any_ (wpAny_mono (hv env A U s hs rm ok) (fun ov s₁ hz211 => ?_) fun _ _ q => q) (he env)
  obtain ⟨g, r⟩ := hz211
  have r' : ov = .ref C := r
  subst r'
  obtain ⟨t, hf⟩ := hf
  exact cls_value (ok.gr g).top hr hf rfl ⟨g.trans Gr.toks, t, rfl⟩
theorem em_readF {y : Str} {l : Addr} {ds : List D} {d : D} {e : Expr} {Q : Res → Prop} (hy : ρ.lookup y = some (.val (.ref l))) (hl : ω.lookup l = some (.lst ds)) (h : EV prog w K sc n ((y, .lst ds) :: ρ) e d) (hf : Flat d) (q : Q (.val d ω)) : EM prog w K bx sc n ρ ω e Q := fun X s m cm hs rm x0 => by
  have ok : EOK K (Lent X ω [l]) X.env ((y, .lst ds) :: ρ) s := x0.eokS [l] fun z d' e => by
    by_cases hz : z = y
    · subst hz
      rw [lookup_cons_eq] at e
      cases e
      refine ⟨_, hy, fun v r => ?_⟩
      have r' : v = .ref l := r
      subst r'
      obtain ⟨vs, pl, rl⟩ := x0.own l _ hl
      exact ⟨l, vs, rfl, fun q => q.2 (by simp), pl, rl.lent⟩
    · rw [lookup_cons_ne hz] at e
      exact ⟨d', e, fun v r => r.lent⟩
  refine wp_E (h _ _ _ s hs.sco rm ok) fun v s' ⟨g, r⟩ => ⟨d, ω, q, x0.after g, Stp.gr g, R.flat (fun b z => ?_) d hf r⟩
  by_cases hb : b ∈ [l]
  · refine .inr fun us hz212 => ?_
    obtain ⟨o, ho, hcl, _⟩ := hz212
    rw [List.mem_singleton.mp hb] at ho
    obtain ⟨us', ⟨k, pl⟩, _⟩ := x0.own l _ hl
    have := g.keep _ _ pl
    rw [ho] at this; cases this; exact absurd (show Value.type "list" = Value.type "tuple" from hcl) (by decide)
  · exact .inl ⟨z, hb⟩
theorem rf_of {U : Addr → Prop} {h : Heap} {od : Obj} {fs : List (Str × D)} (f : ∀ x d, fs.lookup x = some d → ∃ v, lookIn x od = some (some v) ∧ R U h v d) : ∀ l : List (Str × D), (∀ p ∈ l, fs.lookup p.1 = some p.2) → RF U h od l
  | [], _ => trivial
  | (x, d) :: l, hl => ⟨f x d (hl (x, d) (.head _)), rf_of f l fun p hp => hl p (.tail _ hp)⟩
theorem callG_ins {C : Addr} {ds : List D} {fs : List (Str × D)} (hfs : ∀ p ∈ fs, fs.lookup p.1 = some p.2) (h : CallM prog w K false (.ref C) n [] ds [] fun r => ∃ x dx ω, r = .val (.val (.ref x)) ω ∧ ω.lookup x = some (.ins C dx) ∧ ω.lookup dx = some (.att fs)) : CallG prog w K (.ref C) n ds (.ins C fs) := fun A U s vs rm ok rl =>
  wpAny_mono (h A U (fun _ => False) s vs [] rm ⟨ok, fun _ _ e => (by cases e), fun _ e => (by cases e), fun _ e => e.elim⟩ (fun e => by cases e) rl KwOk.nil) (fun v s' hz214 => by
    obtain ⟨d', ω', ⟨x, dx, ω'', e, h1, h2⟩, b, r⟩ := hz214
    cases e
    have r' : v = .ref x := r
    subst r'
    have o1 := b.own x _ h1
    obtain ⟨mm, n1, f⟩ := b.own dx _ h2
    obtain ⟨od, ho, hl⟩ := ns_lookIn n1.ns
    have fresh : ∀ a, (ω'.lookup a).isSome = true → ¬ U a := fun a q z => (b.org a q).elim (fun q => by cases q) fun l => absurd (ok.lt a z) (Nat.not_lt.mpr l)
    refine ⟨b.gr, x, dx, od, rfl, fresh x (by rw [h1]; rfl), fresh dx (by rw [h2]; rfl), o1, ho, rf_of (fun y d hy => ?_) fs hfs, fun y hy => ?_⟩
    · have := f y
      rw [hy] at this
      obtain ⟨v, e, r⟩ := this
      exact ⟨v, by rw [hl, e], R.mono (fun a q => .inl (.inl q)) (fun _ _ _ e => e) _ r⟩
    · have := f y
      rw [hy] at this
      rw [hl, this]) fun e s' hz215 => by obtain ⟨_, _, ⟨_, _, _, q, _⟩, _⟩ := hz215; cases q
end
end Lw
end

section
open PySem PySem.W PyProof.Rows PySem.Calls PySem.SeqAt
namespace Lw
section
variable {bx : Fl} {sc : Scope} {n : Nat} {ρ : Vars} {ω : Owns} {P : Out → Prop}
theorem ex1_mono {st : Stmt} {P' : Out → Prop} (h : EX1 prog w K bx sc n st ρ ω P) (hp : ∀ o, P o → P' o) : EX1 prog w K bx sc n st ρ ω P' := fun X s m cm hs rm x0 =>
  wpAny_mono (h X s m cm hs rm x0) (fun _ _ hz216 => by obtain ⟨o, p, e⟩ := hz216; exact ⟨o, hp o p, e⟩) fun _ _ hz217 => by obtain ⟨o, p, e⟩ := hz217; exact ⟨o, hp o p, e⟩
theorem ex_join {ι : Type} (ρj : ι → Vars) (ωj : ι → Owns) (Cj : ι → Prop) {st : Stmt} {ss : List Stmt} (h : EX1 prog w K bx sc n st ρ ω fun o => ∃ j ρ' ω', Cj j ∧ o = .next ρ' ω' ∧ Sub (ρj j) ρ' ∧ SubO (ωj j) ω') (h' : ∀ j, Cj j → EX prog w K bx sc n ss (ρj j) (ωj j) P) :
    EX prog w K bx sc n (st :: ss) ρ ω P :=
  ex_cons (ex1_mono h fun o hz218 => by obtain ⟨j, ρ', ω', c, e, h1, h2⟩ := hz218; subst e; exact ex_sub (h' j c) h1 h2)
end
end Lw
end

section
open PySem PySem.W PyProof.Rows PySem.Calls PySem.SeqAt
namespace Lw
noncomputable def ListsB (m : Nat) (h : Heap) : List (Str × Value) → List (Str × List Str) → Prop
  | [], [] => True
  | (k, v) :: kvs, (k', ss) :: l => k = k' ∧ (∃ a vs, v = .ref a ∧ m ≤ (show Nat from a) ∧ h.PlainList a (List.toArray vs) ∧ RL (fun _ => False) h vs (ss.map .str)) ∧ ListsB m h kvs l
  | _, _ => False
theorem strs_scal : ∀ ss : List Str, ScalL (ss.map .str)
  | [] => trivial
  | _ :: ss => ⟨trivial, strs_scal ss⟩
theorem rl_strs {U : Addr → Prop} {h h' : Heap} {ss : List Str} {vs : List Value} (r : RL U h vs (ss.map .str)) : RL (fun _ => False) h' vs (ss.map .str) := r.scal (strs_scal ss)
theorem ListsB.mono {m m' : Nat} {h h' : Heap} (hm : m' ≤ m) (hk : ∀ b o, m ≤ (show Nat from b) → h.get? b = some o → h'.get? b = some o) : ∀ {kvs : List (Str × Value)} {l : List (Str × List Str)}, ListsB m h kvs l → ListsB m' h' kvs l
  | [], [], _ => trivial
  | (k, v) :: kvs, (k', ss) :: l, hz34 => by obtain ⟨e, ⟨a, vs, e1, la, ⟨n, hp⟩, r⟩, x⟩ := hz34; exact ⟨e, ⟨a, vs, e1, Nat.le_trans hm la, ⟨n, hk _ _ la hp⟩, rl_strs r⟩, x.mono hm hk⟩
  | [], _ :: _, x => x.elim
  | _ :: _, [], x => x.elim
noncomputable def PD (prog : Program) (w : World) (l : List (Str × List Str)) (h : Heap) (v : Value) : Prop :=
  ∃ d kvs, v = .ref d ∧ (d == sysModules) = false ∧ h.DictOf (PySem.strKind prog w) d kvs ∧ ListsB 0 h kvs l
section
variable {sc : Scope} {n : Nat} {ρ : Vars}
noncomputable def EntOk (prog : Program) (w : World) (K : Frag) (sc : Scope) (n : Nat) (ρ : Vars) : List (Expr × Expr) → List (Str × List Str) → Prop
  | [], [] => True
  | (k, v) :: es, (x, ss) :: l => EV prog w K sc n ρ k (.str x) ∧ EVL prog w K sc n ρ v (ss.map .str) ∧ EntOk prog w K sc n ρ es l
  | _, _ => False
theorem pairs_ok {env : Env} {A : Around} {U : Addr → Prop} {pos : Pos} {m : Nat} (hs : env.scope = sc) (rm : Rm n A) : ∀ (es : List (Expr × Expr)) (l : List (Str × List Str)) (s : Shared), EntOk prog w K sc n ρ es l → EOK K U env ρ s → m ≤ s.heap.objs.size →
    wpAny (model prog w) A (evalPairs (es.map fun e => (eval e.1 env, do let x ← eval e.2 env; standAt pos; pure x))) (fun vs s' => Gr s s' ∧ ∃ kvs, Carries (PySem.strKind prog w) vs kvs ∧ ListsB m s'.heap kvs l ∧ kvs.map (·.1) = l.map (·.1)) (fun _ _ => False) s
  | [], [], s, _, ok, hm => evalPairs_nil ⟨Gr.refl s, [], trivial, trivial, rfl⟩
  | [], _ :: _, s, x, _, _ => x.elim
  | _ :: _, [], s, x, _, _ => x.elim
  | (k, v) :: es, (x, ss) :: l, s, hz35, ok, hm => by
    obtain ⟨hk, hv, hr⟩ := hz35
    refine evalPairs_cons (wp_E (hk env A U s hs rm ok) fun kv s₁ hz219 => ?_)
    obtain ⟨g₁, t, e⟩ := hz219
    subst e
    refine wpAny_bind (wp_E (hv env A U s₁ hs rm (ok.gr g₁)) fun vv s₂ ⟨g₂, a, vs, e, ha, hp, r⟩ => wpAny_bind (wpAny_standAt (wpAny_pure ?_)))
    subst e
    have ok2 := (ok.gr g₁).gr g₂
    have hm2 : m ≤ s₁.heap.objs.size := Nat.le_trans hm g₁.sz
    refine wp_E (pairs_ok hs rm es l s₂ hr ok2 (Nat.le_trans hm2 g₂.sz)) fun ps s₃ hz220 => ?_
    obtain ⟨g₃, kvs, hc, hl, hkeys⟩ := hz220
    refine ⟨(g₁.trans g₂).trans g₃, (x, .ref a) :: kvs, ⟨strKind_is _ _ _ _, rfl, hc⟩, ⟨rfl, ⟨a, vs, rfl, Nat.le_trans hm2 ha, ?_, rl_strs r⟩, hl⟩, by rw [List.map_cons, List.map_cons, hkeys]⟩
    obtain ⟨k0, hp⟩ := hp
    exact ⟨k0, g₃.keep _ _ hp⟩
theorem stored_new {kvs : List (Str × Value)} {k : Str} {v : Value} (h : k ∉ kvs.map (·.1)) : stored kvs k v = kvs ++ [(k, v)] := by
  unfold stored
  rw [if_neg]
  intro h'
  obtain ⟨p, hp, e⟩ := List.any_eq_true.mp h'
  have e : p.1 = k := of_decide_eq_true e
  exact h (e ▸ List.mem_map_of_mem (f := (·.1)) hp)
theorem merged_app : ∀ (more kvs : List (Str × Value)), ((kvs ++ more).map (·.1)).Nodup → merged kvs more = kvs ++ more
  | [], kvs, _ => by simp [merged]
  | (k, v) :: more, kvs, h => by
    have h1 : k ∉ kvs.map (·.1) := fun hk => by
      rw [List.map_append, List.nodup_append] at h
      exact h.2.2 k hk k (by simp) rfl
    have := merged_app more (kvs ++ [(k, v)]) (by simpa using h)
    unfold merged at this ⊢
    rw [List.foldl_cons, stored_new h1, this]
    simp
theorem ev_dict {keys : List (Option Expr)} {values : List Expr} {pos : Pos} {es : List (Expr × Expr)} {l : List (Str × List Str)} (hshape : ∀ env, (evalEachOpt keys env).zip ((evalEach values env).map fun v => do let x ← v; standAt pos; pure x) = (es.map fun e => (eval e.1 env, do let x ← eval e.2 env; standAt pos; pure x)).map fun p => (some p.1, p.2))
    (h0 : es ≠ []) (hlen : es.length ≤ 15) (he : EntOk prog w K sc n ρ es l) (hn : (l.map (·.1)).Nodup) : EV prog w K sc n ρ (.Dict keys values pos) (.obj (PD prog w l)) := fun env A U s hs rm ok => by
  refine wpAny_Dict_pairs (knd := PySem.strKind prog w) (pairs := es.map fun e => (eval e.1 env, do let x ← eval e.2 env; standAt pos; pure x)) (hshape env) (by simpa using h0) (by simpa using hlen) ?_
  have g0 : Gr s { s with heap := s.heap.push { cls := .type "dict", data := .dict #[] } } := Gr.push
  have ok0 := ok.gr g0
  have hsz : ({ s with heap := s.heap.push { cls := .type "dict", data := .dict #[] } } : Shared).heap.objs.size = s.heap.objs.size + 1 := Heap.size_push ..
  refine wpAny_mono (pairs_ok (m := s.heap.objs.size + 1) hs rm es l _ he ok0 (by rw [hsz]; exact Nat.le_refl _)) (fun vs s₁ hz221 => ?_) fun _ _ q => q.elim
  obtain ⟨g₁, kvs, hc, hl, hkeys⟩ := hz221
  have hd0 : s₁.heap.get? s.heap.objs.size = some { cls := .type "dict", data := .dict #[] } := g₁.keep _ _ (Heap.get?_push_size _ rfl)
  refine ⟨kvs, hc, ?_, fun h' hd sb => ?_⟩
  · obtain ⟨o, es', a, b⟩ := empty_at (prog := prog) (w := w) hd0
    exact ⟨o, es', 0, a, b⟩
  · have hm : merged [] kvs = kvs := by
      have := merged_app kvs [] (by simpa [hkeys] using hn)
      simpa using this
    rw [hm] at hd
    have hsm : (s.heap.objs.size == sysModules) = false := beq_eq_false_iff_ne.mpr fun e => by
      have := two_lt ok.toHOK
      rw [e] at this
      exact absurd this (by decide)
    have hl' : ListsB (s.heap.objs.size + 1) h' kvs l := hl.mono (Nat.le_refl _) fun b o hb e => sb.extBut b o (Nat.ne_of_gt hb) e
    refine ⟨?_, fun h'' kp => ⟨_, kvs, rfl, hsm, ?_, ?_⟩⟩
    · have g := g0.trans g₁
      obtain ⟨⟨h₁, t₁, e₁, k⟩, le, z⟩ := g
      subst e₁
      exact Gr.of (s := s) (fun b o e => sb.extBut b o (Nat.ne_of_lt (Heap.lt_size e)) (k b o e)) (Nat.le_trans le (Nat.le_add_right _ _)) (by rw [sb.1]; exact z)
    · obtain ⟨o, es', ep, ho, r⟩ := hd
      exact ⟨o, es', ep, kp _ _ (ok.not_fresh (Nat.le_refl _)) ho, r⟩
    · exact hl'.mono (Nat.zero_le _) fun b o hb e => kp b o (ok.not_fresh (Nat.le_of_succ_le hb)) e
theorem each_opt (env : Env) : ∀ ks : List Expr, evalEachOpt (ks.map some) env = ks.map fun k => some (eval k env)
  | [] => rfl
  | k :: ks => by
    show some (eval k env) :: evalEachOpt (ks.map some) env = some (eval k env) :: ks.map fun k => some (eval k env)
    rw [each_opt env ks]
theorem each_val (env : Env) : ∀ vs : List Expr, evalEach vs env = vs.map fun v => eval v env
  | [] => by rw [evalEach]; rfl
  | v :: vs => by rw [evalEach, each_val env vs]; rfl
theorem zip_shape (env : Env) (pos : Pos) : ∀ ks vs : List Expr, (ks.map fun k => some (eval k env)).zip ((vs.map fun v => eval v env).map fun v => do let x ← v; standAt pos; pure x) = ((ks.zip vs).map fun e => (eval e.1 env, do let x ← eval e.2 env; standAt pos; pure x)).map fun p => (some p.1, p.2)
  | [], _ => rfl
  | _ :: _, [] => rfl
  | k :: ks, v :: vs => by
    rw [List.map_cons, List.map_cons, List.map_cons, List.zip_cons_cons, zip_shape env pos ks vs]; rfl
theorem ev_dict2 {keys : List (Option Expr)} {values : List Expr} {pos : Pos} {l : List (Str × List Str)} (hk : keys = (keys.filterMap id).map some) (h0 : (keys.filterMap id).zip values ≠ []) (hlen : ((keys.filterMap id).zip values).length ≤ 15) (he : EntOk prog w K sc n ρ ((keys.filterMap id).zip values) l) (hn : (l.map (·.1)).Nodup) : EV prog w K sc n ρ (.Dict keys values pos) (.obj (PD prog w l)) := by
  refine ev_dict (es := (keys.filterMap id).zip values) (fun env => ?_) h0 hlen he hn
  conv => lhs; rw [hk, each_opt, each_val, zip_shape]
theorem valueAt_lists {m : Nat} {h : Heap} {x : Str} : ∀ {kvs : List (Str × Value)} {l : List (Str × List Str)}, ListsB m h kvs l → (valueAt kvs x).isSome = l.any (fun p => decide (p.1 = x)) ∧ ∀ ss, l.find? (fun p => decide (p.1 = x)) = some (x, ss) → ∃ a vs, valueAt kvs x = some (.ref a) ∧ h.PlainList a (List.toArray vs) ∧ RL (fun _ => False) h vs (ss.map .str)
  | [], [], _ => ⟨rfl, fun ss h => by cases h⟩
  | [], _ :: _, y => y.elim
  | _ :: _, [], y => y.elim
  | (k, v) :: kvs, (k', ss') :: l, hz36 => by
    obtain ⟨e, ⟨a, vs, e1, _, hp, r⟩, y⟩ := hz36
    subst e e1
    obtain ⟨i1, i2⟩ := valueAt_lists y
    have hv : valueAt ((k, Value.ref a) :: kvs) x = if k = x then some (.ref a) else valueAt kvs x := by
      unfold valueAt
      rw [List.find?_cons]
      by_cases hk : k = x
      · rw [if_pos hk]; simp [hk]
      · rw [if_neg hk]; simp [hk]
    rw [hv]
    by_cases hk : k = x
    · rw [if_pos hk]
      refine ⟨by simp [hk], fun ss h => ?_⟩
      rw [List.find?_cons] at h
      simp [hk] at h
      obtain rfl := h
      exact ⟨a, vs, rfl, hp, r⟩
    · rw [if_neg hk]
      refine ⟨by rw [i1]; simp [hk], fun ss h => i2 ss ?_⟩
      rw [List.find?_cons] at h
      simpa [hk] using h
theorem cInDict {l : List (Str × List Str)} {x : Str} : CmpG prog w K .In n (.str x) (.obj (PD prog w l)) (l.any fun p => decide (p.1 = x)) := fun A U s a b rm ok hz223 r => by
  obtain ⟨t, e⟩ := hz223
  subst e
  obtain ⟨d, kvs, rfl, hsm, hd, hl⟩ := r s.heap fun _ _ _ e => e
  refine wpAny_in_of (strKind_is prog w x t) hsm hd.mapOf ⟨Gr.toks, ?_⟩
  rw [(valueAt_lists hl).1]
theorem wipe (U : Addr → Prop) (h : Heap) : ∃ h' : Heap, ∀ b o, h'.get? b = some o ↔ (¬ U b ∧ h.get? b = some o) := by
  classical
  refine ⟨{ h with objs := h.objs.mapIdx fun i o => if U i then { cls := .none, data := .freed } else o }, fun b o => ?_⟩
  have key : ∀ H : Heap, H.objs[b]? = (h.objs[b]?).map (fun o => if U b then { cls := .none, data := .freed } else o) → (H.get? b = some o ↔ (¬ U b ∧ h.get? b = some o)) := fun H e1 => by
    unfold Heap.get?
    rw [e1]
    by_cases hu : U b
    · rw [show (fun o : Obj => if U b then ({ cls := .none, data := .freed } : Obj) else o) = fun _ => { cls := .none, data := .freed } from funext fun o => if_pos hu]
      cases h.objs[b]? with
      | none => exact ⟨fun z => (by cases z), fun z => absurd hu z.1⟩
      | some o' => exact ⟨fun z => (by cases z), fun z => absurd hu z.1⟩
    · rw [show (fun o : Obj => if U b then ({ cls := .none, data := .freed } : Obj) else o) = fun o => o from funext fun o => if_neg hu, Option.map_id']
      exact ⟨fun z => ⟨hu, z⟩, fun z => z.2⟩
  exact key _ Array.getElem?_mapIdx
theorem gDict {l : List (Str × List Str)} {x : Str} {ss : List Str} (hf : l.find? (fun p => decide (p.1 = x)) = some (x, ss)) : SubG prog w K n (.obj (PD prog w l)) (.str x) (.lst (ss.map .str)) := fun A U s a b rm ok r hz224 => by
  obtain ⟨t, e⟩ := hz224
  subst e
  obtain ⟨h', hw⟩ := wipe U s.heap
  obtain ⟨d, kvs, rfl, hsm, hd, hl⟩ := r h' fun b o nu e => (hw b o).mpr ⟨nu, e⟩
  obtain ⟨a, vs, hv, ⟨k, hp⟩, rl⟩ := (valueAt_lists hl).2 ss hf
  have hd' : s.heap.DictOf (PySem.strKind prog w) d kvs := by
    obtain ⟨o, es, ep, ho, z⟩ := hd
    exact ⟨o, es, ep, ((hw _ _).mp ho).2, z⟩
  obtain ⟨hu, hp'⟩ := (hw _ _).mp hp
  exact wpAny_getItem_of (strKind_is prog w x t) hd'.mapOf hv ⟨Gr.toks, a, vs, rfl, hu, ⟨k, hp'⟩, rl.scal (strs_scal ss)⟩
theorem obj_dict {l : List (Str × List Str)} {U : Addr → Prop} {s : Shared} {v : Value} (r : R U s.heap v (.obj (PD prog w l))) : s.TypeIs v "dict" := by
  obtain ⟨d, kvs, rfl, hsm, hd, hl⟩ := r s.heap fun _ _ _ e => e
  exact hd.typeIs
end
end Lw
end

section
open PySem PySem.W PyProof.Rows PySem.Calls PySem.SeqAt
namespace Lw
section
variable {bx : Fl} {sc scope sc' : Scope} {n : Nat} {ρ : Vars} {ω : Owns} {P : Out → Prop}
theorem ex_freezeIn {ss : List Stmt} {g q : Addr} {pre ds : List D} {ω' : Owns} (hg : ω.lookup g = some (.lst (pre ++ [.val (.ref q)]))) (hq : ω.lookup q = some (.lst ds)) (hn : q ∉ bx.ks) (ho : SubO ω' ω) (hd : ω'.lookup q = none) (hgo : (ω'.lookup g).isSome = true)
    (h : EX prog w K bx sc n ss ρ ((g, .lst (pre ++ [.lst ds])) :: ω') P) : EX prog w K bx sc n ss ρ ω P := fun X s m cm hi rm x0 => by
  have hgq : g ≠ q := fun e => by rw [e, hd] at hgo; cases hgo
  have x1 : ST0 K X ρ ω' m cm s := x0.subO (Sub.refl ρ) ho
  have hfree : ¬ Wn X ω' q := x0.free hi (by rw [hq]; rfl) hn hd
  obtain ⟨vs, pl, rl⟩ := x0.own g _ hg
  obtain ⟨us, plq, rlq⟩ := x0.own q _ hq
  have hw : ∀ a, Wn X ω' a → Wn X ω a := fun a q => q.imp id (Or.imp ho.some id)
  have rl' : RL (Wn X ω') s.heap vs (pre ++ [.lst ds]) := by
    have split : ∀ (pre : List D) (vs : List Value), RL (Wn X ω) s.heap vs (pre ++ [.val (.ref q)]) → RL (Wn X ω') s.heap vs (pre ++ [.lst ds]) := by
      intro pre
      induction pre with
      | nil =>
        rintro vs ⟨v, vs', e, r, e'⟩
        have r' : v = .ref q := r
        subst r'
        exact ⟨_, vs', e, ⟨q, us, rfl, hfree, plq, RL.mono (fun a z => .inl (hw a z)) (fun _ _ _ e => e) _ rlq⟩, e'⟩
      | cons d pre ih =>
        rintro vs ⟨v, vs', e, r, rl⟩
        exact ⟨v, vs', e, R.mono (fun a z => .inl (hw a z)) (fun _ _ _ e => e) _ r, ih vs' rl⟩
    exact split pre vs rl
  have hgs : ω'.lookup g = some (.lst (pre ++ [.val (.ref q)])) := by
    obtain ⟨o, e⟩ := Option.isSome_iff_exists.mp hgo
    have := ho g o e
    rw [hg] at this
    rw [e, ← this]
  have x2 : ST0 K X ρ ((g, .lst (pre ++ [.lst ds])) :: ω') m cm s := x1.swap hgs ⟨vs, pl, rl'⟩
  have hk : ∀ b, ((((g, Ow.lst (pre ++ [.lst ds])) :: ω' : Owns)).lookup b).isSome = true ↔ (ω'.lookup b).isSome = true := fun b => cons_keys hgo
  have cv : ∀ {ω₂ : Owns} {s' : Shared}, Stp X ((g, Ow.lst (pre ++ [.lst ds])) :: ω') s ω₂ s' → Stp X ω s ω₂ s' := fun {ω₂ s'} st => ⟨fun b o a n c e => st.kp b o a (by
    cases z : (((g, Ow.lst (pre ++ [.lst ds])) :: ω' : Owns).lookup b).isSome with
    | false => rfl
    | true => rw [ho.some ((hk b).mp z)] at n; cases n) c e, fun a z => (st.org a z).imp (fun z => ho.some ((hk a).mp z)) id, st.sz, st.tk⟩
  refine wpAny_mono (h X s m cm hi rm x2) (fun fl s' ⟨o, p, e⟩ => ⟨o, p, ?_⟩) fun e s' ⟨o, p, y⟩ => ⟨o, p, ?_⟩
  · cases o with
    | next _ _ => exact ⟨e.1, e.2.1, cv e.2.2⟩
    | brk _ _ => exact ⟨e.1, e.2.1, cv e.2.2⟩
    | ret _ _ => obtain ⟨v, a, ⟨b, c⟩, d⟩ := e; exact ⟨v, a, ⟨b, cv c⟩, d⟩
    | exc _ _ _ => exact e.elim
  · cases o with
    | exc _ _ _ => obtain ⟨⟨b, c⟩, d⟩ := y; exact ⟨⟨b, cv c⟩, d⟩
    | _ => exact y.elim
end
end Lw
end

section
open PySem PySem.W PyProof.Rows PySem.Calls PySem.SeqAt Builtin
namespace Lw
open AutoSeq1 (wpAny_loadPart')
section
variable {prog : Program} {w : World} {A : Around} {E : Value → Shared → Prop} {s : Shared}
theorem tnext_item {it t : Addr} {i : Nat} {items : Array Value} {x : Value} {Q : Value → Shared → Prop} (hit : s.heap.IsTupleIter it t i) (ht : s.heap.IsTuple t items) (hx : items[i]? = some x)
    (hQ : ∀ h', h'.IsTupleIter it t (i + 1) → Heap.SameBut it s.heap h' → Q x { s with heap := h' }) : wpAny (model prog w) A (Builtin.SmallTypes.nextOf (.ref it)) Q E s := by
  obtain ⟨o, ho, hc, hd⟩ := id hit
  obtain ⟨ol, hol, _, nl, hdl⟩ := ht
  unfold Builtin.SmallTypes.nextOf
  refine wpAny_bind (wpAny_callSpecial?_slot (name := Str.ofString "__next__") hit.typeIs PySem.F.slot_tuple_iterator_next
    (wpAny_call_entry PySem.F.slot_tuple_iterator_next hit.typeIs PySem.F.entry_tuple_iterator_next ?_ (PySem.F.args_tuple_iterator_next_1 _)))
  show wpAny _ _ (field (.ref it) 0 >>= _) _ _ s
  refine wpAny_bind (wpAny_field ho hd (x := .ref t) rfl ?_)
  show wpAny _ _ (if (Value.ref t == Value.none) = true then _ else _) _ _ s
  rw [if_neg (show ¬ ((Value.ref t == Value.none) = true) from Bool.false_ne_true)]
  show wpAny _ _ (field (.ref it) 1 >>= _) _ _ s
  refine wpAny_bind (wpAny_field ho hd (x := .int i 0) rfl ?_)
  show wpAny _ _ (seqItems? (.ref t) >>= _) _ _ s
  refine wpAny_bind (wpAny_seqItems hol hdl ?_)
  show wpAny _ _ (match items[((i : Int)).toNat]? with | some x => _ | none => _) _ _ _
  rw [show ((i : Int)).toNat = i from Int.toNat_natCast i, hx]
  refine wpAny_bind (wpAny_setField ho hd (by simp) (wpAny_pure ⟨x, rfl, wpAny_pure (hQ _ ?_ (Heap.SameBut.update ..))⟩))
  exact ⟨_, Heap.get?_update_self _ ho (Obj.isFreed_of_fields (Obj.data_mapFields hd _)), (Obj.cls_mapFields ..).trans hc, by rw [Obj.data_mapFields hd]; simp [rawInt]⟩
theorem tnext_end {it t : Addr} {i : Nat} {items : Array Value} {Q : Value → Shared → Prop} (hh : A.handled = none) (hit : s.heap.IsTupleIter it t i) (ht : s.heap.IsTuple t items) (hx : items[i]? = none)
    (hE : ∀ h' e, Heap.ExtBut it s.heap h' → (∃ o, h'.get? e = some o ∧ o.cls = .type "StopIteration") → E (.ref e) { s with heap := h' }) : wpAny (model prog w) A (Builtin.SmallTypes.nextOf (.ref it)) Q E s := by
  obtain ⟨o, ho, hc, hd⟩ := id hit
  obtain ⟨ol, hol, _, nl, hdl⟩ := ht
  unfold Builtin.SmallTypes.nextOf
  refine wpAny_bind (wpAny_callSpecial?_slot (name := Str.ofString "__next__") hit.typeIs PySem.F.slot_tuple_iterator_next
    (wpAny_call_entry PySem.F.slot_tuple_iterator_next hit.typeIs PySem.F.entry_tuple_iterator_next ?_ (PySem.F.args_tuple_iterator_next_1 _)))
  show wpAny _ _ (field (.ref it) 0 >>= _) _ _ s
  refine wpAny_bind (wpAny_field ho hd (x := .ref t) rfl ?_)
  show wpAny _ _ (if (Value.ref t == Value.none) = true then _ else _) _ _ s
  rw [if_neg (show ¬ ((Value.ref t == Value.none) = true) from Bool.false_ne_true)]
  show wpAny _ _ (field (.ref it) 1 >>= _) _ _ s
  refine wpAny_bind (wpAny_field ho hd (x := .int i 0) rfl ?_)
  show wpAny _ _ (seqItems? (.ref t) >>= _) _ _ s
  refine wpAny_bind (wpAny_seqItems hol hdl ?_)
  show wpAny _ _ (match items[((i : Int)).toNat]? with | some x => _ | none => _) _ _ _
  rw [show ((i : Int)).toNat = i from Int.toNat_natCast i, hx]
  refine wpAny_bind (wpAny_rule (wpAny_bind (wpAny_setField ho hd (by simp) ?_)))
  show wpAny _ _ (newExc (.type "StopIteration") [] >>= _) _ _ _
  refine wpAny_bind ?_
  simp only [newExc, newTuple]
  refine wpAny_bind (wpAny_newObj_type ?_ (by size_fits))
  refine wpAny_bind (m := firstArgMember _ _) (wpAny_of_eq (a := Value.none) (by first | rfl | (simp only [firstArgMember]; rfl)) ?_)
  refine wpAny_newObj_type ?_ (by size_fits)
  unfold raiseNew
  refine wpAny_bind (wpAny_handled ?_)
  first | rw [show A.in1.handled = none from hh] | rw [hh]
  refine wpAny_bind (wpAny_pure (wpAny_throw ?_))
  exact hE _ _ (((Heap.SameBut.update ..).extBut.push _).push _) ⟨_, Heap.get?_push_size _ rfl, rfl⟩
theorem Draws_tuple {prog : Program} {w : World} {A : Around} (hh : A.handled = none) (it l : Addr) (hne : l ≠ it) (items : Array Value) :
    Draws prog w A it [it, l] items.size (fun i v => items[i]? = some v) (fun i h => h.IsTupleIter it l i ∧ h.IsTuple l items) where
  live := fun _ _ st => let ⟨o, ho, _⟩ := st.1; ⟨o, ho⟩
  frame := fun _ _ _ st hk => ⟨st.1.at fun o e => hk it (by simp) o e, st.2.at fun o e => hk l (by simp) o e⟩
  item := fun i s Q E hi st hQ => by
    refine tnext_item st.1 st.2 (x := items[i]) (by simp [hi]) fun h' hit' hs' => ?_
    exact hQ _ h' s.toks (by simp [hi]) ⟨hit', st.2.extBut hs'.extBut hne⟩ hs'
  done := fun s Q E st hE => tnext_end hh st.1 st.2 (by simp) hE
theorem stack_pure {M : Model} {A : Around} {E : Value → Shared → Prop} {s : Shared} {f : List (Code × Pos) → Bool} {G : Bool → Shared → Prop} (h : ∀ b, G b s) : wpAny M A stack (fun a s' => wpAny M A (pure (f a)) G E s') E s := wpAny_stack_any fun st => wpAny_pure (h _)
theorem meets_enumT (l : Addr) (items : Array Value) (n : Nat) (dct : Option Addr) (sl : Array (Option Value)) :
    Meets (Builtin.«enumerate.__new__» ⟨[.type "enumerate", .ref l], []⟩) (fun _ R s => s.heap.get? l = some { cls := .type "tuple", dict := dct, data := .seq items n, slots := sl } ∧
      R (.ok (.ret (.ref (s.heap.push { cls := .type "tuple_iterator", data := .fields #[.ref l, .int 0 0] }).objs.size)))
        { s with heap := (s.heap.push { cls := .type "tuple_iterator", data := .fields #[.ref l, .int 0 0] }).push { cls := .type "enumerate", data := .fields #[.none, .bool false, .ref s.heap.objs.size, rawInt 0, .none, .none] } }) :=
  .of_wp fun prog w A R s h => by
    obtain ⟨hp, g, d, tk, os⟩ := s; obtain ⟨hl, h⟩ := h
    have hsub := sub_enumerate
    have hL : Heap.IsTuple (Shared.heap ⟨hp, g, d, tk, os⟩) l items := ⟨_, hl, rfl, n, rfl⟩
    wp_walk using wpAny_loadPart' hl
    refine stack_pure fun b => ?_
    cases b <;> (wp_walk using wpAny_loadPart' hl, wpAny_pyIter_tuple hL; exact ⟨_, rfl, h⟩)
theorem call_enumT {l : Addr} {items : Array Value} {Q : Value → Shared → Prop} (hL : s.heap.IsTuple l items)
    (h : ∀ h', IsEnum h' (s.heap.objs.size + 1) s.heap.objs.size 0 .none → h'.IsTupleIter s.heap.objs.size l 0 → h'.objs.size = s.heap.objs.size + 2 →
      (∀ b o, s.heap.get? b = some o → h'.get? b = some o) → Q (.ref (s.heap.objs.size + 1)) { s with heap := h' }) : wpAny (model prog w) A (call (.type "enumerate") [.ref l]) Q E s := by
  obtain ⟨⟨c, dct, dt, sl⟩, hl, hc, n, hd⟩ := hL
  replace hc : c = .type "tuple" := hc
  replace hd : dt = .seq items n := hd
  subst hc hd
  refine callType_new PySem.F.called_enumerate (by decide) (PySem.F.typeCall_enumerate_1 _) (PySem.F.newCall_enumerate_1 _) (fun obj => PySem.F.args_object_init_2 obj _) PySem.F.entry_enumerate_new
    (meets_enumT l items n dct sl) ⟨hl, ?_⟩
  have hz : (s.heap.push { cls := .type "tuple_iterator", data := .fields #[.ref l, .int 0 0] }).objs.size = s.heap.objs.size + 1 := Heap.size_push ..
  show _ ∧ _
  rw [hz]
  have he : IsEnum ((s.heap.push { cls := .type "tuple_iterator", data := .fields #[.ref l, .int 0 0] }).push
      { cls := .type "enumerate", data := .fields #[.none, .bool false, .ref s.heap.objs.size, rawInt 0, .none, .none] }) (s.heap.objs.size + 1) s.heap.objs.size 0 .none := by
    have := Heap.get?_push_size (s.heap.push { cls := .type "tuple_iterator", data := .fields #[.ref l, .int 0 0] })
      (o := { cls := .type "enumerate", data := .fields #[.none, .bool false, .ref s.heap.objs.size, rawInt 0, .none, .none] }) rfl
    rw [hz] at this; exact this
  refine ⟨⟨_, he, rfl⟩, h _ he ⟨_, Heap.get?_push_of_some _ (Heap.get?_push_size _ rfl), rfl, rfl⟩ (by rw [Heap.size_push, hz]) fun b o x => Heap.get?_push_of_some _ (Heap.get?_push_of_some _ x)⟩
end
theorem enumT {n : Nat} {elts : List Expr} {k : Nat} {p : Pos} {its : List D} : CallI prog w K (.type "enumerate") n [.tup its] (.Tuple elts k p) (numbered its) := fun A U s vs rm ok rl => by
  obtain ⟨v, vs', rfl, ⟨l, xs, rfl, hu, hl, rx⟩, r⟩ := rl
  cases r
  refine call_enumT hl fun h' he hit hsz hk => ?_
  have hal : l < s.heap.objs.size := by obtain ⟨o, e, _⟩ := hl; exact Heap.lt_size e
  have g : Gr s { s with heap := h' } := Gr.of (t := s.toks) hk (Nat.le_refl _) (by rw [hsz]; lia)
  have W := WalksT.enumerateD (prog := prog) (w := w) (Draws_tuple (A := A.in1) rm.hd s.heap.objs.size l (Nat.ne_of_lt hal) (List.toArray xs)) (s.heap.objs.size + 1) (Nat.ne_of_gt (Nat.lt_succ_self _))
    (fun h => by
      rcases List.mem_cons.mp h with h | h
      · exact absurd h (Nat.ne_of_gt (Nat.lt_succ_self _))
      · exact absurd (List.mem_singleton.mp h) (Nat.ne_of_gt (Nat.lt_succ_of_lt hal))) List.mem_cons_self
  have hlen : (List.toArray xs).size = (numbered its).length := by simp [numbered, rx.length]
  rw [hlen] at W
  have st : (∃ old, IsEnum h' (s.heap.objs.size + 1) s.heap.objs.size ((0 : Nat) : Int) old) ∧ h'.IsTupleIter s.heap.objs.size l 0 ∧ h'.IsTuple l (List.toArray xs) := ⟨⟨_, he⟩, hit, hl.at fun o e => hk l o e⟩
  refine W.self 0 { s with heap := h' } _ _ st ⟨g, _, _, _, _, _, _, rfl, KTurns.ofWalksU W.toU, st, fun b hb => ?_, fun b hb hbw => ?_, fun s Q E st hQ => W.self 0 s Q E st hQ, fun i v h₁ U' hP hk₁ hU' => ?_⟩
  · show s.heap.objs.size ≤ b ∧ b < h'.objs.size
    rw [hsz]
    rcases List.mem_cons.mp hb with rfl | hb
    · exact ⟨Nat.le_succ _, Nat.lt_succ_self _⟩
    · rw [List.mem_singleton.mp hb]
      exact ⟨Nat.le_refl _, Nat.lt_of_lt_of_le (Nat.lt_succ_self _) (Nat.le_succ _)⟩
  · have : b = l := by
      rcases List.mem_cons.mp hb with rfl | hb
      · exact absurd List.mem_cons_self hbw
      · rcases List.mem_cons.mp hb with rfl | hb
        · exact absurd (List.mem_cons_of_mem _ List.mem_cons_self) hbw
        · exact List.mem_singleton.mp hb
    subst this
    exact ⟨hu, Nat.lt_of_lt_of_le hal g.sz⟩
  · obtain ⟨T, vals, rfl, ⟨t, x, hx, rfl⟩, hT⟩ := hP
    have hx' : xs[i]? = some x := by simpa using hx
    have hi : i < its.length := by
      have := (List.getElem?_eq_some_iff.mp hx').1
      rw [rx.length] at this; exact this
    obtain ⟨v', e', r⟩ := rx.get (List.getElem?_eq_getElem hi)
    rw [hx'] at e'
    cases e'
    refine ⟨_, numbered_get (List.getElem?_eq_getElem hi), _, T, [.int i t, x], rfl, rfl, hT, ⟨_, _, rfl, ⟨t, rfl⟩, RL.one (R.mono (fun b q => ?_) (fun b o q e => hk₁ b o q (fun z => ?_) (hk b o e)) _ r)⟩⟩
    · rcases hU' b q with q | q | q
      · exact .inl q
      · right
        rcases List.mem_cons.mp q with rfl | q
        · exact fresh_none' (Nat.le_succ _)
        · rw [List.mem_singleton.mp q]; exact fresh_none _
      · right
        cases e : s.heap.get? b with
        | none => rfl
        | some o =>
          have q' : h'.get? b = none := q
          rw [hk b o e] at q'; cases q'
    · have hb := Heap.lt_size e
      rcases List.mem_cons.mp z with rfl | z
      · exact absurd hb (Nat.not_lt.mpr (Nat.le_succ _))
      · rw [List.mem_singleton.mp z] at hb; exact absurd hb (Nat.lt_irrefl _)
theorem pickD_map {α : Type} (f : α → D) (l : List α) (i j k : Option Int) : ∃ l' : List α, pickD (l.map f) i j k = l'.map f ∧ ∀ x ∈ l', x ∈ l := by
  unfold pickD
  generalize sliceRange _ _ _ = js
  refine ⟨js.filterMap (l[·]?), ?_, fun x hx => ?_⟩
  · rw [List.map_filterMap]
    congr 1
    funext j
    rw [List.getElem?_map]
  · obtain ⟨j, _, e⟩ := List.mem_filterMap.mp hx
    exact List.mem_of_getElem? e
end Lw
end

section
open PySem PySem.W PyProof.Rows PySem.Calls PySem.SeqAt Builtin
namespace Lw
section
variable {sc : Scope} {n : Nat} {ρ : Vars}
theorem et_int {e : Expr} {i : Int} (h : EV prog w K sc n ρ e (.int i)) (he : ∀ env whole, isTrue e env whole = (do let v ← whole; standAt e.pos; holding [v] (truthy v))) : ET prog w K sc n ρ e (i != 0) := fun env A U s hs rm ok =>
  isTrue_plain (wpAny_mono (h env A U s hs rm ok) (fun v s' hz227 => by obtain ⟨g, t, r⟩ := hz227; subst r; exact PySem.P.truthy_int ⟨g, rfl⟩) fun _ _ x => x) (he _ _)
theorem seq_at {k m : Nat} (h : k < m) : seqIndex? (k : Int) m = some k := by
  unfold seqIndex?
  have : ¬ ((k : Int) < 0) := by lia
  simp only [this, if_false]
  rw [if_pos (by simp; lia)]
  simp
end
theorem fmod_nat (a : Int) {k : Nat} (h : 0 < k) : ∃ m : Nat, a.fmod (k : Int) = (m : Int) ∧ m < k := by
  have h1 : 0 ≤ a.fmod (k : Int) := by
    rw [Int.fmod_eq_emod_of_nonneg _ (by lia)]; exact Int.emod_nonneg _ (by lia)
  have h2 := Int.fmod_lt_of_pos a (show (0 : Int) < (k : Int) by lia)
  exact ⟨(a.fmod k).toNat, by lia, by lia⟩
end Lw
end

section
open PySem PySem.W PyProof.Rows PySem.Calls
namespace Lw
noncomputable def subC (c : Nat) (z : List Nat) (l : List Nat) : List Nat := l.flatMap fun k => if k = c then z else [k]
theorem subC_append (c : Nat) (z a b : List Nat) : subC c z (a ++ b) = subC c z a ++ subC c z b := List.flatMap_append
theorem subC_free (c : Nat) (z : List Nat) : ∀ l : List Nat, c ∉ l → subC c z l = l
  | [], _ => rfl
  | k :: r, h => by
    have h1 : ¬ k = c := fun e => h (e ▸ List.mem_cons_self ..)
    have ih := subC_free c z r fun m => h (List.mem_cons_of_mem _ m)
    unfold subC at ih ⊢
    rw [List.flatMap_cons, if_neg h1, ih]; rfl
theorem subC_join (c : Nat) (z : Str) : ∀ parts : List Str, (∀ p ∈ parts, c ∉ p.cps.toList) → subC c z.cps.toList (Str.join ⟨#[c]⟩ parts).cps.toList = (Str.join z parts).cps.toList
  | [], _ => rfl
  | [p], h => subC_free c _ _ (h p (List.mem_singleton.mpr rfl))
  | p :: q :: r, h => by
    have ih := subC_join c z (q :: r) fun a ha => h a (List.mem_cons_of_mem _ ha)
    show subC c z.cps.toList (p ++ ⟨#[c]⟩ ++ Str.join ⟨#[c]⟩ (q :: r)).cps.toList = (p ++ z ++ Str.join z (q :: r)).cps.toList
    simp only [Str.cps_append, Array.toList_append]
    rw [subC_append, subC_append, ih, subC_free c _ _ (h p (List.mem_cons_self ..))]
    have : subC c z.cps.toList (#[c] : Array Nat).toList = z.cps.toList := by
      show subC c z.cps.toList [c] = _
      simp [subC]
    rw [this]
theorem replace_cps (x z : Str) (c : Nat) : (Txt.replace x ⟨#[c]⟩ z).cps.toList = subC c z.cps.toList x.cps.toList := by
  rw [StrLaws.replace_one, ← subC_join c z _ (StrLaws.split_free x c), StrLaws.join_split]
theorem esc_cps (x z : Str) (c : Nat) : (escStep ⟨#[c]⟩ z x).cps.toList = subC c z.cps.toList x.cps.toList := by
  unfold escStep
  rw [StrLaws.found_one]
  by_cases h : c ∈ x.cps.toList
  · rw [decide_eq_true h, if_pos rfl, replace_cps]
  · rw [decide_eq_false h, if_neg Bool.false_ne_true, subC_free c _ _ h]
theorem str_ext {x y : Str} (h : x.cps.toList = y.cps.toList) : x = y := by
  obtain ⟨⟨a⟩⟩ := x
  obtain ⟨⟨b⟩⟩ := y
  have : a = b := h
  rw [this]
theorem join_cps' : ∀ l : List Str, (Str.join "" l).cps.toList = l.flatMap fun s => s.cps.toList
  | [] => rfl
  | [p] => by show p.cps.toList = _; simp
  | p :: q :: r => by
    have ih := join_cps' (q :: r)
    show (p ++ "" ++ Str.join "" (q :: r)).cps.toList = _
    simp only [Str.cps_append, Array.toList_append]
    rw [ih]
    have : ("" : Str).cps.toList = [] := rfl
    rw [this, List.append_nil]; rfl
theorem join_cps (l : List Str) : (Txt.join "" l).cps.toList = l.flatMap fun s => s.cps.toList := by
  rw [← join_cps']
  unfold Txt.join
  rw [StrLaws.glued_eq_join]
end Lw
end

section
open PySem PySem.W PyProof.Rows PySem.Calls PySem.SeqAt
namespace Lw
section
variable {n : Nat}
end
theorem hasD_of {α : Type} [DecidableEq α] {enc : α → D} {k : Nat} (h : ∀ a b, deq k (enc a) (enc b) = some (decide (a = b))) (l : List α) (x : α) : hasD k (l.map enc) (enc x) = decide (x ∈ l) := by
  unfold hasD
  induction l with
  | nil => simp
  | cons a r ih =>
    rw [List.map_cons, List.any_cons, ih, h]
    by_cases h1 : x = a
    · subst h1; simp
    · have h2 : ¬ a = x := fun e => h1 e.symm
      simp [h1, h2]
end Lw
end

section
open PySem PySem.W PyProof.Rows PySem.Calls
namespace Lw
noncomputable abbrev IsZipB (h : Heap) (z TI TO T : Addr) (fb : Bool) : Prop :=
  h.get? z = some { cls := .type "zip", dict := none, data := .fields #[rawInt T, .bool fb, .bool false, .ref TI, .ref TO], slots := #[] }
section
variable {prog : Program} {w : World} {A : Around} {E : Value → Shared → Prop} {s : Shared}
theorem wpAny_alive {M : Model} {a : Addr} {Q : Option Obj → Shared → Prop} (h : Q (s.heap.get? a) s) : wpAny M A (loadIfAlive a) Q E s := fun Γ p _ => h
theorem not_free {z TI TO T : Addr} {fb : Bool} {Q : Bool → Shared → Prop} (hz : IsZipB s.heap z TI TO T fb) (hT : ∃ o, s.heap.get? T = some o)
    (hQ : ∀ h', IsZipB h' z TI TO T true → Heap.SameBut z s.heap h' → Q false { s with heap := h' }) : wpAny (model prog w) A (Builtin.SmallTypes.ownedTupleIsFree (.ref z)) Q E s := by
  unfold Builtin.SmallTypes.ownedTupleIsFree
  refine wpAny_bind (wpAny_field hz rfl (x := rawInt T) rfl ?_)
  show wpAny _ A (loadIfAlive ((T : Int)).toNat >>= _) Q E s
  rw [Int.toNat_natCast]
  refine wpAny_bind (wpAny_alive ?_)
  obtain ⟨o, ho⟩ := hT
  rw [ho]
  show wpAny _ A (field (.ref z) 1 >>= _) Q E s
  refine wpAny_bind (wpAny_field hz rfl (x := .bool fb) rfl ?_)
  cases fb with
  | true =>
    rw [if_neg (by decide)]
    exact wpAny_pure (hQ s.heap hz (Heap.SameBut.refl _ _))
  | false =>
    rw [if_pos (by decide)]
    refine wpAny_bind (wpAny_setField_rec hz (by simp) fun h' hz' hs' => ?_)
    exact wpAny_pure (hQ h' hz' hs')
theorem zip_next_more {z TI TO T i1 i2 l1 l2 : Addr} {k1 k2 : Nat} {xs ys : Array Value} {x y : Value} {fb : Bool} {Q : Value → Shared → Prop} (D : ZipApart z TI TO i1 i2 l1 l2)
    (hz : IsZipB s.heap z TI TO T fb) (hT : ∃ o, s.heap.get? T = some o) (hTI : IsPair s.heap TI (.ref i1) (.ref i2))
    (h1 : s.heap.IsListIter i1 l1 k1) (h2 : s.heap.IsListIter i2 l2 k2) (hl1 : s.heap.IsList l1 xs) (hl2 : s.heap.IsList l2 ys) (hx : xs[k1]? = some x) (hy : ys[k2]? = some y)
    (hQ : ∀ h', IsZipB h' z TI TO T true → h'.IsListIter i1 l1 (k1 + 1) → h'.IsListIter i2 l2 (k2 + 1) → IsPair h' s.heap.objs.size x y → h'.objs.size = s.heap.objs.size + 1 →
      (∀ c o, c ≠ z → c ≠ i1 → c ≠ i2 → s.heap.get? c = some o → h'.get? c = some o) → Q (.ref s.heap.objs.size) { s with heap := h' }) :
    wpAny (model prog w) A (Builtin.«zip.__next__» ⟨[.ref z], []⟩) (fun fin s' => ∃ v, fin = .done (.ret v) ∧ Q v s') E s := by
  show wpAny _ _ (field (.ref z) 2 >>= _) _ _ _
  refine wpAny_bind (wpAny_field hz rfl (x := .bool false) rfl ?_)
  show wpAny _ _ (field (.ref z) 3 >>= _) _ _ _
  refine wpAny_bind (wpAny_field hz rfl (x := .ref TI) rfl ?_)
  refine wpAny_bind (wpAny_seqItems hTI rfl ?_)
  show wpAny _ _ (Builtin.SmallTypes.ownedTupleIsFree (.ref z) >>= _) _ _ _
  refine wpAny_bind ?_
  refine not_free hz hT fun h₁ hz₁ hs₁ => ?_
  rw [if_neg (by decide)]
  simp only [List.forIn_toArray, List.forIn_cons, List.forIn_nil]
  refine wpAny_bind (wpAny_bind (wpAny_bind (wpAny_holding ?_)))
  show wpAny _ _ (Builtin.SmallTypes.nextOf (.ref i1) >>= _) _ _ _
  refine wpAny_bind (wpAny_nextOf_list_item (h1.extBut hs₁.extBut D.i1z) (hl1.extBut hs₁.extBut D.l1z) hx fun h₂ h1₂ hs₂ => wpAny_pure ?_)
  refine wpAny_pure ?_
  refine wpAny_bind (wpAny_bind (wpAny_holding ?_))
  show wpAny _ _ (Builtin.SmallTypes.nextOf (.ref i2) >>= _) _ _ _
  refine wpAny_bind (wpAny_nextOf_list_item ((h2.extBut hs₁.extBut D.i2z).extBut hs₂.extBut D.i12.symm) ((hl2.extBut hs₁.extBut D.l2z).extBut hs₂.extBut D.l2i1) hy fun h₃ h2₃ hs₃ => wpAny_pure ?_)
  refine wpAny_pure (wpAny_pure ?_)
  show wpAny _ _ (newTuple [x, y] >>= _) _ _ _
  refine wpAny_bind (wpAny_newTuple ?_)
  have hsz : h₃.objs.size = s.heap.objs.size := by rw [hs₃.1, hs₂.1, hs₁.1]
  have hz₃ : IsZipB h₃ z TI TO T true := hs₃.extBut _ _ D.i2z.symm (hs₂.extBut _ _ D.i1z.symm hz₁)
  have h1₃ := h1₂.extBut hs₃.extBut D.i12
  have up : ∀ c o, h₃.get? c = some o → (h₃.push { cls := .type "tuple", data := .seq #[x, y] }).get? c = some o := fun c o e => Heap.get?_push_of_some _ e
  have hT₃ : IsPair (h₃.push { cls := .type "tuple", data := .seq #[x, y] }) h₃.objs.size x y := Heap.get?_push_size _ rfl
  refine wpAny_pure ⟨_, rfl, ?_⟩
  show Q (.ref h₃.objs.size) _
  rw [hsz] at hT₃ ⊢
  exact hQ _ (up _ _ hz₃) (h1₃.at fun o e => up _ o e) (h2₃.at fun o e => up _ o e) hT₃ (by rw [Heap.size_push, hsz]) fun c o c1 c2 c3 e => up c o (hs₃.extBut _ _ c3 (hs₂.extBut _ _ c2 (hs₁.extBut _ _ c1 e)))
theorem zip_next_stop {z TI TO T i1 i2 l1 l2 : Addr} {k1 : Nat} {xs : Array Value} {fb : Bool} {Q : Fin → Shared → Prop} (hh : A.handled = none) (D : ZipApart z TI TO i1 i2 l1 l2)
    (hz : IsZipB s.heap z TI TO T fb) (hT : ∃ o, s.heap.get? T = some o) (hTI : IsPair s.heap TI (.ref i1) (.ref i2))
    (h1 : s.heap.IsListIter i1 l1 k1) (hl1 : s.heap.IsList l1 xs) (hx : xs[k1]? = none)
    (hE : ∀ h' e, (∀ c o, c ≠ z → c ≠ i1 → s.heap.get? c = some o → h'.get? c = some o) → (∃ o, h'.get? e = some o ∧ o.cls = .type "StopIteration") → E (.ref e) { s with heap := h' }) :
    wpAny (model prog w) A (Builtin.«zip.__next__» ⟨[.ref z], []⟩) Q E s := by
  show wpAny _ _ (field (.ref z) 2 >>= _) _ _ _
  refine wpAny_bind (wpAny_field hz rfl (x := .bool false) rfl ?_)
  show wpAny _ _ (field (.ref z) 3 >>= _) _ _ _
  refine wpAny_bind (wpAny_field hz rfl (x := .ref TI) rfl ?_)
  refine wpAny_bind (wpAny_seqItems hTI rfl ?_)
  show wpAny _ _ (Builtin.SmallTypes.ownedTupleIsFree (.ref z) >>= _) _ _ _
  refine wpAny_bind ?_
  refine not_free hz hT fun h₁ hz₁ hs₁ => ?_
  rw [if_neg (by decide)]
  simp only [List.forIn_toArray, List.forIn_cons, List.forIn_nil]
  refine wpAny_bind (wpAny_bind (wpAny_bind (wpAny_holding ?_)))
  show wpAny _ _ (Builtin.SmallTypes.nextOf (.ref i1) >>= _) _ _ _
  exact wpAny_bind (wpAny_nextOf_list_end hh (h1.extBut hs₁.extBut D.i1z) (hl1.extBut hs₁.extBut D.l1z) hx fun h₂ e hs₂ he => hE h₂ e (fun c o c1 c2 x => hs₂ _ _ c2 (hs₁.extBut _ _ c1 x)) he)
theorem pyNext_zip_more {z TI TO T i1 i2 l1 l2 : Addr} {k1 k2 : Nat} {xs ys : Array Value} {x y : Value} {fb : Bool} {Q : Option Value → Shared → Prop} (D : ZipApart z TI TO i1 i2 l1 l2)
    (hz : IsZipB s.heap z TI TO T fb) (hT : ∃ o, s.heap.get? T = some o) (hTI : IsPair s.heap TI (.ref i1) (.ref i2))
    (h1 : s.heap.IsListIter i1 l1 k1) (h2 : s.heap.IsListIter i2 l2 k2) (hl1 : s.heap.IsList l1 xs) (hl2 : s.heap.IsList l2 ys) (hx : xs[k1]? = some x) (hy : ys[k2]? = some y)
    (hQ : ∀ h', IsZipB h' z TI TO T true → h'.IsListIter i1 l1 (k1 + 1) → h'.IsListIter i2 l2 (k2 + 1) → IsPair h' s.heap.objs.size x y → h'.objs.size = s.heap.objs.size + 1 →
      (∀ c o, c ≠ z → c ≠ i1 → c ≠ i2 → s.heap.get? c = some o → h'.get? c = some o) → Q (some (.ref s.heap.objs.size)) { s with heap := h' }) :
    wpAny (model prog w) A (pyNext (.ref z)) Q E s := by
  have hTy : s.TypeIs (.ref z) "zip" := ⟨_, hz, rfl⟩
  unfold pyNext
  exact wpAny_bind (wpAny_attempt (wpAny_callSpecial?_slot (name := Str.ofString "__next__") hTy F.slot_zip_next
    (wpAny_call_entry F.slot_zip_next hTy F.entry_zip_next
      (zip_next_more D hz hT hTI h1 h2 hl1 hl2 hx hy fun h' a1 a2 a3 a4 a5 a6 => wpAny_pure (hQ h' a1 a2 a3 a4 a5 a6)) (F.args_zip_next_1 _))))
theorem pyNext_zip_stop {z TI TO T i1 i2 l1 l2 : Addr} {k1 : Nat} {xs : Array Value} {fb : Bool} {Q : Option Value → Shared → Prop} (hh : A.handled = none) (D : ZipApart z TI TO i1 i2 l1 l2)
    (hz : IsZipB s.heap z TI TO T fb) (hT : ∃ o, s.heap.get? T = some o) (hTI : IsPair s.heap TI (.ref i1) (.ref i2))
    (h1 : s.heap.IsListIter i1 l1 k1) (hl1 : s.heap.IsList l1 xs) (hx : xs[k1]? = none)
    (hQ : ∀ h', (∀ c o, c ≠ z → c ≠ i1 → s.heap.get? c = some o → h'.get? c = some o) → Q none { s with heap := h' }) : wpAny (model prog w) A (pyNext (.ref z)) Q E s := by
  have hTy : s.TypeIs (.ref z) "zip" := ⟨_, hz, rfl⟩
  unfold pyNext
  refine wpAny_bind (wpAny_attempt (wpAny_callSpecial?_slot (name := Str.ofString "__next__") hTy F.slot_zip_next
    (wpAny_call_entry F.slot_zip_next hTy F.entry_zip_next (zip_next_stop hh D hz hT hTI h1 hl1 hx fun h' e hk he => ?_) (F.args_zip_next_1 _))))
  obtain ⟨o, ho, hc⟩ := he
  refine wpAny_bind (wpAny_isInstance (T := "StopIteration") (b := true) ⟨o, ho, hc⟩ isSubtype_stop ?_)
  exact wpAny_pure (hQ _ hk)
end
end Lw
end

section
open PySem PySem.W PyProof.Rows PySem.Calls
namespace Lw
theorem zip_no_len : typeLookup (.type "zip") "__len__" = pure none := by rw [typeLookup_type, builtinLookup_eq_fast]; kernel_rfl
theorem zip_no_hint : typeLookup (.type "zip") "__length_hint__" = pure none := by rw [typeLookup_type, builtinLookup_eq_fast]; kernel_rfl
noncomputable def PairsAt (base : Nat) (xs ys : Array Value) (acc : Array Value) (h : Heap) : Prop :=
  ∀ (j : Nat) v, acc[j]? = some v → ∃ T x y, v = .ref T ∧ base ≤ (show Nat from T) ∧ xs[j]? = some x ∧ ys[j]? = some y ∧ IsPair h T x y
structure ZL (base : Nat) (z TI TO i1 i2 l1 l2 : Addr) (xs ys : Array Value) (i : Nat) (acc : Array Value) (h : Heap) : Prop where
  ti : IsPair h TI (.ref i1) (.ref i2)
  z : (i = 0 ∧ IsZip h z TI TO .none ∧ ∃ a b, IsPair h TO a b) ∨ ∃ T fb o, IsZipB h z TI TO T fb ∧ h.get? T = some o ∧ T ≠ z ∧ T ≠ i1 ∧ T ≠ i2
  i1 : h.IsListIter i1 l1 i
  i2 : h.IsListIter i2 l2 i
  l1 : h.IsList l1 xs
  l2 : h.IsList l2 ys
  sz : acc.size = i
  it : PairsAt base xs ys acc h
theorem cls_ne {h : Heap} {a b : Addr} {o o' : Obj} (ha : h.get? a = some o) (hb : h.get? b = some o') {n n' : String} (hc : o.cls = .type n) (hc' : o'.cls = .type n') (hne : n ≠ n') : a ≠ b := fun e => hne (by rw [e, hb] at ha; cases ha; rw [hc] at hc'; cases hc'; rfl)
section
variable {prog : Program} {w : World} {A : Around} {s : Shared} {base : Nat} {z TI TO i1 i2 l1 l2 : Addr} {xs ys : Array Value}
theorem ZL.apart {h : Heap} {i : Nat} {acc : Array Value} (x : ZL base z TI TO i1 i2 l1 l2 xs ys i acc h) {T : Addr} {a b : Value} (hT : IsPair h T a b) : T ≠ z ∧ T ≠ i1 ∧ T ≠ i2 := by
  obtain ⟨o1, e1, c1, _⟩ := x.i1
  obtain ⟨o2, e2, c2, _⟩ := x.i2
  refine ⟨?_, cls_ne hT e1 rfl c1 (by decide), cls_ne hT e2 rfl c2 (by decide)⟩
  rcases x.z with ⟨_, hz, _⟩ | ⟨T', fb, o, hz, _⟩
  · exact cls_ne hT hz rfl rfl (by decide)
  · exact cls_ne hT hz rfl rfl (by decide)
theorem ZL.other {h h' : Heap} {i : Nat} {acc : Array Value} {S : Addr} (x : ZL base z TI TO i1 i2 l1 l2 xs ys i acc h) {oS : Obj} (hS : h.get? S = some oS) (hc : oS.cls = .type "list") (h1 : S ≠ l1) (h2 : S ≠ l2) (k : ∀ b o, b ≠ S → h.get? b = some o → h'.get? b = some o) (hk : ∀ o, h.get? S = some o → ∃ o', h'.get? S = some o') :
    ZL base z TI TO i1 i2 l1 l2 xs ys i acc h' := by
  obtain ⟨o1, e1, c1, d1⟩ := x.i1
  obtain ⟨o2, e2, c2, d2⟩ := x.i2
  have pr : ∀ {T a b}, IsPair h T a b → IsPair h' T a b := fun {T a b} q => k _ _ (cls_ne q hS rfl hc (by decide)) q
  refine ⟨pr x.ti, ?_, ⟨o1, k _ _ (cls_ne e1 hS c1 hc (by decide)) e1, c1, d1⟩, ⟨o2, k _ _ (cls_ne e2 hS c2 hc (by decide)) e2, c2, d2⟩, x.l1.at fun o e => k _ o h1.symm e, x.l2.at fun o e => k _ o h2.symm e, x.sz, fun j v hv => ?_⟩
  · rcases x.z with ⟨h0, hz, a, b, hTO⟩ | ⟨T, fb, o, hz, hT, t1, t2, t3⟩
    · exact .inl ⟨h0, k _ _ (cls_ne hz hS rfl hc (by decide)) hz, a, b, pr hTO⟩
    · by_cases hTS : T = S
      · obtain ⟨o', e'⟩ := hk oS hS
        exact .inr ⟨T, fb, o', k _ _ (cls_ne hz hS rfl hc (by decide)) hz, by rw [hTS]; exact e', t1, t2, t3⟩
      · exact .inr ⟨T, fb, o, k _ _ (cls_ne hz hS rfl hc (by decide)) hz, k _ _ hTS hT, t1, t2, t3⟩
  · obtain ⟨T, a, b, e, hb, ha, hb', hT⟩ := x.it j v hv
    exact ⟨T, a, b, e, hb, ha, hb', pr hT⟩
theorem ZL.next {E : Value → Shared → Prop} {i : Nat} {acc : Array Value} {Q : Option Value → Shared → Prop} (D : ZipApart z TI TO i1 i2 l1 l2) (x : ZL base z TI TO i1 i2 l1 l2 xs ys i acc s.heap) (hb : base ≤ s.heap.objs.size) (hx : i < xs.size) (hy : i < ys.size)
    (hQ : ∀ v h', ZL base z TI TO i1 i2 l1 l2 xs ys (i + 1) (acc.push v) h' → s.heap.objs.size ≤ h'.objs.size → (∀ c o, c ≠ z → c ≠ TO → c ≠ i1 → c ≠ i2 → s.heap.get? c = some o → h'.get? c = some o) → Q (some v) { s with heap := h' }) :
    wpAny (model prog w) A (pyNext (.ref z)) Q E s := by
  have ex : xs[i]? = some xs[i] := Array.getElem?_eq_getElem hx
  have ey : ys[i]? = some ys[i] := Array.getElem?_eq_getElem hy
  have fin : ∀ {h' : Heap}, IsPair h' s.heap.objs.size xs[i] ys[i] → (∀ T a b, IsPair s.heap T a b → (acc.size = 0 ∨ IsPair h' T a b)) → PairsAt base xs ys (acc.push (.ref s.heap.objs.size)) h' := fun {h'} hT hk j v hv => by
    rw [Array.getElem?_push] at hv
    by_cases hj : j = acc.size
    · rw [if_pos hj] at hv
      cases hv
      rw [hj, x.sz]
      exact ⟨_, _, _, rfl, hb, ex, ey, hT⟩
    · rw [if_neg hj] at hv
      obtain ⟨T, a, b, e, hb', ha, hb'', hT'⟩ := x.it j v hv
      refine ⟨T, a, b, e, hb', ha, hb'', (hk T a b hT').resolve_left fun h0 => ?_⟩
      have := (Array.getElem?_eq_some_iff.mp hv).1
      rw [h0] at this
      exact absurd this (Nat.not_lt_zero _)
  have lt : ∀ {c o}, s.heap.get? c = some o → s.heap.objs.size ≠ c := fun e => Nat.ne_of_gt (Heap.lt_size e)
  obtain ⟨o1, e1, _⟩ := id x.i1
  obtain ⟨o2, e2, _⟩ := id x.i2
  rcases x.z with ⟨h0, hz, a, b, hTO⟩ | ⟨T, fb, o, hz, hT, t1, t2, t3⟩
  · refine wpAny_pyNext_zip_item D hz x.ti hTO x.i1 x.i2 x.l1 x.l2 ex ey fun h' a1 a2 a3 a4 a5 a6 hk => ?_
    refine hQ _ h' ⟨hk _ _ D.TIz D.TITO D.TIi1 D.TIi2 x.ti, .inr ⟨_, false, _, a1, a5, lt hz, lt e1, lt e2⟩, a3, a4, x.l1.at fun o e => hk _ o D.l1z D.l1TO D.l1i1 D.l1i2 e, x.l2.at fun o e => hk _ o D.l2z D.l2TO D.l2i1 D.l2i2 e, by rw [Array.size_push, x.sz], fin a5 fun T a b hT => .inl (by rw [x.sz, h0])⟩ (by rw [a6]; exact Nat.le_succ _) hk
  · refine pyNext_zip_more D hz ⟨o, hT⟩ x.ti x.i1 x.i2 x.l1 x.l2 ex ey fun h' a1 a2 a3 a4 a5 hk => ?_
    refine hQ _ h' ⟨hk _ _ D.TIz D.TIi1 D.TIi2 x.ti, .inr ⟨T, true, _, a1, hk _ _ t1 t2 t3 hT, t1, t2, t3⟩, a2, a3, x.l1.at fun o e => hk _ o D.l1z D.l1i1 D.l1i2 e, x.l2.at fun o e => hk _ o D.l2z D.l2i1 D.l2i2 e, by rw [Array.size_push, x.sz], fin a4 fun T' a b hT' => .inr ?_⟩ (by rw [a5]; exact Nat.le_succ _) fun c o c1 c2 c3 c4 e => hk c o c1 c3 c4 e
    obtain ⟨q1, q2, q3⟩ := x.apart hT'
    exact hk _ _ q1 q2 q3 hT'
theorem ZL.stop {E : Value → Shared → Prop} {i : Nat} {acc : Array Value} {Q : Option Value → Shared → Prop} (hh : A.handled = none) (D : ZipApart z TI TO i1 i2 l1 l2) (x : ZL base z TI TO i1 i2 l1 l2 xs ys i acc s.heap) (hx : xs.size ≤ i)
    (hQ : ∀ h', (acc.size = 0 ∨ PairsAt base xs ys acc h') → (∀ c o, c ≠ z → c ≠ TO → c ≠ i1 → c ≠ i2 → s.heap.get? c = some o → h'.get? c = some o) → Q none { s with heap := h' }) :
    wpAny (model prog w) A (pyNext (.ref z)) Q E s := by
  have ex : xs[i]? = none := Array.getElem?_eq_none hx
  rcases x.z with ⟨h0, hz, a, b, hTO⟩ | ⟨T, fb, o, hz, hT, t1, t2, t3⟩
  · exact wpAny_pyNext_zip_end hh D hz x.ti hTO x.i1 x.i2 x.l1 x.l2 (.inl ex) fun h' hk => hQ h' (.inl (by rw [x.sz, h0])) hk
  · refine pyNext_zip_stop hh D hz ⟨o, hT⟩ x.ti x.i1 x.l1 ex fun h' hk => hQ h' (.inr fun j v hv => ?_) fun c o c1 c2 c3 c4 e => hk c o c1 c3 e
    obtain ⟨T', a, b, e, hb', ha, hb'', hT'⟩ := x.it j v hv
    obtain ⟨q1, q2, q3⟩ := x.apart hT'
    exact ⟨T', a, b, e, hb', ha, hb'', hk _ _ q1 q2 hT'⟩
end
end Lw
end

section
open PySem PySem.W PyProof.Rows PySem.Calls
namespace Lw
theorem rl_of_at {U : Addr → Prop} {h : Heap} : ∀ (ds : List D) (vs : List Value), vs.length = ds.length → (∀ (j : Nat) v, vs[j]? = some v → ∃ d, ds[j]? = some d ∧ R U h v d) → RL U h vs ds
  | [], [], _, _ => rfl
  | [], _ :: _, h, _ => by cases h
  | _ :: _, [], h, _ => by cases h
  | d :: ds, v :: vs, hl, hk => by
    obtain ⟨d', e, r⟩ := hk 0 v rfl
    cases e
    exact ⟨v, vs, rfl, r, rl_of_at ds vs (Nat.succ.inj hl) fun j u hu => hk (j + 1) u hu⟩
section
variable {prog : Program} {w : World} {A : Around} {base : Nat} {z TI TO i1 i2 l1 l2 : Addr} {xs ys : Array Value}
noncomputable def ZKeep (z TO i1 i2 S : Addr) (h h' : Heap) : Prop := ∀ c o, c ≠ z → c ≠ TO → c ≠ i1 → c ≠ i2 → c ≠ S → h.get? c = some o → h'.get? c = some o
theorem zip_loop (hh : A.handled = none) (D : ZipApart z TI TO i1 i2 l1 l2) (hxy : xs.size = ys.size) (hn : xs.size ≤ 100000) {S : Addr} (h1 : S ≠ l1) (h2 : S ≠ l2) (hSz : S ≠ z) (hSO : S ≠ TO) (hS1 : S ≠ i1) (hS2 : S ≠ i2) {R : Result → Shared → Prop} {res : Value} :
    ∀ (k i : Nat) (s : Shared) (acc : Array Value) (c : Nat), xs.size - i = k → i ≤ xs.size → base ≤ s.heap.objs.size → ZL base z TI TO i1 i2 l1 l2 xs ys i acc s.heap → s.heap.get? S = some { cls := .type "list", dict := none, data := .seq acc c, slots := #[] } →
    (∀ h' acc' c', ZKeep z TO i1 i2 S s.heap h' → s.heap.objs.size ≤ h'.objs.size → h'.get? S = some { cls := .type "list", dict := none, data := .seq acc' c', slots := #[] } → acc'.size = xs.size → PairsAt base xs ys acc' h' → R (.ok (.ret res)) { s with heap := h' }) →
    codeAny (model prog w) A (.builtin "list.extend.loop" ⟨[.ref S, .ref z, res], []⟩) R s := by
  intro k
  induction k with
  | zero =>
    intro i s acc c hk hi hb x hS hR
    have hin : i = xs.size := by lia
    refine codeAny_builtin F.entry_extend_loop ?_
    rw [Around.under_plainId F.plain_extend_loop _]
    show wpAny _ A.in1 (pyNext (.ref z) >>= _) _ _ s
    refine wpAny_bind (wp_with_sz (n := s.heap.objs.size) (Nat.le_refl _) (ZL.stop (A := A.in1) hh D x (by rw [hin]; exact Nat.le_refl _) fun h' hp hkp hsz => ?_))
    refine wpAny_pure (hR h' acc c (fun c o c1 c2 c3 c4 _ e => hkp c o c1 c2 c3 c4 e) hsz (hkp S _ hSz hSO hS1 hS2 hS) (x.sz.trans hin) ?_)
    rcases hp with hp | hp
    · intro j v hv
      have := (Array.getElem?_eq_some_iff.mp hv).1
      rw [hp] at this
      exact absurd this (Nat.not_lt_zero _)
    · exact hp
  | succ k ih =>
    intro i s acc c hk hi hb x hS hR
    have hlt : i < xs.size := by lia
    refine codeAny_builtin F.entry_extend_loop ?_
    rw [Around.under_plainId F.plain_extend_loop _]
    show wpAny _ A.in1 (pyNext (.ref z) >>= _) _ _ s
    refine wpAny_bind (ZL.next (A := A.in1) D x hb hlt (hxy ▸ hlt) fun v h' x' hz hkp => ?_)
    have hS' := hkp S _ hSz hSO hS1 hS2 hS
    show wpAny _ A.in1 (updateSeq S (·.push v) >>= _) _ _ _
    have hS2' := Heap.get?_update_self (Obj.mapSeq (·.push v)) hS' rfl
    have oth : ∀ b o, b ≠ S → h'.get? b = some o → (h'.update S (Obj.mapSeq (·.push v))).get? b = some o := fun b o q e => (Heap.get?_update_other _ _ (Ne.symm q)).trans e
    refine wpAny_bind (wpAny_updateSeq (s := { s with heap := h' }) hS' rfl (wpAny_pure ⟨plainId_quiet F.plain_extend_loop _, ih (i + 1) _ (acc.push v) _ (by lia) hlt ?_ (x'.other hS' rfl h1 h2 oth fun o _ => ⟨_, hS2'⟩) hS2' fun h'' acc' c' hkk hzz a1 a2 a3 => ?_⟩)
      (by rw [x.sz]; exact Nat.le_trans (Nat.le_of_lt hlt) (Nat.le_trans hn (by decide))) (by show (acc.push v).size ≤ sizeLine + 1; rw [Array.size_push, x.sz]; exact Nat.succ_le_succ (Nat.le_trans (Nat.le_of_lt hlt) (Nat.le_trans hn (by decide)))))
    · show base ≤ (h'.update S (Obj.mapSeq (·.push v))).objs.size
      rw [Heap.size_after_update]; exact Nat.le_trans hb hz
    · refine hR h'' acc' c' (fun c o c1 c2 c3 c4 c5 e => hkk c o c1 c2 c3 c4 c5 (oth c o c5 (hkp c o c1 c2 c3 c4 e))) (Nat.le_trans hz ?_) a1 a2 a3
      refine Nat.le_trans ?_ hzz
      show h'.objs.size ≤ (h'.update S (Obj.mapSeq (·.push v))).objs.size
      rw [Heap.size_after_update]; exact Nat.le_refl _
end
end Lw
end

section
open PySem PySem.W PyProof.Rows PySem.Calls
namespace Lw
section
variable {prog : Program} {w : World} {A : Around} {s : Shared} {base : Nat} {z TI TO i1 i2 l1 l2 : Addr} {xs ys : Array Value}
theorem list_init_zip (hh : A.handled = none) (D : ZipApart z TI TO i1 i2 l1 l2) (hxy : xs.size = ys.size) (hn : xs.size ≤ 100000) {S : Addr} (h1 : S ≠ l1) (h2 : S ≠ l2) (hSz : S ≠ z) (hSO : S ≠ TO) (hS1 : S ≠ i1) (hS2 : S ≠ i2) {R : Result → Shared → Prop}
    (hb : base ≤ s.heap.objs.size) (x : ZL base z TI TO i1 i2 l1 l2 xs ys 0 #[] s.heap) (hz0 : IsZip s.heap z TI TO .none) (hS : s.heap.get? S = some { cls := .type "list", data := .seq #[] })
    (hR : ∀ h' acc' c', ZKeep z TO i1 i2 S s.heap h' → s.heap.objs.size ≤ h'.objs.size → h'.get? S = some { cls := .type "list", dict := none, data := .seq acc' c', slots := #[] } → acc'.size = xs.size → PairsAt base xs ys acc' h' → R (.ok (.ret .none)) { s with heap := h' }) :
    wpAny (model prog w) A.in1 (Builtin.«list.__init__» ⟨[.ref S, .ref z], []⟩)
      (fun fin s' => match fin with | .done f => R (.ok f) s' | .again c' => c'.quiet = true ∧ codeAny (model prog w) A c' R s') (fun e s' => R (.error e) s') s := by
  show wpAny _ A.in1 (do let old ← Builtin.List.listItems (.ref S); Builtin.List.listUpdate (.ref S) (fun _ => #[]); letGo old.toList.reverse; Builtin.List.listExtendWith (.ref S) (.ref z) .none) _ _ s
  refine wpAny_bind ?_
  unfold Builtin.List.listItems
  refine wpAny_bind (wpAny_seqItems hS rfl (wpAny_pure ?_))
  show wpAny _ A.in1 (updateSeq S (fun _ => #[]) >>= fun _ => letGo (#[] : Array Value).toList.reverse >>= fun _ => Builtin.List.listExtendWith (.ref S) (.ref z) .none) _ _ s
  refine wpAny_bind (wpAny_updateSeq hS rfl ?_)
  have hS' := Heap.get?_update_self (Obj.mapSeq (fun _ => (#[] : Array Value))) hS rfl
  have oth : ∀ b o, b ≠ S → s.heap.get? b = some o → (s.heap.update S (Obj.mapSeq (fun _ => (#[] : Array Value)))).get? b = some o := fun b o hb e => (Heap.get?_update_other _ _ (Ne.symm hb)).trans e
  have hsz : (s.heap.update S (Obj.mapSeq (fun _ => (#[] : Array Value)))).objs.size = s.heap.objs.size := Heap.size_after_update ..
  have x' := x.other hS rfl h1 h2 oth fun o _ => ⟨_, hS'⟩
  have hz' : IsZip (s.heap.update S (Obj.mapSeq (fun _ => (#[] : Array Value)))) z TI TO .none := oth _ _ hSz.symm hz0
  generalize s.heap.update S (Obj.mapSeq (fun _ => (#[] : Array Value))) = h₁ at hS' oth hsz x' hz'
  refine wpAny_bind (wpAny_letGo ?_)
  have hT : Shared.TypeIs { s with heap := h₁ } (.ref z) "zip" := ⟨_, hz', rfl⟩
  unfold Builtin.List.listExtendWith
  refine wpAny_bind (wpAny_typeOf hT ?_)
  have q1 : Builtin.List.listSameRef (.ref S) (.ref z) = false := by simp [Builtin.List.listSameRef, hSz]
  have q2 : (Value.type "zip" == Value.type "list") = false := by decide
  have q3 : (Value.type "zip" == Value.type "tuple") = false := by decide
  simp only [q1, q2, q3, Bool.or_false, Bool.false_eq_true, if_false]
  refine wpAny_bind (wpAny_pyIter_zip hz' ?_)
  refine wpAny_bind (wpAny_holding ?_)
  unfold Builtin.List.listLengthHint
  refine wpAny_bind (wpAny_specialOf hT zip_no_len ?_)
  show wpAny _ A.in1 (specialOf (Value.ref z) (Str.ofString "__length_hint__") >>= _) _ _ _
  refine wpAny_bind (wpAny_specialOf hT zip_no_hint ?_)
  refine wpAny_pure ?_
  show wpAny _ A.in1 (rule "list.extend.makes-room" >>= fun _ => Builtin.List.listTouch (.ref S) >>= fun _ =>
    again (.builtin "list.extend.loop" ⟨[.ref S, .ref z, .none], []⟩)) _ _ _
  refine wpAny_bind (wpAny_rule ?_)
  refine wpAny_bind ?_
  show wpAny _ A.in1 (updateSeq S (·.push .none) >>= fun _ => updateSeq S (·.pop)) _ _ _
  refine wpAny_bind (wpAny_updateSeq (s := { s with heap := h₁ }) hS' rfl ?_)
  have hS₂ := Heap.get?_update_self (Obj.mapSeq (·.push Value.none)) hS' rfl
  refine wpAny_updateSeq (hz := by seq_fits) hS₂ rfl ?_
  have hS₃ := Heap.get?_update_self (Obj.mapSeq (·.pop)) hS₂ rfl
  have oth2 : ∀ b o, b ≠ S → h₁.get? b = some o → ((h₁.update S (Obj.mapSeq (·.push Value.none))).update S (Obj.mapSeq (·.pop))).get? b = some o :=
    fun b o hb e => (Heap.get?_update_other _ _ (Ne.symm hb)).trans ((Heap.get?_update_other _ _ (Ne.symm hb)).trans e)
  have hsz2 : ((h₁.update S (Obj.mapSeq (·.push Value.none))).update S (Obj.mapSeq (·.pop))).objs.size = s.heap.objs.size := by rw [Heap.size_after_update, Heap.size_after_update, hsz]
  have x2 := x'.other hS' rfl h1 h2 oth2 fun o _ => ⟨_, hS₃⟩
  generalize (h₁.update S (Obj.mapSeq (·.push Value.none))).update S (Obj.mapSeq (·.pop)) = h₂ at hS₃ oth2 hsz2 x2
  exact wpAny_pure ⟨plainId_quiet F.plain_extend_loop _, zip_loop (base := base) hh D hxy hn h1 h2 hSz hSO hS1 hS2 _ 0 { s with heap := h₂ } #[] _ rfl (Nat.zero_le _) (by show base ≤ h₂.objs.size; rw [hsz2]; exact hb) x2 hS₃ fun h' acc' c' a1 a2 a3 a4 a5 =>
    hR h' acc' c' (fun c o c1 c2 c3 c4 c5 e => a1 c o c1 c2 c3 c4 c5 (oth2 c o c5 (oth c o c5 e))) (by rw [← hsz2]; exact a2) a3 a4 a5⟩
theorem call_list_zip {E : Value → Shared → Prop} (hh : A.handled = none) (D : ZipApart z TI TO i1 i2 l1 l2) (hxy : xs.size = ys.size) (hn : xs.size ≤ 100000) {Q : Value → Shared → Prop}
    (hb : base ≤ s.heap.objs.size) (x : ZL base z TI TO i1 i2 l1 l2 xs ys 0 #[] s.heap) (hz0 : IsZip s.heap z TI TO .none) (hTO : ∃ o, s.heap.get? TO = some o)
    (hQ : ∀ h' acc' c', ZKeep z TO i1 i2 s.heap.objs.size s.heap h' → s.heap.objs.size ≤ h'.objs.size → h'.get? s.heap.objs.size = some { cls := .type "list", dict := none, data := .seq acc' c', slots := #[] } → acc'.size = xs.size → PairsAt base xs ys acc' h' → Q (.ref s.heap.objs.size) { s with heap := h' }) :
    wpAny (model prog w) A (call (.type "list") [.ref z]) Q E s := by
  refine callType_codes (Q₁ := fun obj s₁ => obj = .ref s.heap.objs.size ∧ s₁ = { s with heap := s.heap.push { cls := .type "list", data := .seq #[] } }) F.called_list (F.typeCall_list_1 _) F.entry_list_init
    (code_list_new _ ⟨rfl, rfl⟩) fun obj s₁ h₁ => ?_
  obtain ⟨rfl, rfl⟩ := h₁
  have hS : (s.heap.push { cls := .type "list", data := .seq #[] }).get? s.heap.objs.size = some { cls := .type "list", data := .seq #[] } := Heap.get?_push_size _ rfl
  have lt : ∀ {c o}, s.heap.get? c = some o → s.heap.objs.size ≠ c := fun e => Nat.ne_of_gt (Heap.lt_size e)
  have up : ∀ b o, s.heap.get? b = some o → (s.heap.push { cls := .type "list", data := .seq #[] }).get? b = some o := fun b o e => Heap.get?_push_of_some _ e
  obtain ⟨oT, hTO⟩ := hTO
  obtain ⟨o1, e1, _⟩ := id x.i1
  obtain ⟨o2, e2, _⟩ := id x.i2
  obtain ⟨o3, e3, _⟩ := id x.l1
  obtain ⟨o4, e4, _⟩ := id x.l2
  have x' : ZL base z TI TO i1 i2 l1 l2 xs ys 0 #[] (s.heap.push { cls := .type "list", data := .seq #[] }) := by
    refine ⟨up _ _ x.ti, ?_, x.i1.at fun o e => up _ o e, x.i2.at fun o e => up _ o e, x.l1.at fun o e => up _ o e, x.l2.at fun o e => up _ o e, x.sz, fun j v hv => by simp at hv⟩
    rcases x.z with ⟨h0, hz, a, b, hT⟩ | ⟨T, fb, o, hz, hT, t⟩
    · exact .inl ⟨h0, up _ _ hz, a, b, up _ _ hT⟩
    · exact .inr ⟨T, fb, o, up _ _ hz, up _ _ hT, t⟩
  refine ⟨⟨_, hS, rfl⟩, F.args_list_init_2 _ _, list_init_zip (A := A.in1) hh D hxy hn (lt e3) (lt e4) (lt hz0) (lt hTO) (lt e1) (lt e2) (by show base ≤ (s.heap.push _).objs.size; rw [Heap.size_push]; exact Nat.le_succ_of_le hb) x' (up _ _ hz0) hS fun h' acc' c' a1 a2 a3 a4 a5 => ?_⟩
  refine ⟨rfl, hQ h' acc' c' (fun c o c1 c2 c3 c4 c5 e => a1 c o c1 c2 c3 c4 c5 (up c o e)) (Nat.le_trans (Nat.le_succ _) (by have a2' : (s.heap.push { cls := .type "list", data := .seq #[] }).objs.size ≤ h'.objs.size := a2; rw [Heap.size_push] at a2'; exact a2')) a3 a4 a5⟩
end
end Lw
end

section
open PySem PySem.W PyProof.Rows PySem.Calls
namespace Lw
section
variable {sc : Scope} {n : Nat} {ρ : Vars}
noncomputable def ZMade (U : Addr → Prop) (xs ys : List D) (s : Shared) (v : Value) (s' : Shared) : Prop :=
  ∃ s₁ l₁ l₂ us ws h', Gr s s₁ ∧ s' = { s₁ with heap := h' } ∧ v = .ref (s₁.heap.objs.size + 4) ∧ RL U s₁.heap us xs ∧ RL U s₁.heap ws ys ∧ h'.objs.size = s₁.heap.objs.size + 5 ∧ (∀ b o, s₁.heap.get? b = some o → h'.get? b = some o) ∧ l₁ < s₁.heap.objs.size ∧ l₂ < s₁.heap.objs.size ∧
    IsZip h' (s₁.heap.objs.size + 4) (s₁.heap.objs.size + 2) (s₁.heap.objs.size + 3) .none ∧ (∃ o, h'.get? (s₁.heap.objs.size + 3) = some o) ∧
    ZL s₁.heap.objs.size (s₁.heap.objs.size + 4) (s₁.heap.objs.size + 2) (s₁.heap.objs.size + 3) s₁.heap.objs.size (s₁.heap.objs.size + 1) l₁ l₂ (List.toArray us) (List.toArray ws) 0 #[] h'
theorem zip_made {A : Around} {U : Addr → Prop} {xs ys : List D} {s₀ s : Shared} {vs : List Value} {E : Value → Shared → Prop} (g : Gr s₀ s) (rl : RL U s.heap vs [.lst xs, .lst ys]) :
    wpAny (model prog w) A (call (.type "zip") vs) (fun v s' => ZMade U xs ys s₀ v s') E s := by
  obtain ⟨v, vs', rfl, ⟨l₁, us, rfl, hu₁, hl₁, rx⟩, v2, vs2, rfl, ⟨l₂, ws, rfl, hu₂, hl₂, ry⟩, r⟩ := rl
  cases r
  have hl₁ := hl₁.isList
  have hl₂ := hl₂.isList
  have a₁ : @LT.lt Nat _ l₁ s.heap.objs.size := by obtain ⟨o, e, _⟩ := hl₁; exact Heap.lt_size e
  have a₂ : @LT.lt Nat _ l₂ s.heap.objs.size := by obtain ⟨o, e, _⟩ := hl₂; exact Heap.lt_size e
  refine call_zip_2 hl₁ hl₂ fun h' hz hTI hTO h1 h2 hsz hk => ?_
  exact ⟨s, l₁, l₂, us, ws, h', g, rfl, rfl, rx, ry, hsz, hk, a₁, a₂, hz, ⟨_, hTO⟩, hTI, .inl ⟨rfl, hz, _, _, hTO⟩, h1, h2, hl₁.at fun o e => hk _ o e, hl₂.at fun o e => hk _ o e, rfl, fun j v hv => by simp at hv⟩
theorem list_made {A : Around} {U : Addr → Prop} {xs ys : List D} {s₀ s : Shared} {v : Value} {E : Value → Shared → Prop} (hh : A.handled = none) (ok : HOK K U s₀) (hlen : xs.length = ys.length) (hn : xs.length ≤ 100000) (m : ZMade U xs ys s₀ v s) :
    wpAny (model prog w) A (call (.type "list") [v]) (fun v s' => Gr s₀ s' ∧ R U s'.heap v (.lst (zipped xs ys))) E s := by
  obtain ⟨s₁, l₁, l₂, us, ws, h', g, rfl, rfl, rx, ry, hsz, hk, a₁, a₂, hz, hTO, x⟩ := m
  have D : ZipApart (s₁.heap.objs.size + 4) (s₁.heap.objs.size + 2) (s₁.heap.objs.size + 3) s₁.heap.objs.size (s₁.heap.objs.size + 1) l₁ l₂ := by
    have a₁' : @LT.lt Nat _ l₁ s₁.heap.objs.size := a₁
    have a₂' : @LT.lt Nat _ l₂ s₁.heap.objs.size := a₂
    constructor <;> exact ne_nat (by lia)
  refine call_list_zip (s := { s₁ with heap := h' }) hh D (by rw [List.size_toArray, List.size_toArray, rx.length, ry.length]; exact hlen) (by rw [List.size_toArray, rx.length]; exact hn) (by show s₁.heap.objs.size ≤ h'.objs.size; rw [hsz]; exact Nat.le_add_right _ _) x hz hTO fun h₂ acc c hkeep hz2 hS hacc hp => ?_
  have hlt : ∀ {b o}, s₁.heap.get? b = some o → @LT.lt Nat _ b s₁.heap.objs.size := fun e => Heap.lt_size e
  have hSz : ({ s₁ with heap := h' } : Shared).heap.objs.size = s₁.heap.objs.size + 5 := hsz
  have up : ∀ b o, s₁.heap.get? b = some o → h₂.get? b = some o := fun b o e => by
    have hb := hlt e
    refine hkeep b o ?_ ?_ ?_ ?_ ?_ (hk b o e)
    · exact ne_nat (.inl (by lia))
    · exact ne_nat (.inl (by lia))
    · exact ne_nat (.inl (by lia))
    · exact ne_nat (.inl (by lia))
    · rw [hSz]; exact ne_nat (.inl (by lia))
  have ok1 := ok.gr g
  have g2 : Gr s₁ { s₁ with heap := h₂ } := Gr.of (t := s₁.toks) up (Nat.le_refl _) (by
    refine Nat.le_trans ?_ hz2
    show s₁.heap.objs.size ≤ h'.objs.size
    rw [hsz]; exact Nat.le_add_right _ _)
  refine ⟨g.trans g2, h'.objs.size, acc.toList, rfl, ?_, ⟨c, by rw [Array.toArray_toList]; exact hS⟩, rl_of_at _ _ ?_ fun j v hv => ?_⟩
  · rw [hsz]; exact ok1.not_fresh (Nat.le_add_right _ _)
  · rw [Array.length_toList, hacc, List.size_toArray, rx.length]
    unfold zipped
    rw [List.length_zipWith, hlen, Nat.min_self]
  · rw [Array.getElem?_toList] at hv
    obtain ⟨T, x', y', rfl, hb, hx, hy, hT⟩ := hp j v hv
    have hx' : us[j]? = some x' := by simpa using hx
    have hy' : ws[j]? = some y' := by simpa using hy
    have hi : j < xs.length := by
      have := (List.getElem?_eq_some_iff.mp hx').1
      rw [rx.length] at this; exact this
    have hj : j < ys.length := by rw [← hlen]; exact hi
    obtain ⟨v', e', r⟩ := rx.get (List.getElem?_eq_getElem hi)
    rw [hx'] at e'
    cases e'
    obtain ⟨v'', e'', r₂⟩ := ry.get (List.getElem?_eq_getElem hj)
    rw [hy'] at e''
    cases e''
    refine ⟨.tup [xs[j], ys[j]], ?_, T, [x', y'], rfl, ok1.not_fresh hb, ⟨_, hT, rfl, _, rfl⟩, ⟨_, _, rfl, R.keeps up r, _, _, rfl, R.keeps up r₂, rfl⟩⟩
    unfold zipped
    rw [List.getElem?_zipWith, List.getElem?_eq_getElem hi, List.getElem?_eq_getElem hj]
theorem ev_listzip {Z a b : Expr} {p1 p2 p3 p4 : Pos} {xs ys : List D}
    (hsh1 : ∀ env, eval (.Call (.Name "list" p1) [Z] [] p4) env = (do callWith p4 (← eval (.Name "list" p1) env) [] (backTo p4 (starEach [Z] env)) (backToKw p4 (keywordEach [] env))))
    (hst : ∀ env, starEach [Z] env = [(false, eval Z env)])
    (hsh2 : ∀ env, eval Z env = (do callWith p3 (← eval (.Name "zip" p2) env) [] (backTo p3 (starEach [a, b] env)) (backToKw p3 (keywordEach [] env))))
    (hp2 : ∀ env, (backTo p3 (starEach [a, b] env)).any (·.1) = false)
    (hl : EV prog w K sc n ρ (.Name "list" p1) (.val (.type "list"))) (hz : EV prog w K sc n ρ (.Name "zip" p2) (.val (.type "zip"))) (ha : ES prog w K sc n ρ [a, b] [.lst xs, .lst ys]) (hlen : xs.length = ys.length) (hn : xs.length ≤ 100000) :
    EV prog w K sc n ρ (.Call (.Name "list" p1) [Z] [] p4) (.lst (zipped xs ys)) := fun env A U s hs rm ok => by
  rw [hsh1]
  refine wpAny_bind (wpAny_mono (hl env A U s hs rm ok) (fun v s₁ hq => ?_) fun _ _ x => x)
  obtain ⟨g, r⟩ := hq
  cases r
  have ok1 := ok.gr g
  have hp1 : (backTo p4 (starEach [Z] env)).any (·.1) = false := by rw [hst]; rfl
  refine callWith_core (K := K) (T := fun vs s' => ∃ v, vs = [v] ∧ ZMade U xs ys s₁ v s') (.inr (.inl ⟨_, rfl⟩)) hp1 ?_ fun vs s' hq => ?_
  · rw [hst]
    refine spliced_cons ?_
    rw [hsh2]
    refine wpAny_bind (wpAny_mono (hz env A U s₁ hs rm ok1) (fun v s₂ hq => ?_) fun _ _ x => x.elim)
    obtain ⟨g2, r⟩ := hq
    cases r
    refine callWith_core (K := K) (T := fun vs s' => Gr s₁ s' ∧ RL U s'.heap vs [.lst xs, .lst ys]) (.inr (.inl ⟨_, rfl⟩)) (hp2 env) (wpAny_mono (ha env p3 A U s₂ hs rm (ok1.gr g2)) (fun vs s' z => ⟨((ok1.gr g2).gr z.1).toHOK.top, g2.trans z.1, z.2⟩) fun _ _ x => x.elim) fun vs s' z => ?_
    refine wpAny_mono (zip_made z.1 z.2) (fun v s₃ m => spliced_nil ⟨?_, v, rfl, m⟩) fun _ _ x => x
    obtain ⟨s₄, l₁, l₂, us, ws, h', g3, rfl, _, _, _, hsz, hk, _⟩ := m
    exact ((ok1.gr g3).toHOK.gr (Gr.of (t := s₄.toks) hk (Nat.le_refl _) (by rw [hsz]; exact Nat.le_add_right _ _))).top
  · obtain ⟨v, rfl, m⟩ := hq
    exact wpAny_mono (list_made rm.hd ok1.toHOK hlen hn m) (fun v s₂ q => ⟨g.trans q.1, q.2⟩) fun _ _ x => x
end
end Lw
end

section
open PySem PySem.W PyProof.Rows PySem.Calls
namespace Lw
noncomputable abbrev IsTrip (h : Heap) (T : Addr) (a b c : Value) : Prop := h.get? T = some { cls := .type "tuple", data := .seq #[a, b, c] }
structure Ap3 (z TI TO i1 i2 i3 l1 l2 l3 : Addr) : Prop where
  TIz : TI ≠ z
  TOz : TO ≠ z
  i1z : i1 ≠ z
  i2z : i2 ≠ z
  i3z : i3 ≠ z
  TITO : TI ≠ TO
  TIi1 : TI ≠ i1
  TIi2 : TI ≠ i2
  TIi3 : TI ≠ i3
  TOi1 : TO ≠ i1
  TOi2 : TO ≠ i2
  TOi3 : TO ≠ i3
  i12 : i1 ≠ i2
  i13 : i1 ≠ i3
  i23 : i2 ≠ i3
  l1 : l1 ≠ z ∧ l1 ≠ TO ∧ l1 ≠ i1 ∧ l1 ≠ i2 ∧ l1 ≠ i3
  l2 : l2 ≠ z ∧ l2 ≠ TO ∧ l2 ≠ i1 ∧ l2 ≠ i2 ∧ l2 ≠ i3
  l3 : l3 ≠ z ∧ l3 ≠ TO ∧ l3 ≠ i1 ∧ l3 ≠ i2 ∧ l3 ≠ i3
section
variable {prog : Program} {w : World} {A : Around} {E : Value → Shared → Prop} {s : Shared} {z TI TO i1 i2 i3 l1 l2 l3 : Addr}
theorem updTrip {T : Addr} {a b c x : Value} {k : Nat} {Q : Unit → Shared → Prop} (hT : IsTrip s.heap T a b c)
    (h : ∀ h', h'.get? T = some { cls := .type "tuple", data := .seq ((#[a, b, c] : Array Value).setIfInBounds k x) } → Heap.SameBut T s.heap h' → Q () { s with heap := h' }) : wpAny (model prog w) A (updateSeq T (·.setIfInBounds k x)) Q E s := by
  refine wpAny_updateSeq hT rfl (h _ ?_ (Heap.SameBut.update ..))
  rw [Heap.get?_update_self _ hT rfl]
  simp [Obj.mapSeq]
theorem zip3_item {k : Nat} {xs ys ws : Array Value} {x y u a b c : Value} {Q : Value → Shared → Prop} (D : Ap3 z TI TO i1 i2 i3 l1 l2 l3)
    (hz : IsZip s.heap z TI TO .none) (hTI : IsTrip s.heap TI (.ref i1) (.ref i2) (.ref i3)) (hTO : IsTrip s.heap TO a b c)
    (h1 : s.heap.IsListIter i1 l1 k) (h2 : s.heap.IsListIter i2 l2 k) (h3 : s.heap.IsListIter i3 l3 k) (hl1 : s.heap.IsList l1 xs) (hl2 : s.heap.IsList l2 ys) (hl3 : s.heap.IsList l3 ws) (hx : xs[k]? = some x) (hy : ys[k]? = some y) (hu : ws[k]? = some u)
    (hQ : ∀ h', IsZip h' z TI TO (rawInt s.heap.objs.size) → IsTrip h' TO x y u → h'.IsListIter i1 l1 (k + 1) → h'.IsListIter i2 l2 (k + 1) → h'.IsListIter i3 l3 (k + 1) → IsTrip h' s.heap.objs.size x y u → h'.objs.size = s.heap.objs.size + 1 →
      (∀ c o, c ≠ z → c ≠ TO → c ≠ i1 → c ≠ i2 → c ≠ i3 → s.heap.get? c = some o → h'.get? c = some o) → Q (.ref s.heap.objs.size) { s with heap := h' }) :
    wpAny (model prog w) A (Builtin.«zip.__next__» ⟨[.ref z], []⟩) (fun fin s' => ∃ v, fin = .done (.ret v) ∧ Q v s') E s := by
  show wpAny _ _ (field (.ref z) 2 >>= _) _ _ _
  refine wpAny_bind (wpAny_field hz rfl (x := .bool false) rfl ?_)
  show wpAny _ _ (field (.ref z) 3 >>= _) _ _ _
  refine wpAny_bind (wpAny_field hz rfl (x := .ref TI) rfl ?_)
  refine wpAny_bind (wpAny_seqItems hTI rfl ?_)
  show wpAny _ _ (Builtin.SmallTypes.ownedTupleIsFree (.ref z) >>= _) _ _ _
  refine wpAny_bind ?_
  unfold Builtin.SmallTypes.ownedTupleIsFree
  refine wpAny_bind (wpAny_field hz rfl (x := .none) rfl (wpAny_pure ?_))
  rw [if_pos rfl]
  refine wpAny_bind (wpAny_rule ?_)
  refine wpAny_bind (wpAny_field hz rfl (x := .ref TO) rfl ?_)
  refine wpAny_bind (wpAny_setField_rec hz (by simp) fun h₁ hz₁ hs₁ => ?_)
  replace hz₁ : IsZip h₁ z TI TO .ellipsis := hz₁
  refine wpAny_bind ?_
  simp only [List.zipIdx_cons, List.zipIdx_nil, List.forIn_cons, List.forIn_nil]
  have t1 : IsTrip h₁ TO a b c := hs₁.extBut _ _ D.TOz hTO
  have a1 := h1.extBut hs₁.extBut D.i1z
  have a2 := h2.extBut hs₁.extBut D.i2z
  have a3 := h3.extBut hs₁.extBut D.i3z
  have b1 := hl1.extBut hs₁.extBut D.l1.1
  have b2 := hl2.extBut hs₁.extBut D.l2.1
  have b3 := hl3.extBut hs₁.extBut D.l3.1
  refine wpAny_bind (wpAny_bind (wpAny_onRaise ?_))
  show wpAny _ _ (Builtin.SmallTypes.nextOf (.ref i1) >>= _) _ _ _
  refine wpAny_bind (wpAny_nextOf_list_item a1 b1 hx fun h₂ c1 hs₂ => wpAny_pure ?_)
  have t2 : IsTrip h₂ TO a b c := hs₂.extBut _ _ D.TOi1 t1
  refine wpAny_bind (wpAny_seqItems t2 rfl ?_)
  refine wpAny_bind (updTrip t2 fun h₃ t3 hs₃ => ?_)
  replace t3 : IsTrip h₃ TO x b c := t3
  refine wpAny_bind (wpAny_letGo (wpAny_pure ?_))
  have s23 : ∀ q o, q ≠ i1 → q ≠ TO → h₁.get? q = some o → h₃.get? q = some o := fun q o q1 q2 e => hs₃.extBut _ _ q2 (hs₂.extBut _ _ q1 e)
  have a2' := a2.at fun o e => s23 _ o D.i12.symm D.TOi2.symm e
  have a3' := a3.at fun o e => s23 _ o D.i13.symm D.TOi3.symm e
  have c1' := c1.extBut hs₃.extBut D.TOi1.symm
  have b2' := b2.at fun o e => s23 _ o D.l2.2.2.1 D.l2.2.1 e
  have b3' := b3.at fun o e => s23 _ o D.l3.2.2.1 D.l3.2.1 e
  refine wpAny_bind (wpAny_bind (wpAny_onRaise ?_))
  show wpAny _ _ (Builtin.SmallTypes.nextOf (.ref i2) >>= _) _ _ _
  refine wpAny_bind (wpAny_nextOf_list_item a2' b2' hy fun h₄ c2 hs₄ => wpAny_pure ?_)
  have t4 : IsTrip h₄ TO x b c := hs₄.extBut _ _ D.TOi2 t3
  refine wpAny_bind (wpAny_seqItems t4 rfl ?_)
  refine wpAny_bind (updTrip t4 fun h₅ t5 hs₅ => ?_)
  replace t5 : IsTrip h₅ TO x y c := t5
  refine wpAny_bind (wpAny_letGo (wpAny_pure ?_))
  have s45 : ∀ q o, q ≠ i2 → q ≠ TO → h₃.get? q = some o → h₅.get? q = some o := fun q o q1 q2 e => hs₅.extBut _ _ q2 (hs₄.extBut _ _ q1 e)
  have a3'' := a3'.at fun o e => s45 _ o D.i23.symm D.TOi3.symm e
  have c1'' := c1'.at fun o e => s45 _ o D.i12 D.TOi1.symm e
  have c2' := c2.extBut hs₅.extBut D.TOi2.symm
  have b3'' := b3'.at fun o e => s45 _ o D.l3.2.2.2.1 D.l3.2.1 e
  refine wpAny_bind (wpAny_bind (wpAny_onRaise ?_))
  show wpAny _ _ (Builtin.SmallTypes.nextOf (.ref i3) >>= _) _ _ _
  refine wpAny_bind (wpAny_nextOf_list_item a3'' b3'' hu fun h₆ c3 hs₆ => wpAny_pure ?_)
  have t6 : IsTrip h₆ TO x y c := hs₆.extBut _ _ D.TOi3 t5
  refine wpAny_bind (wpAny_seqItems t6 rfl ?_)
  refine wpAny_bind (updTrip t6 fun h₇ t7 hs₇ => ?_)
  replace t7 : IsTrip h₇ TO x y u := t7
  refine wpAny_bind (wpAny_letGo (wpAny_pure (wpAny_pure ?_)))
  have s67 : ∀ q o, q ≠ i3 → q ≠ TO → h₅.get? q = some o → h₇.get? q = some o := fun q o q1 q2 e => hs₇.extBut _ _ q2 (hs₆.extBut _ _ q1 e)
  have c3' := c3.extBut hs₇.extBut D.TOi3.symm
  have c2'' := c2'.at fun o e => s67 _ o D.i23 D.TOi2.symm e
  have c1''' := c1''.at fun o e => s67 _ o D.i13 D.TOi1.symm e
  have keep : ∀ q o, q ≠ z → q ≠ TO → q ≠ i1 → q ≠ i2 → q ≠ i3 → s.heap.get? q = some o → h₇.get? q = some o := fun q o q1 q2 q3 q4 q5 e => s67 q o q5 q2 (s45 q o q4 q2 (s23 q o q3 q2 (hs₁.extBut _ _ q1 e)))
  have z7 : IsZip h₇ z TI TO .ellipsis := s67 _ _ D.i3z.symm D.TOz.symm (s45 _ _ D.i2z.symm D.TOz.symm (s23 _ _ D.i1z.symm D.TOz.symm hz₁))
  have hsz : h₇.objs.size = s.heap.objs.size := by rw [hs₇.1, hs₆.1, hs₅.1, hs₄.1, hs₃.1, hs₂.1, hs₁.1]
  refine wpAny_bind (wpAny_seqItems t7 rfl ?_)
  refine wpAny_bind (wpAny_newTuple (hsz := by show 3 ≤ _; decide) ?_)
  show wpAny _ _ (Builtin.SmallTypes.ownedTupleHandOut (.ref z) (.ref h₇.objs.size) >>= _) _ _ _
  refine wpAny_bind ?_
  unfold Builtin.SmallTypes.ownedTupleHandOut
  have hlt : z < h₇.objs.size := Heap.lt_size z7
  have z8 : IsZip (h₇.push { cls := .type "tuple", data := .seq #[x, y, u] }) z TI TO .ellipsis := Heap.get?_push_of_some _ z7
  refine wpAny_bind (wpAny_setField_rec z8 (by simp) fun h₈ z9 hs₈ => ?_)
  replace z9 : IsZip h₈ z TI TO (rawInt h₇.objs.size) := z9
  refine wpAny_setField_rec z9 (by simp) fun h₉ z10 hs₉ => ?_
  replace z10 : IsZip h₉ z TI TO (rawInt h₇.objs.size) := z10
  have up : ∀ q o, q ≠ z → h₇.get? q = some o → h₉.get? q = some o := fun q o q1 e => hs₉.extBut _ _ q1 (hs₈.extBut _ _ q1 (Heap.get?_push_of_some _ e))
  have hT : IsTrip h₉ h₇.objs.size x y u := hs₉.extBut _ _ (Nat.ne_of_gt hlt) (hs₈.extBut _ _ (Nat.ne_of_gt hlt) (Heap.get?_push_size _ rfl))
  have hs9 : h₉.objs.size = h₇.objs.size + 1 := by rw [hs₉.1, hs₈.1, Heap.size_push]
  rw [hsz] at z10 hT hs9
  refine wpAny_pure ⟨_, rfl, ?_⟩
  show Q (.ref h₇.objs.size) _
  rw [hsz]
  exact hQ h₉ z10 (up _ _ D.TOz t7) (c1'''.at fun o e => up _ o D.i1z e) (c2''.at fun o e => up _ o D.i2z e) (c3'.at fun o e => up _ o D.i3z e) hT hs9 fun q o q1 q2 q3 q4 q5 e => up q o q1 (keep q o q1 q2 q3 q4 q5 e)
theorem zip3_end {k : Nat} {xs : Array Value} {a b c : Value} {Q : Fin → Shared → Prop} (hh : A.handled = none) (D : Ap3 z TI TO i1 i2 i3 l1 l2 l3)
    (hz : IsZip s.heap z TI TO .none) (hTI : IsTrip s.heap TI (.ref i1) (.ref i2) (.ref i3)) (h1 : s.heap.IsListIter i1 l1 k) (hl1 : s.heap.IsList l1 xs) (hx : xs[k]? = none)
    (hE : ∀ h' e, (∀ c o, c ≠ z → c ≠ i1 → s.heap.get? c = some o → h'.get? c = some o) → (∃ o, h'.get? e = some o ∧ o.cls = .type "StopIteration") → E (.ref e) { s with heap := h' }) :
    wpAny (model prog w) A (Builtin.«zip.__next__» ⟨[.ref z], []⟩) Q E s := by
  show wpAny _ _ (field (.ref z) 2 >>= _) _ _ _
  refine wpAny_bind (wpAny_field hz rfl (x := .bool false) rfl ?_)
  show wpAny _ _ (field (.ref z) 3 >>= _) _ _ _
  refine wpAny_bind (wpAny_field hz rfl (x := .ref TI) rfl ?_)
  refine wpAny_bind (wpAny_seqItems hTI rfl ?_)
  show wpAny _ _ (Builtin.SmallTypes.ownedTupleIsFree (.ref z) >>= _) _ _ _
  refine wpAny_bind ?_
  unfold Builtin.SmallTypes.ownedTupleIsFree
  refine wpAny_bind (wpAny_field hz rfl (x := .none) rfl (wpAny_pure ?_))
  rw [if_pos rfl]
  refine wpAny_bind (wpAny_rule ?_)
  refine wpAny_bind (wpAny_field hz rfl (x := .ref TO) rfl ?_)
  refine wpAny_bind (wpAny_setField_rec hz (by simp) fun h₁ hz₁ hs₁ => ?_)
  replace hz₁ : IsZip h₁ z TI TO .ellipsis := hz₁
  refine wpAny_bind ?_
  simp only [List.zipIdx_cons, List.zipIdx_nil, List.forIn_cons, List.forIn_nil]
  refine wpAny_bind (wpAny_bind (wpAny_onRaise ?_))
  show wpAny _ _ (Builtin.SmallTypes.nextOf (.ref i1) >>= _) _ _ _
  refine wpAny_bind (wpAny_nextOf_list_end hh (h1.extBut hs₁.extBut D.i1z) (hl1.extBut hs₁.extBut D.l1.1) hx fun h₂ e hs₂ he => ?_)
  obtain ⟨oe, hoe, hce⟩ := he
  have hz₂ : IsZip h₂ z TI TO .ellipsis := hs₂ _ _ D.i1z.symm hz₁
  have hez : e ≠ z := fun x => by subst x; rw [hz₂] at hoe; cases hoe; simp at hce
  exact wpAny_setField_rec hz₂ (by simp) fun h₃ _ hs₃ => hE h₃ e (fun c o c1 c3 x => hs₃.extBut _ _ c1 (hs₂ _ _ c3 (hs₁.extBut _ _ c1 x))) ⟨oe, hs₃.extBut _ _ hez hoe, hce⟩
end
noncomputable abbrev z3a (h : Heap) (l1 : Addr) : Heap := h.push { cls := .type "list_iterator", data := .fields #[.ref l1, .int 0 0] }
noncomputable abbrev z3b (h : Heap) (l1 l2 : Addr) : Heap := (z3a h l1).push { cls := .type "list_iterator", data := .fields #[.ref l2, .int 0 0] }
noncomputable abbrev z3c (h : Heap) (l1 l2 l3 : Addr) : Heap := (z3b h l1 l2).push { cls := .type "list_iterator", data := .fields #[.ref l3, .int 0 0] }
noncomputable abbrev z3d (h : Heap) (l1 l2 l3 : Addr) : Heap := (z3c h l1 l2 l3).push { cls := .type "tuple", data := .seq #[.ref h.objs.size, .ref (z3a h l1).objs.size, .ref (z3b h l1 l2).objs.size] }
noncomputable abbrev z3e (h : Heap) (l1 l2 l3 : Addr) : Heap := (z3d h l1 l2 l3).push { cls := .type "tuple", data := .seq #[.none, .none, .none] }
noncomputable abbrev z3f (h : Heap) (l1 l2 l3 : Addr) : Heap := (z3e h l1 l2 l3).push { cls := .type "zip", data := .fields #[.none, .bool false, .bool false, .ref (z3c h l1 l2 l3).objs.size, .ref (z3d h l1 l2 l3).objs.size] }
set_option maxHeartbeats 2000000 in
theorem zip3_new (xs ys ws : Array Value) (l1 l2 l3 : Addr) :
    Meets (Builtin.«zip.__new__» ⟨[.type "zip", .ref l1, .ref l2, .ref l3], []⟩) (fun _ R s => s.heap.IsList l1 xs ∧ s.heap.IsList l2 ys ∧ s.heap.IsList l3 ws ∧
      R (.ok (.ret (.ref (z3e s.heap l1 l2 l3).objs.size))) { s with heap := z3f s.heap l1 l2 l3 }) :=
  .of_wp fun prog w A R s h => by
    obtain ⟨hp, g, d, tk, os⟩ := s
    obtain ⟨hl1, hl2, hl3, h⟩ := h
    have hsub := sub_zip
    have hL1 : Heap.IsList (Shared.heap ⟨hp, g, d, tk, os⟩) l1 xs := hl1
    have hL2 : Heap.IsList (Shared.heap ⟨z3a hp l1, g, d, tk, os⟩) l2 ys := Heap.IsList.push hl2 _
    have hL3 : Heap.IsList (Shared.heap ⟨z3b hp l1 l2, g, d, tk, os⟩) l3 ws := Heap.IsList.push (Heap.IsList.push hl3 _) _
    wp_walk using wpAny_pyIter_list hL1, wpAny_pyIter_list hL2, wpAny_pyIter_list hL3
    exact ⟨_, rfl, h⟩
theorem typeCall_zip_3 (a b c : Value) : checkTypeCall "zip" ⟨[a, b, c], []⟩ = pure () := by kernel_rfl
theorem newCall_zip_3 (a b c : Value) : checkBuiltinCall "zip.__new__" ⟨[.type "zip", a, b, c], []⟩ = pure () := by kernel_rfl
theorem args_object_init_4 (a b c d : Value) : argsOk "object.__init__" ⟨[a, b, c, d], []⟩ := by
  unfold argsOk; rw [signature?_of (id := "object.__init__") (n := ['_', '_', 't', 'i', 'n', 'i', '_', '_']) (o := ['t', 'c', 'e', 'j', 'b', 'o']) (by kernel_rfl) F.owner_object]; kernel_rfl
section
variable {prog : Program} {w : World} {A : Around} {E : Value → Shared → Prop} {s : Shared}
theorem call_zip_3 {l1 l2 l3 : Addr} {xs ys ws : Array Value} {Q : Value → Shared → Prop} (hl1 : s.heap.IsList l1 xs) (hl2 : s.heap.IsList l2 ys) (hl3 : s.heap.IsList l3 ws)
    (h : ∀ h', IsZip h' (s.heap.objs.size + 5) (s.heap.objs.size + 3) (s.heap.objs.size + 4) .none → IsTrip h' (s.heap.objs.size + 3) (.ref s.heap.objs.size) (.ref (s.heap.objs.size + 1)) (.ref (s.heap.objs.size + 2)) → IsTrip h' (s.heap.objs.size + 4) .none .none .none →
        h'.IsListIter s.heap.objs.size l1 0 → h'.IsListIter (s.heap.objs.size + 1) l2 0 → h'.IsListIter (s.heap.objs.size + 2) l3 0 → h'.objs.size = s.heap.objs.size + 6 → (∀ c o, s.heap.get? c = some o → h'.get? c = some o) → Q (.ref (s.heap.objs.size + 5)) { s with heap := h' }) :
    wpAny (model prog w) A (call (.type "zip") [.ref l1, .ref l2, .ref l3]) Q E s := by
  refine callType_new F.called_zip (by decide) (typeCall_zip_3 _ _ _) (newCall_zip_3 _ _ _) (fun obj => args_object_init_4 obj _ _ _) F.entry_zip_new
    (zip3_new xs ys ws l1 l2 l3) ⟨hl1, hl2, hl3, ?_⟩
  have za : (z3a s.heap l1).objs.size = s.heap.objs.size + 1 := Heap.size_push ..
  have zb : (z3b s.heap l1 l2).objs.size = s.heap.objs.size + 2 := by rw [Heap.size_push, za]
  have zc : (z3c s.heap l1 l2 l3).objs.size = s.heap.objs.size + 3 := by rw [Heap.size_push, zb]
  have zd : (z3d s.heap l1 l2 l3).objs.size = s.heap.objs.size + 4 := by rw [Heap.size_push, zc]
  have ze : (z3e s.heap l1 l2 l3).objs.size = s.heap.objs.size + 5 := by rw [Heap.size_push, zd]
  have zf : (z3f s.heap l1 l2 l3).objs.size = s.heap.objs.size + 6 := by rw [Heap.size_push, ze]
  have up1 : ∀ {c o}, (z3e s.heap l1 l2 l3).get? c = some o → (z3f s.heap l1 l2 l3).get? c = some o := fun e => Heap.get?_push_of_some _ e
  have up2 : ∀ {c o}, (z3d s.heap l1 l2 l3).get? c = some o → (z3f s.heap l1 l2 l3).get? c = some o := fun e => up1 (Heap.get?_push_of_some _ e)
  have up3 : ∀ {c o}, (z3c s.heap l1 l2 l3).get? c = some o → (z3f s.heap l1 l2 l3).get? c = some o := fun e => up2 (Heap.get?_push_of_some _ e)
  have up4 : ∀ {c o}, (z3b s.heap l1 l2).get? c = some o → (z3f s.heap l1 l2 l3).get? c = some o := fun e => up3 (Heap.get?_push_of_some _ e)
  have up5 : ∀ {c o}, (z3a s.heap l1).get? c = some o → (z3f s.heap l1 l2 l3).get? c = some o := fun e => up4 (Heap.get?_push_of_some _ e)
  have g6 : (z3f s.heap l1 l2 l3).get? (z3e s.heap l1 l2 l3).objs.size = some _ := Heap.get?_push_size _ rfl
  have g5 := up1 (Heap.get?_push_size (z3d s.heap l1 l2 l3) (o := { cls := .type "tuple", data := .seq #[.none, .none, .none] }) rfl)
  have g4 := up2 (Heap.get?_push_size (z3c s.heap l1 l2 l3) (o := { cls := .type "tuple", data := .seq #[.ref s.heap.objs.size, .ref (z3a s.heap l1).objs.size, .ref (z3b s.heap l1 l2).objs.size] }) rfl)
  have g3 := up3 (Heap.get?_push_size (z3b s.heap l1 l2) (o := { cls := .type "list_iterator", data := .fields #[.ref l3, .int 0 0] }) rfl)
  have g2 := up4 (Heap.get?_push_size (z3a s.heap l1) (o := { cls := .type "list_iterator", data := .fields #[.ref l2, .int 0 0] }) rfl)
  have g1 := up5 (Heap.get?_push_size s.heap (o := { cls := .type "list_iterator", data := .fields #[.ref l1, .int 0 0] }) rfl)
  show _ ∧ _
  rw [ze, zc, zd] at g6
  rw [zd] at g5
  rw [zc, za, zb] at g4
  rw [zb] at g3
  rw [za] at g2
  rw [ze]
  exact ⟨⟨_, g6, rfl⟩, h _ g6 g4 g5 ⟨_, g1, rfl, rfl⟩ ⟨_, g2, rfl, rfl⟩ ⟨_, g3, rfl, rfl⟩ zf fun c o x => up5 (Heap.get?_push_of_some _ x)⟩
end
end Lw
end

section
open PySem PySem.W PyProof.Rows PySem.Calls
namespace Lw
section
variable {prog : Program} {w : World} {A : Around} {E : Value → Shared → Prop} {s : Shared} {z TI TO i1 i2 i3 l1 l2 l3 : Addr}
structure Z3 (z TI TO i1 i2 i3 l1 l2 l3 : Addr) (xs ys ws : Array Value) (f0 : Value) (i : Nat) (h : Heap) : Prop where
  z : IsZip h z TI TO f0
  ti : IsTrip h TI (.ref i1) (.ref i2) (.ref i3)
  to : ∃ a b c, IsTrip h TO a b c
  i1 : h.IsListIter i1 l1 i
  i2 : h.IsListIter i2 l2 i
  i3 : h.IsListIter i3 l3 i
  l1 : h.IsList l1 xs
  l2 : h.IsList l2 ys
  l3 : h.IsList l3 ws
theorem Z3.keep {xs ys ws : Array Value} {f0 : Value} {i : Nat} {h h' : Heap} (x : Z3 z TI TO i1 i2 i3 l1 l2 l3 xs ys ws f0 i h) (k : ∀ b ∈ [z, TI, TO, i1, i2, i3, l1, l2, l3], ∀ o, h.get? b = some o → h'.get? b = some o) : Z3 z TI TO i1 i2 i3 l1 l2 l3 xs ys ws f0 i h' := by
  obtain ⟨a, b, c, hto⟩ := x.to
  exact ⟨k _ (by simp) _ x.z, k _ (by simp) _ x.ti, ⟨a, b, c, k _ (by simp) _ hto⟩, x.i1.at fun o e => k _ (by simp) o e, x.i2.at fun o e => k _ (by simp) o e, x.i3.at fun o e => k _ (by simp) o e, x.l1.at fun o e => k _ (by simp) o e, x.l2.at fun o e => k _ (by simp) o e, x.l3.at fun o e => k _ (by simp) o e⟩
theorem zip3_walk (hh : A.handled = none) (D : Ap3 z TI TO i1 i2 i3 l1 l2 l3) (xs ys ws : Array Value) (h12 : ys.size = xs.size) (h13 : ws.size = xs.size) :
    WalksT prog w A z [z, TI, TO, i1, i2, i3, l1, l2, l3] [z, TO, i1, i2, i3] xs.size
      (fun i vals => ∃ x y u, xs[i]? = some x ∧ ys[i]? = some y ∧ ws[i]? = some u ∧ vals = #[x, y, u])
      (fun i h => Z3 z TI TO i1 i2 i3 l1 l2 l3 xs ys ws .none i h)
      (fun i T h => Z3 z TI TO i1 i2 i3 l1 l2 l3 xs ys ws (rawInt T) (i + 1) h ∧ T ≠ z ∧ T ≠ TO ∧ T ≠ i1 ∧ T ≠ i2 ∧ T ≠ i3) where
  sub := fun c hc => by
    simp only [List.mem_cons, List.not_mem_nil, or_false] at hc ⊢
    rcases hc with rfl | rfl | rfl | rfl | rfl <;> simp
  frame := fun i h h' hst hk => hst.keep hk
  item := fun i s Q E hi hst hQ => by
    have ex : xs[i]? = some xs[i] := Array.getElem?_eq_getElem hi
    have ey : ys[i]? = some (ys[i]'(h12 ▸ hi)) := Array.getElem?_eq_getElem (h12 ▸ hi)
    have eu : ws[i]? = some (ws[i]'(h13 ▸ hi)) := Array.getElem?_eq_getElem (h13 ▸ hi)
    obtain ⟨a, b, c, hto⟩ := hst.to
    have hT : s.TypeIs (.ref z) "zip" := ⟨_, hst.z, rfl⟩
    have lt : ∀ {c o}, s.heap.get? c = some o → s.heap.objs.size ≠ c := fun e => Nat.ne_of_gt (Heap.lt_size e)
    obtain ⟨o1, e1, _⟩ := id hst.i1
    obtain ⟨o2, e2, _⟩ := id hst.i2
    obtain ⟨o3, e3, _⟩ := id hst.i3
    unfold pyNext
    refine wpAny_bind (wpAny_attempt (wpAny_callSpecial?_slot (name := Str.ofString "__next__") hT F.slot_zip_next
      (wpAny_call_entry F.slot_zip_next hT F.entry_zip_next
        (zip3_item D hst.z hst.ti hto hst.i1 hst.i2 hst.i3 hst.l1 hst.l2 hst.l3 ex ey eu fun h' a1 a2 a3 a4 a5 a6 a7 hk => wpAny_pure ?_) (F.args_zip_next_1 _))))
    refine hQ s.heap.objs.size #[xs[i], ys[i]'(h12 ▸ hi), ws[i]'(h13 ▸ hi)] h' s.toks ⟨_, _, _, ex, ey, eu, rfl⟩ (Nat.le_refl _) ⟨_, a6, rfl, _, rfl⟩
      ⟨⟨a1, hk _ _ D.TIz D.TITO D.TIi1 D.TIi2 D.TIi3 hst.ti, ⟨_, _, _, a2⟩, a3, a4, a5, hst.l1.at fun o e => hk _ o D.l1.1 D.l1.2.1 D.l1.2.2.1 D.l1.2.2.2.1 D.l1.2.2.2.2 e, hst.l2.at fun o e => hk _ o D.l2.1 D.l2.2.1 D.l2.2.2.1 D.l2.2.2.2.1 D.l2.2.2.2.2 e, hst.l3.at fun o e => hk _ o D.l3.1 D.l3.2.1 D.l3.2.2.1 D.l3.2.2.2.1 D.l3.2.2.2.2 e⟩,
        lt hst.z, lt hto, lt e1, lt e2, lt e3⟩
      fun c o hc e => hk c o (fun x => hc (by simp [x])) (fun x => hc (by simp [x])) (fun x => hc (by simp [x])) (fun x => hc (by simp [x])) (fun x => hc (by simp [x])) e
  go := fun elts k pos i T s Q E hm hQ => by
    obtain ⟨hst, _⟩ := hm
    obtain ⟨a, b, c, hto⟩ := hst.to
    refine wpAny_letOwnedTupleGo_zip hst.z fun h' hz' hs' => hQ h' ⟨hz', hs'.extBut _ _ D.TIz hst.ti, ⟨a, b, c, hs'.extBut _ _ D.TOz hto⟩, hst.i1.extBut hs'.extBut D.i1z, hst.i2.extBut hs'.extBut D.i2z, hst.i3.extBut hs'.extBut D.i3z,
      hst.l1.extBut hs'.extBut D.l1.1, hst.l2.extBut hs'.extBut D.l2.1, hst.l3.extBut hs'.extBut D.l3.1⟩ fun c o hc e => hs'.extBut _ _ (fun x => hc (by simp [x])) e
  apart := fun i T h hm hT => by
    obtain ⟨_, t1, t2, t3, t4, t5⟩ := hm
    simp only [List.mem_cons, List.not_mem_nil, or_false] at hT
    rcases hT with rfl | rfl | rfl | rfl | rfl
    · exact t1 rfl
    · exact t2 rfl
    · exact t3 rfl
    · exact t4 rfl
    · exact t5 rfl
  done := fun s Q E hst hQ => by
    have hT : s.TypeIs (.ref z) "zip" := ⟨_, hst.z, rfl⟩
    obtain ⟨a, b, c, hto⟩ := hst.to
    unfold pyNext
    refine wpAny_bind (wpAny_attempt (wpAny_callSpecial?_slot (name := Str.ofString "__next__") hT F.slot_zip_next
      (wpAny_call_entry F.slot_zip_next hT F.entry_zip_next (zip3_end (a := a) (b := b) (c := c) hh D hst.z hst.ti hst.i1 hst.l1 (Array.getElem?_eq_none (Nat.le_refl _)) fun h' e hk he => ?_) (F.args_zip_next_1 _))))
    obtain ⟨o, ho, hc⟩ := he
    refine wpAny_bind (wpAny_isInstance (T := "StopIteration") (b := true) ⟨o, ho, hc⟩ isSubtype_stop ?_)
    exact wpAny_pure (hQ h' s.toks fun c o hc e => hk c o (fun x => hc (by simp [x])) (fun x => hc (by simp [x])) e)
  self := fun i s Q E hst hQ => wpAny_pyIter_zip hst.z hQ
end
noncomputable def zipped3 (xs ys zs : List D) : List D := List.zipWith (fun x p => D.tup [x, p.1, p.2]) xs (ys.zip zs)
section
variable {n : Nat}
theorem zip3L {elts : List Expr} {k : Nat} {p : Pos} {xs ys ds : List D} (h12 : ys.length = xs.length) (h13 : ds.length = xs.length) : CallI prog w K (.type "zip") n [.lst xs, .lst ys, .lst ds] (.Tuple elts k p) (zipped3 xs ys ds) := fun A U s vs rm ok rl => by
  obtain ⟨v, vs', rfl, ⟨l₁, us, rfl, hu₁, hl₁, rx⟩, v2, vs2, rfl, ⟨l₂, ws, rfl, hu₂, hl₂, ry⟩, v3, vs3, rfl, ⟨l₃, ts, rfl, hu₃, hl₃, rz⟩, r⟩ := rl
  cases r
  have hl₁ := hl₁.isList
  have hl₂ := hl₂.isList
  have hl₃ := hl₃.isList
  have a₁ : @LT.lt Nat _ l₁ s.heap.objs.size := by obtain ⟨o, e, _⟩ := hl₁; exact Heap.lt_size e
  have a₂ : @LT.lt Nat _ l₂ s.heap.objs.size := by obtain ⟨o, e, _⟩ := hl₂; exact Heap.lt_size e
  have a₃ : @LT.lt Nat _ l₃ s.heap.objs.size := by obtain ⟨o, e, _⟩ := hl₃; exact Heap.lt_size e
  refine call_zip_3 hl₁ hl₂ hl₃ fun h' hz hTI hTO h1 h2 h3 hsz hk => ?_
  have g : Gr s { s with heap := h' } := Gr.of (t := s.toks) hk (Nat.le_refl _) (by rw [hsz]; lia)
  have DD : Ap3 (s.heap.objs.size + 5) (s.heap.objs.size + 3) (s.heap.objs.size + 4) s.heap.objs.size (s.heap.objs.size + 1) (s.heap.objs.size + 2) l₁ l₂ l₃ := by
    constructor
    all_goals first | exact ne_nat (by lia) | exact ⟨ne_nat (by lia), ne_nat (by lia), ne_nat (by lia), ne_nat (by lia), ne_nat (by lia)⟩
  have W := zip3_walk (prog := prog) (w := w) rm.hd DD (List.toArray us) (List.toArray ws) (List.toArray ts) (by simp [rx.length, ry.length, h12]) (by simp [rx.length, rz.length, h13])
  have hlen : (List.toArray us).size = (zipped3 xs ys ds).length := by simp [zipped3, rx.length, h12, h13]
  rw [hlen] at W
  have st : Z3 (s.heap.objs.size + 5) (s.heap.objs.size + 3) (s.heap.objs.size + 4) s.heap.objs.size (s.heap.objs.size + 1) (s.heap.objs.size + 2) l₁ l₂ l₃ (List.toArray us) (List.toArray ws) (List.toArray ts) .none 0 h' :=
    ⟨hz, hTI, ⟨_, _, _, hTO⟩, h1, h2, h3, hl₁.at fun o e => hk _ o e, hl₂.at fun o e => hk _ o e, hl₃.at fun o e => hk _ o e⟩
  have wlo : ∀ b ∈ [s.heap.objs.size + 5, s.heap.objs.size + 4, s.heap.objs.size, s.heap.objs.size + 1, s.heap.objs.size + 2], @LE.le Nat _ s.heap.objs.size b ∧ @LT.lt Nat _ b (s.heap.objs.size + 6) := fun b hb => by
    simp only [List.mem_cons, List.not_mem_nil, or_false] at hb
    rcases hb with rfl | rfl | rfl | rfl | rfl <;> constructor <;> lia
  refine W.self 0 { s with heap := h' } _ _ st ⟨g, _, _, _, _, _, _, rfl, KTurns.ofWalksU W.toU, st, fun b hb => ?_, fun b hb hbw => ?_, fun s Q E st hQ => W.self 0 s Q E st hQ, fun i v h₁ U' hP hk₁ hU' => ?_⟩
  · show s.heap.objs.size ≤ b ∧ b < h'.objs.size
    rw [hsz]
    exact wlo b hb
  · have hb' : b = s.heap.objs.size + 3 ∨ b = l₁ ∨ b = l₂ ∨ b = l₃ := by
      simp only [List.mem_cons, List.not_mem_nil, or_false] at hb hbw
      rcases hb with q | q | q | q | q | q | q | q | q
      · exact absurd (.inl q) hbw
      · exact .inl q
      · exact absurd (.inr (.inl q)) hbw
      · exact absurd (.inr (.inr (.inl q))) hbw
      · exact absurd (.inr (.inr (.inr (.inl q)))) hbw
      · exact absurd (.inr (.inr (.inr (.inr q)))) hbw
      · exact .inr (.inl q)
      · exact .inr (.inr (.inl q))
      · exact .inr (.inr (.inr q))
    show ¬ U b ∧ @LT.lt Nat _ b h'.objs.size
    rw [hsz]
    rcases hb' with q | rfl | rfl | rfl
    · have q' : @Eq Nat b (s.heap.objs.size + 3) := q
      exact ⟨ok.not_fresh (show @LE.le Nat _ s.heap.objs.size b by lia), by lia⟩
    · exact ⟨hu₁, by lia⟩
    · exact ⟨hu₂, by lia⟩
    · exact ⟨hu₃, by lia⟩
  · obtain ⟨T, vals, rfl, ⟨x, y, u, hx, hy, hz, rfl⟩, hT⟩ := hP
    have hx' : us[i]? = some x := by simpa using hx
    have hy' : ws[i]? = some y := by simpa using hy
    have hz' : ts[i]? = some u := by simpa using hz
    have hi : i < xs.length := by
      have := (List.getElem?_eq_some_iff.mp hx').1
      rw [rx.length] at this; exact this
    have hj : i < ys.length := by rw [h12]; exact hi
    have hk3 : i < ds.length := by rw [h13]; exact hi
    obtain ⟨v', e', r⟩ := rx.get (List.getElem?_eq_getElem hi)
    rw [hx'] at e'
    cases e'
    obtain ⟨v'', e'', r₂⟩ := ry.get (List.getElem?_eq_getElem hj)
    rw [hy'] at e''
    cases e''
    obtain ⟨v''', e''', r₃⟩ := rz.get (List.getElem?_eq_getElem hk3)
    rw [hz'] at e'''
    cases e'''
    have tr : ∀ {v : Value} {d : D}, R U s.heap v d → R U' h₁ v d := fun r => R.mono (fun b q => by
      rcases hU' b q with q | q | q
      · exact .inl q
      · exact .inr (fresh_none' (wlo b q).1)
      · right
        cases e : s.heap.get? b with
        | none => rfl
        | some o =>
          have q' : h'.get? b = none := q
          rw [hk b o e] at q'; cases q') (fun b o q e => hk₁ b o q (fun z => absurd (wlo b z).1 (Nat.not_le.mpr (Heap.lt_size e))) (hk b o e)) _ r
    refine ⟨.tup [xs[i], ys[i], ds[i]], ?_, _, T, [x, y, u], rfl, rfl, hT, ⟨_, _, rfl, tr r, _, _, rfl, tr r₂, RL.one (tr r₃)⟩⟩
    unfold zipped3
    have hzip : (ys.zip ds)[i]? = some (ys[i], ds[i]) := by
      rw [List.getElem?_zip_eq_some]; exact ⟨List.getElem?_eq_getElem hj, List.getElem?_eq_getElem hk3⟩
    rw [List.getElem?_zipWith, List.getElem?_eq_getElem hi, hzip]
end
end Lw
end

section
open PySem PySem.W PyProof.Rows PySem.Calls PySem.SeqAt
namespace Lw
section
variable {bx : Fl} {sc : Scope} {n : Nat} {ρ : Vars} {ω : Owns} {P : Out → Prop}
theorem wn_keys {X : FX} {ω ω' : Owns} (h : ∀ b, (ω.lookup b).isSome = true ↔ (ω'.lookup b).isSome = true) {b : Addr} (q : Wn X ω b) : Wn X ω' b := by
  rcases q with q | q | q
  · exact .inl q
  · exact .inr (.inl ((h b).mp q))
  · exact .inr (.inr q)
theorem ex_forPinR {t iter : Expr} {body : List Stmt} {pos : Pos} {l : Addr} {its : List D} (hf : FsOk sc iter) (hi : EM prog w K bx sc n ρ ω iter fun r => r = .val (.val (.ref l)) ω) (hl : ω.lookup l = some (.lst its)) (hsh : ∀ d ∈ its, ShapeOk t d) (J : Obj → Nat → Vars → Owns → Prop) (h0 : ∀ o, J o 0 ρ ((l, .pin o its) :: ω))
    (hJ : ∀ o i ρ ω, J o i ρ ω → ω.lookup l = some (.pin o its))
    (ht : ∀ (i : Nat) d, its[i]? = some d → TgtOk (KindOk sc) t d)
    (step : ∀ o (i : Nat) d ρ ω, its[i]? = some d → J o i ρ ω → EX prog w K bx sc n body (bindT t d ρ) ω (fun r => match r with
      | .next ρ' ω' => ∃ ρ₁ ω₁, J o (i + 1) ρ₁ ω₁ ∧ Sub ρ₁ ρ' ∧ SubO ω₁ ω'
      | .ret d ω' => ω'.lookup l = some (.pin o its) ∧ P (.ret d ((l, .lst its) :: ω'))
      | _ => False))
    (hP : ∀ o ρ ω, J o its.length ρ ω → P (.next ρ ((l, .lst its) :: ω))) : EX1 prog w K bx sc n (.For t iter body [] pos) ρ ω P := fun X s m cm hs rm x0 => by
  refine wpAny_For (wpAny_mono (hi X s m cm hs rm x0) (fun xv s₁ hz => ?_) fun e s₁ hz => by obtain ⟨d, ω', q, _⟩ := hz; cases q) (fun x => hf _ x hs.sco)
  obtain ⟨d, ω', q, x1, st1, r⟩ := hz
  cases q
  have r' : xv = .ref l := r
  subst r'
  obtain ⟨o, vs, x2, pl, rl⟩ := x1.pin hl
  have hks : ∀ b, ((((l, Ow.pin o its) :: ω : Owns)).lookup b).isSome = true ↔ (ω.lookup b).isSome = true := fun b => cons_keys (by rw [hl]; rfl)
  refine wpAny_pyIter_list pl.isList ?_
  have g2 : Gr s₁ { s₁ with heap := s₁.heap.push { cls := .type "list_iterator", data := .fields #[.ref l, .int 0 0] } } := Gr.push
  have hWeq : ∀ b, Wn X ((l, Ow.pin o its) :: ω) b → Wn X ω b := fun b q => (wn_cons.mp q).elim id fun e => .inr (.inl (by rw [e, hl]; rfl))
  have it := itok_list (prog := prog) (w := w) (A := X.A) (U := Wn X ((l, Ow.pin o its) :: ω)) (Z := fun b => Wn X ((l, Ow.pin o its) :: ω) b ∧ b ≠ l) (t := t) rm.hd (Nat.le_refl _) (fun q => q.2 rfl) pl (RL.mono (fun b q => .inl (hWeq b q)) (fun _ _ _ e => e) _ rl) hsh
  refine codeAny_mono (for_core (P := fun r => match r with
      | .next ρ ω => ω.lookup l = some (.pin o its) ∧ P (.next ρ ((l, .lst its) :: ω))
      | .ret d ω => ω.lookup l = some (.pin o its) ∧ P (.ret d ((l, .lst its) :: ω))
      | _ => False) (iter := iter) (J o) (h0 o) ht (fun i d ρ ω hd hj => ex_mono (step o i d ρ ω hd hj) fun r q => by cases r <;> first | exact q | exact q.elim) (fun ρ ω hj => ⟨hJ _ _ _ _ hj, hP o ρ ω hj⟩) hs rm x2 g2 it fun b q lt => ?_) fun r s' hz => ?_
  · refine ⟨fun z => ?_, fun z => ?_, ?_⟩
    · by_cases hb : b = l
      · rw [hb] at z; exact (x1.ownb l (by rw [hl]; rfl)).2.1 z
      · exact q ⟨frm_wn z, hb⟩
    · by_cases hb : b = l
      · rw [hb] at z; exact (x1.ownb l (by rw [hl]; rfl)).1.elim (fun k => absurd (x1.slt z) (Nat.not_lt.mpr k)) fun k => (x1.wu l k).2.2 z
      · exact q ⟨.inl (x1.su b z).1, hb⟩
    · by_cases hb : b = l
      · exact .inr ⟨o, fun i ρ' ω' hj => ⟨its, by rw [hb]; exact hJ _ _ _ _ hj⟩⟩
      · refine .inl ?_
        cases h : (((l, Ow.pin o its) :: ω : Owns)).lookup b with
        | none => rfl
        | some o' => exact absurd ⟨.inr (.inl (by rw [h]; rfl)), hb⟩ q
  · obtain ⟨fl, e, r₂, p, E⟩ := hz
    subst e
    cases r₂ with
    | next ρ' ω' =>
      obtain ⟨rfl, ⟨m', cm', y⟩, st⟩ := E
      obtain ⟨p1, p2⟩ := p
      refine ⟨_, p2, rfl, ⟨m', cm', y.unpin p1⟩, st1.trans ((st.keysL hks).less fun b q => (cons_keys (by rw [p1]; rfl)).mp q)⟩
    | ret d ω' =>
      obtain ⟨v, rfl, ⟨⟨m', cm', y⟩, st⟩, r⟩ := E
      obtain ⟨p1, p2⟩ := p
      have hk2 : ∀ b, ((((l, Ow.lst its) :: ω' : Owns)).lookup b).isSome = true ↔ (ω'.lookup b).isSome = true := fun b => cons_keys (by rw [p1]; rfl)
      exact ⟨_, p2, v, rfl, ⟨⟨m', cm', y.unpin p1⟩, st1.trans ((st.keysL hks).less fun b q => (hk2 b).mp q)⟩, R.mono (fun b q => .inl (wn_keys hk2 q)) (fun _ _ _ e => e) _ r⟩
    | _ => exact p.elim
end
end Lw
end

section
open PySem PySem.W PyProof.Rows PySem.Calls PySem.SeqAt
namespace Lw
section
variable {bx : Fl} {sc : Scope} {n : Nat} {ρ : Vars} {ω : Owns} {P : Out → Prop}
theorem em_methE {b : Bool} {o : Expr} {name : Str} {es : List Expr} {apos pos : Pos} {pl : Env → Sem Bool} {C f : Addr} {ds : List D} {Q : Res → Prop}
    (hshape : ∀ env, eval (.Call (.Attribute o name apos) es [] pos) env = (do
      let ov ← eval o env
      standAt apos.atName
      let (f, first) ← holding [ov] (getMethod ov name (pl env))
      callWith pos f first (backTo pos (starEach es env)) []))
    (hp : ∀ env, (backTo pos (starEach es env)).any (·.1) = false) (CO : ClsOk K C) (MO : MethOk K C name f) (ha : ES prog w K sc n ρ es ds) (hb : b = true → bx.b = true)
    (ho : EM prog w K bx sc n ρ ω o fun r => match r with
      | .val d ω₀ => ∃ a dx ω₁ fs, d = .val (.ref a) ∧ fs.lookup name = none ∧ ω₀.lookup a = some (.ins C dx) ∧ ω₀.lookup dx = some (.att fs) ∧ SubO ω₁ ω₀ ∧ CallM prog w K b (.ref f) n ω₁ (.val (.ref a) :: ds) [] (Onw bx.ks ω₀ ω₁ Q)
      | .exc d ω₀ => Q (.exc d ω₀)) : EM prog w K bx sc n ρ ω (.Call (.Attribute o name apos) es [] pos) Q := fun X s m cm hs rm x0 => by
  refine MethodCall_ (pl := pl X.env) (wpAny_mono (ho X s m cm hs rm x0) (fun v s₁ hz => ?_) fun v s₁ hz => ?_) (hshape _)
  · obtain ⟨d, ω₀, ⟨a, dx, ω₁, fs, rfl, hno, hx, hd, h1, hc⟩, x1, st1, r⟩ := hz
    have r' : v = .ref a := r
    subst r'
    obtain ⟨od, I, hl⟩ := x1.instAt hx hd
    have hl := hl name
    rw [hno] at hl
    refine method_fn x1.hokS.top I CO.hga CO.hk MO.find MO.typ (by unfold shadowIn; simp only [hl]; rfl) ?_
    refine callWith_raw (K := K) (T := fun vs s' => RL (Wn X ω₀) s'.heap vs ds) (fun s' g' => (x1.hokS.gr g').top) (.inr (.inr MO.keep)) (hp _) (wp_E (ha _ _ _ _ s₁ hs.sco rm x1.eok) fun vs s₂ h => h) fun vs s₂ g₂ rl => ?_
    have x2 := x1.after g₂
    have st := st1.trans (Stp.gr (X := X) (ω := ω₀) g₂)
    refine wpAny_mono (st_call (ds := .val (.ref a) :: ds) hb h1 hc hs rm x2 ⟨_, _, rfl, rfl, rl⟩ KwOk.nil) (fun v s' hz => ?_) fun v s' hz => ?_
    · obtain ⟨d, ω', q, y, st', r⟩ := hz; exact ⟨d, ω', q, y, st.trans st', r⟩
    · obtain ⟨d, ω', q, y, st', r⟩ := hz; exact ⟨d, ω', q, y, st.trans st', r⟩
  · obtain ⟨d, ω', q, x1, st1, r⟩ := hz
    exact ⟨d, ω', q, x1, st1, r⟩
theorem try_suiteR {A : Around} {E E2 : Value → Shared → Prop} {X : FX} {ωC : Owns} {m cm : Str → Option Value} {sC : Shared} {QK : Flow → Shared → Prop} {strE : Expr} {nm : Str} {p5 p6 p7 p10 : Pos}
    (hstr : nsIn K mainGlobals "str" = some none ∧ nsIn K builtinsNs "str" = some (some (.type "str")))
    (hxS : X.env.scope.names.lookup ("str" : Str) = some .globalImplicit) (hxn : Has X.env.scope nm)
    (hd : (nm == ("__classdict__" : Str)) = false ∧ (nm == ("__debug__" : Str)) = false)
    (hsh4 : ∀ env, eval strE env = (do callWith p7 (← eval (.Name "str" p5) env) [] (backTo p7 (starEach [.Name nm p6] env)) (backToKw p7 (keywordEach [] env))))
    (hsh5 : ∀ env, starEach [.Name nm p6] env = [(false, eval (.Name nm p6) env)])
    (hu : A.units + 2 < 9900) (kn : X.env.kindOf nm = some .local)
    {e : Addr} {T : Option Addr} {ms : Str} (eC : ωC.lookup e = some (.exn "ValueError" T [.str ms])) (xC : ST0 K X ρ ωC m cm sC)
    (hQ : ∀ sF mF cmF tk, ST0 K X ((nm, .val (.ref e)) :: ρ) ωC mF cmF sF → Stp X ωC sC ωC sF → QK (.ret (.str ms tk)) sF) :
    wpAny (model prog w) A (storeName X.env nm (.ref e)) (fun _ s₃ => wpAny (model prog w) A (execs [.Return (some strE) p10] X.env) QK E2 s₃) E sC := by
  refine st_set xC (.inl kn) (v := .ref e) (d := .val (.ref e)) rfl fun sD hz leD zD kD => ?_
  obtain ⟨mD, cmD, xD⟩ := hz
  have stD := Stp.set (X := X) (ω := ωC) (Gr.refl _) leD zD kD
  obtain ⟨dn6, dn7⟩ := hd
  clear leD zD kD xC
  refine wpAny_execs_cons (wpAny_Return_some ?_)
  rw [hsh4]
  refine wpAny_bind (nb_any xD.eok hxS hstr.1 hstr.2 (by decide) ?_)
  have hpl2 : (backTo p7 (starEach [.Name nm p6] X.env)).any (·.1) = false := by rw [hsh5]; rfl
  refine PyProof.Rows.callWith_type hpl2 (evalArgs_go hpl2 ?_)
  rw [hsh5]
  refine spliced_cons (nm_any xD.eok (d := .val (.ref e)) lookup_cons_eq hxn dn6 dn7 fun v3 r3 => spliced_nil ?_)
  have r3' : v3 = .ref e := r3
  subst r3'
  refine xD.exnAt eC fun oe fs t xs g1 g2 g3 g4 g5 g6 g7 g8 => ?_
  obtain ⟨v4, xs', rfl, g9, e4⟩ := g8
  obtain ⟨tk, rfl⟩ := g9
  have e4' : xs' = [] := e4
  subst e4'
  refine PySem.P.str_of_exc_one PySem.F.excStr_ValueError hu ⟨oe, fs, g1, g2, g3, g4⟩ g7 ?_
  exact hQ _ _ _ _ xD stD
theorem ex_tryRet {body : List Stmt} {strE : Expr} {nm : Str} {tp hpos p5 p6 p7 p10 pos : Pos} (hVE : nsIn K mainGlobals "ValueError" = some none ∧ nsIn K builtinsNs "ValueError" = some (some (.type "ValueError"))) (hstr : nsIn K mainGlobals "str" = some none ∧ nsIn K builtinsNs "str" = some (some (.type "str")))
    (hxV : sc.names.lookup ("ValueError" : Str) = some .globalImplicit) (hxS : sc.names.lookup ("str" : Str) = some .globalImplicit) (hxn : sc.names.lookup nm = some .local)
    (hd : (nm == ("__classdict__" : Str)) = false ∧ (nm == ("__debug__" : Str)) = false)
    (hsh4 : ∀ env, eval strE env = (do callWith p7 (← eval (.Name "str" p5) env) [] (backTo p7 (starEach [.Name nm p6] env)) (backToKw p7 (keywordEach [] env))))
    (hsh5 : ∀ env, starEach [.Name nm p6] env = [(false, eval (.Name nm p6) env)])
    (hb : bx.b = true)
    (hbody : EX prog w K bx sc n body ρ ω (fun o => match o with
      | .exc d ρ₁ ω₁ => ∀ Z : Prop, (∀ e T ms, d = .val (.ref e) → e ≠ T → ω₁.lookup e = some (.exn "ValueError" (some T) [.str ms]) → ω₁.lookup T = some (.tbk .none) →
          ∀ ω₂, (∀ a o, ω₂.lookup a = some o → a ≠ e ∧ ω₁.lookup a = some o ∧ ∀ fl, o ≠ .tbk fl) → P (.ret (.str ms) ω₂) → Z) → Z
      | o => P o)) :
    EX1 prog w K bx sc n (.Try body [.ExceptHandler (some (.Name "ValueError" tp)) (some nm) [.Return (some strE) p10] hpos] [] [] pos) ρ ω P := fun X s m cm hs rm x0 => by
  refine ex_gen fun QF QE hQ hE => ?_
  refine wpAny_Try_except (wpAny_mono (hbody X s m cm hs rm x0) (fun fl s' hz => ?_) fun ev s₁ hz => ?_)
  · obtain ⟨o, p, E⟩ := hz
    cases o with
    | next ρ' ω' => obtain ⟨rfl, f⟩ := E; exact wpAny_execs_nil (hQ _ _ _ p ⟨rfl, f⟩)
    | brk ρ' ω' => obtain ⟨rfl, f⟩ := E; exact hQ _ _ _ p ⟨rfl, f⟩
    | ret d ω' => obtain ⟨v, rfl, f⟩ := E; exact hQ _ _ _ p ⟨v, rfl, f⟩
    | exc _ _ _ => exact E.elim
  · obtain ⟨o, p, E⟩ := hz
    cases o with
    | exc d ρ₁ ω₁ =>
      obtain ⟨⟨⟨m₁, cm₁, x1⟩, st1⟩, r⟩ := E
      refine p _ fun e T ms hde heT he hT ω₂ hω hP => ?_
      subst hde
      clear p
      have r' : ev = .ref e := r
      subst r'
      clear hbody hE x0
      have hxV' : X.env.scope.names.lookup ("ValueError" : Str) = some .globalImplicit := by rw [hs.sco]; exact hxV
      have hxS' : X.env.scope.names.lookup ("str" : Str) = some .globalImplicit := by rw [hs.sco]; exact hxS
      have kn : X.env.kindOf nm = some .local := by show X.env.scope.names.lookup nm = _; rw [hs.sco]; exact hxn
      have hn : Has X.env.scope nm := .inl kn
      clear hxV hxS hxn
      refine note_flight x1 (hs.fk hb) he hT fun sB ωB TA xB stB eB tB keep => ?_
      refine wpAny_handleBy_builtin_as (X := "ValueError") (T := "ValueError") (b := true) (by rw [isSubtype_type]; kernel_rfl) (by rw [isSubtype_type]; kernel_rfl) excClass_ValueError.self ?_
      refine nb_any (A := X.A.mark (some (.ref e))) xB.eok hxV' hVE.1 hVE.2 (by decide) ⟨rfl, ?_, ?_⟩
      · exact xB.exnAt eB fun oe vs t xs g1 g2 _ _ _ _ _ _ => ⟨oe, g1, g2⟩
      rw [if_pos rfl]
      refine flight_any xB eB tB fun sC ωC xC stC sameC => ?_
      have neT : e ≠ TA := fun z => by rw [z, tB] at eB; cases eB
      have eC := (sameC e neT).trans eB
      have stC' := (st1.trans stB).trans stC
      clear xB stB stC eB tB st1 x1 hT
      refine try_suiteR hstr hxS' hn hd hsh4 hsh5 (by have := rm.units; show X.A.units + 2 < 9900; lia) kn eC xC fun sF mF cmF tk xF stF => ?_
      refine try_unbind (ρ' := []) kn hn xF (fun z d hz => by cases hz) fun sH hz stH => ?_
      obtain ⟨mH, cmH, xH⟩ := hz
      have hsub : SubO ω₂ ωC := fun a o ho => by
        obtain ⟨z2, z3, z4⟩ := hω a o ho
        obtain ⟨k1, k2⟩ := keep a o z3 z4 z2
        rw [sameC a k1]; exact k2
      exact hQ _ _ _ hP ⟨_, rfl, ⟨⟨mH, cmH, xH.subO (Sub.refl _) hsub⟩, ((stC'.trans stF).trans stH).less fun a z => hsub.some z⟩, tk, rfl⟩
    | _ => exact E.elim
end
end Lw
end

section
open PySem PySem.W PyProof.Rows PySem.Calls
namespace Lw
structure SChg (S : Addr → Prop) (s s' : Shared) : Prop where
  keep : ∀ b o, ¬ S b → s.heap.get? b = some o → s'.heap.get? b = some o
  slots : ∀ b o, S b → s.heap.get? b = some o → ∃ sl, s'.heap.get? b = some { o with slots := sl }
  sz : s.heap.objs.size ≤ s'.heap.objs.size
  tk : s.toks ≤ s'.toks
theorem FramesIn.slots {S : Addr → Prop} {outer : List Env} {h h' : Heap} (x : FramesIn S outer h) (k : ∀ b o, S b → h.get? b = some o → ∃ sl, h'.get? b = some { o with slots := sl }) : FramesIn S outer h' := fun env he => by
  obtain ⟨a, L, o, f, l, g, d⟩ := x env he
  obtain ⟨sl, z⟩ := k L o l g
  exact ⟨a, L, _, f, l, z, d⟩
section
variable {K : Frag} {X : FX} {ρ : Vars} {ω : Owns} {m cm : Str → Option Value} {s : Shared}
theorem ST0.chg (x : ST0 K X ρ ω m cm s) {s' : Shared} (hsame : ∃ h tk, s' = { s with heap := h, toks := tk }) (kp : ∀ b o, ¬ X.V b → ¬ S1 X b → s.heap.get? b = some o → s'.heap.get? b = some o) (ks : ∀ b o, S1 X b → s.heap.get? b = some o → ∃ sl, s'.heap.get? b = some { o with slots := sl })
    (hz : s.heap.objs.size ≤ s'.heap.objs.size) (ht : s.toks ≤ s'.toks) (hok : HOK K X.U s') : ST0 K X ρ ω m cm s' := by
  have inC := x.inC
  have up : ∀ b o, ¬ Wn X ω b → s.heap.get? b = some o → s'.heap.get? b = some o := fun b o q e => kp b o (fun f => q (.inr (.inr (.inr (.inr f))))) (fun f => q (f.elim (fun f => .inl (x.su b f).1) fun f => .inr (.inr (.inl f)))) e
  have nS : ∀ {a}, (ω.lookup a).isSome = true → ¬ S1 X a := fun {a} h f => by
    obtain ⟨b1, b2, b3⟩ := x.ownb a h
    exact f.elim (fun f => b1.elim (fun l => absurd (x.slt f) (Nat.not_lt.mpr l)) fun w => (x.wu a w).2.2 f) fun f => b2 (.inl f)
  have nV : ∀ {b}, b < X.base.heap.objs.size → ¬ X.V b := fun {b} h f => absurd h (Nat.not_lt.mpr (x.vb b f).1)
  refine { inC := ⟨?_, ns_slots inC.ns fun o e => ks _ o (.inr rfl) e, fun b o w q e => ?_, fun b o q e => ?_, inC.fresh, fun y c e => ?_, inC.apart, inC.above, inC.look⟩
           hok := x.hok, hokS := hok
           le := Nat.le_trans x.le ht, fn := x.fn, gl := x.gl, bl := x.bl, ce := x.ce, cl := x.cl,
           vars := fun z d e hz => ?_,
           own := fun a o e => (x.own a o e).mono (fun _ q => .inl q) up fun o' eo => kp a o' (fun f => (x.ownb a (by rw [e]; rfl)).2.2 f) (nS (by rw [e]; rfl)) eo,
           ownb := x.ownb,
           vlt := fun b q => Nat.lt_of_lt_of_le (x.vlt b q) hz, vb := x.vb, wu := x.wu, su := x.su, fr := fun f => ?_ }
  · obtain ⟨h₀, t₀, e⟩ := inC.same
    obtain ⟨h₁, t₁, e'⟩ := hsame
    exact ⟨h₁, t₁, by rw [e', e]⟩
  · have hb := Heap.lt_size e
    exact kp b o (nV hb) (fun f => f.elim q fun f => absurd hb (by rw [f]; exact Nat.not_lt.mpr inC.fresh)) (inC.keep b o w q e)
  · obtain ⟨sl, z⟩ := inC.slots b o q e
    obtain ⟨sl', z'⟩ := ks b _ (.inl q) z
    exact ⟨sl', z'⟩
  · obtain ⟨o, eo, ed⟩ := inC.cell y c e
    have hc := inC.above y c (mem_of_lookup e)
    refine ⟨o, kp c o (fun f => (x.vb c f).2.2 y e) (fun f => f.elim (fun f => ?_) fun f => ?_) eo, ed⟩
    · exact absurd (Nat.lt_trans (Nat.lt_of_lt_of_le (x.slt f) inC.fresh) hc) (Nat.lt_irrefl _)
    · rw [f] at hc; exact Nat.lt_irrefl _ hc
  · obtain ⟨v, b, r⟩ := x.vars z d e hz
    exact ⟨v, b, R.mono (fun _ q => .inl q) up _ r⟩
  · obtain ⟨outer, a, b, c⟩ := x.fr f
    exact ⟨outer, a, b, c.slots fun b o q e => ks b o (.inl q) e⟩
end
section
variable (prog : Program) (w : World) (K : Frag)
noncomputable def EltS (sc : Scope) (n : Nat) (ρ : Vars) (e : Expr) (d : D) : Prop := ∀ X s m cm, X.env.scope = sc → Rm n X.A → (∃ outer, X.A.frames = some outer ∧ FramesIn X.S outer s.heap) → ST0 K X ρ [] m cm s →
  wpAny (model prog w) X.A (eval e X.env) (fun v s' => ST0 K X ρ [] m cm s' ∧ SChg X.S s s' ∧ R (Wn X []) s'.heap v d) (fun _ _ => False) s
end
section
variable {sc scope : Scope} {n : Nat} {ρ : Vars}
theorem elt_call {fe : Expr} {es : List Expr} {pos : Pos} {f : Value} {ds : List D} {d : D} (hshape : ∀ env, eval (.Call fe es [] pos) env = (do callWith pos (← eval fe env) [] (backTo pos (starEach es env)) (backToKw pos (keywordEach [] env))))
    (hp : ∀ env, (backTo pos (starEach es env)).any (·.1) = false) (hk : (∃ id, f = .builtin id) ∨ (∃ t, f = .type t) ∨ keepIn K f = true)
    (hf : EV prog w K sc n ρ fe (.val f)) (ha : ES prog w K sc n ρ es ds) (hd : Scal d) (hc : CallM prog w K true f n [] ds [] fun r => ∃ ω', r = .val d ω') : EltS prog w K sc n ρ (.Call fe es [] pos) d := fun X s m cm hs rm hfr x0 => by
  rw [hshape]
  refine wpAny_bind (wpAny_mono (hf _ _ _ s hs rm x0.eok) (fun v s₁ hz => ?_) fun _ _ x => x.elim)
  obtain ⟨g, r⟩ := hz
  cases r
  have x1 := x0.after g
  refine callWith_core (K := K) (T := fun vs s' => Gr s s' ∧ ST0 K X ρ [] m cm s' ∧ RL (Wn X []) s'.heap vs ds) hk (hp _) (wpAny_mono (ha _ pos _ _ s₁ hs rm x1.eok) (fun vs s' z => ⟨(x1.after z.1).hokS.top, g.trans z.1, x1.after z.1, z.2⟩) fun _ _ x => x.elim) fun vs s₂ z => ?_
  obtain ⟨g2, x2, rl⟩ := z
  obtain ⟨outer, hA, hF⟩ := hfr
  refine wpAny_mono (hc X.A (Wn X []) X.S s₂ vs [] rm ⟨x2.hokW, fun _ _ e => (by cases e), fun _ e => (by cases e), fun a q => ⟨.inl (x2.su a q).1, (x2.su a q).2⟩⟩ (fun _ => ⟨outer, hA, hF.at fun b o _ e => g2.keep b o e⟩) rl KwOk.nil) (fun v s₃ hz => ?_) fun v s₃ hz => ?_
  · obtain ⟨d', ω', ⟨ω'', e⟩, B, r⟩ := hz
    cases e
    have hkeep : ∀ b o, ¬ X.S b → s₂.heap.get? b = some o → s₃.heap.get? b = some o := fun b o q e => B.keep b o rfl q e
    refine ⟨x2.chg B.same (fun b o _ q e => hkeep b o (fun f => q (.inl f)) e) (fun b o q e => ?_) B.sz B.le ⟨B.hok.top, B.hok.lim, fun a q => B.hok.lt a (.inl q), B.hok.tk⟩, ⟨fun b o q e => hkeep b o q (g2.keep b o e), fun b o q e => B.slots b o q (g2.keep b o e), Nat.le_trans g2.sz B.sz, Nat.le_trans g2.le B.le⟩, r.scal hd⟩
    by_cases hS : X.S b
    · exact B.slots b o hS e
    · exact ⟨o.slots, hkeep b o hS e⟩
  · obtain ⟨d', ω', ⟨ω'', e⟩, _⟩ := hz
    cases e
end
end Lw
end

section
open PySem PySem.W PyProof.Rows PySem.Calls
namespace Lw
structure CChg (X : FX) (acc : Addr) (wr : List Addr) (s s' : Shared) : Prop where
  keep : ∀ b o, ¬ Frm X b → ¬ X.S b → b ≠ acc → b ∉ wr → s.heap.get? b = some o → s'.heap.get? b = some o
  slots : ∀ b o, X.S b → s.heap.get? b = some o → ∃ sl, s'.heap.get? b = some { o with slots := sl }
  sz : s.heap.objs.size ≤ s'.heap.objs.size
  tk : s.toks ≤ s'.toks
theorem CChg.refl (X : FX) (acc : Addr) (wr : List Addr) (s : Shared) : CChg X acc wr s s := ⟨fun _ _ _ _ _ _ e => e, fun _ o _ e => ⟨o.slots, e⟩, Nat.le_refl _, Nat.le_refl _⟩
theorem CChg.trans {X : FX} {acc : Addr} {wr : List Addr} {s s' s'' : Shared} (x : CChg X acc wr s s') (y : CChg X acc wr s' s'') : CChg X acc wr s s'' :=
  ⟨fun b o q q' z z' e => y.keep b o q q' z z' (x.keep b o q q' z z' e), fun b o q e => by
    obtain ⟨sl, z⟩ := x.slots b o q e
    obtain ⟨sl', z'⟩ := y.slots b _ q z
    exact ⟨sl', z'⟩, Nat.le_trans x.sz y.sz, Nat.le_trans x.tk y.tk⟩
section
variable {sc scope : Scope} {n : Nat} {ρ : Vars}
theorem comp_coreS {sc' : Scope} {elt t iter : Expr} {pos : Pos} {its : List D} {r : Nat → D}
    (hit : ∀ i d, its[i]? = some d → TgtOk (KindOk scope) t d ∧ Sub ρ (bindT t d ρ) ∧ EltS prog w K sc' n (bindT t d ρ) elt (r i))
    {X : FX} {s : Shared} {acc : Addr} {m cm : Str → Option Value} (hs : X.env.scope = sc') (ho : ∀ x, KindOk scope x → X.ownk x) (rm : Rm n X.A) (hfr : ∃ outer, X.A.frames = some outer ∧ FramesIn X.S outer s.heap)
    {I : Addr} {fp wr : List Addr} {Pt Md : Nat → Value → Heap → Prop} {St : Nat → Heap → Prop} (y0 : ST0 K (X.more (· ∈ wr)) ρ [] m cm s) (hv : X.V acc) (haw : acc ∉ wr)
    (hp : s.heap.PlainList acc (List.toArray [])) (hl : its.length ≤ 100000)
    (W : KTurns prog w X.A t I fp wr its.length Pt Md St) (hst : St 0 s.heap) (hfp : ∀ b ∈ fp, b ∉ wr → ¬ Frm X b ∧ ¬ X.S b ∧ b ≠ acc)
    (hself : ∀ (s : Shared) (Q : Value → Shared → Prop) (E : Value → Shared → Prop), St 0 s.heap → Q (.ref I) s → wpAny (model prog w) X.A (pyIter (.ref I)) Q E s)
    (hitem : ∀ i v h, Pt i v h → (∀ b o, ¬ Frm X b → ¬ X.S b → b ≠ acc → b ∉ wr → s.heap.get? b = some o → h.get? b = some o) → ∃ d, its[i]? = some d ∧ RT (Wn (X.more (· ∈ wr)) []) h v t d) :
    codeAny (model prog w) X.A (.compStart (.ListComp elt [⟨t, iter, [], 0⟩] scope pos) 0 (.ref I) (.ref acc) X.env) (fun rr s' => rr = .ok .next ∧ ∃ m' cm' new, ST0 K (X.more (· ∈ wr)) ρ [] m' cm' s' ∧ s'.heap.PlainList acc (List.toArray new) ∧
      RL (Wn (X.more (· ∈ wr)) []) s'.heap new ((List.range its.length).map r) ∧ CChg X acc wr s s') s := by
  have hg : [(⟨t, iter, [], 0⟩ : Comprehension)][0]? = some ⟨t, iter, [], 0⟩ := rfl
  let J : Nat → Shared → Prop := fun i s' => ∃ m' cm' new, ST0 K (X.more (· ∈ wr)) ρ [] m' cm' s' ∧ St i s'.heap ∧ s'.heap.PlainList acc (List.toArray new) ∧ RL (Wn (X.more (· ∈ wr)) []) s'.heap new ((List.range i).map r) ∧ CChg X acc wr s s'
  have hJ0 : J 0 s := ⟨m, cm, [], y0, hst, hp, rfl, CChg.refl _ _ _ _⟩
  have hacc : ¬ Frm X acc := fun q => q.elim (fun q => (y0.vb acc (.inl hv)).2.1 q) fun q => by obtain ⟨z, q⟩ := q; exact (y0.vb acc (.inl hv)).2.2 z q
  have haS : ¬ X.S acc := fun q => absurd (y0.slt q) (Nat.not_lt.mpr (y0.vb acc (.inl hv)).1)
  have hwS : ∀ {b}, b ∈ wr → ¬ X.S b := fun {b} hb q => absurd (y0.slt q) (Nat.not_lt.mpr (y0.vb b (.inr hb)).1)
  have hwrf : ∀ {b}, b ∈ wr → ¬ Frm X b := fun {b} hb q => q.elim (fun q => (y0.vb b (.inr hb)).2.1 q) fun q => by obtain ⟨z, q⟩ := q; exact (y0.vb b (.inr hb)).2.2 z q
  have notW : ∀ {b}, ¬ Wn (X.more (· ∈ wr)) [] b → ¬ Frm X b ∧ ¬ X.S b ∧ b ≠ acc ∧ b ∉ wr := fun {b} q =>
    ⟨fun z => q (Wn.more.mpr (.inl (.inr (.inr (z.imp id .inl))))), fun z => q (Wn.more.mpr (.inl (.inl (y0.su b z).1))), fun e => q (Wn.more.mpr (.inl (.inr (.inr (.inr (.inr (e ▸ hv))))))), fun z => q (Wn.more.mpr (.inr z))⟩
  have loop : codeAny (model prog w) X.A (.compLoop (.ListComp elt [⟨t, iter, [], 0⟩] scope pos) 0 (.ref I) (.ref acc) X.env) (fun rr s' => rr = .ok .next ∧ ∃ m' cm' new, ST0 K (X.more (· ∈ wr)) ρ [] m' cm' s' ∧ s'.heap.PlainList acc (List.toArray new) ∧
      RL (Wn (X.more (· ∈ wr)) []) s'.heap new ((List.range its.length).map r) ∧ CChg X acc wr s s') s := by
    refine comp_loop hg (fun k s' => ∃ i, i ≤ its.length ∧ k = its.length + 1 - i ∧ J i s') ?_ (its.length + 1) ⟨0, Nat.zero_le _, rfl, hJ0⟩
    rintro k s' ⟨i, hi', rfl, m', cm', new, x1, hst', hp', hrl, hc⟩
    by_cases hlt : i < its.length
    · refine wp0 (W.item i _ _ _ hlt hst' fun v h₁ tk₁ hMd hk₁ htk₁ hsz₁ => ?_)
      have x2 := x1.step hk₁ htk₁ (fun b hb => .inr hb) hsz₁
      refine wp0 (W.go i v _ _ _ hMd fun h₂ hP₂ hst₂ hk₂ htk₂ hsz₂ => ?_)
      have x3 := x2.step hk₂ htk₂ (fun b hb => .inr hb) hsz₂
      obtain ⟨d, hd, hRT⟩ := hitem i v h₂ hP₂ fun b o q q' z z' e => hk₂ b o z' (hk₁ b o z' (hc.keep b o q q' z z' e))
      obtain ⟨It1, It2, It3⟩ := hit i d hd
      refine wpAny_mono (assign_ok (X := X.more (· ∈ wr)) rm.hd x3 (It1.mono ho) hRT) (fun _ s₄ hz => ?_) fun _ _ q => q
      obtain ⟨⟨m₄, cm₄, x4⟩, htk₄, hsz₄, hk₄⟩ := hz
      refine wpAny_mono (ts_nil (prog := prog) (w := w) (K := K) (sc := sc') (n := n) (ρ := bindT t d ρ) X.env X.A _ s₄ hs rm x4.eok) (fun ok s₅ hz => ?_) fun _ _ q => q
      obtain ⟨g₅, e⟩ := hz
      subst e
      have x5 := x4.after g₅
      have keep5 : ∀ b o, ¬ Frm X b → b ∉ wr → s'.heap.get? b = some o → s₅.heap.get? b = some o := fun b o q z e => g₅.keep b o (hk₄ b o q (hk₂ b o z (hk₁ b o z e)))
      have sz5 : s'.heap.objs.size ≤ s₅.heap.objs.size := Nat.le_trans (Nat.le_trans (Nat.le_trans hsz₁ hsz₂) hsz₄) g₅.sz
      have tk5 : s'.toks ≤ s₅.toks := Nat.le_trans (Nat.le_trans (Nat.le_trans htk₁ htk₂) htk₄) g₅.le
      have hSF : ∀ {b}, X.S b → ¬ Frm X b ∧ b ∉ wr := fun {b} q => ⟨fun f => f.elim (fun f => absurd (y0.slt q) (by rw [f]; exact Nat.not_lt.mpr y0.inC.fresh)) fun f => by
        obtain ⟨y, f⟩ := f
        exact absurd (Nat.lt_trans (Nat.lt_of_lt_of_le (y0.slt q) y0.inC.fresh) (y0.inC.above y b (mem_of_lookup f))) (Nat.lt_irrefl _), fun f => hwS f q⟩
      have c5 : CChg X acc wr s' s₅ := ⟨fun b o q q' z z' e => keep5 b o q z' e, fun b o q e => ⟨o.slots, keep5 b o (hSF q).1 (hSF q).2 e⟩, sz5, tk5⟩
      have hp5 : s₅.heap.PlainList acc (List.toArray new) := hp'.at fun o e => keep5 _ o hacc haw e
      have hst5 : St (i + 1) s₅.heap := W.frame _ _ _ hst₂ fun b hb o e => by
        refine g₅.keep b o (hk₄ b o ?_ e)
        by_cases hbw : b ∈ wr
        · exact hwrf hbw
        · exact (hfp b hb hbw).1
      have hrl5 : RL (Wn (X.more (· ∈ wr)) []) s₅.heap new ((List.range i).map r) := RL.mono (fun _ q => .inl q) (fun b o q e => keep5 b o (notW q).1 (notW q).2.2.2 e) _ hrl
      clear keep5 sz5 tk5 hst₂ hP₂ hMd hk₁ hk₂ hk₄ x4 x3 x2 g₅ hRT
      have hfr5 : ∃ outer, X.A.frames = some outer ∧ FramesIn X.S outer s₅.heap := by
        obtain ⟨outer, a, b⟩ := hfr
        exact ⟨outer, a, b.slots (hc.trans c5).slots⟩
      simp only [if_true]
      unfold WorkWp
      refine wpAny_mono (It3 (X.more (· ∈ wr)) s₅ m₄ cm₄ hs rm hfr5 x5) (fun v₆ s₆ hz => ?_) fun _ _ q => q
      obtain ⟨x6, ch, rv⟩ := hz
      have hp6 : s₆.heap.PlainList acc (List.toArray new) := hp5.at fun o e => ch.keep _ o haS e
      have hlen : new.length = i := by rw [hrl.length, List.length_map, List.length_range]
      refine wpAny_list_append_plain hp6 (fun h' hp7 hsb => ?_) (by rw [List.size_toArray, hlen]; exact Nat.le_trans (Nat.le_of_lt hlt) (Nat.le_trans hl (by decide)))
      have x7 := x6.step (wr := [acc]) (h' := h') (tk := s₆.toks) (fun b o hb e => hsb.extBut b o (by simpa using hb) e) (Nat.le_refl _) (fun b hb => by rw [List.mem_singleton.mp hb]; exact .inl hv) (by rw [hsb.1]; exact Nat.le_refl _)
      have e1 : (List.toArray new).push v₆ = List.toArray (new ++ [v₆]) := List.push_toArray ..
      rw [e1] at hp7
      have up7 : ∀ b o, ¬ Wn (X.more (· ∈ wr)) [] b → s₆.heap.get? b = some o → h'.get? b = some o := fun b o q e => hsb.extBut b o (notW q).2.2.1 e
      refine ⟨its.length + 1 - (i + 1), by lia, i + 1, hlt, rfl, m₄, cm₄, new ++ [v₆], x7.subO It2 (SubO.refl _), ?_, hp7, ?_, hc.trans (c5.trans ⟨fun b o q q' z z' e => hsb.extBut b o z (ch.keep b o q' e), fun b o q e => ?_, by show _ ≤ h'.objs.size; rw [hsb.1]; exact ch.sz, ch.tk⟩)⟩
      · refine W.frame _ _ _ hst5 fun b hb o e => hsb.extBut b o ?_ (ch.keep b o ?_ e)
        · by_cases hbw : b ∈ wr
          · exact fun e => haw (e ▸ hbw)
          · exact (hfp b hb hbw).2.2
        · by_cases hbw : b ∈ wr
          · exact hwS hbw
          · exact (hfp b hb hbw).2.1
      · rw [List.range_succ, List.map_append]
        exact RL.append (RL.mono (fun _ q => .inl q) (fun b o q e => up7 b o q (ch.keep b o (notW q).2.1 e)) _ hrl5) (RL.one (R.mono (fun _ q => .inl q) up7 _ rv))
      · obtain ⟨sl, z⟩ := ch.slots b o q e
        exact ⟨sl, hsb.extBut b _ (fun e' => haS (e' ▸ q)) z⟩
    · have hin : i = its.length := by lia
      subst hin
      refine wp0 (W.done _ _ _ hst' fun h₁ tk₁ hk₁ htk₁ hsz₁ => ⟨rfl, ?_⟩)
      have x2 := x1.step hk₁ htk₁ (fun b hb => .inr hb) hsz₁
      exact ⟨m', cm', new, x2, hp'.at fun o e => hk₁ _ _ haw e, RL.mono (fun b q => .inl q) (fun b o q e => hk₁ b o (notW q).2.2.2 e) _ hrl, hc.trans ⟨fun b o q q' z z' e => hk₁ b o z' e, fun b o q e => ⟨o.slots, hk₁ b o (fun f => hwS f q) e⟩, hsz₁, htk₁⟩⟩
  exact comp_start hg loop (hself _ _ _ hst loop)
end
end Lw
end

section
open PySem PySem.W PyProof.Rows PySem.Calls
namespace Lw
section
variable {sc scope : Scope} {n : Nat} {ρ : Vars}
theorem comp_runS {elt t iter : Expr} {pos : Pos} {its : List D} {r : Nat → D} (C : CompScope scope sc ρ) (hnf : ∀ p ∈ scope.names, p.2 ≠ .free)
    (hit : ∀ i d, its[i]? = some d → TgtOk (KindOk scope) t d ∧ Sub ρ (bindT t d ρ) ∧ EltS prog w K (rl scope sc) n (bindT t d ρ) elt (r i)) (hl : its.length ≤ 100000)
    {env : Env} {A : Around} {U S : Addr → Prop} {s : Shared} (hs : env.scope = sc) (rm : Rm n A) (ok : EOK K U env ρ s) (hS : ∀ a, S a → U a ∧ Loose K a) (hfr : ∃ outer, A.frames = some outer ∧ FramesIn S outer s.heap) (hfold : ∀ x, foldedSetIterable iter env x = pure x)
    (hsrc : wpAny (model prog w) A (eval iter env) (fun xv s₁ => wpAny (model prog w) A (pyIter xv) (fun it s₂ => Gr s s₂ ∧ ItOK prog w A U U t s s₂ it its) (fun _ _ => False) s₁) (fun _ _ => False) s) {use : Option (Value → Sem Unit)} {Q : Value → Shared → Prop}
    (hfin : ∀ s' a L vs m, (∃ h tk, s' = { s with heap := h, toks := tk }) → SChg S s s' → HOK K U s' → s.heap.objs.size ≤ a → s.heap.objs.size ≤ L → a ≠ L → s'.heap.PlainList a (List.toArray vs) → RL (fun b => U b ∨ b = a ∨ b = L) s'.heap vs ((List.range its.length).map r) → s'.heap.Ns L m →
      compPost (model prog w) A (fun _ _ => False) use Q (.ref a) L (.ok .next) s') :
    wpAny (model prog w) A (comprehension (.ListComp elt [⟨t, iter, [], 0⟩] scope pos) scope env (firstIterPos [⟨t, iter, [], 0⟩] pos) (newList []) false (eval iter env) use) Q (fun _ _ => False) s := by
  have hce : ∀ p ∈ scope.names, p.2 = .free → ∃ c, env.cells.lookup p.1 = some c := fun p hp e => ok.ce p.1 ((C.free p hp e).imp (fun e => by show env.scope.names.lookup _ = _; rw [hs]; exact e) (fun e => by show env.scope.names.lookup _ = _; rw [hs]; exact e))
  refine wpAny_comprehension_free (gs := []) rfl hfold (closure_ok hce) C.kind C.names (wpAny_mono hsrc (fun xv s₁ h₁ => wpAny_mono h₁ (fun it s₂ hz228 => ?_) fun _ _ q => q) fun _ _ q => q)
  obtain ⟨g, h₂⟩ := hz228
  obtain ⟨I, fp, wr, Pt, Md, St, rfl, W, hst, hwr, hfp, hself, hitem⟩ := h₂
  refine wpAny_newList (hsz := Nat.zero_le _) (newEnv_comp ?_)
  generalize ha : s₂.heap.objs.size = a
  have hL : ({ s₂ with heap := s₂.heap.push { cls := .type "list", data := .seq ([] : List Value).toArray } } : Shared).heap.objs.size = a + 1 := by
    show (s₂.heap.push _).objs.size = _
    rw [Heap.size_push, ha]
  rw [hL]
  generalize hh₃ : (s₂.heap.push { cls := .type "list", data := .seq ([] : List Value).toArray } : Heap) = h₃ at hL ⊢
  simp only at hL ⊢
  generalize hoc : cellsFrom (a + 1 + 1) scope.names [] = oc
  have hcl : cellsFrom (a + 1 + 1) scope.names (clOf env scope.names []) = oc ++ clOf env scope.names [] := by
    rw [← hoc]
    exact cellsFrom_append scope.names (a + 1 + 1) [] (clOf env scope.names [])
  rw [hcl]
  generalize hcenv : newEnv scope (a + 1) env.globals (oc ++ clOf env scope.names []) env.qual none .none (some env) builtinsNs = cenv
  have eloc : cenv.locals = a + 1 := by rw [← hcenv]; rfl
  have ecells : cenv.cells = oc ++ clOf env scope.names [] := by rw [← hcenv]; rfl
  rw [rl_eq, hs]
  generalize hh₄ : pushCells (h₃.push { cls := .type "dict", data := .dict #[] }) scope.names = h₄
  have k3 : ∀ b o, s₂.heap.get? b = some o → h₃.get? b = some o := fun b o e => by rw [← hh₃]; exact Heap.get?_push_of_some _ e
  have k4 : ∀ b o, h₃.get? b = some o → h₄.get? b = some o := fun b o e => by rw [← hh₄]; exact pushCells_keeps _ _ b o (Heap.get?_push_of_some _ e)
  have z4 : a + 2 ≤ h₄.objs.size := by
    rw [← hh₄]
    refine Nat.le_trans ?_ (pushCells_size _ _)
    rw [Heap.size_push, hL]
    lia
  have hacc : h₄.PlainList a (List.toArray []) := ⟨0, k4 _ _ (by rw [← hh₃, ← ha]; exact Heap.get?_push_size _ rfl)⟩
  have cok : CellsOk h₄ (a + 1 + 1) oc := by
    have := cellsFrom_ok scope.names (h₃.push { cls := .type "dict", data := .dict #[] }) (a + 1 + 1) [] ⟨fun _ _ hm => (nomatch hm), List.Pairwise.nil⟩ (by rw [Heap.size_push, hL]; exact Nat.le_refl _)
    rw [Heap.size_push, hL, hoc, hh₄] at this
    exact this
  have hns : h₄.Ns (a + 1) (fun _ => none) := by
    rw [← hh₄]
    refine Heap.Ns.keeps ?_ (pushCells_keeps _ _)
    have := Heap.Ns.new h₃ (.type "dict")
    rw [hL] at this
    exact this
  have hsa : s.heap.objs.size ≤ a := by rw [← ha]; exact g.sz
  have g4 : Gr s { s₂ with heap := h₄ } := by
    refine g.trans (Gr.of (t := s₂.toks) (fun b o e => k4 b o (k3 b o e)) (Nat.le_refl _) (by lia))
  have oc_lo : ∀ y c, (y, c) ∈ oc → a + 1 < c := fun y c h => (cok.empty y c h).2
  let X : FX := { env := { cenv with scope := rl scope sc }, A := A, base := s, U := U, oc := oc, ownk := KindOk scope, V := fun b => b = a, S := S }
  have own_lk : ∀ x, scope.names.lookup x = some .cell → ∃ c, oc.lookup x = some c := fun x e => by
    rw [← hoc]
    exact cellsFrom_mem _ _ _ _ (.inl (mem_of_lookup e))
  have oc_cell : ∀ x c, oc.lookup x = some c → scope.names.lookup x = some .cell := fun x c e => by
    rw [← hoc] at e
    rcases cellsFrom_names _ _ _ _ _ (mem_of_lookup e) with h | h
    · exact lookup_of_mem C.nd h
    · exact nomatch h
  have kindX : ∀ x, X.env.kindOf x = (scope.names.lookup x).map (rlk sc x) := fun x => rl_lookup scope sc x
  have hY : ST0 K (X.more (· ∈ wr)) ρ [] (fun _ => none) (fun _ => none) { s₂ with heap := h₄ } := by
    have hsame : ∃ h tk, ({ s₂ with heap := h₄ } : Shared) = { s with heap := h, toks := tk } := by
      obtain ⟨h, tk, e⟩ := g.kept
      exact ⟨h₄, tk, by rw [e.1]⟩
    have hWn : ∀ b, Wn (X.more (· ∈ wr)) [] b → U b ∨ s.heap.get? b = none := fun b q => by
      rcases Wn.more.mp q with (q | hy | q | ⟨y, q⟩ | q) | q
      · exact .inl q
      · cases hy
      · refine .inr (fresh_none' ?_)
        have q' : @Eq Nat b (a + 1) := q.trans eloc
        lia
      · have h2 : @LT.lt Nat _ (a + 1) b := oc_lo y b (mem_of_lookup q)
        exact .inr (fresh_none' (by lia))
      · have q' : @Eq Nat b a := q
        exact .inr (fresh_none' (by lia))
      · exact .inr (fresh_none' (hwr b q).1)
    refine ⟨⟨hsame, ?_, fun b o _ _ e => g4.keep b o e, fun b o _ e => ⟨o.slots, g4.keep b o e⟩, ?_, fun y c e => (cok.empty y c (mem_of_lookup e)).1, cok.apart, fun y c h => ?_, fun y c e => ?_⟩, ok.toHOK, ok.toHOK.gr g4, g4.le, C.kind, ?_, ?_, fun x hx => ?_, fun x hx => ?_, fun x d e hx => ?_, fun _ _ e => (by cases e), fun _ e => (by cases e), fun b q => ?_, fun b q => ?_, fun _ q => q.elim, hS, fun q => q.elim⟩
    · show h₄.Ns cenv.locals _
      rw [eloc]; exact hns
    · show s.heap.objs.size ≤ cenv.locals
      rw [eloc]; lia
    · show cenv.locals < c
      rw [eloc]; exact oc_lo y c h
    · show cenv.cells.lookup y = some c
      rw [ecells, List.lookup_append]
      have e' : oc.lookup y = some c := e
      rw [e']; rfl
    · show cenv.globals = mainGlobals
      rw [← hcenv]; exact ok.gl
    · show cenv.builtins = builtinsNs
      rw [← hcenv]; exact ok.bl
    · -- every cell's or free name has a cell
      have hk : ∃ k, scope.names.lookup x = some k ∧ (k = .cell ∨ k = .free) := by
        have e := kindX x
        cases hq : scope.names.lookup x with
        | none => rw [hq] at e; rcases hx with h | h <;> exact absurd (e.symm.trans h) (by simp)
        | some k =>
          refine ⟨k, rfl, ?_⟩
          rw [hq] at e
          cases k <;> first
            | exact .inl rfl
            | exact .inr rfl
            | (rcases hx with h | h <;> exact absurd (e.symm.trans h) (by simp [rlk]))
      obtain ⟨k, hk, hc⟩ := hk
      show ∃ c, cenv.cells.lookup x = some c
      rw [ecells]
      rcases hc with rfl | rfl
      · obtain ⟨c, e⟩ := own_lk x hk
        exact ⟨c, by rw [List.lookup_append, e]; rfl⟩
      · obtain ⟨c, e⟩ := hce (x, .free) (mem_of_lookup hk) rfl
        have hno : oc.lookup x = none := by
          cases q : oc.lookup x with
          | none => rfl
          | some c' => have := oc_cell x c' q; rw [hk] at this; cases this
        exact ⟨c, by rw [List.lookup_append, hno]; exact clOf_lookup env _ _ _ _ e (.inl (mem_of_lookup hk))⟩
    · rcases (show KindOk scope x from hx) with h | h
      · exact .inl (by rw [show (X.more (· ∈ wr)).env.kindOf x = _ from kindX x, h]; rfl)
      · exact .inr ⟨by rw [show (X.more (· ∈ wr)).env.kindOf x = _ from kindX x, h]; rfl, own_lk x h⟩
    · -- the names of the frame around
      have hfree : scope.names.lookup x = some .free := by
        have ek := rl_lookup scope sc x
        have hx' : (rl scope sc).names.lookup x = some .local ∨ (rl scope sc).names.lookup x = some .cell ∨ (rl scope sc).names.lookup x = some .free := hx
        cases hq : scope.names.lookup x with
        | none => rw [hq] at ek; rw [ek] at hx'; simp at hx'
        | some k =>
          rw [hq] at ek
          cases k <;> first
            | rfl
            | (have := C.own x (.inl hq); rw [e] at this; cases this)
            | (have := C.own x (.inr hq); rw [e] at this; cases this)
            | (rw [ek] at hx'; simp [rlk] at hx')
      exact absurd rfl (hnf (x, .free) (mem_of_lookup hfree))
    · show @LT.lt Nat _ b h₄.objs.size
      rcases q with q | q
      · have q' : @Eq Nat b a := q
        lia
      · have h1 : @LT.lt Nat _ b s₂.heap.objs.size := (hwr b q).2
        lia
    · rcases q with q | q
      · have q' : @Eq Nat b a := q
        refine ⟨by show @LE.le Nat _ s.heap.objs.size b; lia, by show b ≠ cenv.locals; rw [eloc]; exact ne_addr (.inl (by show @LT.lt Nat _ b (a + 1); lia)), fun y e => ?_⟩
        have h2 : @LT.lt Nat _ (a + 1) b := oc_lo y b (mem_of_lookup e)
        lia
      · have h1 : @LT.lt Nat _ b s₂.heap.objs.size := (hwr b q).2
        refine ⟨(hwr b q).1, by show b ≠ cenv.locals; rw [eloc]; exact ne_addr (.inl (by show @LT.lt Nat _ b (a + 1); lia)), fun y e => ?_⟩
        have h2 : @LT.lt Nat _ (a + 1) b := oc_lo y b (mem_of_lookup e)
        lia
  have notF : ∀ {b o}, s₂.heap.get? b = some o → ¬ Frm X b ∧ b ≠ a := fun {b o} e => by
    have hb : @LT.lt Nat _ b a := by rw [← ha]; exact Heap.lt_size e
    refine ⟨fun q => ?_, Nat.ne_of_lt hb⟩
    rcases q with q | ⟨y, q⟩
    · have q' : @Eq Nat b (a + 1) := q.trans eloc
      lia
    · have h2 : @LT.lt Nat _ (a + 1) b := oc_lo y b (mem_of_lookup q)
      lia
  have haw : a ∉ wr := fun q => by
    have q' := (hwr a q).2
    rw [ha] at q'
    exact Nat.lt_irrefl _ q'
  have st4 : St 0 h₄ := W.frame _ _ _ hst fun b _ o e => k4 b o (k3 b o e)
  refine codeAny_mono (comp_coreS (X := X) (s := { s₂ with heap := h₄ }) (acc := a) (its := its) (r := r) hit rfl (fun _ h => h) rm (by
      obtain ⟨outer, z1, z2⟩ := hfr
      exact ⟨outer, z1, z2.at fun b o _ e => g4.keep b o e⟩) hY rfl haw hacc hl W st4 (fun b hb hbw => ?_) hself (fun i v h hP hk => ?_)) ?_
  · have hb' : @LT.lt Nat _ b a := by have := (hfp b hb hbw).2; rw [ha] at this; exact this
    refine ⟨fun q => ?_, fun q => (hfp b hb hbw).1 (hS b q).1, Nat.ne_of_lt hb'⟩
    rcases q with q | ⟨y, q⟩
    · have q' : @Eq Nat b (a + 1) := q.trans eloc
      lia
    · have h2 : @LT.lt Nat _ (a + 1) b := oc_lo y b (mem_of_lookup q)
      lia
  · refine hitem i v h _ hP (fun b o q z e => hk b o (notF e).1 (fun f => q (hS b f).1) (notF e).2 z (k4 b o (k3 b o e))) fun b q => ?_
    rcases Wn.more.mp q with (q | hy | q | ⟨y, q⟩ | q) | q
    · exact .inl q
    · cases hy
    · have q' : @Eq Nat b (a + 1) := q.trans eloc
      exact .inr (.inr (fresh_none' (by show @LE.le Nat _ s₂.heap.objs.size b; lia)))
    · have h2 : @LT.lt Nat _ (a + 1) b := oc_lo y b (mem_of_lookup q)
      exact .inr (.inr (fresh_none' (by show @LE.le Nat _ s₂.heap.objs.size b; lia)))
    · have q' : @Eq Nat b a := q
      exact .inr (.inr (fresh_none' (by show @LE.le Nat _ s₂.heap.objs.size b; lia)))
    · exact .inr (.inl q)
  · intro rr s' hz
    obtain ⟨e, m', cm', new, x1, hp', hrl, hc⟩ := hz
    subst e
    rw [eloc]
    have hsm : ∃ h tk, s' = { s with heap := h, toks := tk } := x1.inC.same
    have nof : ∀ {b o}, s.heap.get? b = some o → ¬ Frm X b ∧ b ≠ a ∧ b ∉ wr := fun {b o} e => by
      have hb : @LT.lt Nat _ b s.heap.objs.size := Heap.lt_size e
      refine ⟨fun q => ?_, fun q => ?_, fun q => absurd (hwr b q).1 (Nat.not_le.mpr hb)⟩
      · rcases q with q | ⟨y, q⟩
        · have q' : @Eq Nat b (a + 1) := q.trans eloc
          lia
        · have h2 : @LT.lt Nat _ (a + 1) b := oc_lo y b (mem_of_lookup q)
          lia
      · have q' : @Eq Nat b a := q
        lia
    have hch : SChg S s s' := ⟨fun b o q e => hc.keep b o (nof e).1 q (nof e).2.1 (nof e).2.2 (g4.keep b o e), fun b o q e => hc.slots b o q (g4.keep b o e), Nat.le_trans g4.sz hc.sz, Nat.le_trans g4.le hc.tk⟩
    refine hfin s' a (a + 1) new m' hsm hch x1.hokS hsa (Nat.le_succ_of_le hsa) (Nat.ne_of_lt (Nat.lt_succ_self a)) hp' (RL.mono (fun b q => .inl ?_) (fun _ _ _ e => e) _ hrl) ?_
    · rcases q with q | q | q
      · exact Wn.more.mpr (.inl (.inl q))
      · exact Wn.more.mpr (.inl (.inr (.inr (.inr (.inr q)))))
      · exact Wn.more.mpr (.inl (.inr (.inr (.inl (q.trans eloc.symm)))))
    · have := x1.inC.ns
      show s'.heap.Ns (a + 1) m'
      rw [← eloc]; exact this
end
section
variable {K : Frag} {X : FX} {ρ : Vars} {ω : Owns} {m cm : Str → Option Value} {s : Shared}
theorem ST0.enterS {B : Addr → Prop} (x : ST0 K X ρ ω m cm s) {s' : Shared} (hsame : ∃ h tk, s' = { s with heap := h, toks := tk }) (c : SChg (S1 X) s s') (hok : HOK K X.U s') (hB : ∀ b, B b → s.heap.objs.size ≤ b ∧ b < s'.heap.objs.size) : ST0 K (X.more B) ρ ω m cm s' := by
  have y := x.chg hsame (fun b o _ q e => c.keep b o q e) c.slots c.sz c.tk hok
  have hw : ∀ a, Wn (X.more B) ω a → Wn X ω a ∨ s.heap.get? a = none := fun a q => (Wn.more.mp q).imp id fun q => fresh_none' (hB a q).1
  have nS : ∀ {a}, (ω.lookup a).isSome = true → ¬ S1 X a := fun {a} h f => by
    obtain ⟨b1, b2, b3⟩ := x.ownb a h
    exact f.elim (fun f => b1.elim (fun l => absurd (x.slt f) (Nat.not_lt.mpr l)) fun w => (x.wu a w).2.2 f) fun f => b2 (.inl f)
  have up : ∀ b o, ¬ Wn X ω b → s.heap.get? b = some o → s'.heap.get? b = some o := fun b o q e => c.keep b o (fun f => q (f.elim (fun f => .inl (x.su b f).1) fun f => .inr (.inr (.inl f)))) e
  exact {
    inC := y.inC, hok := y.hok, hokS := y.hokS, le := y.le, fn := y.fn, gl := y.gl, bl := y.bl, ce := y.ce, cl := y.cl,
    vars := fun z d e hz => by
      obtain ⟨v, b, r⟩ := x.vars z d e hz
      exact ⟨v, b, R.mono hw up _ r⟩,
    own := fun a o e => (x.own a o e).mono hw up fun o' e' => c.keep _ o' (nS (by rw [e]; rfl)) e',
    ownb := fun a q => ⟨(x.ownb a q).1, (x.ownb a q).2.1, fun f => f.elim (x.ownb a q).2.2 fun f => by
      obtain ⟨o, e⟩ := Option.isSome_iff_exists.mp q
      exact absurd (hB a f).1 (Nat.not_le.mpr (x.own a o e).lt)⟩,
    vlt := fun a q => q.elim (fun q => y.vlt a q) fun q => (hB a q).2,
    vb := fun a q => q.elim (fun q => y.vb a q) fun q => ⟨Nat.le_trans x.sz (hB a q).1, fun e => absurd (hB a q).1 (by rw [e]; exact Nat.not_le.mpr x.inC.ns.lt), fun z e => absurd (hB a q).1 (Nat.not_le.mpr (x.inC.cell z a e).lt)⟩,
    wu := y.wu, su := y.su, fr := y.fr }
end
section
variable {bx : Fl} {sc scope : Scope} {n : Nat} {ρ : Vars} {ω : Owns} {P : Out → Prop}
theorem ex_assignCS {x : Str} {p pos pos' : Pos} {elt t iter : Expr} {its : List D} {r : Nat → D} (C : CompScope scope sc ρ) (hnf : ∀ p ∈ scope.names, p.2 ≠ .free) (hi : EVI prog w K sc n ρ iter t its)
    (hit : ∀ i d, its[i]? = some d → TgtOk (KindOk scope) t d ∧ Sub ρ (bindT t d ρ) ∧ EltS prog w K (rl scope sc) n (bindT t d ρ) elt (r i)) (hl : its.length ≤ 100000) (hb : bx.b = true)
    (hk : KindOk sc x) (hsw : ∀ env : Env, env.scope = sc → swapsWith (.ListComp elt [⟨t, iter, [], 0⟩] scope pos) (some (.Name x p)) pos'.line env = pure true) (h : P (.next ((x, .lst ((List.range its.length).map r)) :: ρ) ω)) :
    EX1 prog w K bx sc n (.Assign [.Name x p] (.ListComp elt [⟨t, iter, [], 0⟩] scope pos) pos') ρ ω P := fun X s m cm hs rm x0 => by
  rw [exec_Assign_Name_used _ _ _ _ (hsw _ hs.sco)]
  refine wpAny_bind (wpAny_standAt (wpAny_bind ?_))
  show wpAny _ X.A (do let _ ← comprehension (.ListComp elt [⟨t, iter, [], 0⟩] scope pos) scope X.env (firstIterPos [⟨t, iter, [], 0⟩] pos) (newList []) false (eval iter X.env) (some (assign (.Name x p) X.env))) _ _ s
  refine wpAny_bind (wp_E (Q := fun _ s' => ∃ o, P o ∧ Ends K X ω s o .next s') (comp_runS C hnf hit hl hs.sco rm x0.eok (x0.in0 (ω₁ := []) fun _ _ e => (by cases e)).su (x0.frames (hs.fk hb)) (fun x => hi.1 X.env x hs.sco) (hi.2 X.env X.A _ s hs.sco rm x0.eok) fun s' a L vs m' hsm hc hok ha hL hne hp hr hn => ?_) fun _ _ q => wpAny_pure (wpAny_pure q))
  have hL' : L < s'.heap.objs.size := hn.lt
  have x1 : ST0 K (X.more (· = L)) ρ ω m cm s' := x0.enterS hsm hc ⟨hok.top, hok.lim, fun a q => hok.lt a (.inl q), hok.tk⟩ fun b q => by subst q; exact ⟨hL, hL'⟩
  have rd : R (Wn (X.more (· = L)) ω) s'.heap (.ref a) (.lst ((List.range its.length).map r)) := by
    refine ⟨a, vs, rfl, fun q => ?_, hp, RL.mono (fun b q => .inl ((Wn.more.mp q).imp id .inr)) (fun _ _ _ e => e) _ hr⟩
    rcases Wn.more.mp q with q | q
    · exact x0.hokW.not_fresh ha q
    · exact hne q
  show wpAny _ X.A (assign (.Name x p) X.env (.ref a)) _ _ s'
  refine wpAny_assign_Name (st_set (X := X.more (· = L)) x1 (x1.cl x (hs.ow x hk)) rd fun s'' hz le z hk₂ => ?_)
  obtain ⟨m₂, cm₂, x2⟩ := hz
  have hLf : ¬ Frm X L := fun q => q.elim (fun q => (x1.vb L (.inr rfl)).2.1 q) fun q => by obtain ⟨y, q⟩ := q; exact (x1.vb L (.inr rfl)).2.2 y q
  refine ⟨m', hn.at' fun o e => hk₂ L o hLf e, fun h' hsb => ⟨_, h, rfl, ⟨m₂, cm₂, ?_⟩, ?_⟩⟩
  · have := x2.step (wr := [L]) (h' := h') (tk := s''.toks) (fun b o hb e => hsb.extBut b o (by simpa using hb) e) (Nat.le_refl _) (fun b hb => .inr (List.mem_singleton.mp hb)) (by rw [hsb.1]; exact Nat.le_refl _)
    exact this.leave
  · refine ⟨fun b o q _ q'' e => ?_, fun y hy => .inl hy, ?_, Nat.le_trans hc.tk le⟩
    · refine hsb.extBut b o (fun e' => ?_) (hk₂ b o q (hc.keep b o (fun f => f.elim q'' fun f => q (.inl f)) e))
      rw [e'] at e
      exact absurd (Heap.lt_size e) (Nat.not_lt.mpr hL)
    · show s.heap.objs.size ≤ h'.objs.size
      rw [hsb.1]
      exact Nat.le_trans hc.sz z
end
end Lw
end

section
open PySem PySem.W PyProof.Rows PySem.Calls PySem.SeqAt
namespace Lw
section
variable {bx : Fl} {sc scope : Scope} {n : Nat} {ρ : Vars} {ω : Owns} {P : Out → Prop}
theorem et_str {e : Expr} {x : Str} (hx : x.length ≤ 1000000) (h : EV prog w K sc n ρ e (.str x)) (he : ∀ env whole, isTrue e env whole = (do let v ← whole; standAt e.pos; holding [v] (truthy v))) : ET prog w K sc n ρ e ((x.length : Int) != 0) := fun env A U s hs rm ok =>
  isTrue_plain (wpAny_mono (h env A U s hs rm ok) (fun v s' z => by
    obtain ⟨g, t, r⟩ := z
    subst r
    exact PySem.P.truthy_str (by lia) ⟨g.trans (Gr.toks.trans Gr.toks), rfl⟩) fun _ _ x => x) (he _ _)
theorem ex_assign_filterL {α : Type} {x : Str} {p pos pos' : Pos} {elt t iter c : Expr} (l : List α) (g f : α → D) (q : α → Bool) (C : scopeOk scope sc ρ = true) (hi : EVI prog w K sc n ρ iter t (l.map g)) (hl : l.length ≤ 100000)
    (hit : ∀ x ∈ l, TgtOk (KindOk scope) t (g x) ∧ Sub ρ (bindT t (g x) ρ) ∧ ET prog w K (rl scope sc) n (bindT t (g x) ρ) c (q x) ∧ (q x = true → EV prog w K (rl scope sc) n (bindT t (g x) ρ) elt (f x)))
    (hk : KindOk sc x) (hsw : ∀ env : Env, env.scope = sc → swapsWith (.ListComp elt [⟨t, iter, [c], 0⟩] scope pos) (some (.Name x p)) pos'.line env = pure true) (h : P (.next ((x, .lst ((l.filter q).map f)) :: ρ) ω)) :
    EX1 prog w K bx sc n (.Assign [.Name x p] (.ListComp elt [⟨t, iter, [c], 0⟩] scope pos) pos') ρ ω P := by
  rw [← flatMap_filter] at h
  refine ex_assignCL l g (fun x => if q x = true then [f x] else []) C hi (fun x hx => ?_) (by rw [flatMap_filter, List.length_map]; exact Nat.le_trans (List.length_filter_le _ _) hl) hk hsw h
  obtain ⟨a, b, c, d⟩ := hit x hx
  have ht := ts_cons (b' := true) c fun _ => ts_nil
  rw [Bool.and_true] at ht
  exact item_one (b := q x) a b ht fun h => d h
end
end Lw
end

section
open PySem PySem.W PyProof.Rows PySem.Calls PySem.SeqAt
namespace Lw
section
variable {prog : Program} {w : World} {A : Around} {E : Value → Shared → Prop} {s : Shared}
theorem mapSeq_app (its more : Array Value) (n : Nat) : ∃ n', Obj.mapSeq (· ++ more) { cls := .type "list", data := .seq its n } = { cls := .type "list", data := .seq (its ++ more) n' } := by
  unfold Obj.mapSeq
  exact ⟨_, rfl⟩
theorem extend_plain {l q : Addr} {items more : Array Value} {Q : Value → Shared → Prop} (hl : s.heap.PlainList l items) (hq : s.heap.PlainList q more) (hlq : l ≠ q) (hsz : items.size + more.size ≤ 10000000)
    (hQ : ∀ h', h'.PlainList l (items ++ more) → Heap.SameBut l s.heap h' → Q .none { s with heap := h' }) : wpAny (model prog w) A (call (.builtin "list.extend") [.ref l, .ref q]) Q E s := by
  obtain ⟨n, ho⟩ := hl
  obtain ⟨k, hoq⟩ := hq
  refine wpAny_call_entry PySem.F.slot_list_extend ⟨_, ho, rfl⟩ PySem.F.entry_list_extend ?_ (PySem.F.args_list_extend_2 _ _)
  show wpAny _ _ (Builtin.List.listExtendWith (.ref l) (.ref q) .none) _ _ s
  unfold Builtin.List.listExtendWith
  refine wpAny_bind (wpAny_typeOf (T := "list") ⟨_, hoq, rfl⟩ ?_)
  have q1 : Builtin.List.listSameRef (.ref l) (.ref q) = false := by
    show (l == q) = false
    exact beq_eq_false_iff_ne.mpr hlq
  rw [q1, if_pos (by decide)]
  have li : ∀ {a : Addr} {xs : Array Value} {k : Nat} {Q : Array Value → Shared → Prop} {E : Value → Shared → Prop} {A : Around}, s.heap.get? a = some { cls := .type "list", data := .seq xs k } → Q xs s → wpAny (model prog w) A (Builtin.List.listItems (.ref a)) Q E s := fun {a xs k Q E A} h hQ => by
    unfold Builtin.List.listItems
    exact wpAny_bind (wpAny_seqItems h rfl (wpAny_pure hQ))
  refine wpAny_bind (li hoq ?_)
  refine wpAny_bind (li ho ?_)
  have htl : Builtin.List.listTooLong (items.size + more.size) = false := by
    unfold Builtin.List.listTooLong; exact decide_eq_false (Nat.not_lt.mpr (Nat.le_trans hsz (show 10000000 ≤ sizeLine by decide)))
  rw [if_neg (by rw [htl, Bool.and_false]; decide)]
  obtain ⟨n', e⟩ := mapSeq_app items more n
  refine wpAny_bind ?_
  show wpAny _ _ (updateSeq l (· ++ more)) _ _ s
  refine wpAny_updateSeq ho rfl (wpAny_pure ⟨.none, rfl, hQ _ ⟨n', ?_⟩ (Heap.SameBut.update ..)⟩) (Nat.le_trans (by lia) (show 10000000 ≤ sizeLine by decide)) (by show (items ++ more).size ≤ sizeLine + 1; rw [Array.size_append]; exact Nat.le_trans hsz (show 10000000 ≤ sizeLine + 1 by decide))
  rw [Heap.get?_update_self _ ho (by rw [e]; rfl), e]
end
section
variable {bx : Fl} {sc : Scope} {n : Nat} {ρ : Vars} {ω : Owns}
theorem em_extend {o e : Expr} {apos pos : Pos} {pl : Env → Sem Bool} {a : Addr} {ds es : List D} {Q : Res → Prop}
    (hshape : ∀ env, eval (.Call (.Attribute o "extend" apos) [e] [] pos) env = (do
      let ov ← eval o env
      standAt apos.atName
      let (f, first) ← holding [ov] (getMethod ov "extend" (pl env))
      callWith pos f first (backTo pos (starEach [e] env)) []))
    (hse : ∀ env, starEach [e] env = [(false, eval e env)])
    (ho : EV prog w K sc n ρ o (.val (.ref a))) (ha : ω.lookup a = some (.lst ds)) (he : EV prog w K sc n ρ e (.lst es)) (hl : ds.length + es.length ≤ 1000000) (q : Q (.val .none ((a, .lst (ds ++ es)) :: ω))) :
    EM prog w K bx sc n ρ ω (.Call (.Attribute o "extend" apos) [e] [] pos) Q := fun X s m cm hs rm x0 => by
  refine MethodCall_ (pl := pl X.env) (wp_E (ho _ _ _ s hs.sco rm x0.eok) fun v s₁ hz => ?_) (hshape _)
  obtain ⟨g, r⟩ := hz
  have r' : v = .ref a := r
  subst r'
  have x1 := x0.after g
  obtain ⟨vs, hz, rl⟩ := x1.own a _ ha
  obtain ⟨k, hp⟩ := hz
  refine getMethod_builtin ⟨_, hp, rfl⟩ PySem.F.plainAttrs_list PySem.F.slot_list_extend PySem.F.type_list_extend (fun a e => by cases e; exact ⟨_, hp, rfl⟩) ?_
  refine callWith_raw (K := K) (T := fun us s' => ∃ u, us = [u] ∧ R (Wn X ω) s'.heap u (.lst es)) (fun s' g' => (x1.hokS.gr g').top) (.inl ⟨_, rfl⟩) (by rw [hse]; rfl) ?_ fun us s₂ g₂ hz => ?_
  · rw [hse]
    exact spliced_cons (wp_E (he _ _ _ s₁ hs.sco rm x1.eok) fun u s₂ hz => spliced_nil ⟨hz.1, u, rfl, hz.2⟩)
  · obtain ⟨u, e, b, us', e2, hub, hpb, ru⟩ := hz
    subst e e2
    have x2 := x1.after g₂
    have hp₂ : s₂.heap.PlainList a (List.toArray vs) := ⟨k, g₂.keep _ _ hp⟩
    have hW : Wn X ω a := .inr (.inl (by rw [ha]; rfl))
    refine extend_plain hp₂ hpb (fun e => hub (e ▸ hW)) (by rw [List.size_toArray, List.size_toArray, rl.length, ru.length]; exact Nat.le_trans hl (by decide)) fun h' hp' sb => ?_
    have up : ∀ b o, ¬ Wn X ω b → s₂.heap.get? b = some o → h'.get? b = some o := fun b o q e => sb.extBut b o (fun e' => q (e' ▸ hW)) e
    have e1 : List.toArray vs ++ List.toArray us' = List.toArray (vs ++ us') := List.append_toArray ..
    rw [e1] at hp'
    have hst := Stp.gr (X := X) (ω := ω) (g.trans g₂)
    exact ⟨.none, _, q, x2.put ha sb (Nat.le_refl _) ⟨vs ++ us', hp', RL.append (RL.mono (fun _ q => .inl q) up _ (rl.keeps g₂.keep)) (RL.mono (fun _ q => .inl q) up _ ru)⟩, hst.trans (Stp.put (by rw [ha]; rfl) sb (Nat.le_refl _)), rfl⟩
end
end Lw
end

section
open PySem PySem.W PyProof.Rows PySem.Calls PySem.SeqAt
namespace Lw
section
variable {bx : Fl} {sc : Scope} {n : Nat} {ρ : Vars} {ω : Owns} {P : Out → Prop}
theorem evl_listcopy {e : Expr} {p1 pos : Pos} {ds : List D} (hshape : ∀ env, eval (.Call (.Name "list" p1) [e] [] pos) env = (do callWith pos (← eval (.Name "list" p1) env) [] (backTo pos (starEach [e] env)) (backToKw pos (keywordEach [] env))))
    (hse : ∀ env, starEach [e] env = [(false, eval e env)]) (hl : EV prog w K sc n ρ (.Name "list" p1) (.val (.type "list"))) (he : EV prog w K sc n ρ e (.lst ds)) (hn : ds.length ≤ 1000000) : EVL prog w K sc n ρ (.Call (.Name "list" p1) [e] [] pos) ds := fun env A U s hs rm ok => by
  rw [hshape]
  refine wpAny_bind (wpAny_mono (hl env A U s hs rm ok) (fun v s₁ hz => ?_) fun _ _ x => x)
  obtain ⟨g, r⟩ := hz
  cases r
  have ok1 := ok.gr g
  have hp : (backTo pos (starEach [e] env)).any (·.1) = false := by rw [hse]; rfl
  refine callWith_core (K := K) (T := fun vs s' => ∃ v, vs = [v] ∧ Gr s s' ∧ R U s'.heap v (.lst ds)) (.inr (.inl ⟨_, rfl⟩)) hp ?_ fun vs s' hz => ?_
  · rw [hse]
    exact spliced_cons (wpAny_mono (he env A U s₁ hs rm ok1) (fun v s₂ z => spliced_nil ⟨(ok1.gr z.1).toHOK.top, v, rfl, g.trans z.1, z.2⟩) fun _ _ x => x.elim)
  · obtain ⟨v, rfl, g2, a, us, rfl, hu, hpl, rl⟩ := hz
    obtain ⟨k, ho⟩ := hpl
    refine call_list_seq a (.inl rfl) ho rfl rfl (fun h' c' hk hS => ?_) (by rw [List.size_toArray, rl.length]; exact Nat.le_trans hn (by decide))
    have g3 : Gr s' { s' with heap := h' } := Gr.of (t := s'.toks) hk (Nat.le_refl _) (Nat.le_of_lt (Heap.lt_size hS))
    refine ⟨g2.trans g3, s'.heap.objs.size, us, rfl, g2.sz, ⟨c', hS⟩, RL.mono (fun b q => q.imp id fun e => by rw [e]; exact fresh_none _) (fun b o _ e => hk b o e) _ rl⟩
theorem em_callL {b : Bool} {fe e : Expr} {pos : Pos} {f : Value} {ds : List D} {Q : Res → Prop} (hshape : ∀ env, eval (.Call fe [e] [] pos) env = (do callWith pos (← eval fe env) [] (backTo pos (starEach [e] env)) (backToKw pos (keywordEach [] env))))
    (hse : ∀ env, starEach [e] env = [(false, eval e env)]) (hk : (∃ id, f = .builtin id) ∨ (∃ t, f = .type t) ∨ keepIn K f = true) (hf : EV prog w K sc n ρ fe (.val f)) (he : EVL prog w K sc n ρ e ds) (hb : b = true → bx.b = true)
    (hc : ∀ l, ω.lookup l = none → l ∉ bx.ks → CallM prog w K b f n [(l, .lst ds)] [.val (.ref l)] [] (Onw bx.ks ((l, .lst ds) :: ω) [(l, .lst ds)] Q)) : EM prog w K bx sc n ρ ω (.Call fe [e] [] pos) Q := fun X s m cm hs rm x0 => by
  rw [hshape]
  refine wpAny_bind (wp_E (hf _ _ _ s hs.sco rm x0.eok) fun v s₁ hz => ?_)
  obtain ⟨g, r⟩ := hz
  have r' : v = f := r
  subst r'
  have x1 := x0.after g
  have hp : (backTo pos (starEach [e] X.env)).any (·.1) = false := by rw [hse]; rfl
  refine callWith_core (K := K) (T := fun vs s' => ∃ l, vs = [.ref l] ∧ ω.lookup l = none ∧ l ∉ bx.ks ∧ ST0 K X ρ ((l, .lst ds) :: ω) m cm s' ∧ Stp X ω s₁ ((l, .lst ds) :: ω) s') hk hp ?_ fun vs s₂ hz => ?_
  · rw [hse]
    refine spliced_cons (wpAny_mono (em_evl (bx := bx) (Q := fun r => ∃ l, r = .val (.val (.ref l)) ((l, .lst ds) :: ω) ∧ ω.lookup l = none ∧ l ∉ bx.ks) he (fun a h1 h2 => ⟨a, rfl, h1, h2⟩) X s₁ m cm hs rm x1) (fun v s₂ hz => spliced_nil ?_) fun v s₂ hz => ?_)
    · obtain ⟨d, ω', ⟨l, e, h1, h2⟩, y, st, r⟩ := hz
      cases e
      have r' : v = .ref l := r
      subst r'
      exact ⟨y.hokS.top, l, rfl, h1, h2, y, st⟩
    · obtain ⟨d, ω', ⟨l, e, _⟩, _⟩ := hz
      cases e
  · obtain ⟨l, rfl, h1, h2, y, st⟩ := hz
    have hsub : SubO [(l, Ow.lst ds)] ((l, .lst ds) :: ω) := subO_one lookup_cons_eq
    refine wpAny_mono (st_call hb hsub (hc l h1 h2) hs rm y ⟨_, _, rfl, rfl, rfl⟩ KwOk.nil) (fun v s' hz => ?_) fun v s' hz => ?_
    · obtain ⟨d, ω', q, z, st', r⟩ := hz; exact ⟨d, ω', q, z, ((Stp.gr g).trans st).trans st', r⟩
    · obtain ⟨d, ω', q, z, st', r⟩ := hz; exact ⟨d, ω', q, z, ((Stp.gr g).trans st).trans st', r⟩
theorem ex_ifCmp {l r : Expr} {op : CmpOp} {p pos : Pos} {body orelse : List Stmt} {d₂ : D} (hm : behindInMarks op r = false) (hr : EV prog w K sc n ρ r d₂)
    (hl : EM prog w K bx sc n ρ ω l fun
      | .val d ω' => ∃ b, CmpG prog w K op n d d₂ b ∧ (b = true → EX prog w K bx sc n body ρ ω' P) ∧ (b = false → EX prog w K bx sc n orelse ρ ω' P)
      | .exc d ω' => P (.exc d ρ ω')) : EX1 prog w K bx sc n (.If (.Compare l [op] [r] p) body orelse pos) ρ ω P := fun X s m cm hs rm x0 => by
  refine ex_gen fun QF QE hQ hE => ?_
  refine wpAny_If (wpAny_isTrue_Compare1 (wpAny_mono (hl X s m cm hs rm x0) (fun v s₁ hz => ?_) fun v s₁ hz => ?_) hm)
  · obtain ⟨d, ω', ⟨b, hc, h1, h2⟩, x1, st, rv⟩ := hz
    refine wp_E (hr _ _ _ s₁ hs.sco rm x1.eok) fun u s₂ hz => ?_
    obtain ⟨g, ru⟩ := hz
    have x2 := x1.after g
    refine wp_E (hc X.A (Wn X ω') s₂ v u rm x2.hokW (rv.keeps g.keep) ru) fun c s₃ hz => ?_
    obtain ⟨g', e⟩ := hz
    subst e
    refine wpAny_truthy_bool ?_
    have x3 := x2.after g'
    have st3 := st.trans (Stp.gr (g.trans g'))
    cases b with
    | true => exact wpAny_mono (h1 rfl X s₃ m cm hs rm x3) (fun fl s' hz => by obtain ⟨o, p, e⟩ := hz; exact hQ _ _ _ p (Ends.trans st3 e)) fun fl s' hz => by obtain ⟨o, p, e⟩ := hz; exact hE _ _ _ p (EndsE.trans st3 e)
    | false => exact wpAny_mono (h2 rfl X s₃ m cm hs rm x3) (fun fl s' hz => by obtain ⟨o, p, e⟩ := hz; exact hQ _ _ _ p (Ends.trans st3 e)) fun fl s' hz => by obtain ⟨o, p, e⟩ := hz; exact hE _ _ _ p (EndsE.trans st3 e)
  · obtain ⟨d, ω', q, x1, st, rv⟩ := hz
    exact hE _ _ _ q ⟨⟨⟨m, cm, x1⟩, st⟩, rv⟩
end
end Lw
end

section
open PySem PySem.W PyProof.Rows PySem.Calls PySem.SeqAt
namespace Lw
noncomputable def insZ (a : Int) : List Int → List Int
  | [] => [a]
  | b :: l => if a ≤ b then a :: b :: l else b :: insZ a l
noncomputable def sortZ : List Int → List Int
  | [] => []
  | a :: l => insZ a (sortZ l)
theorem insZ_perm (a : Int) : ∀ l : List Int, (insZ a l).Perm (a :: l)
  | [] => List.Perm.refl _
  | b :: l => by
    unfold insZ
    split
    · exact List.Perm.refl _
    · exact ((insZ_perm a l).cons b).trans (List.Perm.swap a b l)
theorem insZ_sorted {a : Int} : ∀ {l : List Int}, l.Pairwise (· ≤ ·) → (insZ a l).Pairwise (· ≤ ·)
  | [], _ => List.pairwise_singleton _ _
  | b :: l, h => by
    obtain ⟨h1, h2⟩ := List.pairwise_cons.mp h
    unfold insZ
    by_cases hab : a ≤ b
    · rw [if_pos hab]
      refine List.pairwise_cons.mpr ⟨fun c hc => ?_, h⟩
      rcases List.mem_cons.mp hc with rfl | hc
      · exact hab
      · exact Int.le_trans hab (h1 c hc)
    · rw [if_neg hab]
      refine List.pairwise_cons.mpr ⟨fun c hc => ?_, insZ_sorted h2⟩
      rcases List.mem_cons.mp ((insZ_perm a l).mem_iff.mp hc) with rfl | hc
      · exact Int.le_of_lt (Int.not_le.mp hab)
      · exact h1 c hc
theorem sortZ_perm : ∀ l : List Int, (sortZ l).Perm l
  | [] => List.Perm.refl _
  | a :: l => (insZ_perm a (sortZ l)).trans ((sortZ_perm l).cons a)
theorem sortZ_sorted : ∀ l : List Int, (sortZ l).Pairwise (· ≤ ·)
  | [] => List.Pairwise.nil
  | _ :: l => insZ_sorted (sortZ_sorted l)
theorem sortZ_only {l l' : List Int} (hp : l'.Perm l) (hs : l'.Pairwise (· ≤ ·)) : l' = sortZ l :=
  List.Perm.eq_of_pairwise (fun a b _ _ h1 h2 => Int.le_antisymm h1 h2) hs (sortZ_sorted l) (hp.trans (sortZ_perm l).symm)
theorem ints_are {U : Addr → Prop} {h : Heap} : ∀ {ys : List Int} {vs : List Value}, RL U h vs (ys.map .int) → IntsAre vs ys
  | [], _, x => by cases x; exact .nil
  | y :: ys, _, hz => by
    obtain ⟨v, vs', e, ⟨t, e'⟩, rl⟩ := hz
    subst e e'
    exact .cons y t (ints_are rl)
theorem are_ints {U : Addr → Prop} {h : Heap} {ys : List Int} {vs : List Value} (x : IntsAre vs ys) : RL U h vs (ys.map .int) := by
  induction x with
  | nil => rfl
  | cons y t _ ih => exact ⟨_, _, rfl, ⟨t, rfl⟩, ih⟩
section
variable {n : Nat}
theorem c_sorted {hs : List Int} (hl : hs.length < 64) : CallG prog w K (.builtin "sorted") n [.lst (hs.map .int)] (.lst ((sortZ hs).map .int)) := fun A U s vs rm ok rl => by
  obtain ⟨v, vs', rfl, ⟨l, us, rfl, hu, hpl, rl⟩, r⟩ := rl
  cases r
  refine sorted_ints hpl.isList (ints_are rl) (by rw [rl.length, List.length_map]; exact hl) fun out ns' a1 a2 a3 => ?_
  obtain ⟨e, he⟩ := sortedAll_at s.heap us out
  have hk : ∀ b o, s.heap.get? b = some o → (sortedAll s.heap us out).get? b = some o := fun b o q => sortedAll_old q
  have hlt := Heap.lt_size he
  rw [sortZ_only a2 a3] at a1
  refine ⟨Gr.of (t := s.toks) hk (Nat.le_refl _) (Nat.le_of_lt (Nat.lt_of_succ_lt hlt)), s.heap.objs.size + 1, out.toList, rfl, ok.not_fresh (Nat.le_succ _), ⟨e, by rw [Array.toArray_toList]; exact he⟩, are_ints a1⟩
end
end Lw
end

section
open PySem PySem.W PyProof.Rows PySem.Calls PySem.SeqAt
namespace Lw
section
variable {bx : Fl} {sc : Scope} {n : Nat} {ρ : Vars} {ω : Owns} {P : Out → Prop}
theorem em_tuple3L {e₁ e₂ e₃ : Expr} {k : Nat} {pos : Pos} {d₁ d₂ : D} {ds : List D} {Q : Res → Prop} (hs1 : ∀ env, starEach [e₁, e₂, e₃] env = [(false, eval e₁ env), (false, eval e₂ env), (false, eval e₃ env)])
    (h1 : EV prog w K sc n ρ e₁ d₁) (h2 : EV prog w K sc n ρ e₂ d₂) (h3 : EVL prog w K sc n ρ e₃ ds) (q : ∀ l, ω.lookup l = none → l ∉ bx.ks → Q (.val (.tup [d₁, d₂, .val (.ref l)]) ((l, .lst ds) :: ω))) : EM prog w K bx sc n ρ ω (.Tuple [e₁, e₂, e₃] k pos) Q := fun X s m cm hs rm x0 => by
  refine Tuple_ ?_
  rw [hs1]
  refine spliced_cons (wp_E (h1 _ _ _ s hs.sco rm x0.eok) fun v₁ s₁ hz => ?_)
  obtain ⟨g1, r1⟩ := hz
  have x1 := x0.after g1
  refine spliced_cons (wp_E (h2 _ _ _ s₁ hs.sco rm x1.eok) fun v₂ s₂ hz => ?_)
  obtain ⟨g2, r2⟩ := hz
  have x2 := x1.after g2
  refine spliced_cons (wp_E (h3 _ _ _ s₂ hs.sco rm x2.eok) fun v₃ s₃ hz => spliced_nil ?_)
  obtain ⟨g3, a, vs, e, ha, p, r⟩ := hz
  subst e
  have x3 := x2.grow (o := .lst ds) g3 ha ⟨vs, p, r⟩
  have up : ∀ {v : Value} {d : D}, R (Wn X ω) s₂.heap v d → R (Wn X ((a, Ow.lst ds) :: ω)) s₃.heap v d := fun r => R.mono (fun b q => (wn_cons.mp q).imp id fun e => fresh_none' (by rw [e]; exact ha)) (fun b o _ e => g3.keep b o e) _ r
  refine wpAny_newTuple (hsz := by show 3 ≤ _; decide) ?_
  refine ⟨_, _, q a (x2.newAddr ha) (x2.notKs hs ha), x3.after Gr.push, ((Stp.gr (g1.trans g2)).trans (Stp.grow (o := .lst ds) g3 ha)).trans (Stp.gr Gr.push), _, [v₁, v₂, .ref a], rfl, x3.hokW.not_fresh (Nat.le_refl _), ⟨_, Heap.get?_push_size _ rfl, rfl, _, rfl⟩, v₁, _, rfl, R.keeps Gr.push.keep (up (r1.keeps g2.keep)), v₂, _, rfl, R.keeps Gr.push.keep (up r2), _, _, rfl, rfl, rfl⟩
theorem ex_swap3M {x y z : Str} {px py pz : Pos} {k : Nat} {p pos : Pos} {value : Expr} (he : EM prog w K bx sc n ρ ω value fun
      | .val d ω' => ∃ d₁ d₂ d₃, d = .tup [d₁, d₂, d₃] ∧ P (.next ((x, d₁) :: (y, d₂) :: (z, d₃) :: ρ) ω')
      | .exc d ω' => P (.exc d ρ ω')) (hx : KindOk sc x) (hy : KindOk sc y) (hz : KindOk sc z)
    (hsw : ∀ env : Env, env.scope = sc → swapsWithSole [.Tuple [.Name x px, .Name y py, .Name z pz] k p] value pos.line env = pure false) (hw : ∀ env : Env, env.scope = sc → swappedStores [.Tuple [.Name x px, .Name y py, .Name z pz] k p] value env = pure (some [x, y, z])) :
    EX1 prog w K bx sc n (.Assign [.Tuple [.Name x px, .Name y py, .Name z pz] k p] value pos) ρ ω P := fun X s m cm hs rm x0 => by
  rw [exec_Assign_arm]
  refine wpAny_bind (wpAny_standAt ?_)
  rw [hsw _ hs.sco]
  refine wpAny_bind (wpAny_pure ?_)
  rw [if_neg (by decide)]
  refine wpAny_bind (wpAny_mono (he X s m cm hs rm x0) (fun v s₁ hq => ?_) fun e s₁ hq => by obtain ⟨d, ω', q, x1, st1, r⟩ := hq; exact ⟨_, q, ⟨⟨m, cm, x1⟩, st1⟩, r⟩)
  obtain ⟨d, ω', ⟨d₁, d₂, d₃, e, hP⟩, x1, st1, r⟩ := hq
  subst e
  obtain ⟨a, vs, rfl, hu, htup, rl⟩ := r
  rw [hw _ hs.sco]
  refine wpAny_bind (wpAny_pure ?_)
  unfold assignStores
  refine wpAny_bind (wpAny_rule ?_)
  obtain ⟨v1, _, rfl, r1, v2, _, rfl, r2, v3, _, rfl, r3, e0⟩ := rl
  have e0' : _ = [] := e0
  subst e0'
  have hun : wpAny (model prog w) X.A (unpackItems (.ref a) [x, y, z].length none) (fun l s' => l = [v1, v2, v3] ∧ Gr s₁ s') (fun _ _ => False) s₁ :=
    wp0 (unpackItems_tuple (items := List.toArray [v1, v2, v3]) rm.hd htup fun h' he' le z => ⟨by simp, Gr.of (t := s₁.toks) (fun b o e => he' b o (Nat.ne_of_lt (Heap.lt_size e)) e) le z⟩)
  refine wpAny_bind (wp_E hun fun l s₂ hq => ?_)
  obtain ⟨e, g⟩ := hq
  subst e
  have x2 := x1.after g
  show wpAny _ X.A (assignInOrder [bindName X.env z, bindName X.env y, bindName X.env x] [v3, v2, v1] >>= fun _ => pure Flow.next) _ _ s₂
  refine wpAny_bind ?_
  refine wpAny_bind (wpAny_holding (wpAny_bindName (st_set x2 (x2.kind hs hz) (r3.keeps g.keep) fun s₃ hq le₃ z₃ k₃ => ?_)))
  obtain ⟨m₃, cm₃, x3⟩ := hq
  have up3 : ∀ {v d}, R (Wn X ω') s₂.heap v d → R (Wn X ω') s₃.heap v d := fun r => R.mono (fun _ q => .inl q) (fun b o q e => k₃ b o (fun f => q (frm_wn f)) e) _ r
  refine wpAny_bind (wpAny_holding (wpAny_bindName (st_set x3 (x3.kind hs hy) (up3 (r2.keeps g.keep)) fun s₄ hq le₄ z₄ k₄ => ?_)))
  obtain ⟨m₄, cm₄, x4⟩ := hq
  have up4 : ∀ {v d}, R (Wn X ω') s₃.heap v d → R (Wn X ω') s₄.heap v d := fun r => R.mono (fun _ q => .inl q) (fun b o q e => k₄ b o (fun f => q (frm_wn f)) e) _ r
  refine wpAny_bind (wpAny_holding (wpAny_bindName (st_set x4 (x4.kind hs hx) (up4 (up3 (r1.keeps g.keep))) fun s₅ hq le₅ z₅ k₅ => ?_)))
  obtain ⟨m₅, cm₅, x5⟩ := hq
  exact wpAny_pure (wpAny_pure ⟨_, hP, rfl, ⟨m₅, cm₅, x5⟩, (((st1.trans (Stp.gr g)).trans (Stp.set (Gr.refl _) le₃ z₃ k₃)).trans (Stp.set (Gr.refl _) le₄ z₄ k₄)).trans (Stp.set (Gr.refl _) le₅ z₅ k₅)⟩)
end
end Lw
end

section
open PySem PySem.W PyProof.Rows PySem.Calls PySem.SeqAt
namespace Lw
section
variable {n : Nat}
theorem bMulS {x : Str} {k : Int} (hx : x.length ≤ 1000) (h0 : 0 ≤ k) (hk : k ≤ 1000) : BinG prog w K .Mult n (.str x) (.int k) (.str (Txt.mul x k)) := fun A U s _ _ rm ok hz hz' => by
  obtain ⟨t, e⟩ := hz
  obtain ⟨u, e'⟩ := hz'
  subst e e'
  have M := mulOk_of (x := x) (n := k) 1000 1000 hx hk (by lia) (by decide) (by decide)
  refine P.mul_str M.1 M.2.1 M.2.2 ?_
  unfold Txt.mul
  by_cases h1 : k < 1
  · rw [if_pos h1, if_pos h1]
    exact ⟨by decide, Gr.toks, _, rfl⟩
  · rw [if_neg h1, if_neg h1]
    by_cases h2 : (k == 1 || x.length == 0) = true
    · rw [if_pos h2, if_pos h2]
      exact ⟨Gr.refl s, _, rfl⟩
    · rw [if_neg h2, if_neg h2]
      refine ⟨?_, Gr.toks, _, rfl⟩
      show ((List.replicate k.toNat x.cps).foldl (· ++ ·) #[]).size ≤ sizeLine
      rw [len_reps]
      have h3 : k.toNat * x.cps.size ≤ 1000 * 1000 := Nat.mul_le_mul (by lia) hx
      exact Nat.le_trans (Nat.le_trans (Nat.le_of_eq (Nat.zero_add _)) h3) (by decide)
end
end Lw
end

section
open PySem PySem.W PyProof.Rows PySem.Calls
namespace Lw
section
variable {n : Nat}
theorem sum_tup (xs : List Int) : CallG prog w K (.builtin "sum") n [.tup (xs.map .int)] (.int (iSum xs)) := fun A U s vs rm ok rl => by
  obtain ⟨v, vs', rfl, ⟨l, us, rfl, hu, hl, rx⟩, r⟩ := rl
  cases r
  have hlen : (List.toArray us).size = xs.length := by simp [rx.length]
  have hal : l < s.heap.objs.size := by obtain ⟨o, e, _⟩ := hl; exact Heap.lt_size e
  refine wp_gr (call_sum_walkAnyB (wpAny_pyIter_tuple hl ?_))
  have W := (Walks.tuple (prog := prog) (w := w) (A := A.in1) rm.hd s.heap.objs.size l (Nat.ne_of_lt hal) (List.toArray us)).toS
  rw [hlen] at W
  refine ⟨_, _, _, _, _, _, _, fun i => xs.getD i 0, rfl, W, ⟨⟨_, Heap.get?_push_size _ rfl, rfl, rfl⟩, hl.push _⟩, fun b hb => ?_, fun i v hP => .inl ?_, fun s' t' mv => ⟨?_, t', ?_⟩⟩
  · show b < (s.heap.push _).objs.size
    rw [Heap.size_push]
    rcases List.mem_cons.mp hb with rfl | hb
    · exact Nat.lt_succ_self _
    · rw [List.mem_singleton.mp hb]; exact Nat.lt_succ_of_lt hal
  · have hP' : us[i]? = some v := by simpa using hP
    have hi : i < xs.length := by
      have := (List.getElem?_eq_some_iff.mp hP').1
      rw [rx.length] at this; simpa using this
    obtain ⟨v', e', r⟩ := rx.get (i := i) (d := .int xs[i]) (by simp [hi])
    rw [hP'] at e'
    cases e'
    obtain ⟨t, e⟩ := r
    exact ⟨t, by rw [e]; simp [List.getD, hi]⟩
  · obtain ⟨m1, m2, m3, m4, m5⟩ := mv
    obtain ⟨h', g', d', k', o'⟩ := s'
    simp only at m1 m2 m3 m4 m5
    subst m2 m3 m4
    exact ⟨h', k', rfl, fun b o e => m1 b o (fun z => by rw [List.mem_singleton.mp z] at e; exact absurd (Heap.lt_size e) (Nat.lt_irrefl _)) (Heap.get?_push_of_some _ e)⟩
  · rw [preSum_list]
end
end Lw
end

section
open PySem PySem.W PyProof.Rows PySem.Calls PySem.Challenge
namespace Lw

section
noncomputable def escA (x : Str) : Str := escStep ">" "&gt;" (escStep "<" "&lt;" (escStep "&" "&amp;" x))
noncomputable def escB (x : Str) : Str := escStep "\t" "&#09;" (escStep "\n" "&#10;" (escStep "\r" "&#13;" (escStep "\"" "&quot;" (escStep ">" "&gt;" (escStep "<" "&lt;" (escStep "&" "&amp;" x))))))
noncomputable def escC (x : Str) : Str := escStep "\"" "&quot;" (escStep ">" "&gt;" (escStep "&" "&amp;" x))
noncomputable def escD (x : Str) : Str := escStep "\r" "&#xD;" (escStep ">" "&gt;" (escStep "<" "&lt;" (escStep "&" "&amp;" x)))
noncomputable def escE (x : Str) : Str := escStep "\r" "&#xD;" (escStep "\n" "&#xA;" (escStep "\t" "&#x9;" (escStep "\"" "&quot;" (escStep "<" "&lt;" (escStep "&" "&amp;" x)))))
theorem escA_ok {n : Nat} {fa : Addr} {fd : FuncData} (F : Def K fa (stAt pw_tc0083_02 10) fd) {x : Str} (hx : x.length ≤ 12) : CallG prog w K (.ref fa) (n + 1) [.str x] (.str (escA x)) := by
  refine def_call F (xs := ["text"]) rfl rfl (fun vs hl => ?_) rfl (by decide) (fun x hx => ?_) ?_
  · obtain ⟨v, rfl⟩ := len1 hl
    intros
    rfl
  · rw [List.mem_singleton.mp hx]; exact .inl rfl
  conv => arg 7; whnf
  refine ex_cons (ex_try0 ?_)
  refine esc_if (fun _ => rfl) (.inl rfl) (fun _ _ => rfl) (by decide) (by decide) (by decide) (esc_room (a := 12) (by decide) hx (by decide)) ?_
  refine esc_if (fun _ => rfl) (.inl rfl) (fun _ _ => rfl) (by decide) (by decide) (by decide) (esc_room (a := 90) (by decide) (len_esc (b := 90) (by decide) hx (by decide)) (by decide)) ?_
  refine esc_if (fun _ => rfl) (.inl rfl) (fun _ _ => rfl) (by decide) (by decide) (by decide) (esc_room (a := 636) (by decide) (len_esc (b := 636) (by decide) (len_esc (b := 90) (by decide) hx (by decide)) (by decide)) (by decide)) ?_
  refine ex_cons (ex_ret (ev_name lookup_cons_eq (.inl rfl) (by decide) (by decide)) ?_)
  exact ⟨_, rfl⟩

theorem escB_ok {n : Nat} {fa : Addr} {fd : FuncData} (F : Def K fa (stAt pw_tc0083_02 11) fd) {x : Str} (hx : x.length ≤ 12) : CallG prog w K (.ref fa) (n + 1) [.str x] (.str (escB x)) := by
  refine def_call F (xs := ["text"]) rfl rfl (fun vs hl => ?_) rfl (by decide) (fun x hx => ?_) ?_
  · obtain ⟨v, rfl⟩ := len1 hl
    intros
    rfl
  · rw [List.mem_singleton.mp hx]; exact .inl rfl
  conv => arg 7; whnf
  refine ex_cons (ex_try0 ?_)
  refine esc_if (fun _ => rfl) (.inl rfl) (fun _ _ => rfl) (by decide) (by decide) (by decide) (esc_room (a := 12) (by decide) hx (by decide)) ?_
  refine esc_if (fun _ => rfl) (.inl rfl) (fun _ _ => rfl) (by decide) (by decide) (by decide) (esc_room (a := 90) (by decide) (len_esc (b := 90) (by decide) hx (by decide)) (by decide)) ?_
  refine esc_if (fun _ => rfl) (.inl rfl) (fun _ _ => rfl) (by decide) (by decide) (by decide) (esc_room (a := 636) (by decide) (len_esc (b := 636) (by decide) (len_esc (b := 90) (by decide) hx (by decide)) (by decide)) (by decide)) ?_
  refine esc_if (fun _ => rfl) (.inl rfl) (fun _ _ => rfl) (by decide) (by decide) (by decide) (esc_room (a := 4458) (by decide) (len_esc (b := 4458) (by decide) (len_esc (b := 636) (by decide) (len_esc (b := 90) (by decide) hx (by decide)) (by decide)) (by decide)) (by decide)) ?_
  refine esc_if (fun _ => rfl) (.inl rfl) (fun _ _ => rfl) (by decide) (by decide) (by decide) (esc_room (a := 31212) (by decide) (len_esc (b := 31212) (by decide) (len_esc (b := 4458) (by decide) (len_esc (b := 636) (by decide) (len_esc (b := 90) (by decide) hx (by decide)) (by decide)) (by decide)) (by decide)) (by decide)) ?_
  refine esc_if (fun _ => rfl) (.inl rfl) (fun _ _ => rfl) (by decide) (by decide) (by decide) (esc_room (a := 218490) (by decide) (len_esc (b := 218490) (by decide) (len_esc (b := 31212) (by decide) (len_esc (b := 4458) (by decide) (len_esc (b := 636) (by decide) (len_esc (b := 90) (by decide) hx (by decide)) (by decide)) (by decide)) (by decide)) (by decide)) (by decide)) ?_
  refine esc_if (fun _ => rfl) (.inl rfl) (fun _ _ => rfl) (by decide) (by decide) (by decide) (esc_room (a := 1529436) (by decide) (len_esc (b := 1529436) (by decide) (len_esc (b := 218490) (by decide) (len_esc (b := 31212) (by decide) (len_esc (b := 4458) (by decide) (len_esc (b := 636) (by decide) (len_esc (b := 90) (by decide) hx (by decide)) (by decide)) (by decide)) (by decide)) (by decide)) (by decide)) (by decide)) ?_
  refine ex_cons (ex_ret (ev_name lookup_cons_eq (.inl rfl) (by decide) (by decide)) ?_)
  exact ⟨_, rfl⟩

theorem escC_ok {n : Nat} {fa : Addr} {fd : FuncData} (F : Def K fa (stAt pw_tc0083_02 12) fd) {x : Str} (hx : x.length ≤ 12) : CallG prog w K (.ref fa) (n + 1) [.str x] (.str (escC x)) := by
  refine def_call F (xs := ["text"]) rfl rfl (fun vs hl => ?_) rfl (by decide) (fun x hx => ?_) ?_
  · obtain ⟨v, rfl⟩ := len1 hl
    intros
    rfl
  · rw [List.mem_singleton.mp hx]; exact .inl rfl
  conv => arg 7; whnf
  refine ex_cons (ex_try0 ?_)
  refine esc_if (fun _ => rfl) (.inl rfl) (fun _ _ => rfl) (by decide) (by decide) (by decide) (esc_room (a := 12) (by decide) hx (by decide)) ?_
  refine esc_if (fun _ => rfl) (.inl rfl) (fun _ _ => rfl) (by decide) (by decide) (by decide) (esc_room (a := 90) (by decide) (len_esc (b := 90) (by decide) hx (by decide)) (by decide)) ?_
  refine esc_if (fun _ => rfl) (.inl rfl) (fun _ _ => rfl) (by decide) (by decide) (by decide) (esc_room (a := 636) (by decide) (len_esc (b := 636) (by decide) (len_esc (b := 90) (by decide) hx (by decide)) (by decide)) (by decide)) ?_
  refine ex_cons (ex_ret (ev_name lookup_cons_eq (.inl rfl) (by decide) (by decide)) ?_)
  exact ⟨_, rfl⟩

theorem escD_ok {n : Nat} {fa : Addr} {fd : FuncData} (F : Def K fa (stAt pw_tc0083_02 13) fd) {x : Str} (hx : x.length ≤ 12) : CallG prog w K (.ref fa) (n + 1) [.str x] (.str (escD x)) := by
  refine def_call F (xs := ["text"]) rfl rfl (fun vs hl => ?_) rfl (by decide) (fun x hx => ?_) ?_
  · obtain ⟨v, rfl⟩ := len1 hl
    intros
    rfl
  · rw [List.mem_singleton.mp hx]; exact .inl rfl
  conv => arg 7; whnf
  refine ex_cons (ex_try0 ?_)
  refine esc_if (fun _ => rfl) (.inl rfl) (fun _ _ => rfl) (by decide) (by decide) (by decide) (esc_room (a := 12) (by decide) hx (by decide)) ?_
  refine esc_if (fun _ => rfl) (.inl rfl) (fun _ _ => rfl) (by decide) (by decide) (by decide) (esc_room (a := 90) (by decide) (len_esc (b := 90) (by decide) hx (by decide)) (by decide)) ?_
  refine esc_if (fun _ => rfl) (.inl rfl) (fun _ _ => rfl) (by decide) (by decide) (by decide) (esc_room (a := 636) (by decide) (len_esc (b := 636) (by decide) (len_esc (b := 90) (by decide) hx (by decide)) (by decide)) (by decide)) ?_
  refine esc_if (fun _ => rfl) (.inl rfl) (fun _ _ => rfl) (by decide) (by decide) (by decide) (esc_room (a := 4458) (by decide) (len_esc (b := 4458) (by decide) (len_esc (b := 636) (by decide) (len_esc (b := 90) (by decide) hx (by decide)) (by decide)) (by decide)) (by decide)) ?_
  refine ex_cons (ex_ret (ev_name lookup_cons_eq (.inl rfl) (by decide) (by decide)) ?_)
  exact ⟨_, rfl⟩

theorem escE_ok {n : Nat} {fa : Addr} {fd : FuncData} (F : Def K fa (stAt pw_tc0083_02 14) fd) {x : Str} (hx : x.length ≤ 12) : CallG prog w K (.ref fa) (n + 1) [.str x] (.str (escE x)) := by
  refine def_call F (xs := ["text"]) rfl rfl (fun vs hl => ?_) rfl (by decide) (fun x hx => ?_) ?_
  · obtain ⟨v, rfl⟩ := len1 hl
    intros
    rfl
  · rw [List.mem_singleton.mp hx]; exact .inl rfl
  conv => arg 7; whnf
  refine ex_cons (ex_try0 ?_)
  refine esc_if (fun _ => rfl) (.inl rfl) (fun _ _ => rfl) (by decide) (by decide) (by decide) (esc_room (a := 12) (by decide) hx (by decide)) ?_
  refine esc_if (fun _ => rfl) (.inl rfl) (fun _ _ => rfl) (by decide) (by decide) (by decide) (esc_room (a := 90) (by decide) (len_esc (b := 90) (by decide) hx (by decide)) (by decide)) ?_
  refine esc_if (fun _ => rfl) (.inl rfl) (fun _ _ => rfl) (by decide) (by decide) (by decide) (esc_room (a := 636) (by decide) (len_esc (b := 636) (by decide) (len_esc (b := 90) (by decide) hx (by decide)) (by decide)) (by decide)) ?_
  refine esc_if (fun _ => rfl) (.inl rfl) (fun _ _ => rfl) (by decide) (by decide) (by decide) (esc_room (a := 4458) (by decide) (len_esc (b := 4458) (by decide) (len_esc (b := 636) (by decide) (len_esc (b := 90) (by decide) hx (by decide)) (by decide)) (by decide)) (by decide)) ?_
  refine esc_if (fun _ => rfl) (.inl rfl) (fun _ _ => rfl) (by decide) (by decide) (by decide) (esc_room (a := 31212) (by decide) (len_esc (b := 31212) (by decide) (len_esc (b := 4458) (by decide) (len_esc (b := 636) (by decide) (len_esc (b := 90) (by decide) hx (by decide)) (by decide)) (by decide)) (by decide)) (by decide)) ?_
  refine esc_if (fun _ => rfl) (.inl rfl) (fun _ _ => rfl) (by decide) (by decide) (by decide) (esc_room (a := 218490) (by decide) (len_esc (b := 218490) (by decide) (len_esc (b := 31212) (by decide) (len_esc (b := 4458) (by decide) (len_esc (b := 636) (by decide) (len_esc (b := 90) (by decide) hx (by decide)) (by decide)) (by decide)) (by decide)) (by decide)) (by decide)) ?_
  refine ex_cons (ex_ret (ev_name lookup_cons_eq (.inl rfl) (by decide) (by decide)) ?_)
  exact ⟨_, rfl⟩
end

end Lw
end

section
open PySem PySem.W PyProof.Rows PySem.Calls PySem.Challenge
namespace Lw
local macro_rules | `(tactic| walk_at "k") => `(tactic| first | rfl | assumption | exact lookup_cons_eq | (rw [lookup_cons_ne (by decide)]; walk_at "k"))
local macro_rules | `(tactic| walk_at "n") => `(tactic| (refine' ev_name ?lk ?hx (by decide) (by decide); (case lk => walk_at "k"); (case hx => first | exact .inl rfl | exact .inr (.inl rfl) | exact .inr (.inr rfl))))
local macro_rules | `(tactic| walk_at "o") => `(tactic| first | exact bAdd | exact bSub | exact bMod (by first | decide | omega) | exact bDiv (by first | decide | omega) (by first | decide | omega) | exact cEq | exact cNe | exact cLe | exact cGe | exact cEqS | exact cNeS | exact cInS | exact cIsNotB)
local macro_rules | `(tactic| walk_at "e") => `(tactic| first
  | (with_reducible exact ev_int) | (with_reducible exact ev_str) | (with_reducible exact ev_bool) | (with_reducible exact ev_none)
  | ((with_reducible refine' ev_bin ?l ?r ?o); (case l => walk_at "e"); (case r => walk_at "e"); (case o => walk_at "o"))
  | ((with_reducible refine' ev_cmp ?hm ?l ?r ?o); (case hm => rfl); (case l => walk_at "e"); (case r => walk_at "e"); (case o => walk_at "o"))
  | walk_at "n")
local macro_rules | `(tactic| walk_at "t") => `(tactic| first
  | ((with_reducible refine' et_cmp ?hm ?l ?r ?o); (case hm => rfl); (case l => walk_at "e"); (case r => walk_at "e"); (case o => walk_at "o")))
local macro_rules | `(tactic| walk_at "s") => `(tactic| first | exact Sub.nil | (refine' Sub.more ?lk ?r; (case lk => walk_at "k"); (case r => walk_at "s")))

section
noncomputable def ConvR (b : Bool) (x : Str) : Res → Prop
  | .val d ω => badStr b x = false ∧ d = .str x ∧ ω = []
  | .exc d ω => badStr b x = true ∧ ∃ e T, d = .val (.ref e) ∧ e ≠ T ∧ ω.lookup e = some (.exn "ValueError" (some T) [.str ctlMsg]) ∧ ω.lookup T = some (.tbk .none)
theorem conv_ok {pn pv : Addr} {n : Nat} {bx : Bool} {fa : Addr} {fd : FuncData} (T : Tops2 K pn pv) (F : Def K fa (clsAt pw_tc0083_02 7 1) fd) (d₀ : D) {x : Str} {b : Bool} (hx : x.length ≤ 1000000) (hb : badStr b x = true → bx = true) :
    CallC prog w K bx (.ref fa) (n + 1) [] [d₀, .str x] [("name", .bool b)] (ConvR b x) := by
  refine def_callC F.toD (xs := ["self", "value", "name"]) rfl rfl (fun name qual body scope gl clo doc md an code ct bi => bind_kw (fun vs us hl hu => ?_) rfl) (by decide) (kinds_ok rfl) ?_
  · obtain ⟨v1, v2, rfl⟩ := len2 hl
    obtain ⟨v3, rfl⟩ := len1 hu
    rfl
  conv => arg 7; whnf
  refine ex_sub (ρ' := [kv "self" d₀, kv "value" (.str x), kv "name" (.bool b)]) ?_ (by walk_at "s") (SubO.refl _)
  refine ex_cons (ex_if (b := true) (emt_et (et_cmp rfl (ev_call (fun _ => rfl) (fun _ => rfl) (.inr (.inl ⟨_, rfl⟩)) (T.toTops.ev (by decide) rfl (by decide)) (es_cons (fun _ => rfl) (by walk_at "e") es_nil) (type_str x)) (T.toTops.ev (v := .type "str") (by decide) rfl (by decide)) cIsT1)) (fun _ => ?_) (fun h => by cases h))
  refine ex_cons (ex_assign (d := .val (.ref (if b = true then pn else pv))) (ev_if (b := b) (et_bool (by walk_at "e") (fun _ _ => rfl)) (fun h => ?_) fun h => ?_) (.inl rfl) (fun _ _ => rfl) ?_)
  · rw [if_pos h]; exact ev_global rfl T.gn (by decide)
  · rw [if_neg (by rw [h]; decide)]; exact ev_global rfl T.gv (by decide)
  refine ex_cons (ex_if (b := badStr b x) (emt_et (et_found (ev_meth (f := .builtin "re.Pattern.search") (d₀ := .val (.ref (if b = true then pn else pv))) (ds := [.str x]) (fun _ => rfl) (fun _ => rfl) (.inl ⟨_, rfl⟩) (by walk_at "e") ?_ (es_cons (fun _ => rfl) (by walk_at "e") es_nil) ?_) (fun _ _ => rfl))) (fun h => ?_) fun h => ?_)
  · cases b with
    | true => exact getG_search T.pn
    | false => exact getG_search T.pv
  · cases b with
    | true => exact call_search T.pn setName hx
    | false => exact call_search T.pv setValue hx
  · refine ex_cons (ex_raise excClass_ValueError PySem.F.excRaise_ValueError (fun _ => rfl) (ev_builtin rfl T.ve.1 T.ve.2 (by decide)) (es_cons (fun _ => rfl) ev_str es_nil) (by decide) fun e he hk => ?_)
    refine ⟨hb h, e, "ValueError", none, [.str ctlMsg], rfl, lookup_cons_eq, fun _ q => (by cases q), fun T' ω' N => ⟨h, e, T', rfl, N.2.2.1, N.1, N.2.1⟩⟩
  · refine ex_nil ?_
    refine ex_cons (ex_ret (by walk_at "e") ⟨h, rfl, rfl⟩)
end

section
noncomputable def rowD (p : Str × Str) : D := .tup [.str p.1, .str p.2]
noncomputable def HdrO (a C dx l : Addr) (rows : List (Str × Str)) : Owns := [(a, .ins C dx), (dx, .att [("_headers", .val (.ref l))]), (l, .lst (rows.map rowD))]
structure Apart (a dx l : Addr) : Prop where
  ad : dx ≠ a
  al : l ≠ a
  dl : l ≠ dx
theorem own_hdr {a C dx l : Addr} {rows : List (Str × Str)} (h : Apart a dx l) : Own1 (HdrO a C dx l rows) a C dx "_headers" l (rows.map rowD) :=
  ⟨lookup_cons_eq, by unfold HdrO; rw [lookup_cons_ne h.ad, lookup_cons_eq], by unfold HdrO; rw [lookup_cons_ne h.al, lookup_cons_ne h.dl, lookup_cons_eq]⟩
theorem flat_rows (rows : List (Str × Str)) : FlatL (rows.map rowD) := FlatL.of fun d hd => by
  obtain ⟨p, _, rfl⟩ := List.mem_map.mp hd
  exact ⟨trivial, trivial, trivial⟩
theorem items_ok {n : Nat} {bx : Bool} {fa : Addr} {fd : FuncData} {a C dx l : Addr} {rows : List (Str × Str)} (CO : ClsOk K C) (hn : findIn K (.ref C) "_headers" = some none) (F : Def K fa (clsAt pw_tc0083_02 7 11) fd) (hA : Apart a dx l) (hr : rows.length ≤ 1000) :
    CallC prog w K bx (.ref fa) (n + 1) (HdrO a C dx l rows) [.val (.ref a)] [] (fun r => ∃ c, (HdrO a C dx l rows).lookup c = none ∧ r = .val (.val (.ref c)) ((c, .lst (rows.map rowD)) :: HdrO a C dx l rows)) := by
  refine def_callC F.toD (xs := ["self"]) rfl rfl (fun name qual body scope gl clo doc md an code ct bi => bind_kw (fun vs us hl hu => ?_) rfl) (by decide) (kinds_ok rfl) ?_
  · obtain ⟨v1, rfl⟩ := len1 hl
    obtain rfl := len0 hu
    rfl
  conv => arg 7; whnf
  refine ex_sub (ρ' := [kv "self" (.val (.ref a))]) ?_ (by walk_at "s") (SubO.refl _)
  have hsl : ∀ {bx : Fl} {sc : Scope} {pos p p' p'' : Pos}, sc.names.lookup ("self" : Str) = some .local → EVL prog w K sc n [("self", .ins C [("_headers", .lst (rows.map rowD))]), kv "self" (.val (.ref a))] (.Subscript (.Attribute (.Name "self" p) "_headers" p') (.Slice none none none p'') pos) (rows.map rowD) := fun {bx sc pos p p' p''} h => by
    have := evl_slice (prog := prog) (w := w) (p := p'') (pos := pos) (value := .Attribute (.Name "self" p) "_headers" p') (lo := none) (hi := none) (st := none) (i := none) (j := none) (k := none) (ev_attr (sc := sc) (n := n) (ρ := [("self", .ins C [("_headers", .lst (rows.map rowD))]), kv "self" (.val (.ref a))]) (fun _ => rfl) (ev_name lookup_cons_eq (.inl h) (by decide) (by decide)) CO lookup_cons_eq hn trivial) rfl rfl rfl (by decide) (fun _ _ => by first | exact .inl rfl | exact .inr rfl) (by rw [List.length_map]; lia)
    rw [pickD_all] at this
    exact this
  exact ex_cons (ex_retM (eml_lendI (y := "self") (ds' := rows.map rowD) rfl (own_hdr hA) (hsl (bx := ⟨bx, []⟩) rfl) (flat_rows rows) fun c hc _ => ⟨c, hc, rfl⟩))
end

section
structure Hdr (K : Frag) (C pn pv : Addr) : Prop extends Tops2 K pn pv, SetOk K C where
  hn : findIn K (.ref C) "_headers" = some none
  tk : takerIn K C "_headers" = some none
  seq : noSeq K C = true
  conv : ∃ f fd, MethOk K C "_convert_string_type" f ∧ Def K f (clsAt pw_tc0083_02 7 1) fd
  deli : ∃ f fd, MethOk K C "__delitem__" f ∧ Def K f (clsAt pw_tc0083_02 7 4) fd
  itms : ∃ f fd, MethOk K C "items" f ∧ Def K f (clsAt pw_tc0083_02 7 11) fd
  gett : ∃ f fd dt od, MethOk K C "get" f ∧ DefD K f (clsAt pw_tc0083_02 7 8) fd (.ref dt) ∧ K.lookup dt = some od ∧ ∃ n, od.data = .seq #[.none] n
  setd : ∃ f fd, MethOk K C "setdefault" f ∧ Def K f (clsAt pw_tc0083_02 7 15) fd
  init : ∃ f fd dt od, MakeOk K C f ∧ DefD K f (clsAt pw_tc0083_02 7 0) fd (.ref dt) ∧ K.lookup dt = some od ∧ ∃ n, od.data = .seq #[.none] n
noncomputable def sameLow (x y : Str) : Bool := (Txt.lower x).cps.toList == (Txt.lower y).cps.toList
theorem delitem_ok {n : Nat} {bx : Bool} {C pn pv fa : Addr} {fd : FuncData} (H : Hdr K C pn pv) (F : Def K fa (clsAt pw_tc0083_02 7 4) fd) {a dx l : Addr} {rows : List (Str × Str)} {name : Str} (hA : Apart a dx l) (hr : rows.length ≤ 1000)
    (hl : ∀ p ∈ rows, (Txt.lower p.1).length ≤ 1000000) (hl' : (Txt.lower name).length ≤ 1000000) (hb : badStr true (Txt.lower name) = false) :
    CallC prog w K bx (.ref fa) (n + 4) (HdrO a C dx l rows) [.val (.ref a), .str name] [] (fun r => ∃ ω, r = .val .none ω ∧ SubO (HdrO a C dx l (rows.filter fun p => !(sameLow p.1 name))) ω) := by
  refine def_callC F.toD (xs := ["self", "name"]) rfl rfl (fun name qual body scope gl clo doc md an code ct bi => bind_kw (fun vs us hl hu => ?_) rfl) (by decide) (kinds_ok rfl) ?_
  · obtain ⟨v1, v2, rfl⟩ := len2 hl
    obtain rfl := len0 hu
    rfl
  conv => arg 7; whnf
  have O := own_hdr (C := C) (rows := rows) hA
  obtain ⟨fc, fdc, Mc, Fc⟩ := H.conv
  refine ex_sub (ρ' := [kv "self" (.val (.ref a)), kv "name" (.str name)]) ?_ (by walk_at "s") (SubO.refl _)
  refine ex_cons (ex_assignM (em_methKw (d := .str (Txt.lower name)) (bb := false) (ω₁ := []) (fun _ => rfl) (fun _ => rfl) (by walk_at "n") H.toClsOk Mc O.ins O.att rfl (ev_meth (f := .builtin "str.lower") (ds := []) (fun _ => rfl) (fun _ => rfl) (.inl ⟨_, rfl⟩) (by walk_at "n") m_lower es_nil (c_lower (Nat.le_trans hl' (by decide)))) (fun h => by cases h) (fun _ _ e => by cases e)
    (callM_mono (callM_of (conv_ok (n := n + 2) H.toTops2 Fc (.val (.ref a)) hl' (fun h => absurd h (by rw [hb]; decide)))) fun r q => ?_)) (.inr rfl) (fun _ _ => rfl))
  cases r with
  | exc d ω => exact absurd q.1 (by rw [hb]; decide)
  | val d ω =>
    obtain ⟨_, rfl, rfl⟩ := q
    refine ⟨fun a h => (by cases h), fun _ => ?_⟩
    show EX _ _ _ _ _ _ _ _ (HdrO a C dx l rows) _
    refine ex_sub (ρ' := [kv "self" (.val (.ref a)), kv "name" (.str (Txt.lower name))]) ?_ (by walk_at "s") (SubO.refl _)
    refine ex_cons (ex_setWhole (l := l) (eml_lendI (y := "self") (ds' := (rows.filter fun p => !(sameLow p.1 name)).map rowD) rfl O ?_ (flat_rows _) fun c hc _ => ?_) (fun _ _ => rfl))
    · refine evl_filterL rows rowD rowD (fun p => !(sameLow p.1 name)) rfl (evi_list (fun _ _ _ => rfl) (ev_attr (fun _ => rfl) (by walk_at "e") H.toClsOk lookup_cons_eq H.hn trivial) (fun _ _ => trivial)) (by lia) fun p hp => ⟨.inl rfl, Sub.cons (x := "kv") rfl, ?_, fun _ => ?_⟩
      · refine et_cmp rfl (ev_meth (f := .builtin "str.lower") (d₀ := .str p.1) (ds := []) (fun _ => rfl) (fun _ => rfl) (.inl ⟨_, rfl⟩) ?_ m_lower es_nil (c_lower (Nat.le_trans (hl p hp) (by decide)))) (by walk_at "n") cNeS
        exact ev_titem (ds := [.str p.1, .str p.2]) (k := 0) (i := 0) (fun _ _ => by first | exact .inl rfl | exact .inr rfl) (by walk_at "n") ev_int (by decide) (by decide) rfl rfl
      · walk_at "n"
    · have ha := (own_hdr (C := C) (rows := rows) hA).lst
      have hcl : c ≠ l := fun e => by rw [e, ha] at hc; cases hc
      refine ⟨c, _, _, rfl, hcl, lookup_cons_eq, by rw [lookup_cons_ne hcl.symm]; exact ha, by rw [List.length_map]; lia, by rw [List.length_map]; exact Nat.le_trans (List.length_filter_le _ _) (by lia), ?_, ?_⟩
      · have h1 : c ≠ a := fun e => by rw [e, O.ins] at hc; cases hc
        have h2 : c ≠ dx := fun e => by rw [e, O.att] at hc; cases hc
        exact em_attr (d := .val (.ref l)) (by walk_at "n") H.toClsOk (by rw [lookup_cons_ne h1.symm]; exact O.ins) (by rw [lookup_cons_ne h2.symm]; exact O.att) lookup_cons_eq H.hn rfl rfl
      · refine ex_nil ⟨_, rfl, ?_⟩
        have h1 : c ≠ a := fun e => by rw [e, O.ins] at hc; cases hc
        have h2 : c ≠ dx := fun e => by rw [e, O.att] at hc; cases hc
        refine subO_more ?_ (subO_more ?_ (subO_one lookup_cons_eq))
        · rw [lookup_cons_ne hA.al.symm, lookup_cons_ne h1.symm]; exact O.ins
        · rw [lookup_cons_ne hA.dl.symm, lookup_cons_ne h2.symm]; exact O.att
end

section
theorem hdr_keys {a C dx l : Addr} {rows rows' : List (Str × Str)} {ω : Owns} (h : SubO (HdrO a C dx l rows') ω) : ∀ b, ((HdrO a C dx l rows).lookup b).isSome = true → (ω.lookup b).isSome = true := fun b hb => by
  have : ((HdrO a C dx l rows').lookup b).isSome = true := by
    rw [keys_iff] at hb ⊢
    exact hb
  exact h.some this
theorem subO_app {ω₁ ω' ω : Owns} (h : SubO ω₁ ω') : SubO ω₁ (ω' ++ ω) := fun b o e => by rw [List.lookup_append, h b o e]; rfl
theorem app_old {ω₁ ω' ω : Owns} {ks : List Addr} (hf : ∀ a, (ω'.lookup a).isSome = true → (ω₁.lookup a).isSome = true ∨ (ω.lookup a = none ∧ a ∉ ks)) {q : Addr} {o : Ow} (hq : ω.lookup q = some o) (h1 : ω₁.lookup q = none) : (ω' ++ ω).lookup q = some o := by
  rw [List.lookup_append]
  cases h : ω'.lookup q with
  | none => rw [hq]; rfl
  | some o' =>
    rcases hf q (by rw [h]; rfl) with e | ⟨e, _⟩
    · rw [h1] at e; cases e
    · rw [hq] at e; cases e
section
variable {bx : Fl} {sc : Scope} {n : Nat} {ρ : Vars} {ω : Owns} {C pn pv a dx l : Addr} {rows : List (Str × Str)}
theorem em_conv (H : Hdr K C pn pv) {e : Expr} {b : Bool} {c : Nat} {cp p np apos pos : Pos} {pl : Env → Sem Bool} {fs : List (Str × D)} {x : Str} {Q : Res → Prop}
    (hshape : ∀ env, eval (.Call (.Attribute (.Name "self" np) "_convert_string_type" apos) [e] [⟨some "name", .Constant (.bool b) c cp, p⟩] pos) env = (do
      let ov ← eval (.Name "self" np) env
      standAt apos.atName
      let (f, first) ← holding [ov] (getMethod ov "_convert_string_type" (pl env))
      callWith pos f first (backTo pos (starEach [e] env)) (backToKw pos (keywordEach [⟨some "name", .Constant (.bool b) c cp, p⟩] env))))
    (he : ∀ env, starEach [e] env = [(false, eval e env)]) (hself : EV prog w K sc (n + 3) ρ (.Name "self" np) (.val (.ref a))) (hx : ω.lookup a = some (.ins C dx)) (hd : ω.lookup dx = some (.att fs)) (hno : fs.lookup ("_convert_string_type" : Str) = none)
    (ha : EV prog w K sc (n + 3) ρ e (.str x)) (hl : x.length ≤ 1000000) (hb : badStr b x = false) (q : Q (.val (.str x) ω)) : EM prog w K bx sc (n + 3) ρ ω (.Call (.Attribute (.Name "self" np) "_convert_string_type" apos) [e] [⟨some "name", .Constant (.bool b) c cp, p⟩] pos) Q := by
  obtain ⟨fc, fdc, Mc, Fc⟩ := H.conv
  refine em_methKw (d := .str x) (bb := false) (ω₁ := []) hshape he hself H.toClsOk Mc hx hd hno ha (fun h => by cases h) (fun _ _ e => by cases e)
    (callM_mono (callM_of (conv_ok (n := n + 2) H.toTops2 Fc (.val (.ref a)) hl (fun h => absurd h (by rw [hb]; decide)))) fun r z => ?_)
  cases r with
  | exc d ω => exact absurd z.1 (by rw [hb]; decide)
  | val d ω =>
    obtain ⟨_, rfl, rfl⟩ := z
    exact ⟨fun a h => (by cases h), fun _ => q⟩
end
end

section
noncomputable def ExcOk (ω' : Owns) (d : D) : Prop := ∃ e T, d = .val (.ref e) ∧ e ≠ T ∧ ω'.lookup e = some (.exn "ValueError" (some T) [.str ctlMsg]) ∧ ω'.lookup T = some (.tbk .none)
section
variable {bx : Fl} {sc : Scope} {n : Nat} {ρ : Vars} {ω : Owns} {C pn pv a dx l : Addr} {rows : List (Str × Str)}
theorem em_convB (H : Hdr K C pn pv) {e : Expr} {b : Bool} {c : Nat} {cp p np apos pos : Pos} {pl : Env → Sem Bool} {fs : List (Str × D)} {x : Str} {Q : Res → Prop}
    (hshape : ∀ env, eval (.Call (.Attribute (.Name "self" np) "_convert_string_type" apos) [e] [⟨some "name", .Constant (.bool b) c cp, p⟩] pos) env = (do
      let ov ← eval (.Name "self" np) env
      standAt apos.atName
      let (f, first) ← holding [ov] (getMethod ov "_convert_string_type" (pl env))
      callWith pos f first (backTo pos (starEach [e] env)) (backToKw pos (keywordEach [⟨some "name", .Constant (.bool b) c cp, p⟩] env))))
    (he : ∀ env, starEach [e] env = [(false, eval e env)]) (hself : EV prog w K sc (n + 3) ρ (.Name "self" np) (.val (.ref a))) (hx : ω.lookup a = some (.ins C dx)) (hd : ω.lookup dx = some (.att fs)) (hno : fs.lookup ("_convert_string_type" : Str) = none)
    (ha : EV prog w K sc (n + 3) ρ e (.str x)) (hl : x.length ≤ 1000000) (hbx : bx.b = true) (q : badStr b x = false → Q (.val (.str x) ω)) (q' : badStr b x = true → ∀ d ω', ExcOk ω' d → (∀ a, (ω'.lookup a).isSome = true → ω.lookup a = none ∧ a ∉ bx.ks) → Q (.exc d (ω' ++ ω))) : EM prog w K bx sc (n + 3) ρ ω (.Call (.Attribute (.Name "self" np) "_convert_string_type" apos) [e] [⟨some "name", .Constant (.bool b) c cp, p⟩] pos) Q := by
  obtain ⟨fc, fdc, Mc, Fc⟩ := H.conv
  refine em_methKw (d := .str x) (bb := true) (ω₁ := []) hshape he hself H.toClsOk Mc hx hd hno ha (fun _ => hbx) (fun _ _ e => by cases e)
    (callM_mono (callM_of (conv_ok (bx := true) (n := n + 2) H.toTops2 Fc (.val (.ref a)) hl (fun _ => rfl))) fun r z => ?_)
  cases r with
  | exc d ω' =>
    obtain ⟨z1, e, T, rfl, z2, z3, z4⟩ := z
    exact ⟨fun a h => (by cases h), fun hf => q' z1 _ ω' ⟨e, T, rfl, z2, z3, z4⟩ fun a ha => (hf a ha).resolve_left (by simp)⟩
  | val d ω =>
    obtain ⟨z, rfl, rfl⟩ := z
    exact ⟨fun a h => (by cases h), fun _ => q z⟩
theorem exc_out {ω₁ ω' ω : Owns} {ρ : Vars} {d : D} {Q : Res → Prop} (hE : ExcOk ω' d) (hf : ∀ a, (ω'.lookup a).isSome = true → ω.lookup a = none) (hs : SubO ω₁ ω) (ht : ∀ a fl, ω₁.lookup a ≠ some (.tbk fl)) (q : ∀ ω₂, ExcOk ω₂ d → SubO ω₁ ω₂ → Q (.exc d ω₂)) : Ret true Q (.exc d ρ (ω' ++ ω)) := by
  obtain ⟨e, T, rfl, h1, h2, h3⟩ := hE
  refine ⟨rfl, e, "ValueError", some T, _, rfl, by rw [List.lookup_append, h2]; rfl, fun T' e' => by cases e'; rw [List.lookup_append, h3]; rfl, fun T' ω₂ N => ?_⟩
  refine q ω₂ ⟨e, T', rfl, N.2.2.1, N.1, N.2.1⟩ fun b o eb => ?_
  have hb : ω.lookup b = some o := hs b o eb
  have hn : ω'.lookup b = none := by
    cases h : ω'.lookup b with
    | none => rfl
    | some o' => have := hf b (by rw [h]; rfl); rw [hb] at this; cases this
  have hap : (ω' ++ ω).lookup b = some o := by rw [List.lookup_append, hn, hb]; rfl
  have hne : b ≠ e := fun z => by rw [z, h2] at hn; cases hn
  have hnT : b ≠ T' := fun z => by rw [z] at hap; have := N.2.2.2.1; rw [hap] at this; cases this
  rw [N.2.2.2.2 b hne hnT fun fl z => by rw [hap] at z; cases z; exact ht b fl eb]
  exact hap
end
theorem hdr_notbk {a C dx l : Addr} {rows : List (Str × Str)} : ∀ b fl, (HdrO a C dx l rows).lookup b ≠ some (.tbk fl) := fun b fl h => by
  unfold HdrO at h
  by_cases h1 : b = a
  · rw [h1, lookup_cons_eq] at h; cases h
  · rw [lookup_cons_ne h1] at h
    by_cases h2 : b = dx
    · rw [h2, lookup_cons_eq] at h; cases h
    · rw [lookup_cons_ne h2] at h
      by_cases h3 : b = l
      · rw [h3, lookup_cons_eq] at h; cases h
      · rw [lookup_cons_ne h3] at h; cases h
end

section
section
variable {n : Nat}
theorem bind_dflt {dt : Addr} {od : Obj} {k : Nat} (ht : K.lookup dt = some od) (hd : od.data = .seq #[.none] k) {fd : FuncData} {ds ds' : List D} {xs : List Str} (hb : ∀ vs : List Value, vs.length = ds.length → ∃ rest, bindArgs fd ⟨vs, []⟩ = (seqItems? (.ref dt) >>= rest) ∧ rest (some #[.none]) = pure (xs.zip (vs ++ ds'.map fun _ => Value.none))) (hx : xs.length = ds.length + ds'.length) (hn : ∀ d ∈ ds', d = .none) :
    BindG prog w K fd ds [] xs (ds ++ ds') := fun A U s vs kw ok r k => by
  have : kw = [] := List.map_eq_nil_iff.mp k.1
  subst this
  obtain ⟨rest, e1, e2⟩ := hb vs r.length
  rw [e1]
  refine wpAny_bind (wpAny_seqItems (ok.top _ _ ht) hd ?_)
  rw [e2]
  have hr : RL U s.heap (vs ++ ds'.map fun _ => Value.none) (ds ++ ds') := by
    refine r.append ?_
    clear e2 e1 hb hx
    induction ds' with
    | nil => rfl
    | cons d ds' ih => exact ⟨_, _, rfl, by rw [hn d (.head _)]; rfl, ih fun e he => hn e (.tail _ he)⟩
  have hz : xs.length = (vs ++ ds'.map fun _ => Value.none).length := by rw [List.length_append, r.length, List.length_map, hx]
  refine wpAny_pure ⟨Gr.refl s, List.map_fst_zip (Nat.le_of_eq hz), ?_⟩
  rw [List.map_snd_zip (Nat.le_of_eq hz.symm)]
  exact hr
end
noncomputable def goodRow (p : Str × Str) : Prop := badStr true p.1 = false ∧ badStr false p.2 = false ∧ p.1.length ≤ 1000000 ∧ p.2.length ≤ 1000000
theorem init_ok {n : Nat} {bx : Bool} {C pn pv fa dt : Addr} {od : Obj} {k : Nat} {fd : FuncData} (H : Hdr K C pn pv) (F : DefD K fa (clsAt pw_tc0083_02 7 0) fd (.ref dt)) (hdt : K.lookup dt = some od) (hod : od.data = .seq #[.none] k) {x dx l : Addr} {rows : List (Str × Str)} (hA : Apart x dx l) (hr : rows.length ≤ 1000) (hg : ∀ p ∈ rows, goodRow p) :
    CallC prog w K bx (.ref fa) (n + 4) [(x, .ins C dx), (dx, .att []), (l, .lst (rows.map rowD))] [.val (.ref x), .val (.ref l)] [] (fun r => ∃ ω, r = .val .none ω ∧ SubO (HdrO x C dx l rows) ω) := by
  refine def_callC F (xs := ["self", "headers"]) (bs := [.val (.ref x), .val (.ref l)] ++ []) rfl rfl (fun name qual body scope gl clo doc md an code ct bi => bind_dflt hdt hod (fun vs hl => ?_) rfl (by simp)) (by decide) (kinds_ok rfl) ?_
  · obtain ⟨v1, v2, rfl⟩ := len2 hl
    exact ⟨_, rfl, rfl⟩
  conv => arg 7; whnf
  refine ex_sub (ρ' := [kv "self" (.val (.ref x)), kv "headers" (.val (.ref l))]) ?_ (by walk_at "s") (SubO.refl _)
  have i1 : List.lookup x [(x, Ow.ins C dx), (dx, .att []), (l, .lst (rows.map rowD))] = some (.ins C dx) := lookup_cons_eq
  have i2 : List.lookup dx [(x, Ow.ins C dx), (dx, .att []), (l, .lst (rows.map rowD))] = some (.att []) := by rw [lookup_cons_ne hA.ad, lookup_cons_eq]
  have i3 : List.lookup l [(x, Ow.ins C dx), (dx, .att []), (l, .lst (rows.map rowD))] = some (.lst (rows.map rowD)) := by rw [lookup_cons_ne hA.al, lookup_cons_ne hA.dl, lookup_cons_eq]
  refine ex_cons (ex_assignM (em_if (b := true) (emt_et (et_cmp rfl (by walk_at "n") ev_none cIsNotNoneR)) (fun _ => em_ev (d := .val (.ref l)) (by walk_at "n") ?_) (fun h => by cases h)) (.inl rfl) (fun _ _ => rfl))
  show EX _ _ _ _ _ _ _ _ _ _
  refine ex_cons (ex_if (b := false) (emt_read [("headers", l, rows.map rowD)] (fun q hq => ?_) (et_cmp rfl (ev_call (f := .type "type") (fun _ => rfl) (fun _ => rfl) (.inr (.inl ⟨_, rfl⟩)) (H.toTops.ev (by decide) rfl (by decide)) (es_cons (fun _ => rfl) (d := .lst (rows.map rowD)) (ev_name rfl (.inl rfl) (by decide) (by decide)) es_nil) (type_lst _)) (H.toTops.ev (v := .type "list") (by decide) rfl (by decide)) cIsNotT1)) (fun h => by cases h) fun _ => ex_nil ?_)
  · rw [List.mem_singleton.mp hq]; exact ⟨rfl, i3⟩
  show EX _ _ _ _ _ _ _ _ _ _
  refine ex_cons (ex_setAttr (a := x) (dx := dx) (fs := []) H.toSetOk H.tk (by walk_at "n") (em_ev (d := .val (.ref l)) (by walk_at "n") ⟨i1, [], i2, by decide, ?_⟩) (fun _ _ => rfl))
  show EX _ _ _ _ _ _ _ _ _ _
  refine ex_sub (ρ' := [kv "self" (.val (.ref x)), kv "headers" (.val (.ref l))]) (ω' := HdrO x C dx l rows) ?_ (by walk_at "s") ?sb
  case sb =>
    refine subO_more ?_ (subO_more lookup_cons_eq (subO_one ?_))
    · rw [lookup_cons_ne hA.ad.symm]; exact i1
    · rw [lookup_cons_ne hA.dl]; exact i3
  have O := own_hdr (C := C) (rows := rows) hA
  refine ex_cons (ex_if (b := true) (emt_et (et_bool ev_bool (fun _ _ => rfl))) (fun _ => ?_) (fun h => by cases h))
  refine ex_cons (ex_forPin (l := l) (its := rows.map rowD) (fun _ _ _ => rfl) (by walk_at "n") O.lst (fun d hd => by obtain ⟨p, _, rfl⟩ := List.mem_map.mp hd; exact ⟨_, rfl⟩)
    (fun o i ρ ω => ρ = [kv "self" (.val (.ref x)), kv "headers" (.val (.ref l))] ∧ ω = (l, .pin o (rows.map rowD)) :: HdrO x C dx l rows) (fun o => ⟨rfl, rfl⟩) (fun o i ρ ω h => by rw [h.2, lookup_cons_eq]) (fun i d hd => ?_) (fun o i d ρ ω hd h => ?_) fun o ρ ω h => ?_)
  · obtain ⟨p, hp, _, rfl⟩ := its_get hd
    exact ⟨.inl rfl, .inl rfl, trivial⟩
  · obtain ⟨h1, h2⟩ := h
    subst h1 h2
    obtain ⟨p, hp, _, rfl⟩ := its_get hd
    obtain ⟨g1, g2, g3, g4⟩ := hg p hp
    have q1 : List.lookup x ((l, Ow.pin o (rows.map rowD)) :: HdrO x C dx l rows) = some (.ins C dx) := by rw [lookup_cons_ne hA.al.symm]; exact O.ins
    have q2 : List.lookup dx ((l, Ow.pin o (rows.map rowD)) :: HdrO x C dx l rows) = some (.att [("_headers", .val (.ref l))]) := by rw [lookup_cons_ne hA.dl.symm]; exact O.att
    refine ex_sub (ρ' := [kv "self" (.val (.ref x)), kv "headers" (.val (.ref l)), kv "k" (.str p.1), kv "v" (.str p.2)]) ?_ (by walk_at "s") (SubO.refl _)
    refine ex_cons (ex_expr (em_conv (n := n) H (fun _ => rfl) (fun _ => rfl) (by walk_at "n") q1 q2 rfl (by walk_at "n") g3 g1 ?_))
    refine ex_cons (ex_expr (em_conv (n := n) H (fun _ => rfl) (fun _ => rfl) (by walk_at "n") q1 q2 rfl (by walk_at "n") g4 g2 ?_))
    exact ex_nil ⟨_, _, ⟨rfl, rfl⟩, by walk_at "s", SubO.refl _⟩
  · obtain ⟨h1, h2⟩ := h
    subst h1 h2
    refine ex_nil (ex_nil ⟨_, rfl, ?_⟩)
    refine subO_more ?_ (subO_more ?_ (subO_one lookup_cons_eq))
    · rw [lookup_cons_ne hA.al.symm, lookup_cons_ne hA.al.symm]; exact O.ins
    · rw [lookup_cons_ne hA.dl.symm, lookup_cons_ne hA.dl.symm]; exact O.att
theorem init0_ok {n : Nat} {bx : Bool} {C pn pv fa dt : Addr} {od : Obj} {k : Nat} {fd : FuncData} (H : Hdr K C pn pv) (F : DefD K fa (clsAt pw_tc0083_02 7 0) fd (.ref dt)) (hdt : K.lookup dt = some od) (hod : od.data = .seq #[.none] k) {x dx : Addr} (hxd : dx ≠ x) :
    CallC prog w K bx (.ref fa) (n + 4) [(x, .ins C dx), (dx, .att [])] [.val (.ref x)] [] (fun r => ∃ l ω, Apart x dx l ∧ r = .val .none ω ∧ SubO (HdrO x C dx l []) ω) := by
  refine def_callC F (xs := ["self", "headers"]) (bs := [.val (.ref x)] ++ [.none]) rfl rfl (fun name qual body scope gl clo doc md an code ct bi => bind_dflt hdt hod (fun vs hl => ?_) rfl (by simp)) (by decide) (kinds_ok rfl) ?_
  · obtain ⟨v1, rfl⟩ := len1 hl
    exact ⟨_, rfl, rfl⟩
  conv => arg 7; whnf
  refine ex_sub (ρ' := [kv "self" (.val (.ref x)), kv "headers" .none]) ?_ (by walk_at "s") (SubO.refl _)
  refine ex_cons (ex_assignM (em_if (b := false) (emt_et (et_cmp rfl (by walk_at "n") ev_none (cIsNotNone trivial))) (fun h => by cases h) (fun _ => em_evl (evl_list (by decide) es_nil) fun l hl _ => ?_)) (.inl rfl) (fun _ _ => rfl))
  show EX _ _ _ _ _ _ _ _ _ _
  have hlx : l ≠ x := fun e => by rw [e, lookup_cons_eq] at hl; cases hl
  have hld : l ≠ dx := fun e => by rw [e, lookup_cons_ne hxd, lookup_cons_eq] at hl; cases hl
  have hA : Apart x dx l := ⟨hxd, hlx, hld⟩
  have i1 : List.lookup x [(l, Ow.lst []), (x, Ow.ins C dx), (dx, Ow.att [])] = some (.ins C dx) := by rw [lookup_cons_ne hlx.symm, lookup_cons_eq]
  have i2 : List.lookup dx [(l, Ow.lst []), (x, Ow.ins C dx), (dx, Ow.att [])] = some (.att []) := by rw [lookup_cons_ne hld.symm, lookup_cons_ne hxd, lookup_cons_eq]
  refine ex_cons (ex_if (b := false) (emt_read [("headers", l, [])] (fun q hq => ?_) (et_cmp rfl (ev_call (f := .type "type") (fun _ => rfl) (fun _ => rfl) (.inr (.inl ⟨_, rfl⟩)) (H.toTops.ev (by decide) rfl (by decide)) (es_cons (fun _ => rfl) (d := .lst []) (ev_name rfl (.inl rfl) (by decide) (by decide)) es_nil) (type_lst _)) (H.toTops.ev (v := .type "list") (by decide) rfl (by decide)) cIsNotT1)) (fun h => by cases h) fun _ => ex_nil ?_)
  · rw [List.mem_singleton.mp hq]; exact ⟨rfl, lookup_cons_eq⟩
  show EX _ _ _ _ _ _ _ _ _ _
  refine ex_cons (ex_setAttr (a := x) (dx := dx) (fs := []) H.toSetOk H.tk (by walk_at "n") (em_ev (d := .val (.ref l)) (by walk_at "n") ⟨i1, [], i2, by decide, ?_⟩) (fun _ _ => rfl))
  show EX _ _ _ _ _ _ _ _ _ _
  refine ex_sub (ρ' := [kv "self" (.val (.ref x)), kv "headers" (.val (.ref l))]) (ω' := HdrO x C dx l []) ?_ (by walk_at "s") ?sb
  case sb =>
    refine subO_more ?_ (subO_more lookup_cons_eq (subO_one ?_))
    · rw [lookup_cons_ne hA.ad.symm]; exact i1
    · rw [lookup_cons_ne hA.dl, lookup_cons_eq]; rfl
  have O := own_hdr (C := C) (rows := []) hA
  refine ex_cons (ex_if (b := true) (emt_et (et_bool ev_bool (fun _ _ => rfl))) (fun _ => ?_) (fun h => by cases h))
  refine ex_cons (ex_forPin (l := l) (its := []) (fun _ _ _ => rfl) (by walk_at "n") O.lst (fun d hd => by cases hd)
    (fun o i ρ ω => ρ = [kv "self" (.val (.ref x)), kv "headers" (.val (.ref l))] ∧ ω = (l, .pin o []) :: HdrO x C dx l []) (fun o => ⟨rfl, rfl⟩) (fun o i ρ ω h => by rw [h.2, lookup_cons_eq]) (fun i d hd => by simp at hd) (fun o i d ρ ω hd h => by simp at hd) fun o ρ ω h => ?_)
  obtain ⟨h1, h2⟩ := h
  subst h1 h2
  refine ex_nil (ex_nil ⟨l, _, hA, rfl, ?_⟩)
  refine subO_more ?_ (subO_more ?_ (subO_one lookup_cons_eq))
  · rw [lookup_cons_ne hA.al.symm, lookup_cons_ne hA.al.symm]; exact O.ins
  · rw [lookup_cons_ne hA.dl.symm, lookup_cons_ne hA.dl.symm]; exact O.att
theorem make_none {n : Nat} {bx : Bool} {C pn pv : Addr} (H : Hdr K C pn pv) :
    CallC prog w K bx (.ref C) (n + 5) [] [] [] (fun r => ∃ x dx l ω, Apart x dx l ∧ r = .val (.val (.ref x)) ω ∧ SubO (HdrO x C dx l []) ω) := by
  obtain ⟨f, fd, dt, od, M, F, h1, k, h2⟩ := H.init
  refine call_class M fun x dx hne _ _ => callC_mono (init0_ok (n := n) H F h1 h2 hne.symm) fun r q => ?_
  obtain ⟨l, ω, hA, rfl, hs⟩ := q
  exact ⟨rfl, x, dx, l, ω, hA, rfl, hs⟩
theorem make_own {n : Nat} {bx : Bool} {C pn pv l : Addr} {rows : List (Str × Str)} (H : Hdr K C pn pv) (hr : rows.length ≤ 1000) (hg : ∀ p ∈ rows, goodRow p) :
    CallC prog w K bx (.ref C) (n + 5) [(l, .lst (rows.map rowD))] [.val (.ref l)] [] (fun r => ∃ x dx ω, Apart x dx l ∧ r = .val (.val (.ref x)) ω ∧ SubO (HdrO x C dx l rows) ω) := by
  obtain ⟨f, fd, dt, od, M, F, h1, k, h2⟩ := H.init
  refine call_class M fun x dx hne hx hd => ?_
  have hA : Apart x dx l := ⟨hne.symm, fun e => (by rw [e, lookup_cons_eq] at hx; cases hx), fun e => (by rw [e, lookup_cons_eq] at hd; cases hd)⟩
  refine callC_mono (init_ok (n := n) H F h1 h2 hA hr hg) fun r q => ?_
  obtain ⟨ω, rfl, hs⟩ := q
  exact ⟨rfl, x, dx, ω, hA, rfl, hs⟩
end

section
noncomputable def getR (rows : List (Str × Str)) (name : Str) : D := ((rows.find? fun p => sameLow p.1 name).map fun p => D.str p.2).getD .none
theorem find_at {α : Type} {p : α → Bool} {l : List α} {i : Nat} {x : α} (hx : l[i]? = some x) (hp : p x = true) (hn : ∀ (j : Nat) y, j < i → l[j]? = some y → p y = false) : l.find? p = some x := by
  induction l generalizing i with
  | nil => cases hx
  | cons a l ih =>
    cases i with
    | zero => cases hx; rw [List.find?_cons, hp]
    | succ i =>
      rw [List.find?_cons, hn 0 a (Nat.succ_pos _) rfl]
      exact ih hx fun j y hj hy => hn (j + 1) y (Nat.succ_lt_succ hj) hy
theorem find_none {α : Type} {p : α → Bool} {l : List α} (hn : ∀ (j : Nat) y, j < l.length → l[j]? = some y → p y = false) : l.find? p = none := List.find?_eq_none.mpr fun x hx => by
  obtain ⟨j, hj, rfl⟩ := List.getElem_of_mem hx
  rw [hn j _ hj (List.getElem?_eq_getElem hj)]; decide
section
variable {n : Nat} {bx : Bool} {C pn pv fa dt : Addr} {od : Obj} {k : Nat} {fd : FuncData} {a dx l : Addr} {rows : List (Str × Str)} {name : Str}
theorem get_good (H : Hdr K C pn pv) (F : DefD K fa (clsAt pw_tc0083_02 7 8) fd (.ref dt)) (hdt : K.lookup dt = some od) (hod : od.data = .seq #[.none] k) (hA : Apart a dx l) (hr : rows.length ≤ 1000) (hl : ∀ p ∈ rows, (Txt.lower p.1).length ≤ 1000000) (hl' : (Txt.lower name).length ≤ 1000000) (hb : badStr true (Txt.lower name) = false) :
    CallC prog w K bx (.ref fa) (n + 4) (HdrO a C dx l rows) [.val (.ref a), .str name] [] (fun r => ∃ ω, r = .val (getR rows name) ω ∧ SubO (HdrO a C dx l rows) ω) := by
  refine def_callC F (xs := ["self", "name", "default"]) (bs := [.val (.ref a), .str name] ++ [.none]) rfl rfl (fun name qual body scope gl clo doc md an code ct bi => bind_dflt hdt hod (fun vs hl => ?_) rfl (by simp)) (by decide) (kinds_ok rfl) ?_
  · obtain ⟨v1, v2, rfl⟩ := len2 hl
    exact ⟨_, rfl, rfl⟩
  conv => arg 7; whnf
  have O := own_hdr (C := C) (rows := rows) hA
  refine ex_sub (ρ' := [kv "self" (.val (.ref a)), kv "name" (.str name), kv "default" .none]) ?_ (by walk_at "s") (SubO.refl _)
  refine ex_cons (ex_assignM (em_conv (n := n) H (fun _ => rfl) (fun _ => rfl) (by walk_at "n") O.ins O.att rfl (ev_meth (f := .builtin "str.lower") (ds := []) (fun _ => rfl) (fun _ => rfl) (.inl ⟨_, rfl⟩) (by walk_at "n") m_lower es_nil (c_lower (Nat.le_trans hl' (by decide)))) hl' hb ?_) (.inl rfl) (fun _ _ => rfl))
  refine ex_sub (ρ' := [kv "self" (.val (.ref a)), kv "default" .none, kv "name" (.str (Txt.lower name))]) ?_ (by walk_at "s") (SubO.refl _)
  refine ex_cons (ex_forPinR (l := l) (its := rows.map rowD) (fun _ _ _ => rfl) (em_attr (d := .val (.ref l)) (by walk_at "n") H.toClsOk O.ins O.att lookup_cons_eq H.hn rfl rfl) O.lst (fun d hd => by obtain ⟨p, _, rfl⟩ := List.mem_map.mp hd; exact ⟨_, rfl⟩)
    (fun o i ρ ω => ρ = [kv "self" (.val (.ref a)), kv "default" .none, kv "name" (.str (Txt.lower name))] ∧ ω = (l, .pin o (rows.map rowD)) :: HdrO a C dx l rows ∧ ∀ (j : Nat) y, j < i → rows[j]? = some y → sameLow y.1 name = false) (fun o => ⟨rfl, rfl, fun j _ hj => absurd hj (Nat.not_lt_zero _)⟩) (fun o i ρ ω h => by rw [h.2.1, lookup_cons_eq]) (fun i d hd => ?_) (fun o i d ρ ω hd h => ?_) fun o ρ ω h => ?_)
  · obtain ⟨p, hp, _, rfl⟩ := its_get hd
    exact ⟨.inl rfl, .inl rfl, trivial⟩
  · obtain ⟨h1, h2, h3⟩ := h
    subst h1 h2
    obtain ⟨p, hp, hpi, rfl⟩ := its_get hd
    refine ex_sub (ρ' := [kv "self" (.val (.ref a)), kv "default" .none, kv "name" (.str (Txt.lower name)), kv "k" (.str p.1), kv "v" (.str p.2)]) ?_ (by walk_at "s") (SubO.refl _)
    refine ex_cons (ex_if (b := sameLow p.1 name) (emt_et (et_cmp rfl (ev_meth (f := .builtin "str.lower") (d₀ := .str p.1) (ds := []) (fun _ => rfl) (fun _ => rfl) (.inl ⟨_, rfl⟩) (by walk_at "n") m_lower es_nil (c_lower (Nat.le_trans (hl p hp) (by decide)))) (by walk_at "n") cEqS)) (fun h => ?_) fun h => ?_)
    · have e : getR rows name = .str p.2 := by
        unfold getR
        rw [find_at hpi h h3]; rfl
      refine ex_cons (ex_ret (d := .str p.2) (by walk_at "n") ⟨lookup_cons_eq, _, congrArg (fun d => Res.val d _) e.symm, ?_⟩)
      · refine subO_more ?_ (subO_more ?_ (subO_one lookup_cons_eq))
        · rw [lookup_cons_ne hA.al.symm, lookup_cons_ne hA.al.symm]; exact O.ins
        · rw [lookup_cons_ne hA.dl.symm, lookup_cons_ne hA.dl.symm]; exact O.att
    · refine ex_nil (ex_nil ⟨_, _, ⟨rfl, rfl, fun j y hj hy => ?_⟩, by walk_at "s", SubO.refl _⟩)
      rcases Nat.lt_or_eq_of_le (Nat.le_of_lt_succ hj) with hj | rfl
      · exact h3 j y hj hy
      · rw [hpi] at hy; cases hy; exact h
  · obtain ⟨h1, h2, h3⟩ := h
    subst h1 h2
    have e : getR rows name = .none := by
      unfold getR
      rw [find_none fun j y hj hy => h3 j y (by rw [List.length_map]; exact hj) hy]; rfl
    refine ex_cons (ex_ret (d := .none) (by walk_at "n") ⟨_, congrArg (fun d => Res.val d _) e.symm, ?_⟩)
    · refine subO_more ?_ (subO_more ?_ (subO_one lookup_cons_eq))
      · rw [lookup_cons_ne hA.al.symm, lookup_cons_ne hA.al.symm]; exact O.ins
      · rw [lookup_cons_ne hA.dl.symm, lookup_cons_ne hA.dl.symm]; exact O.att
end
end

section
noncomputable def BadR (a C dx l : Addr) (rows : List (Str × Str)) : Res → Prop
  | .val _ _ => False
  | .exc d ω => ExcOk ω d ∧ SubO (HdrO a C dx l rows) ω
theorem hdr_noexn {a C dx l : Addr} {rows : List (Str × Str)} : ∀ b cls fl ds, (HdrO a C dx l rows).lookup b ≠ some (.exn cls fl ds) := fun b cls fl ds h => by
  unfold HdrO at h
  by_cases h1 : b = a
  · rw [h1, lookup_cons_eq] at h; cases h
  · rw [lookup_cons_ne h1] at h
    by_cases h2 : b = dx
    · rw [h2, lookup_cons_eq] at h; cases h
    · rw [lookup_cons_ne h2] at h
      by_cases h3 : b = l
      · rw [h3, lookup_cons_eq] at h; cases h
      · rw [lookup_cons_ne h3] at h; cases h
theorem exc_again {ω₁ ω' ω : Owns} {ρ : Vars} {d : D} {Q : Res → Prop} (hE : ExcOk ω' d) (hs : SubO ω₁ ω') (ht : ∀ a fl, ω₁.lookup a ≠ some (.tbk fl)) (hx : ∀ a cls fl ds, ω₁.lookup a ≠ some (.exn cls fl ds)) (q : ∀ ω₂, ExcOk ω₂ d → SubO ω₁ ω₂ → Q (.exc d ω₂)) : Ret true Q (.exc d ρ (ω' ++ ω)) := by
  obtain ⟨e, T, rfl, h1, h2, h3⟩ := hE
  refine ⟨rfl, e, "ValueError", some T, _, rfl, by rw [List.lookup_append, h2]; rfl, fun T' e' => by cases e'; rw [List.lookup_append, h3]; rfl, fun T' ω₂ N => ?_⟩
  refine q ω₂ ⟨e, T', rfl, N.2.2.1, N.1, N.2.1⟩ fun b o eb => ?_
  have hb : ω'.lookup b = some o := hs b o eb
  have hap : (ω' ++ ω).lookup b = some o := by rw [List.lookup_append, hb]; rfl
  have hne : b ≠ e := fun z => by rw [z, h2] at hb; cases hb; exact hx _ _ _ _ eb
  have hnT : b ≠ T' := fun z => by rw [z] at hap; have := N.2.2.2.1; rw [hap] at this; cases this
  rw [N.2.2.2.2 b hne hnT fun fl z => by rw [hap] at z; cases z; exact ht b fl eb]
  exact hap
section
variable {n : Nat} {bx : Bool} {C pn pv fa dt : Addr} {od : Obj} {k : Nat} {fd : FuncData} {a dx l : Addr} {rows : List (Str × Str)} {name value : Str}
theorem get_bad (H : Hdr K C pn pv) (F : DefD K fa (clsAt pw_tc0083_02 7 8) fd (.ref dt)) (hdt : K.lookup dt = some od) (hod : od.data = .seq #[.none] k) (hA : Apart a dx l) (hl' : (Txt.lower name).length ≤ 1000000) (hb : badStr true (Txt.lower name) = true) :
    CallC prog w K true (.ref fa) (n + 4) (HdrO a C dx l rows) [.val (.ref a), .str name] [] (BadR a C dx l rows) := by
  refine def_callC F (xs := ["self", "name", "default"]) (bs := [.val (.ref a), .str name] ++ [.none]) rfl rfl (fun name qual body scope gl clo doc md an code ct bi => bind_dflt hdt hod (fun vs hl => ?_) rfl (by simp)) (by decide) (kinds_ok rfl) ?_
  · obtain ⟨v1, v2, rfl⟩ := len2 hl
    exact ⟨_, rfl, rfl⟩
  conv => arg 7; whnf
  have O := own_hdr (C := C) (rows := rows) hA
  refine ex_sub (ρ' := [kv "self" (.val (.ref a)), kv "name" (.str name), kv "default" .none]) ?_ (by walk_at "s") (SubO.refl _)
  refine ex_cons (ex_assignM (em_convB (n := n) H (fun _ => rfl) (fun _ => rfl) (by walk_at "n") O.ins O.att rfl (ev_meth (f := .builtin "str.lower") (ds := []) (fun _ => rfl) (fun _ => rfl) (.inl ⟨_, rfl⟩) (by walk_at "n") m_lower es_nil (c_lower (Nat.le_trans hl' (by decide)))) hl' rfl (fun h => by rw [hb] at h; cases h) fun hv d ω' hE hf => ?_) (.inl rfl) (fun _ _ => rfl))
  exact exc_out (ρ := []) (Q := BadR a C dx l rows) hE (fun b hb => (hf b hb).1) (SubO.refl _) hdr_notbk fun ω₂ h1 h2 => ⟨h1, h2⟩
theorem setd_bad (H : Hdr K C pn pv) (F : Def K fa (clsAt pw_tc0083_02 7 15) fd) (hA : Apart a dx l) (hl' : (Txt.lower name).length ≤ 1000000) (hb : badStr true (Txt.lower name) = true) :
    CallC prog w K true (.ref fa) (n + 6) (HdrO a C dx l rows) [.val (.ref a), .str name, .str value] [] (BadR a C dx l rows) := by
  refine def_callC F.toD (xs := ["self", "name", "value"]) rfl rfl (fun name qual body scope gl clo doc md an code ct bi => bind_kw (fun vs us hl hu => ?_) rfl) (by decide) (kinds_ok rfl) ?_
  · obtain ⟨v1, v2, v3, rfl⟩ := len3 hl
    obtain rfl := len0 hu
    rfl
  conv => arg 7; whnf
  have O := own_hdr (C := C) (rows := rows) hA
  obtain ⟨f8, fd8, dt, od, M8, F8, h1, k, h2⟩ := H.gett
  refine ex_sub (ρ' := [kv "self" (.val (.ref a)), kv "name" (.str name), kv "value" (.str value)]) ?_ (by walk_at "s") (SubO.refl _)
  refine ex_cons (ex_assignM (em_meth (b := true) (ds := [.str name]) (ω₁ := HdrO a C dx l rows) (fun _ => rfl) (fun _ => rfl) (by walk_at "n") H.toClsOk M8 O.ins O.att rfl (es_cons (fun _ => rfl) (by walk_at "n") es_nil) id (SubO.refl _)
    (callM_mono (callM_of (get_bad (n := n + 1) (rows := rows) H F8 h1 h2 hA hl' hb)) fun r z => ?_)) (.inl rfl) (fun _ _ => rfl))
  cases r with
  | val d ω' => exact z.elim
  | exc d ω' =>
    obtain ⟨z1, z2⟩ := z
    refine ⟨hdr_keys z2, fun hf => ?_⟩
    exact exc_again (ρ := []) (Q := BadR a C dx l rows) z1 z2 hdr_notbk hdr_noexn fun ω₂ h1 h2 => ⟨h1, h2⟩
theorem setd_new (H : Hdr K C pn pv) (F : Def K fa (clsAt pw_tc0083_02 7 15) fd) (hA : Apart a dx l) (hr : rows.length ≤ 1000) (hl : ∀ p ∈ rows, (Txt.lower p.1).length ≤ 1000000) (hl' : (Txt.lower name).length ≤ 1000000) (hb : badStr true (Txt.lower name) = false)
    (hln : name.length ≤ 1000000) (hlv : value.length ≤ 1000000) (hbn : badStr true name = false) (hbv : badStr false value = false) (hf : rows.find? (fun p => sameLow p.1 name) = none) :
    CallC prog w K bx (.ref fa) (n + 6) (HdrO a C dx l rows) [.val (.ref a), .str name, .str value] [] (fun r => ∃ ω, r = .val (.str value) ω ∧ SubO (HdrO a C dx l (rows ++ [(name, value)])) ω) := by
  refine def_callC F.toD (xs := ["self", "name", "value"]) rfl rfl (fun name qual body scope gl clo doc md an code ct bi => bind_kw (fun vs us hl hu => ?_) rfl) (by decide) (kinds_ok rfl) ?_
  · obtain ⟨v1, v2, v3, rfl⟩ := len3 hl
    obtain rfl := len0 hu
    rfl
  conv => arg 7; whnf
  have O := own_hdr (C := C) (rows := rows) hA
  obtain ⟨f8, fd8, dt, od, M8, F8, h1, k, h2⟩ := H.gett
  refine ex_sub (ρ' := [kv "self" (.val (.ref a)), kv "name" (.str name), kv "value" (.str value)]) ?_ (by walk_at "s") (SubO.refl _)
  refine ex_cons (ex_assignM (em_meth (b := bx) (ds := [.str name]) (ω₁ := HdrO a C dx l rows) (fun _ => rfl) (fun _ => rfl) (by walk_at "n") H.toClsOk M8 O.ins O.att rfl (es_cons (fun _ => rfl) (by walk_at "n") es_nil) id (SubO.refl _)
    (callM_mono (callM_of (get_good (n := n + 1) (rows := rows) H F8 h1 h2 hA hr hl hl' hb)) fun r z => ?_)) (.inl rfl) (fun _ _ => rfl))
  obtain ⟨ω', rfl, hs⟩ := z
  refine ⟨hdr_keys hs, fun _ => ?_⟩
  have e : getR rows name = .none := by unfold getR; rw [hf]; rfl
  rw [e]
  refine ex_sub (ρ' := [kv "self" (.val (.ref a)), kv "name" (.str name), kv "value" (.str value), kv "result" .none]) (ω' := HdrO a C dx l rows) ?_ (by walk_at "s") (subO_app hs)
  refine ex_cons (ex_if (b := true) (emt_et (et_cmp rfl (by walk_at "n") ev_none (cIsNone trivial))) (fun _ => ?_) (fun h => by cases h))
  refine ex_cons (ex_expr (em_appendM (fun _ => rfl) (fun _ => rfl) (em_attr (d := .val (.ref l)) (by walk_at "n") H.toClsOk O.ins O.att lookup_cons_eq H.hn rfl rfl) O.lst (em_tuple2 (fun _ => rfl) (em_conv (n := n + 2) H (fun _ => rfl) (fun _ => rfl) (by walk_at "n") O.ins O.att rfl (by walk_at "n") hln hbn ⟨trivial, em_conv (n := n + 2) H (fun _ => rfl) (fun _ => rfl) (by walk_at "n") O.ins O.att rfl (by walk_at "n") hlv hbv ?_⟩))))
  refine ⟨_, O.lst, by rw [List.length_map]; lia, ?_⟩
  refine ex_cons (ex_ret (d := .str value) (by walk_at "n") ⟨_, rfl, ?_⟩)
  refine subO_more (by rw [lookup_cons_ne hA.al.symm]; exact O.ins) (subO_more (by rw [lookup_cons_ne hA.dl.symm]; exact O.att) (subO_one ?_))
  rw [lookup_cons_eq, List.map_append]
  rfl
theorem setd_old (H : Hdr K C pn pv) (F : Def K fa (clsAt pw_tc0083_02 7 15) fd) (hA : Apart a dx l) (hr : rows.length ≤ 1000) (hl : ∀ p ∈ rows, (Txt.lower p.1).length ≤ 1000000) (hl' : (Txt.lower name).length ≤ 1000000) (hb : badStr true (Txt.lower name) = false)
    {p : Str × Str} (hf : rows.find? (fun p => sameLow p.1 name) = some p) :
    CallC prog w K bx (.ref fa) (n + 6) (HdrO a C dx l rows) [.val (.ref a), .str name, .str value] [] (fun r => ∃ ω, r = .val (.str p.2) ω ∧ SubO (HdrO a C dx l rows) ω) := by
  refine def_callC F.toD (xs := ["self", "name", "value"]) rfl rfl (fun name qual body scope gl clo doc md an code ct bi => bind_kw (fun vs us hl hu => ?_) rfl) (by decide) (kinds_ok rfl) ?_
  · obtain ⟨v1, v2, v3, rfl⟩ := len3 hl
    obtain rfl := len0 hu
    rfl
  conv => arg 7; whnf
  have O := own_hdr (C := C) (rows := rows) hA
  obtain ⟨f8, fd8, dt, od, M8, F8, h1, k, h2⟩ := H.gett
  refine ex_sub (ρ' := [kv "self" (.val (.ref a)), kv "name" (.str name), kv "value" (.str value)]) ?_ (by walk_at "s") (SubO.refl _)
  refine ex_cons (ex_assignM (em_meth (b := bx) (ds := [.str name]) (ω₁ := HdrO a C dx l rows) (fun _ => rfl) (fun _ => rfl) (by walk_at "n") H.toClsOk M8 O.ins O.att rfl (es_cons (fun _ => rfl) (by walk_at "n") es_nil) id (SubO.refl _)
    (callM_mono (callM_of (get_good (n := n + 1) (rows := rows) H F8 h1 h2 hA hr hl hl' hb)) fun r z => ?_)) (.inl rfl) (fun _ _ => rfl))
  obtain ⟨ω', rfl, hs⟩ := z
  refine ⟨hdr_keys hs, fun _ => ?_⟩
  have e : getR rows name = .str p.2 := by unfold getR; rw [hf]; rfl
  rw [e]
  refine ex_sub (ρ' := [kv "self" (.val (.ref a)), kv "name" (.str name), kv "value" (.str value), kv "result" (.str p.2)]) (ω' := HdrO a C dx l rows) ?_ (by walk_at "s") (subO_app hs)
  refine ex_cons (ex_if (b := false) (emt_et (et_cmp rfl (by walk_at "n") ev_none (cIsNone trivial))) (fun h => by cases h) fun _ => ?_)
  exact ex_cons (ex_ret (d := .str p.2) (by walk_at "n") ⟨_, rfl, SubO.refl _⟩)
end
end

section
structure WS where
  n : Nat
  nt : Nat
  b : Nat
  count : List Nat
noncomputable def natD (k : Nat) : D := .int k
noncomputable def wsF (x : Str) (st : WS) : List (Str × D) := [kv "is_simple" (.bool (decide ((st.count.length : Int) ≤ 1))), kv "norm" (.tup [.tup (st.count.map natD), .int st.b]), kv "nt" (.int st.nt), kv "n" (.int st.n), kv "raw" (.str x)]
structure Wsp (K : Frag) (C : Addr) : Prop extends Tops K, SetOk K C where
  h1 : findIn K (.ref C) "raw" = some none
  h2 : findIn K (.ref C) "n" = some none
  h3 : findIn K (.ref C) "nt" = some none
  h4 : findIn K (.ref C) "norm" = some none
  h5 : findIn K (.ref C) "is_simple" = some none
  t1 : takerIn K C "raw" = some none
  t2 : takerIn K C "n" = some none
  t3 : takerIn K C "nt" = some none
  t4 : takerIn K C "norm" = some none
  t5 : takerIn K C "is_simple" = some none
  gl : nsIn K mainGlobals "Whitespace" = some (some (.ref C))
  kp : keepIn K (.ref C) = true
  rd : readsIn K C (.type "type") = true
  cS : ∃ t, findCls K (.ref C) (.type "type") "S" = some (.val (.str " " t))
  cT : ∃ t, findCls K (.ref C) (.type "type") "T" = some (.val (.str "\t" t))
  make : ∃ f fd, MakeOk K C f ∧ Def K f (clsAt pw_tc0083_02 3 1) fd
  lng : ∃ f fd, MethOk K C "longest_run_of_spaces" f ∧ Def K f (clsAt pw_tc0083_02 3 2) fd
  ind : ∃ f fd, MethOk K C "indent_level" f ∧ Def K f (clsAt pw_tc0083_02 3 3) fd
  eql : ∃ f fd, MethOk K C "equal" f ∧ Def K f (clsAt pw_tc0083_02 3 4) fd
  wit : ∃ f fd, MethOk K C "not_equal_witness" f ∧ Def K f (clsAt pw_tc0083_02 3 5) fd
section
variable {n : Nat}
theorem len_tup (ds : List D) (h : ds.length ≤ 2 ^ 60) : CallG prog w K (.builtin "len") n [.tup ds] (.int ds.length) := fun A U s vs rm ok rl => by
  obtain ⟨v, vs', rfl, ⟨l, xs, rfl, hu, hl, rx⟩, r⟩ := rl
  cases r
  have e : (List.toArray xs).size = ds.length := by simp [rx.length]
  refine len_tuple hl (by rw [e]; lia) ⟨Gr.of (fun _ _ e => e) (Nat.le_add_right _ 2) (Nat.le_refl _), s.toks + 1, ?_⟩
  rw [e]
end
noncomputable def longest (st : WS) : Int := max ((st.count.length : Int) - 1) (st.b : Int)
noncomputable def ilAt (count : List Nat) (ts : Int) : Nat → Int
  | 0 => 0
  | k + 1 => ilAt count ts k + (ts + (k : Int)).fdiv ts * (count.getD (ts + (k : Int)).toNat 0 : Nat)
noncomputable def indentOf (st : WS) (ts : Int) : Int := (st.b : Int) + ts * (ilAt st.count ts ((st.count.length : Int) - ts).toNat + (st.nt : Int))
noncomputable def okWS (st : WS) : Prop := st.count.length ≤ 1000 ∧ st.n ≤ 1000 ∧ st.nt ≤ 1000 ∧ st.b ≤ 1000 ∧ ∀ k ∈ st.count, k ≤ 1000
theorem lk_norm {x : Str} {st : WS} : (wsF x st).lookup ("norm" : Str) = some (.tup [.tup (st.count.map natD), .int st.b]) := rfl
theorem lk_nt {x : Str} {st : WS} : (wsF x st).lookup ("nt" : Str) = some (.int st.nt) := rfl
section
variable {n : Nat} {C fa : Addr} {fd : FuncData} {x : Str} {st : WS}
theorem longest_ok (H : Wsp K C) (F : Def K fa (clsAt pw_tc0083_02 3 2) fd) (hk : okWS st) : CallG prog w K (.ref fa) (n + 1) [.ins C (wsF x st)] (.int (longest st)) := by
  refine def_call F (xs := ["self"]) rfl rfl (fun vs hl => ?_) rfl (by decide) (kinds_ok rfl) ?_
  · obtain ⟨v1, rfl⟩ := len1 hl
    intros
    rfl
  conv => arg 7; whnf
  refine ex_sub (ρ' := [kv "self" (.ins C (wsF x st))]) ?_ (by walk_at "s") (SubO.refl _)
  refine ex_cons (ex_assignTM (em_ev (d := .tup [.tup (st.count.map natD), .int st.b]) (ev_attr (fun _ => rfl) (by walk_at "n") H.toClsOk lk_norm H.h4 trivial) ⟨_, rfl, ⟨.inl rfl, .inl rfl, trivial⟩, ?_⟩) (fun _ _ => rfl) (fun _ _ => rfl))
  show EX _ _ _ _ _ _ _ [kv "trailing" (.int st.b), kv "count" (.tup (st.count.map natD)), kv "self" (.ins C (wsF x st))] _ _
  refine ex_cons (ex_ret (ev_call (f := .builtin "max") (ds := [.int ((st.count.length : Int) - 1), .int st.b]) (fun _ => rfl) (fun _ => rfl) (.inl ⟨_, rfl⟩) (H.toTops.ev (by decide) rfl (by decide)) (es_cons (fun _ => rfl) (ev_bin (ev_call (f := .builtin "len") (ds := [.tup (st.count.map natD)]) (fun _ => rfl) (fun _ => rfl) (.inl ⟨_, rfl⟩) (H.toTops.ev (by decide) rfl (by decide)) (es_cons (fun _ => rfl) (by walk_at "n") es_nil) ?_) ev_int bSub) (es_cons (fun _ => rfl) (by walk_at "n") es_nil)) (max_ints _ _)) ⟨_, rfl⟩)
  have := len_tup (prog := prog) (w := w) (K := K) (n := n) (st.count.map natD) (by rw [List.length_map]; have := hk.1; lia)
  rw [List.length_map] at this
  exact this
theorem count_at {count : List Nat} {i : Nat} (h : i < count.length) : (count.map natD)[i]? = some (.int (count.getD i 0 : Nat)) := by
  rw [List.getElem?_map, List.getElem?_eq_getElem h]
  simp [natD, List.getD, List.getElem?_eq_getElem h]
theorem indent_ok (H : Wsp K C) (F : Def K fa (clsAt pw_tc0083_02 3 3) fd) (hk : okWS st) {ts : Int} (h1 : 1 ≤ ts) (h2 : ts ≤ 5000) : CallG prog w K (.ref fa) (n + 1) [.ins C (wsF x st), .int ts] (.int (indentOf st ts)) := by
  refine def_call F (xs := ["self", "tabsize"]) rfl rfl (fun vs hl => ?_) rfl (by decide) (kinds_ok rfl) ?_
  · obtain ⟨v1, v2, rfl⟩ := len2 hl
    intros
    rfl
  conv => arg 7; whnf
  have hlen := hk.1
  refine ex_sub (ρ' := [kv "self" (.ins C (wsF x st)), kv "tabsize" (.int ts)]) ?_ (by walk_at "s") (SubO.refl _)
  refine ex_cons (ex_assignTM (em_ev (d := .tup [.tup (st.count.map natD), .int st.b]) (ev_attr (fun _ => rfl) (by walk_at "n") H.toClsOk lk_norm H.h4 trivial) ⟨_, rfl, ⟨.inl rfl, .inl rfl, trivial⟩, ?_⟩) (fun _ _ => rfl) (fun _ _ => rfl))
  show EX _ _ _ _ _ _ _ [kv "trailing" (.int st.b), kv "count" (.tup (st.count.map natD)), kv "self" (.ins C (wsF x st)), kv "tabsize" (.int ts)] _ _
  refine ex_cons (ex_assign ev_int (.inl rfl) (fun _ _ => rfl) ?_)
  let ρ0 (i : Nat) : Vars := [kv "il" (.int (ilAt st.count ts i)), kv "trailing" (.int st.b), kv "count" (.tup (st.count.map natD)), kv "self" (.ins C (wsF x st)), kv "tabsize" (.int ts)]
  have hlt := len_tup (prog := prog) (w := w) (K := K) (n := n) (st.count.map natD) (by rw [List.length_map]; lia)
  rw [List.length_map] at hlt
  refine ex_cons (ex_for (its := upto ts st.count.length) (evi_call (f := .type "range") (ds := [.int ts, .int st.count.length]) (fun _ => rfl) (fun _ => rfl) (.inr (.inl ⟨_, rfl⟩)) (fun _ _ _ => rfl) (H.toTops.ev (by decide) rfl (by decide)) (es_cons (fun _ => rfl) (by walk_at "n") (es_cons (fun _ => rfl) (ev_call (f := .builtin "len") (ds := [.tup (st.count.map natD)]) (fun _ => rfl) (fun _ => rfl) (.inl ⟨_, rfl⟩) (H.toTops.ev (by decide) rfl (by decide)) (es_cons (fun _ => rfl) (by walk_at "n") es_nil) hlt) es_nil)) (rng2 (by lia) (by lia)))
    (fun i ρ ω => ρ = ρ0 i ∧ ω = []) ⟨rfl, rfl⟩ (fun i d h => .inl rfl) (fun i d ρ ω hd h => ?_) fun ρ ω h => ?_)
  · obtain ⟨e1, e2⟩ := h
    subst e1 e2
    obtain ⟨rfl, hi⟩ := upto_get hd
    have hlt2 : (ts + (i : Int)).toNat < st.count.length := by lia
    have hc : st.count.getD (ts + (i : Int)).toNat 0 ≤ 1000 := hk.2.2.2.2 _ (getD_mem hlt2)
    refine ex_sub (ρ' := kv "i" (.int (ts + (i : Int))) :: ρ0 i) ?_ (by walk_at "s") (SubO.refl _)
    refine ex_cons (ex_assign (d := .int (ilAt st.count ts (i + 1))) (ev_bin (d₁ := .int (ilAt st.count ts i)) (d₂ := .int ((ts + (i : Int)).fdiv ts * (st.count.getD (ts + (i : Int)).toNat 0 : Nat))) (by walk_at "n") (ev_bin (d₁ := .int ((ts + (i : Int)).fdiv ts)) (d₂ := .int (st.count.getD (ts + (i : Int)).toNat 0 : Nat)) (ev_bin (by walk_at "n") (by walk_at "n") (bDiv (by lia) (by lia))) ?_ (bMul (.inr (by lia)))) bAdd) (.inl rfl) (fun _ _ => rfl) (ex_nil ⟨_, _, ⟨rfl, rfl⟩, by walk_at "s", SubO.refl _⟩))
    have hs : seqIndex? (ts + (i : Int)) (st.count.map natD).length = some (ts + (i : Int)).toNat := by
      unfold seqIndex?
      have : ¬ (ts + (i : Int) < 0) := by lia
      simp only [this, if_false, List.length_map]
      rw [if_pos (by simp; lia)]
    exact ev_titem (ds := st.count.map natD) (k := (ts + (i : Int)).toNat) (i := ts + (i : Int)) (fun _ _ => by first | exact .inl rfl | exact .inr rfl) (by walk_at "n") (by walk_at "n") (by lia) (by lia) hs (count_at hlt2)
  · obtain ⟨e1, e2⟩ := h
    subst e1 e2
    have hl : (upto ts st.count.length).length = ((st.count.length : Int) - ts).toNat := by simp [upto]
    rw [hl]
    refine ex_cons (ex_ret (d := .int (indentOf st ts)) (ev_bin (d₁ := .int st.b) (d₂ := .int (ts * (ilAt st.count ts ((st.count.length : Int) - ts).toNat + (st.nt : Int)))) (by walk_at "n") (ev_bin (d₁ := .int ts) (d₂ := .int (ilAt st.count ts ((st.count.length : Int) - ts).toNat + (st.nt : Int))) (by walk_at "n") (ev_bin (d₂ := .int st.nt) (by walk_at "n") (ev_attr (fun _ => rfl) (by walk_at "n") H.toClsOk lk_nt H.h3 trivial) bAdd) (bMul (.inl (by lia)))) bAdd) ⟨_, rfl⟩)
end
end

section
theorem longest_le {st : WS} (h : okWS st) : longest st ≤ 1000 ∧ -1 ≤ longest st := by
  obtain ⟨h1, h2, h3, h4, h5⟩ := h
  unfold longest; lia
section
variable {n : Nat} {C fa : Addr} {fd : FuncData} {x y : Str} {s o : WS}
theorem ev_wsMeth {sc : Scope} {ρ : Vars} {v name : Str} {np apos pos : Pos} {pl : Env → Sem Bool} {es : List Expr} {ds : List D} {d : D} {f : Addr} (CO : ClsOk K C) (MO : MethOk K C name f) (hno : ∀ (x : Str) (st : WS), (wsF x st).lookup name = none)
    (hshape : ∀ env, eval (.Call (.Attribute (.Name v np) name apos) es [] pos) env = (do
      let ov ← eval (.Name v np) env
      standAt apos.atName
      let (f, first) ← holding [ov] (getMethod ov name (pl env))
      callWith pos f first (backTo pos (starEach es env)) [])) (hp : ∀ env, (backTo pos (starEach es env)).any (·.1) = false) (hv : EV prog w K sc n ρ (.Name v np) (.ins C (wsF x s))) (ha : ES prog w K sc n ρ es ds) (hc : CallG prog w K (.ref f) n (.ins C (wsF x s) :: ds) d) :
    EV prog w K sc n ρ (.Call (.Attribute (.Name v np) name apos) es [] pos) d :=
  ev_meth (f := .ref f) hshape hp (.inr (.inr MO.keep)) hv (getG_ins CO MO (hno x s)) ha hc
end
end

section
noncomputable def isWs (c : Nat) : Bool := c == 32 || c == 9
noncomputable def padTo (count : List Nat) (b : Nat) : List Nat := if count.length ≤ b then count ++ List.replicate (b - count.length + 1) 0 else count
noncomputable def bump (count : List Nat) (b : Nat) : List Nat := (padTo count b).set b ((padTo count b).getD b 0 + 1)
noncomputable def wsStep (st : WS) (c : Nat) : WS := if c = 32 then ⟨st.n + 1, st.nt, st.b + 1, st.count⟩ else ⟨st.n + 1, st.nt + 1, 0, bump st.count st.b⟩
noncomputable def wsFold (l : List Nat) : WS := l.foldl wsStep ⟨0, 0, 0, []⟩
noncomputable def wsOf (t : Str) : WS := wsFold (t.cps.toList.takeWhile isWs)
noncomputable def wsInv (st : WS) (k : Nat) : Prop := st.n = k ∧ st.nt ≤ k ∧ st.b ≤ k ∧ st.count.length ≤ k ∧ ∀ c ∈ st.count, c ≤ k
theorem padTo_lt (count : List Nat) (b : Nat) : b < (padTo count b).length := by
  unfold padTo; split
  · simp; lia
  · lia
theorem padTo_len (count : List Nat) (b k : Nat) (h : count.length ≤ k) (hb : b < k) : (padTo count b).length ≤ k := by
  unfold padTo; split
  · simp; lia
  · exact h
theorem padTo_le {count : List Nat} {b k : Nat} (h : ∀ c ∈ count, c ≤ k) : ∀ c ∈ padTo count b, c ≤ k := fun c hc => by
  unfold padTo at hc
  split at hc
  · rcases List.mem_append.mp hc with hc | hc
    · exact h c hc
    · rw [(List.mem_replicate.mp hc).2]; lia
  · exact h c hc
theorem wsInv_step {st : WS} {k : Nat} (h : wsInv st k) (c : Nat) : wsInv (wsStep st c) (k + 1) := by
  obtain ⟨h1, h2, h3, h4, h5⟩ := h
  unfold wsStep
  split
  · exact ⟨by show st.n + 1 = k + 1; lia, by show st.nt ≤ k + 1; lia, by show st.b + 1 ≤ k + 1; lia, by show st.count.length ≤ k + 1; lia, fun c hc => by have := h5 c hc; lia⟩
  · refine ⟨by show st.n + 1 = k + 1; lia, by show st.nt + 1 ≤ k + 1; lia, Nat.zero_le _, ?_, fun c hc => ?_⟩
    · show (bump st.count st.b).length ≤ k + 1
      unfold bump
      rw [List.length_set]
      exact padTo_len _ _ _ (by lia) (by lia)
    · have hc : c ∈ bump st.count st.b := hc
      unfold bump at hc
      rcases List.mem_or_eq_of_mem_set hc with hc | hc
      · have := padTo_le h5 c hc; lia
      · have := padTo_le h5 _ (getD_mem (d := 0) (padTo_lt st.count st.b)); lia
theorem wsInv_fold : ∀ (l : List Nat) (st : WS) (k : Nat), wsInv st k → wsInv (l.foldl wsStep st) (k + l.length)
  | [], st, k, h => h
  | c :: l, st, k, h => by
    rw [List.foldl_cons, List.length_cons]
    have := wsInv_fold l _ _ (wsInv_step h c)
    rwa [show k + 1 + l.length = k + (l.length + 1) by lia] at this
theorem wsFold_inv (l : List Nat) : wsInv (wsFold l) l.length := by
  have := wsInv_fold l ⟨0, 0, 0, []⟩ 0 ⟨rfl, Nat.le_refl _, Nat.le_refl _, Nat.le_refl _, fun c hc => by cases hc⟩
  rwa [Nat.zero_add] at this
theorem wsOf_ok {t : Str} (h : t.length ≤ 1000) : okWS (wsOf t) := by
  obtain ⟨h1, h2, h3, h4, h5⟩ := wsFold_inv (t.cps.toList.takeWhile isWs)
  have hl : (t.cps.toList.takeWhile isWs).length ≤ 1000 := by
    have := (List.takeWhile_sublist (p := isWs) (l := t.cps.toList)).length_le
    have e : t.cps.toList.length = t.length := by rw [Array.length_toList]; rfl
    lia
  exact ⟨by unfold wsOf; lia, by unfold wsOf; lia, by unfold wsOf; lia, by unfold wsOf; lia, fun k hk => by have := h5 k hk; lia⟩
theorem take_next {l : List Nat} {i c : Nat} (h : l[i]? = some c) : l.take (i + 1) = l.take i ++ [c] := by rw [List.take_add_one, h]; rfl
theorem fold_next {l : List Nat} {i c : Nat} (h : l[i]? = some c) : wsFold (l.take (i + 1)) = wsStep (wsFold (l.take i)) c := by
  rw [take_next h]; unfold wsFold; rw [List.foldl_append]; rfl
theorem while_stop {l : List Nat} {i c : Nat} (h : l[i]? = some c) (hall : ∀ d ∈ l.take i, isWs d = true) (hc : isWs c = false) : l.takeWhile isWs = l.take i := by
  have hl : l = l.take i ++ c :: l.drop (i + 1) := by
    have hi := (List.getElem?_eq_some_iff.mp h)
    obtain ⟨hi, e⟩ := hi
    rw [← e, List.getElem_cons_drop hi, List.take_append_drop]
  have := List.takeWhile_append_of_pos (p := isWs) (l₁ := l.take i) (l₂ := c :: l.drop (i + 1)) hall
  rw [← hl] at this
  rw [this, List.takeWhile_cons, hc]
  simp
theorem while_all {l : List Nat} (hall : ∀ d ∈ l, isWs d = true) : l.takeWhile isWs = l := by
  have := List.takeWhile_append_of_pos (p := isWs) (l₁ := l) (l₂ := []) hall
  simpa using this
theorem sign_eq (c k : Nat) : (#[c].toList == ((⟨#[k]⟩ : Str)).cps.toList) = (c == k) := by
  show ([c] == [k]) = _
  simp [List.cons_beq_cons]
end

section
theorem sign_blank (c : Nat) : (#[c].toList == ((" " : Str)).cps.toList) = (c == 32) := by
  have e : (" " : Str) = ⟨#[32]⟩ := by rfl
  rw [e]; exact sign_eq c 32
theorem sign_tab (c : Nat) : (#[c].toList == (("\t" : Str)).cps.toList) = (c == 9) := by
  have e : ("\t" : Str) = ⟨#[9]⟩ := by rfl
  rw [e]; exact sign_eq c 9
theorem ex_break {bx : Fl} {sc : Scope} {n : Nat} {ρ : Vars} {ω : Owns} {P : Out → Prop} {pos : Pos} (h : P (.brk ρ ω)) : EX1 prog w K bx sc n (.Break pos) ρ ω P := fun X s m cm hs rm x0 =>
  wpAny_Break ⟨_, h, rfl, ⟨m, cm, x0⟩, Stp.refl _ _ _⟩
theorem pad_map (count : List Nat) (b : Nat) (h : count.length ≤ b) : (padTo count b).map natD = count.map natD ++ (List.replicate ((b : Int) - (count.length : Int) + 1).toNat [D.int 0]).flatten := by
  unfold padTo
  rw [if_pos h, List.map_append]
  congr 1
  have : ((b : Int) - (count.length : Int) + 1).toNat = b - count.length + 1 := by lia
  rw [this]
  generalize b - count.length + 1 = k
  induction k with
  | zero => rfl
  | succ k ih => rw [List.replicate_succ, List.replicate_succ, List.map_cons, ih]; rfl
noncomputable def wsρ (x : Addr) (a : Addr) (st : WS) : Vars := [kv "b" (.int st.b), kv "n" (.int st.n), kv "nt" (.int st.nt), kv "count" (.val (.ref a)), kv "S" (.str " "), kv "T" (.str "\t"), kv "self" (.val (.ref x))]
noncomputable def wsB (x C dx : Addr) (t : Str) : Owns := [(x, .ins C dx), (dx, .att [kv "raw" (.str t)])]
set_option maxHeartbeats 8000000 in
theorem winit_ok {n : Nat} {C fa x dx : Addr} {fd : FuncData} {t : Str} (H : Wsp K C) (F : Def K fa (clsAt pw_tc0083_02 3 1) fd) (hxd : dx ≠ x) (ht : t.length ≤ 1000) :
    CallC prog w K false (.ref fa) (n + 1) [(x, .ins C dx), (dx, .att [])] [.val (.ref x), .str t] [] (fun r => ∃ ω, r = .val .none ω ∧ ω.lookup x = some (.ins C dx) ∧ ω.lookup dx = some (.att (wsF t (wsOf t)))) := by
  refine def_callC F.toD (xs := ["self", "ws"]) rfl rfl (fun name qual body scope gl clo doc md an code ct bi => bind_kw (fun vs us hl hu => ?_) rfl) (by decide) (kinds_ok rfl) ?_
  · obtain ⟨v1, v2, rfl⟩ := len2 hl
    obtain rfl := len0 hu
    rfl
  conv => arg 7; whnf
  refine ex_sub (ρ' := [kv "self" (.val (.ref x)), kv "ws" (.str t)]) ?_ (by walk_at "s") (SubO.refl _)
  have i1 : List.lookup x [(x, Ow.ins C dx), (dx, Ow.att [])] = some (.ins C dx) := lookup_cons_eq
  have i2 : List.lookup dx [(x, Ow.ins C dx), (dx, Ow.att [])] = some (.att []) := by rw [lookup_cons_ne hxd, lookup_cons_eq]
  refine ex_cons (ex_setAttr (a := x) (dx := dx) (fs := []) H.toSetOk H.t1 (by walk_at "n") (em_ev (d := .str t) (by walk_at "n") ⟨i1, [], i2, by decide, ?_⟩) (fun _ _ => rfl))
  show EX _ _ _ _ _ _ _ _ _ _
  have B1 : (wsB x C dx t).lookup x = some (.ins C dx) := lookup_cons_eq
  have B2 : (wsB x C dx t).lookup dx = some (.att [kv "raw" (.str t)]) := by unfold wsB; rw [lookup_cons_ne hxd, lookup_cons_eq]
  refine ex_sub (ρ' := [kv "self" (.val (.ref x))]) (ω' := wsB x C dx t) ?_ (by walk_at "s") ?sb
  case sb =>
    refine subO_more ?_ (subO_one lookup_cons_eq)
    rw [lookup_cons_ne hxd.symm]; exact i1
  refine ex_cons (ex_swapM (em_ev (d := .tup [.str " ", .str "\t"]) (ev_tuple (by decide) (es_cons (fun _ => rfl) (ev_clsAttr (fun _ => rfl) (ev_global rfl H.gl (by decide)) H.rd H.cS) (es_cons (fun _ => rfl) (ev_clsAttr (fun _ => rfl) (ev_global rfl H.gl (by decide)) H.rd H.cT) es_nil))) ⟨_, _, rfl, ?_⟩) (.inl rfl) (.inl rfl) (by decide) (fun _ _ => rfl) (fun env h => by obtain ⟨sc0, env1⟩ := env; subst h; rfl))
  show EX _ _ _ _ _ _ _ _ _ _
  refine ex_cons (ex_assignL (evl_list (by decide) es_nil) (.inl rfl) (fun _ _ => rfl) fun a0 ha0 hk0 => ?_)
  refine ex_cons (ex_assign3 (d := .int 0) ev_int (.inl rfl) (.inl rfl) (.inl rfl) (fun _ _ => rfl) ?_)
  refine ex_sub (ρ' := wsρ x a0 (wsFold (t.cps.toList.take 0))) ?_ (by walk_at "s") (SubO.refl _)
  refine ex_join (fun a => wsρ x a (wsOf t)) (fun a => (a, .lst ((wsOf t).count.map natD)) :: wsB x C dx t) (fun a => (wsB x C dx t).lookup a = none ∧ a ∉ List.map (fun x => x.1) [(x, Ow.ins C dx), (dx, Ow.att [])]) (ex_forStr (x := t) (fun _ _ _ => rfl) ?_
    (fun i ρ ω => ∃ a, ρ = wsρ x a (wsFold (t.cps.toList.take i)) ∧ ω = (a, .lst ((wsFold (t.cps.toList.take i)).count.map natD)) :: wsB x C dx t ∧ ((wsB x C dx t).lookup a = none ∧ a ∉ List.map (fun x => x.1) [(x, Ow.ins C dx), (dx, Ow.att [])]) ∧ ∀ d ∈ t.cps.toList.take i, isWs d = true) ⟨a0, rfl, rfl, ⟨ha0, hk0⟩, fun d hd => by simp at hd⟩ (.inl rfl) (fun i c ρ ω hc h => ?_) fun ρ ω h => ?_) fun a ⟨ha, hk⟩ => ?_
  · have hxa : x ≠ a0 := fun e => by rw [← e, B1] at ha0; cases ha0
    have hda : dx ≠ a0 := fun e => by rw [← e, B2] at ha0; cases ha0
    exact em_attr (d := .str t) (by walk_at "n") H.toClsOk (by rw [lookup_cons_ne hxa]; exact B1) (by rw [lookup_cons_ne hda]; exact B2) lookup_cons_eq H.h1 trivial rfl
  · obtain ⟨a, h1, h2, ⟨ha, hk⟩, hall⟩ := h
    subst h1 h2
    have hinv := wsFold_inv (t.cps.toList.take i)
    have hsucc := fold_next hc
    have hil : (t.cps.toList.take i).length ≤ 1000 := by
      have : t.cps.toList.length = t.length := by rw [Array.length_toList]; rfl
      rw [List.length_take]; lia
    have htk := take_next hc
    have hstop := fun h => while_stop hc hall h
    generalize hst : wsFold (t.cps.toList.take i) = st at hinv hsucc
    obtain ⟨q1, q2, q3, q4, q5⟩ := hinv
    have hallN : isWs c = true → ∀ d ∈ t.cps.toList.take (i + 1), isWs d = true := fun hw d hd => by
      rw [htk] at hd
      rcases List.mem_append.mp hd with hd | hd
      · exact hall d hd
      · rw [List.mem_singleton.mp hd]; exact hw
    refine ex_sub (ρ' := kv "ch" (.str ⟨#[c]⟩) :: wsρ x a st) ?_ (by walk_at "s") (SubO.refl _)
    refine ex_cons (ex_if (b := (#[c].toList == ((" " : Str)).cps.toList)) (emt_et (et_cmp rfl (by walk_at "n") (by walk_at "n") cEqS)) (fun hS => ?_) fun hS => ?_)
    · have hS' : c = 32 := by rw [sign_blank c] at hS; simpa using hS
      have hstep : wsStep st c = ⟨st.n + 1, st.nt, st.b + 1, st.count⟩ := by unfold wsStep; rw [if_pos hS']
      refine ex_cons (ex_assign (d := .int ((st.n : Int) + 1)) (by walk_at "e") (.inl rfl) (fun _ _ => rfl) ?_)
      refine ex_cons (ex_assign (d := .int ((st.b : Int) + 1)) (by walk_at "e") (.inl rfl) (fun _ _ => rfl) ?_)
      refine ex_nil (ex_nil ⟨_, _, ⟨a, rfl, rfl, ⟨ha, hk⟩, hallN (by rw [hS']; rfl)⟩, ?_, ?_⟩)
      · rw [hsucc, hstep]; walk_at "s"
      · rw [hsucc, hstep]; exact SubO.refl _
    · have hS' : c ≠ 32 := fun e => by rw [sign_blank c, e] at hS; cases hS
      refine ex_cons (ex_if (b := (#[c].toList == (("\t" : Str)).cps.toList)) (emt_et (et_cmp rfl (by walk_at "n") (by walk_at "n") cEqS)) (fun hT => ?_) fun hT => ?_)
      · have hT' : c = 9 := by rw [sign_tab c] at hT; simpa using hT
        have hstep : wsStep st c = ⟨st.n + 1, st.nt + 1, 0, bump st.count st.b⟩ := by unfold wsStep; rw [if_neg hS']
        refine ex_cons (ex_assign (d := .int ((st.n : Int) + 1)) (by walk_at "e") (.inl rfl) (fun _ _ => rfl) ?_)
        refine ex_cons (ex_assign (d := .int ((st.nt : Int) + 1)) (by walk_at "e") (.inl rfl) (fun _ _ => rfl) ?_)
        let ρ1 (a : Addr) : Vars := [kv "b" (.int st.b), kv "n" (.int ((st.n : Int) + 1)), kv "nt" (.int ((st.nt : Int) + 1)), kv "count" (.val (.ref a)), kv "S" (.str " "), kv "T" (.str "\t"), kv "self" (.val (.ref x))]
        refine ex_sub (ρ' := ρ1 a) ?_ (by walk_at "s") (SubO.refl _)
        refine ex_join ρ1 (fun a' => (a', .lst ((padTo st.count st.b).map natD)) :: wsB x C dx t) (fun a => (wsB x C dx t).lookup a = none ∧ a ∉ List.map (fun x => x.1) [(x, Ow.ins C dx), (dx, Ow.att [])]) (ex_if (b := decide ((st.b : Int) ≥ (st.count.length : Int))) (emt_read [("count", a, st.count.map natD)] (fun q hq => ?_) (et_cmp rfl (ev_name rfl (.inl rfl) (by decide) (by decide)) (ev_call (f := .builtin "len") (ds := [.lst (st.count.map natD)]) (d := .int st.count.length) (fun _ => rfl) (fun _ => rfl) (.inl ⟨_, rfl⟩) (H.toTops.ev (by decide) rfl (by decide)) (es_cons (fun _ => rfl) (ev_name rfl (.inl rfl) (by decide) (by decide)) es_nil) ?_) cGe)) (fun hge => ?_) fun hge => ?_) fun a' hz229 => ?_
        · rw [List.mem_singleton.mp hq]; exact ⟨rfl, lookup_cons_eq⟩
        · have := len_lst (prog := prog) (w := w) (K := K) (n := n) (st.count.map natD) (by rw [List.length_map]; lia)
          rw [List.length_map] at this; exact this
        · have hge' : st.count.length ≤ st.b := by have := of_decide_eq_true hge; lia
          have hpm := pad_map st.count st.b hge'
          refine ex_cons (ex_assignM (eml_read (y := "count") (ds' := (padTo st.count st.b).map natD) rfl lookup_cons_eq ?_ (FlatL.of fun d hd => by obtain ⟨k, _, rfl⟩ := List.mem_map.mp hd; exact trivial) fun a' ha' hk' => ?_) (.inl rfl) (fun _ _ => rfl))
          · rw [hpm]
            have hlen : (st.count.map natD).length + (List.replicate ((st.b : Int) - (st.count.length : Int) + 1).toNat [D.int 0]).flatten.length ≤ 1000000 := by
              have h1 := congrArg List.length hpm
              rw [List.length_append, List.length_map, List.length_map] at h1
              have h2 := padTo_len st.count st.b (st.b + 1) (by lia) (by lia)
              rw [List.length_map]; lia
            refine evl_add (ev_name rfl (.inl rfl) (by decide) (by decide)) (ev_evl (evl_mul (evl_list (by decide) (es_cons (fun _ => rfl) ev_int es_nil)) (ev_bin (d₁ := .int ((st.b : Int) - (st.count.length : Int))) (ev_bin (d₂ := .int (st.count.length : Int)) (ev_name rfl (.inl rfl) (by decide) (by decide)) (ev_call (f := .builtin "len") (ds := [.lst (st.count.map natD)]) (fun _ => rfl) (fun _ => rfl) (.inl ⟨_, rfl⟩) (H.toTops.ev (by decide) rfl (by decide)) (es_cons (fun _ => rfl) (ev_name rfl (.inl rfl) (by decide) (by decide)) es_nil) ?_) bSub) ev_int bAdd) (by simp) (by lia) (by lia) (by simp; lia))) hlen
            have := len_lst (prog := prog) (w := w) (K := K) (n := n) (st.count.map natD) (by rw [List.length_map]; lia)
            rw [List.length_map] at this; exact this
          · have hne : a' ≠ a := fun e => by rw [e, lookup_cons_eq] at ha'; cases ha'
            rw [lookup_cons_ne hne] at ha'
            exact ex_nil ⟨a', _, _, ⟨ha', hk'⟩, rfl, by walk_at "s", fun b o e => by
              by_cases hb : b = a'
              · rw [hb, lookup_cons_eq] at e ⊢; exact e
              · rw [lookup_cons_ne hb] at e
                rw [lookup_cons_ne hb, lookup_cons_ne fun z => by rw [z, ha] at e; cases e]; exact e⟩
        · have hlt : ¬ st.count.length ≤ st.b := by have := of_decide_eq_false hge; lia
          have hpm : padTo st.count st.b = st.count := by unfold padTo; rw [if_neg hlt]
          exact ex_nil ⟨a, _, _, ⟨ha, hk⟩, rfl, by walk_at "s", by rw [hpm]; exact SubO.refl _⟩
        · obtain ⟨ha', hk'⟩ := hz229
          have hpl := padTo_lt st.count st.b
          have hpc : (padTo st.count st.b).getD st.b 0 ≤ 1000 := by have := padTo_le q5 _ (getD_mem (d := 0) hpl); lia
          refine ex_cons (ex_setItem [("count", a', (padTo st.count st.b).map natD)] (a := a') (ds := (padTo st.count st.b).map natD) (k := (st.b : Int)) (d := natD ((padTo st.count st.b).getD st.b 0 + 1)) (fun q hq => ?_) ?_ trivial (by walk_at "n") (by walk_at "n") lookup_cons_eq (by lia) (by lia) (by rw [List.length_map]; exact hpl) (fun _ _ => rfl) ?_)
          · rw [List.mem_singleton.mp hq]; exact ⟨rfl, lookup_cons_eq⟩
          · refine ev_bin (d₁ := .int ((padTo st.count st.b).getD st.b 0 : Nat)) (d₂ := .int 1) (ev_item (ds := (padTo st.count st.b).map natD) (i := (st.b : Int)) (fun _ _ => by first | exact .inl rfl | exact .inr rfl) (ev_name rfl (.inl rfl) (by decide) (by decide)) (ev_name rfl (.inl rfl) (by decide) (by decide)) (by lia) (by lia) (count_at hpl)) ev_int bAdd
          · refine ex_cons (ex_assign (d := .int 0) ev_int (.inl rfl) (fun _ _ => rfl) ?_)
            refine ex_nil (ex_nil (ex_nil ⟨_, _, ⟨a', rfl, rfl, ⟨ha', hk'⟩, hallN (by rw [hT']; rfl)⟩, ?_, ?_⟩))
            · rw [hsucc, hstep]; walk_at "s"
            · rw [hsucc, hstep]
              intro b o e
              by_cases hb : b = a'
              · rw [hb, lookup_cons_eq] at e ⊢
                rw [← e]
                unfold bump
                rw [List.map_set]
                rfl
              · rw [lookup_cons_ne hb] at e
                rw [lookup_cons_ne hb, lookup_cons_ne hb]; exact e
      · have hT' : c ≠ 9 := fun e => by rw [sign_tab c, e] at hT; cases hT
        have hw : isWs c = false := by unfold isWs; simp [hS', hT']
        refine ex_cons (ex_break ?_)
        have hof : wsOf t = st := by unfold wsOf; rw [hstop hw, hst]
        exact ⟨a, _, _, ⟨ha, hk⟩, rfl, by rw [hof]; walk_at "s", by rw [hof]; exact SubO.refl _⟩
  · obtain ⟨a, h1, h2, ⟨ha, hk⟩, hall⟩ := h
    subst h1 h2
    rw [List.take_length] at hall ⊢
    have hof : wsOf t = wsFold t.cps.toList := by unfold wsOf; rw [while_all hall]
    exact ⟨a, _, _, ⟨ha, hk⟩, rfl, by rw [hof]; exact Sub.refl _, by rw [hof]; exact SubO.refl _⟩
  · have hok := wsOf_ok ht
    generalize wsOf t = st at hok
    have hxa : x ≠ a := fun e => by rw [← e, B1] at ha; cases ha
    have hda : dx ≠ a := fun e => by rw [← e, B2] at ha; cases ha
    have nb : ∀ fs : List (Str × D), (List.lookup x [(dx, Ow.att fs), (a, Ow.lst (st.count.map natD)), (x, Ow.ins C dx)] = some (.ins C dx)) ∧ List.lookup dx [(dx, Ow.att fs), (a, Ow.lst (st.count.map natD)), (x, Ow.ins C dx)] = some (.att fs) ∧ List.lookup a [(dx, Ow.att fs), (a, Ow.lst (st.count.map natD)), (x, Ow.ins C dx)] = some (.lst (st.count.map natD)) := fun fs =>
      ⟨by rw [lookup_cons_ne hxd.symm, lookup_cons_ne hxa, lookup_cons_eq], lookup_cons_eq, by rw [lookup_cons_ne hda.symm, lookup_cons_eq]⟩
    have nxt : ∀ (fs fs' : List (Str × D)), SubO [(dx, Ow.att fs'), (a, Ow.lst (st.count.map natD)), (x, Ow.ins C dx)] ((dx, Ow.att fs') :: [(dx, Ow.att fs), (a, Ow.lst (st.count.map natD)), (x, Ow.ins C dx)]) := fun fs fs' => by
      refine subO_more lookup_cons_eq (subO_more ?_ (subO_one ?_))
      · rw [lookup_cons_ne hda.symm]; exact (nb fs).2.2
      · rw [lookup_cons_ne hxd.symm]; exact (nb fs).1
    refine ex_sub (ρ' := wsρ x a st) (ω' := [(dx, .att [kv "raw" (.str t)]), (a, .lst (st.count.map natD)), (x, .ins C dx)]) ?_ (Sub.refl _) ?s0
    case s0 =>
      refine subO_more ?_ (subO_more lookup_cons_eq (subO_one ?_))
      · rw [lookup_cons_ne hda]; exact B2
      · rw [lookup_cons_ne hxa]; exact B1
    refine ex_cons (ex_setAttr (a := x) (dx := dx) (fs := []) H.toSetOk H.t2 (by walk_at "n") (em_ev (d := .int st.n) (by walk_at "n") ⟨(nb _).1, _, (nb _).2.1, by simp, ?_⟩) (fun _ _ => rfl))
    refine ex_sub (ρ' := wsρ x a st) ?_ (Sub.refl _) (nxt _ _)
    refine ex_cons (ex_setAttr (a := x) (dx := dx) (fs := []) H.toSetOk H.t3 (by walk_at "n") (em_ev (d := .int st.nt) (by walk_at "n") ⟨(nb _).1, _, (nb _).2.1, by simp, ?_⟩) (fun _ _ => rfl))
    refine ex_sub (ρ' := wsρ x a st) ?_ (Sub.refl _) (nxt _ _)
    refine ex_cons (ex_setAttr (a := x) (dx := dx) (fs := []) H.toSetOk H.t4 (by walk_at "n") (em_readF (y := "count") (l := a) (ds := st.count.map natD) (d := .tup [.tup (st.count.map natD), .int st.b]) rfl (nb _).2.2 (ev_tuple (by simp) (es_cons (fun _ => rfl) (ev_call (f := .type "tuple") (ds := [.lst (st.count.map natD)]) (fun _ => rfl) (fun _ => rfl) (.inr (.inl ⟨_, rfl⟩)) (H.toTops.ev (by decide) rfl (by decide)) (es_cons (fun _ => rfl) (ev_name rfl (.inl rfl) (by decide) (by decide)) es_nil) (tup_lst _ (by rw [List.length_map]; have := hok.1; lia))) (es_cons (fun _ => rfl) (ev_name rfl (.inl rfl) (by decide) (by decide)) es_nil))) ⟨FlatL.of fun d hd => by obtain ⟨k, _, rfl⟩ := List.mem_map.mp hd; exact trivial, trivial, trivial⟩ ⟨(nb _).1, _, (nb _).2.1, by simp, ?_⟩) (fun _ _ => rfl))
    refine ex_sub (ρ' := wsρ x a st) ?_ (Sub.refl _) (nxt _ _)
    have hlen := len_lst (prog := prog) (w := w) (K := K) (n := n) (st.count.map natD) (by rw [List.length_map]; have := hok.1; lia)
    rw [List.length_map] at hlen
    refine ex_cons (ex_setAttr (a := x) (dx := dx) (fs := []) H.toSetOk H.t5 (by walk_at "n") (em_readF (y := "count") (l := a) (ds := st.count.map natD) (d := .bool (decide ((st.count.length : Int) ≤ 1))) rfl (nb _).2.2 (ev_cmp rfl (ev_call (f := .builtin "len") (ds := [.lst (st.count.map natD)]) (fun _ => rfl) (fun _ => rfl) (.inl ⟨_, rfl⟩) (H.toTops.ev (by decide) rfl (by decide)) (es_cons (fun _ => rfl) (ev_name rfl (.inl rfl) (by decide) (by decide)) es_nil) hlen) ev_int cLe) trivial ⟨(nb _).1, _, (nb _).2.1, by simp, ?_⟩) (fun _ _ => rfl))
    refine ex_nil ⟨_, rfl, ?_, lookup_cons_eq⟩
    rw [lookup_cons_ne hxd.symm]
    exact (nb _).1
end

section
noncomputable def spellTable : List (Str × List Str) := [("&", ["&amp;", "&amp;", "&amp;", "&amp;", "&amp;"]), ("<", ["&lt;", "&lt;", "<", "&lt;", "&lt;"]), (">", ["&gt;", "&gt;", "&gt;", "&gt;", ">"]), ("\"", ["\"", "&quot;", "&quot;", "\"", "&quot;"]), ("\t", ["\t", "&#09;", "\t", "\t", "&#x9;"]), ("\n", ["\n", "&#10;", "\n", "\n", "&#xA;"]), ("\r", ["\r", "&#13;", "\r", "&#xD;", "&#xD;"])]
noncomputable def spellSign (hand : Nat) (c : Nat) : Str := match spellTable.find? (fun p => decide (p.1 = ⟨#[c]⟩)) with
  | some p => p.2.getD hand ""
  | none => ⟨#[c]⟩
noncomputable def spelled (hand : Nat) (x : Str) : Str := Txt.join "" (x.cps.toList.map (spellSign hand))
theorem table_five : ∀ p ∈ spellTable, p.2.length = 5 ∧ ∀ y ∈ p.2, y.length ≤ 6 := by decide +kernel
theorem spellSign_len (hand c : Nat) : (spellSign hand c).length ≤ 6 := by
  unfold spellSign
  cases h : spellTable.find? (fun p => decide (p.1 = ⟨#[c]⟩)) with
  | none => show 1 ≤ 6; decide
  | some p =>
    have hp := table_five p (List.mem_of_find?_eq_some h)
    by_cases hh : hand < p.2.length
    · exact hp.2 _ (getD_mem hh)
    · have : p.2.getD hand "" = "" := by simp [List.getD, List.getElem?_eq_none (show p.2.length ≤ hand by lia)]
      show (p.2.getD hand "").length ≤ 6
      rw [this]; decide
set_option maxHeartbeats 4000000 in
theorem spelled_ok {n : Nat} {fa : Addr} {fd : FuncData} (F : Def K fa (stAt pw_tc0083_02 16) fd) {hand : Nat} {x : Str} (hh : hand < 5) (hx : x.length ≤ 10000) : CallG prog w K (.ref fa) (n + 1) [.int hand, .str x] (.str (spelled hand x)) := by
  refine def_call F (xs := ["hand", "text"]) rfl rfl (fun vs hl => ?_) rfl (by decide) (kinds_ok rfl) ?_
  · obtain ⟨v1, v2, rfl⟩ := len2 hl
    intros
    rfl
  conv => arg 7; whnf
  generalize hdict : Expr.Dict _ _ _ = ed
  refine ex_sub (ρ' := [kv "hand" (.int hand), kv "text" (.str x)]) ?_ (by walk_at "s") (SubO.refl _)
  refine ex_cons (ex_assign (d := .obj (PD prog w spellTable)) ?_ (.inr rfl) ?_ ?_)
  · rw [← hdict]
    have five : ∀ {sc : Scope} {ρ : Vars} {a b c d e : Str} {k1 k2 k3 k4 k5 : Nat} {p1 p2 p3 p4 p5 p : Pos}, EVL prog w K sc n ρ (.List [.Constant (.str a) k1 p1, .Constant (.str b) k2 p2, .Constant (.str c) k3 p3, .Constant (.str d) k4 p4, .Constant (.str e) k5 p5] p) (([a, b, c, d, e] : List Str).map .str) :=
      evl_list (by simp) (es_cons (fun _ => rfl) ev_str (es_cons (fun _ => rfl) ev_str (es_cons (fun _ => rfl) ev_str (es_cons (fun _ => rfl) ev_str (es_cons (fun _ => rfl) ev_str es_nil)))))
    refine ev_dict2 (l := spellTable) ?_ ?_ ?_ ?_ ?_
    · exact rfl
    · simp
    · simp
    · exact ⟨ev_str, five, ev_str, five, ev_str, five, ev_str, five, ev_str, five, ev_str, five, ev_str, five, trivial⟩
    · decide +kernel
  · subst hdict
    exact fun _ _ => rfl
  have hlen : x.cps.toList.length = x.length := by rw [Array.length_toList]; rfl
  unfold spelled
  generalize hys : x.cps.toList.map (spellSign hand) = ys
  have hjoin : CallG prog w K (.builtin "str.join") n [.str ("" : Str), .lst (ys.map .str)] (.str (Txt.join "" ys)) := c_join ?_
  refine ex_cons (ex_ret (d := .str (Txt.join "" ys)) (ev_meth (f := .builtin "str.join") (d₀ := .str "") (ds := [.lst (ys.map .str)]) (fun _ => rfl) (fun _ => rfl) (.inl ⟨_, rfl⟩) ev_str m_join (es_cons (fun _ => rfl) ?_ es_nil) hjoin) ⟨[], rfl⟩)
  all_goals subst hys
  · rw [List.map_map]
    refine ev_evl (evl_mapL x.cps.toList (fun c => .str ⟨#[c]⟩) (fun c => .str (spellSign hand c)) rfl (evi_str (fun _ _ _ => rfl) (by walk_at "n")) (by lia) fun c hc => ⟨.inl rfl, Sub.cons (x := "sign") rfl, ev_if (b := spellTable.any fun p => decide (p.1 = ⟨#[c]⟩)) (et_cmp rfl (by walk_at "n") (by walk_at "n") cInDict) (fun h => ?_) fun h => ?_⟩)
    · obtain ⟨p, hp⟩ : ∃ p, spellTable.find? (fun p => decide (p.1 = (⟨#[c]⟩ : Str))) = some p := by
        cases hf : spellTable.find? (fun p => decide (p.1 = (⟨#[c]⟩ : Str))) with
        | some p => exact ⟨p, rfl⟩
        | none =>
          rw [List.find?_eq_none] at hf
          obtain ⟨q, hq, e⟩ := List.any_eq_true.mp h
          exact absurd e (hf q hq)
      have hk : p.1 = ⟨#[c]⟩ := of_decide_eq_true (List.find?_some (p := fun p : Str × List Str => decide (p.1 = (⟨#[c]⟩ : Str))) hp)
      have hs : spellSign hand c = p.2.getD hand "" := by unfold spellSign; rw [hp]
      have hp5 := (table_five p (List.mem_of_find?_eq_some hp)).1
      rw [hs]
      have hp' : spellTable.find? (fun p => decide (p.1 = (⟨#[c]⟩ : Str))) = some (⟨#[c]⟩, p.2) := by rw [hp, ← hk]
      refine ev_item (ds := p.2.map .str) (i := (hand : Int)) (fun _ _ => by first | exact .inl rfl | exact .inr rfl) (ev_sub (d₁ := .obj (PD prog w spellTable)) (d₂ := .str ⟨#[c]⟩) (T := "dict") (fun U s v r => obj_dict r) slot_dict_getitem.lookup (fun _ _ => by first | exact .inl rfl | exact .inr rfl) (by walk_at "n") (by walk_at "n") (gDict hp')) (by walk_at "n") (by lia) (by lia) ?_
      rw [Int.toNat_natCast, List.getElem?_map, List.getElem?_eq_getElem (by lia)]
      simp [List.getD, List.getElem?_eq_getElem (show hand < p.2.length by lia)]
    · have hf : spellTable.find? (fun p => decide (p.1 = (⟨#[c]⟩ : Str))) = none := by
        rw [List.find?_eq_none]
        intro q hq e
        have : spellTable.any (fun p => decide (p.1 = (⟨#[c]⟩ : Str))) = true := List.any_eq_true.mpr ⟨q, hq, e⟩
        rw [h] at this; cases this
      have hs : spellSign hand c = ⟨#[c]⟩ := by unfold spellSign; rw [hf]
      rw [hs]
      walk_at "n"
  · have : ∀ l : List Nat, ((l.map (spellSign hand)).map (·.length)).sum ≤ 6 * l.length := fun l => by
      induction l with
      | nil => simp
      | cons c l ih => simp only [List.map_cons, List.sum_cons, List.length_cons]; have := spellSign_len hand c; lia
    have := this x.cps.toList
    show ((x.cps.toList.map (spellSign hand)).map (·.length)).sum + (x.cps.toList.map (spellSign hand)).length * 0 ≤ 16777216
    lia
end

section
theorem refusal_ok {n : Nat} {C pn pv fa : Addr} {fd : FuncData} (H : Hdr K C pn pv) (gC : nsIn K mainGlobals "Headers" = some (some (.ref C))) (kC : keepIn K (.ref C) = true) (F : Def K fa (stAt pw_tc0083_02 17) fd) {name : Str}
    (hln : name.length ≤ 1000000) (hl' : (Txt.lower name).length ≤ 1000000) (hb : badStr true name = badStr true (Txt.lower name)) :
    CallC prog w K true (.ref fa) (n + 8) [] [.str name] [] (fun r => ∃ ω, r = .val (.str (if badStr true name = true then ctlMsg else "")) ω) := by
  refine def_callC F.toD (xs := ["name"]) rfl rfl (fun name qual body scope gl clo doc md an code ct bi => bind_kw (fun vs us hl hu => ?_) rfl) (by decide) (kinds_ok rfl) ?_
  · obtain ⟨v1, rfl⟩ := len1 hl
    obtain rfl := len0 hu
    rfl
  conv => arg 7; whnf
  refine ex_sub (ρ' := [kv "name" (.str name)]) ?_ (by walk_at "s") (SubO.refl _)
  obtain ⟨fs, fds, Ms, Fs⟩ := H.setd
  refine ex_cons (ex_tryRet (nm := "error") H.ve (H.toTops.bi "str" (.type "str") (by decide)) rfl rfl rfl (by decide) (fun _ => rfl) (fun _ => rfl) rfl ?_)
  refine ex_cons (ex_expr (em_methE (b := true) (ds := [.str name, .str "x"]) (fun _ => rfl) (fun _ => rfl) H.toClsOk Ms (es_cons (fun _ => rfl) (by walk_at "n") (es_cons (fun _ => rfl) ev_str es_nil)) (fun _ => rfl) ?_))
  refine em_call (b := false) (f := .ref C) (ω₁ := []) (ds := []) (fun _ => rfl) (fun _ => rfl) (.inr (.inr kC)) (ev_global rfl gC (by decide)) es_nil (fun h => by cases h) (fun _ _ h => by cases h) (callM_mono (callM_of (make_none (n := n + 2) H)) fun r q => ?_)
  obtain ⟨x, dx, l, ω', hA, rfl, hs⟩ := q
  refine ⟨fun a h => (by cases h), fun hf => ?_⟩
  have O := own_hdr (C := C) (rows := []) hA
  have up : ∀ {b o}, (HdrO x C dx l []).lookup b = some o → (ω' ++ ([] : Owns)).lookup b = some o := fun {b o} e => by rw [List.lookup_append, hs b o e]; rfl
  refine ⟨x, dx, HdrO x C dx l [], [("_headers", .val (.ref l))], rfl, rfl, up O.ins, up O.att, fun b o e => up e, ?_⟩
  by_cases hbad : badStr true (Txt.lower name) = true
  · refine callM_mono (callM_of (setd_bad (n := n + 1) (rows := []) H Fs hA hl' hbad)) fun r z => ?_
    cases r with
    | val d ω₂ => exact z.elim
    | exc d ω₂ =>
      obtain ⟨⟨e, T, rfl, h1, h2, h3⟩, z2⟩ := z
      refine ⟨fun b hb => z2.some hb, fun hf2 => ?_⟩
      exact fun Z kz => kz e T ctlMsg rfl h1 (by rw [List.lookup_append, h2]; rfl) (by rw [List.lookup_append, h3]; rfl) [] (fun a o h => by cases h) ⟨_, by rw [hb, if_pos hbad]⟩
  · have hbad' : badStr true (Txt.lower name) = false := by simpa using hbad
    refine callM_mono (callM_of (setd_new (bx := true) (n := n + 1) (rows := []) (value := "x") H Fs hA (Nat.zero_le _) (fun p hp => by cases hp) hl' hbad' hln (by decide) (by rw [hb]; exact hbad') (by decide +kernel) rfl)) fun r z => ?_
    obtain ⟨ω₂, rfl, z2⟩ := z
    refine ⟨fun b hb => ?_, fun hf2 => ?_⟩
    · refine z2.some ?_
      rw [keys_iff] at hb ⊢
      exact hb
    · refine ex_nil ?_
      exact ex_cons (ex_ret (d := .str "") ev_str ⟨_, by rw [hb, if_neg hbad]⟩)
end

section
noncomputable def encB (b : Bool) : D := .bool b
noncomputable def encW (b : Bool) : D := .str (if b = true then ctlMsg else "")
noncomputable def takeOf (cell : Int) : Nat := ((cell.fmod 10).fmod 4).toNat
noncomputable def greatOf (cell : Int) : Bool := (cell.fdiv 10).fmod 2 != 0
noncomputable def calledOf (q : List (Str × Bool)) (cell : Int) : List Str :=
  if greatOf cell = true then (((q.take (takeOf cell)).filter fun p => !p.2).map (·.1)).map Txt.upper else ((q.take (takeOf cell)).filter fun p => !p.2).map (·.1)
theorem zipped_enc (q : List (Str × Bool)) (enc : Bool → D) : zipped (q.map fun p => D.str p.1) (q.map fun p => enc p.2) = q.map fun p => D.tup [.str p.1, enc p.2] := by
  induction q with
  | nil => rfl
  | cons a q ih => exact congrArg (D.tup [.str a.1, enc a.2] :: ·) ih
set_option maxHeartbeats 1000000 in
theorem called_ok {n : Nat} {C pn pv fa : Addr} {fd : FuncData} (H : Hdr K C pn pv) (F : Def K fa (stAt pw_tc0083_02 18) fd) {q : List (Str × Bool)} {enc : Bool → D} {cell : Int} (he : enc = encB ∨ enc = encW) (hq : q.length ≤ 10) (hl : ∀ p ∈ q, (Txt.upper p.1).length ≤ 1000000) :
    CallG prog w K (.ref fa) (n + 1) [.lst (q.map fun p => .str p.1), .lst (q.map fun p => enc p.2), .int cell] (.lst ((calledOf q cell).map .str)) := by
  refine def_call F (xs := ["names", "outs", "cell"]) rfl rfl (fun vs hl => ?_) rfl (by decide) (kinds_ok rfl) ?_
  · obtain ⟨v1, v2, v3, rfl⟩ := len3 hl
    intros; rfl
  conv => arg 7; whnf
  refine ex_sub (ρ' := [kv "names" (.lst (q.map fun p => .str p.1)), kv "outs" (.lst (q.map fun p => enc p.2)), kv "cell" (.int cell)]) ?_ (by walk_at "s") (SubO.refl _)
  obtain ⟨m, em, hm⟩ := fmod_nat (cell.fmod 10) (k := 4) (by decide)
  have hto : takeOf cell = m := by unfold takeOf; rw [show ((4 : Nat) : Int) = 4 from rfl] at em; rw [em, Int.toNat_natCast]
  refine ex_cons ?_
  refine ex_assign_filterL (q.take m) (fun p => .tup [.str p.1, enc p.2]) (fun p => .str p.1) (fun p => !p.2) rfl ?_ (by rw [List.length_take]; lia) (fun p hp => ⟨⟨.inl rfl, .inl rfl, trivial⟩, fun y e hy => Sub.cons (x := "out") rfl y e (Sub.cons (x := "name") rfl y e hy), ?_, fun _ => by walk_at "n"⟩) (.inl rfl) (fun env h => by obtain ⟨sc0, env1⟩ := env; subst h; rfl) ?_
  · refine evi_list (fun _ _ _ => rfl) ?_ fun d hd => ?_
    · have em' : (cell.fmod 10).fmod 4 = (m : Int) := em
      have e : (q.take m).map (fun p => D.tup [.str p.1, enc p.2]) = pickD (zipped (q.map fun p => D.str p.1) (q.map fun p => enc p.2)) none (some ((cell.fmod 10).fmod 4)) none := by
        rw [zipped_enc, em', pickD_to, List.map_take]
      rw [e]
      refine ev_evl (evl_slice (ev_listzip (fun _ => rfl) (fun _ => rfl) (fun _ => rfl) (fun _ => rfl) (H.toTops.ev (by decide) rfl (by decide)) (H.toTops.ev (by decide) rfl (by decide)) (es_cons (fun _ => rfl) (by walk_at "n") (es_cons (fun _ => rfl) (by walk_at "n") es_nil)) (by rw [List.length_map, List.length_map]) (by rw [List.length_map]; lia)) rfl ⟨_, rfl, by walk_at "e"⟩ rfl (by decide) (fun _ _ => by first | exact .inl rfl | exact .inr rfl) (by rw [zipped_enc, List.length_map]; lia))
    · obtain ⟨p, _, rfl⟩ := List.mem_map.mp hd
      exact ⟨_, rfl⟩
  · refine et_not ?_
    rcases he with rfl | rfl
    · exact et_bool (by walk_at "n") fun _ _ => rfl
    · have e : p.2 = (((if p.2 = true then ctlMsg else "" : Str).length : Int) != 0) := by cases p.2 <;> decide +kernel
      rw [e]
      refine et_str ?_ ?_ fun _ _ => rfl
      · cases p.2 <;> decide +kernel
      · rw [← e]; walk_at "n"
  · have hc : calledOf q cell = if greatOf cell = true then (((q.take m).filter fun p => !p.2).map (·.1)).map Txt.upper else ((q.take m).filter fun p => !p.2).map (·.1) := by unfold calledOf; rw [hto]
    have hf : ((q.take m).filter fun p => !p.2).map (fun p => D.str p.1) = (((q.take m).filter fun p => !p.2).map (·.1)).map .str := by rw [List.map_map]; rfl
    have hmem : ∀ x ∈ ((q.take m).filter fun p => !p.2).map (·.1), (Txt.upper x).length ≤ 1000000 := fun x hx => by
      obtain ⟨p, hp, rfl⟩ := List.mem_map.mp hx
      exact hl p (List.mem_of_mem_take (List.mem_filter.mp hp).1)
    have hlen : (((q.take m).filter fun p => !p.2).map (·.1)).length ≤ 10 := by
      rw [List.length_map]
      exact Nat.le_trans (List.length_filter_le _ _) (by rw [List.length_take]; lia)
    rw [hc, hf]
    generalize ((q.take m).filter fun p => !p.2).map (·.1) = called at hmem hlen
    refine ex_cons (ex_ret (d := .lst ((if greatOf cell = true then called.map Txt.upper else called).map .str)) (ev_if (b := greatOf cell) (et_int (i := (cell.fdiv 10).fmod 2) (by walk_at "e") fun _ _ => rfl) (fun h => ?_) fun h => ?_) ⟨_, rfl⟩)
    · rw [if_pos h, List.map_map]
      refine ev_evl (evl_mapL called .str (fun x => .str (Txt.upper x)) rfl (evi_list (fun _ _ _ => rfl) (by walk_at "n") fun d hd => ?_) (by lia) fun x hx => ⟨.inl rfl, Sub.cons (x := "name") rfl, ?_⟩)
      · obtain ⟨p, _, rfl⟩ := List.mem_map.mp hd; trivial
      · exact ev_meth (f := .builtin "str.upper") (d₀ := .str x) (ds := []) (fun _ => rfl) (fun _ => rfl) (.inl ⟨_, rfl⟩) (by walk_at "n") m_upper es_nil (c_upper (Nat.le_trans (hmem x hx) (by decide)))
    · rw [if_neg (by rw [h]; decide)]
      walk_at "n"
end

section
theorem deqL_map {α : Type} [DecidableEq α] {f : D → D → Option Bool} {enc : α → D} (h : ∀ a b, f (enc a) (enc b) = some (decide (a = b))) : ∀ as bs : List α, deqL f (as.map enc) (bs.map enc) = some (decide (as = bs))
  | [], [] => by simp [deqL]
  | [], _ :: _ => by simp [deqL]
  | _ :: _, [] => by simp [deqL]
  | a :: as, b :: bs => by
    rw [List.map_cons, List.map_cons, deqL, h a b, deqL_map h as bs]
    simp only [Option.bind_some, Option.map_some, Option.some.injEq, List.cons.injEq]
    by_cases h1 : a = b <;> by_cases h2 : as = bs <;> simp [h1, h2]
theorem str_beq (a b : Str) : (a == b) = decide (a = b) := by
  by_cases h : a = b
  · subst h; simp
  · rw [decide_eq_false h]
    exact beq_eq_false_iff_ne.mpr h
theorem deq_row (k : Nat) (a b : Str × Str) : deq (k + 1) (rowD a) (rowD b) = some (decide (a = b)) := by
  obtain ⟨a1, a2⟩ := a
  obtain ⟨b1, b2⟩ := b
  have : deq (k + 1) (rowD (a1, a2)) (rowD (b1, b2)) = some ((a1 == b1) && ((a2 == b2) && true)) := by
    unfold rowD
    show deqL (deq k) _ _ = _
    cases k <;> rfl
  rw [this, str_beq, str_beq]
  by_cases h1 : a1 = b1 <;> by_cases h2 : a2 = b2 <;> simp [h1, h2]
section
variable {bx : Fl} {sc scope : Scope} {n : Nat} {ρ : Vars} {ω : Owns} {P : Out → Prop}
theorem ex_assign_mapC {α : Type} {x : Str} {p pos pos' : Pos} {elt t iter : Expr} (l : List α) (g f : α → D) (C : scopeOk scope sc ρ = true) (hi : EVI prog w K sc n ρ iter t (l.map g)) (hl : l.length ≤ 100000)
    (hit : ∀ x ∈ l, TgtOk (KindOk scope) t (g x) ∧ Sub ρ (bindT t (g x) ρ) ∧ EV prog w K (rl scope sc) n (bindT t (g x) ρ) elt (f x))
    (hk : KindOk sc x) (hsw : NoSwap sc (.ListComp elt [⟨t, iter, [], 0⟩] scope pos) x p pos') (h : P (.next ((x, .lst (l.map f)) :: ρ) ω)) :
    EX1 prog w K bx sc n (.Assign [.Name x p] (.ListComp elt [⟨t, iter, [], 0⟩] scope pos) pos') ρ ω P := ex_assign (ev_evl (evl_mapL l g f C hi hl hit)) hk hsw h
end
noncomputable def stD (st : List (Str × Str)) : D := .lst (st.map rowD)
noncomputable def takenB (st : List (Str × Str)) (nm : Str) : Bool := decide (Txt.lower nm ∈ st.map fun p => Txt.lower p.1)
noncomputable def plainOne (called : List Str) (guest : Str) (st : List (Str × Str)) : List (List (Str × Str)) := st :: (called.filter fun nm => !(takenB st nm)).map fun nm => st ++ [(nm, guest)]
noncomputable def plainOf (called : List Str) (guest : Str) (states : List (List (Str × Str))) : List (List (Str × Str)) := states.flatMap (plainOne called guest)
theorem flat_len {α β : Type} {f : α → List β} {b : Nat} : ∀ {l : List α}, (∀ x ∈ l, (f x).length ≤ b) → (l.flatMap f).length ≤ l.length * b
  | [], _ => Nat.zero_le _
  | a :: l, h => by
    rw [List.flatMap_cons, List.length_append, List.length_cons, Nat.succ_mul]
    have h1 := h a (List.mem_cons_self ..)
    have h2 := flat_len (l := l) (f := f) fun x hx => h x (List.mem_cons_of_mem _ hx)
    lia
theorem plainOne_len (called : List Str) (guest : Str) (st : List (Str × Str)) : (plainOne called guest st).length ≤ called.length + 1 := by
  unfold plainOne
  rw [List.length_cons, List.length_map]
  exact Nat.succ_le_succ (List.length_filter_le _ _)
theorem plainOf_take {called : List Str} {guest : Str} {states : List (List (Str × Str))} {i : Nat} {st : List (Str × Str)} (h : states[i]? = some st) : plainOf called guest (states.take (i + 1)) = plainOf called guest (states.take i) ++ plainOne called guest st := by
  unfold plainOf
  rw [List.take_add_one, h, List.flatMap_append]
  simp
theorem str_deq (k : Nat) (a b : Str) : deq k (.str a) (.str b) = some (decide (a = b)) := by
  have : deq k (.str a) (.str b) = some (a == b) := by cases k <;> rfl
  rw [this, str_beq]
set_option maxHeartbeats 1000000 in
theorem plain_ok {n : Nat} {fa : Addr} {fd : FuncData} (F : Def K fa (stAt pw_tc0083_02 20) fd) {states : List (List (Str × Str))} {called : List Str} {guest : Str} (h1 : states.length ≤ 100) (h2 : called.length ≤ 10) (h3 : ∀ st ∈ states, st.length ≤ 10)
    (h4 : ∀ st ∈ states, ∀ p ∈ st, (Txt.lower p.1).length ≤ 1000000) (h5 : ∀ nm ∈ called, (Txt.lower nm).length ≤ 1000000) :
    CallG prog w K (.ref fa) (n + 1) [.lst (states.map stD), .lst (called.map .str), .str guest] (.lst ((plainOf called guest states).map stD)) := by
  refine def_call F (xs := ["states", "called", "guest"]) rfl rfl (fun vs hl => ?_) rfl (by decide) (kinds_ok rfl) ?_
  · obtain ⟨v1, v2, v3, rfl⟩ := len3 hl
    intros; rfl
  conv => arg 7; whnf
  refine ex_sub (ρ' := [kv "states" (.lst (states.map stD)), kv "called" (.lst (called.map .str)), kv "guest" (.str guest)]) ?_ (by walk_at "s") (SubO.refl _)
  refine ex_cons (ex_assignL (evl_list (by decide) es_nil) (.inl rfl) (fun _ _ => rfl) fun q hq hqk => ?_)
  let ρ0 : Vars := [kv "states" (.lst (states.map stD)), kv "called" (.lst (called.map .str)), kv "guest" (.str guest), kv "more" (.val (.ref q))]
  refine ex_sub (ρ' := ρ0) ?_ (by walk_at "s") (SubO.refl _)
  refine ex_cons (ex_for (its := states.map stD) (evi_list (fun _ _ _ => rfl) (by walk_at "n") fun d hd => trivial)
    (fun i ρ ω => ρ = ρ0 ∧ ω = [(q, Ow.lst ((plainOf called guest (states.take i)).map stD))]) ⟨rfl, by rfl⟩ (fun i d hd => .inr rfl) (fun i d ρ ω hd h => ?_) fun ρ ω h => ?_)
  · obtain ⟨z1, z2⟩ := h
    subst z1 z2
    obtain ⟨st, hst, hsi, rfl⟩ := its_get hd
    have hlen : (plainOf called guest (states.take i)).length ≤ 1100 := by
      refine Nat.le_trans (flat_len (b := 11) fun x _ => Nat.le_trans (plainOne_len called guest x) (by lia)) ?_
      rw [List.length_take]; lia
    have h3' := h3 st hst
    have h4' := h4 st hst
    refine ex_sub (ρ' := [kv "states" (.lst (states.map stD)), kv "called" (.lst (called.map .str)), kv "guest" (.str guest), kv "more" (.val (.ref q)), kv "state" (stD st)]) ?_ (by walk_at "s") (SubO.refl _)
    refine ex_cons ?_
    refine ex_assign_mapC st rowD (fun p => .str (Txt.lower p.1)) rfl (evi_list (fun _ _ _ => rfl) (by walk_at "n") fun d hd => ?_) (by lia) (fun p hp => ⟨⟨.inl rfl, .inl rfl, trivial⟩, fun y e hy => Sub.cons (x := "other") rfl y e (Sub.cons (x := "name") rfl y e hy), ?_⟩) (.inr rfl) (fun env h => by obtain ⟨sc0, env1⟩ := env; subst h; rfl) ?_
    · obtain ⟨p, _, rfl⟩ := List.mem_map.mp hd; exact ⟨_, rfl⟩
    · exact ev_meth (f := .builtin "str.lower") (d₀ := .str p.1) (ds := []) (fun _ => rfl) (fun _ => rfl) (.inl ⟨_, rfl⟩) (by walk_at "n") m_lower es_nil (c_lower (Nat.le_trans (h4' p hp) (by decide)))
    refine ex_cons (ex_expr (em_append (ds := (plainOf called guest (states.take i)).map stD) (d := stD st) (fun _ => rfl) (fun _ => rfl) (by walk_at "n") lookup_cons_eq (by walk_at "n") (by rw [List.length_map]; lia) ?_))
    refine ex_cons (ex_expr (em_extend (ds := (plainOf called guest (states.take i)).map stD ++ [stD st]) (es := ((called.filter fun nm => !(takenB st nm)).map fun nm => st ++ [(nm, guest)]).map stD) (fun _ => rfl) (fun _ => rfl) (by walk_at "n") lookup_cons_eq ?_ ?_ ?_))
    · rw [List.map_map]
      refine ev_evl (evl_filterL called .str (fun nm => stD (st ++ [(nm, guest)])) (fun nm => !(takenB st nm)) rfl (evi_list (fun _ _ _ => rfl) (by walk_at "n") fun d hd => ?_) (by lia) fun nm hnm => ⟨.inl rfl, Sub.cons (x := "name") rfl, ?_, fun _ => ?_⟩)
      · obtain ⟨p, _, rfl⟩ := List.mem_map.mp hd; trivial
      · have e : takenB st nm = hasD 0 ((st.map fun p => Txt.lower p.1).map .str) (.str (Txt.lower nm)) := (hasD_of (str_deq 0) _ _).symm
        rw [e, List.map_map]
        refine et_cmp rfl (ev_meth (f := .builtin "str.lower") (d₀ := .str nm) (ds := []) (fun _ => rfl) (fun _ => rfl) (.inl ⟨_, rfl⟩) (by walk_at "n") m_lower es_nil (c_lower (Nat.le_trans (h5 nm hnm) (by decide)))) (by walk_at "n") (cNotInL 0 (by decide) fun d hd => ?_)
        obtain ⟨p, _, rfl⟩ := List.mem_map.mp hd
        exact (congrArg Option.isSome (str_deq 0 _ _))
      · have e : stD (st ++ [(nm, guest)]) = .lst (st.map rowD ++ [rowD (nm, guest)]) := by unfold stD; rw [List.map_append]; rfl
        rw [e]
        refine ev_evl (evl_add (by walk_at "n") (ev_evl (evl_list (by show 1 ≤ 1000; decide) (es_cons (fun _ => rfl) (ev_tuple (ds := [.str nm, .str guest]) (by simp) (es_cons (fun _ => rfl) (by walk_at "n") (es_cons (fun _ => rfl) (by walk_at "n") es_nil))) es_nil))) (by rw [List.length_map]; show st.length + 1 ≤ _; lia))
    · rw [List.length_append, List.length_map, List.length_map, List.length_map]
      have := List.length_filter_le (fun nm => !(takenB st nm)) called
      show (plainOf called guest (states.take i)).length + 1 + _ ≤ _
      lia
    · refine ex_nil ⟨_, _, ⟨rfl, rfl⟩, by walk_at "s", fun b o e => ?_⟩
      rw [plainOf_take hsi] at e
      by_cases hb : b = q
      · rw [hb, lookup_cons_eq] at e ⊢
        cases e
        rw [List.map_append, List.append_assoc]
        rfl
      · rw [lookup_cons_ne hb] at e; cases e
  · obtain ⟨z1, z2⟩ := h
    subst z1 z2
    rw [List.length_map, List.take_length]
    refine ex_freeze (y := "more") rfl lookup_cons_eq hqk (ω' := []) (fun b o eb => by cases eb) rfl ?_
    exact ex_cons (ex_ret (by walk_at "n") ⟨_, rfl⟩)
end

section
theorem sameLow_eq (x y : Str) : sameLow x y = decide (Txt.lower x = Txt.lower y) := by
  unfold sameLow
  by_cases h : Txt.lower x = Txt.lower y
  · rw [h, decide_eq_true rfl, beq_self_eq_true]
  · rw [decide_eq_false h]
    exact beq_eq_false_iff_ne.mpr fun q => h (str_ext q)
theorem taken_none {st : List (Str × Str)} {nm : Str} (h : takenB st nm = false) : st.find? (fun p => sameLow p.1 nm) = none := List.find?_eq_none.mpr fun p hp q => by
  rw [sameLow_eq, decide_eq_true_eq] at q
  unfold takenB at h
  exact of_decide_eq_false h (List.mem_map.mpr ⟨p, hp, q⟩)
theorem taken_some {st : List (Str × Str)} {nm : Str} (h : takenB st nm = true) : ∃ p ∈ st, st.find? (fun p => sameLow p.1 nm) = some p := by
  unfold takenB at h
  obtain ⟨p, hp, e⟩ := List.mem_map.mp (of_decide_eq_true h)
  cases q : st.find? (fun p => sameLow p.1 nm) with
  | none =>
    have := List.find?_eq_none.mp q p hp
    rw [sameLow_eq, decide_eq_true_eq] at this
    exact absurd e this
  | some p' => exact ⟨p', List.mem_of_find?_eq_some q, rfl⟩
theorem seat_back {st : List (Str × Str)} {nm nm' guest : Str} (h : takenB st nm = false) (e : Txt.lower nm' = Txt.lower nm) : (st ++ [(nm, guest)]).filter (fun p => !(sameLow p.1 nm')) = st := by
  rw [List.filter_append]
  have h1 : st.filter (fun p => !(sameLow p.1 nm')) = st := List.filter_eq_self.mpr fun p hp => by
    have := List.find?_eq_none.mp (taken_none h) p hp
    rw [sameLow_eq, e, ← sameLow_eq]
    simpa using this
  have h2 : ([(nm, guest)] : List (Str × Str)).filter (fun p => !(sameLow p.1 nm')) = [] := by
    rw [List.filter_cons, if_neg]
    · rfl
    · show ¬ (!(sameLow nm nm')) = true
      rw [sameLow_eq, e, decide_eq_true rfl]; decide
  rw [h1, h2, List.append_nil]
structure NmOk (nm : Str) : Prop where
  len : nm.length ≤ 1000000
  lo : (Txt.lower nm).length ≤ 1000000
  up : (Txt.upper nm).length ≤ 1000000
  lu : Txt.lower (Txt.upper nm) = Txt.lower nm
  ll : Txt.lower (Txt.lower nm) = Txt.lower nm
  bad : badStr true nm = false
  badl : badStr true (Txt.lower nm) = false
noncomputable def backNm (nm : Str) : Str := if (nm.cps.toList != (Txt.upper nm).cps.toList) = true then Txt.upper nm else Txt.lower nm
theorem NmOk.back {nm : Str} (h : NmOk nm) : Txt.lower (backNm nm) = Txt.lower nm := by
  unfold backNm
  split
  · exact h.lu
  · exact h.ll
section
variable {sc : Scope} {n : Nat} {ρ : Vars}
theorem ev_back {e1 e2 e3 e4 : Expr} {p : Pos} {nm : Str} (hm : behindInMarks .NotEq e2 = false) (h1 : EV prog w K sc n ρ e1 (.str nm)) (h2 : EV prog w K sc n ρ e2 (.str (Txt.upper nm))) (h3 : EV prog w K sc n ρ e3 (.str (Txt.upper nm))) (h4 : EV prog w K sc n ρ e4 (.str (Txt.lower nm))) {p' : Pos} :
    EV prog w K sc n ρ (.IfExp (.Compare e1 [.NotEq] [e2] p') e3 e4 p) (.str (backNm nm)) := by
  refine ev_if (et_cmp hm h1 h2 cNeS) (fun h => ?_) fun h => ?_
  · unfold backNm; rw [if_pos h]; exact h3
  · unfold backNm; rw [if_neg (by rw [h]; decide)]; exact h4
end
theorem seats_take {α : Type} {called : List Str} {p : Str → Bool} {f : Str → α} {j : Nat} {nm : Str} (h : called[j]? = some nm) : ((called.take (j + 1)).filter p).map f = ((called.take j).filter p).map f ++ if p nm = true then [f nm] else [] := by
  rw [List.take_add_one, h, List.filter_append, List.map_append]
  congr 1
  cases hp : p nm <;> simp [hp]
set_option maxHeartbeats 2000000 in
theorem seated_ok {n : Nat} {C pn pv fa : Addr} {fd : FuncData} (H : Hdr K C pn pv) (gC : nsIn K mainGlobals "Headers" = some (some (.ref C))) (kC : keepIn K (.ref C) = true) (F : Def K fa (stAt pw_tc0083_02 19) fd)
    {states : List (List (Str × Str))} {called : List Str} {guest : Str} (h1 : states.length ≤ 100) (h2 : called.length ≤ 10) (h3 : ∀ st ∈ states, st.length ≤ 10)
    (h4 : ∀ st ∈ states, ∀ p ∈ st, NmOk p.1 ∧ badStr false p.2 = false ∧ p.2.length ≤ 1000000 ∧ p.2 ≠ guest) (h5 : ∀ nm ∈ called, NmOk nm) (h6 : badStr false guest = false) (h7 : guest.length ≤ 1000000) :
    CallG prog w K (.ref fa) (n + 7) [.lst (states.map stD), .lst (called.map .str), .str guest] (.lst ((plainOf called guest states).map stD)) := by
  refine def_call F (xs := ["states", "called", "guest"]) rfl rfl (fun vs hl => ?_) rfl (by decide) (kinds_ok rfl) ?_
  · obtain ⟨v1, v2, v3, rfl⟩ := len3 hl
    intros; rfl
  conv => arg 7; whnf
  refine ex_sub (ρ' := [kv "states" (.lst (states.map stD)), kv "called" (.lst (called.map .str)), kv "guest" (.str guest)]) ?_ (by walk_at "s") (SubO.refl _)
  refine ex_cons (ex_assignL (evl_list (by decide) es_nil) (.inl rfl) (fun _ _ => rfl) fun q hq hqk => ?_)
  let ρ0 : Vars := [kv "states" (.lst (states.map stD)), kv "called" (.lst (called.map .str)), kv "guest" (.str guest), kv "more" (.val (.ref q))]
  refine ex_sub (ρ' := ρ0) ?_ (by walk_at "s") (SubO.refl _)
  refine ex_cons (ex_for (its := states.map stD) (evi_list (fun _ _ _ => rfl) (by walk_at "n") fun d hd => trivial)
    (fun i ρ ω => ρ = ρ0 ∧ ω = [(q, Ow.lst ((plainOf called guest (states.take i)).map stD))]) ⟨rfl, by rfl⟩ (fun i d hd => .inl rfl) (fun i d ρ ω hd h => ?_) fun ρ ω h => ?_)
  · obtain ⟨z1, z2⟩ := h
    subst z1 z2
    obtain ⟨st, hst, hsi, rfl⟩ := its_get hd
    have hlen : (plainOf called guest (states.take i)).length ≤ 1100 := by
      refine Nat.le_trans (flat_len (b := 11) fun x _ => Nat.le_trans (plainOne_len called guest x) (by lia)) ?_
      rw [List.length_take]; lia
    have h3' := h3 st hst
    have h4' := h4 st hst
    rw [plainOf_take hsi]
    generalize plainOf called guest (states.take i) = acc at hlen
    refine ex_sub (ρ' := [kv "states" (.lst (states.map stD)), kv "called" (.lst (called.map .str)), kv "guest" (.str guest), kv "more" (.val (.ref q)), kv "state" (stD st)]) ?_ (by walk_at "s") (SubO.refl _)
    refine ex_cons (ex_expr (em_append (ds := acc.map stD) (d := stD st) (fun _ => rfl) (fun _ => rfl) (by walk_at "n") lookup_cons_eq (by walk_at "n") (by rw [List.length_map]; lia) ?_))
    refine ex_sub (ρ' := [kv "states" (.lst (states.map stD)), kv "called" (.lst (called.map .str)), kv "guest" (.str guest), kv "more" (.val (.ref q)), kv "state" (stD st)]) (ω' := [(q, .lst (acc.map stD ++ [stD st]))]) ?_ (by walk_at "s") (subO_one lookup_cons_eq)
    refine ex_cons (ex_assignM (em_callL (b := false) (f := .ref C) (ds := st.map rowD) (fun _ => rfl) (fun _ => rfl) (.inr (.inr kC)) (ev_global rfl gC (by decide)) (evl_listcopy (fun _ => rfl) (fun _ => rfl) (H.toTops.ev (by decide) rfl (by decide)) (by walk_at "n") (by rw [List.length_map]; lia)) (fun h => by cases h) fun l hl hlk => callM_mono (callM_of (make_own (n := n + 1) (rows := st) H (by lia) fun p hp => ⟨(h4' p hp).1.bad, (h4' p hp).2.1, (h4' p hp).1.len, (h4' p hp).2.2.1⟩)) fun r z => ?_) (.inl rfl) (fun _ _ => rfl))
    obtain ⟨x, dx, ω', hA, rfl, hs⟩ := z
    refine ⟨fun b hb => ?_, fun hf => ?_⟩
    · have hb' : b = l := by
        by_cases e : b = l
        · exact e
        · rw [lookup_cons_ne e] at hb; cases hb
      rw [hb']
      exact hs.some (by rw [(own_hdr (C := C) (rows := st) hA).lst]; rfl)
    have hql : q ≠ l := fun e => by rw [← e, lookup_cons_eq] at hl; cases hl
    have fresh : ∀ {a}, (ω'.lookup a).isSome = true → a ≠ l → a ≠ q := fun {a} ha hne e => by
      rcases hf a ha with q1 | ⟨q1, _⟩
      · rw [lookup_cons_ne hne] at q1; cases q1
      · rw [e, lookup_cons_ne hql, lookup_cons_eq] at q1; cases q1
    have O := own_hdr (C := C) (rows := st) hA
    have hqx : q ≠ x := (fresh (hs.some (by rw [O.ins]; rfl)) hA.al.symm).symm
    have hqd : q ≠ dx := (fresh (hs.some (by rw [O.att]; rfl)) hA.dl.symm).symm
    have gen : ∀ (M : List D) (rows : List (Str × Str)), Own1 ((q, Ow.lst M) :: HdrO x C dx l rows) x C dx "_headers" l (rows.map rowD) := fun M rows => by
      have O := own_hdr (C := C) (rows := rows) hA
      exact ⟨by rw [lookup_cons_ne hqx.symm]; exact O.ins, by rw [lookup_cons_ne hqd.symm]; exact O.att, by rw [lookup_cons_ne hql.symm]; exact O.lst⟩
    have hqn : ∀ rows, (HdrO x C dx l rows).lookup q = none := fun rows => by
      unfold HdrO; rw [lookup_cons_ne hqx, lookup_cons_ne hqd, lookup_cons_ne hql]; rfl
    have lift : ∀ {M : List D} {rows : List (Str × Str)} {ω₂ : Owns}, ω₂.lookup q = some (.lst M) → SubO (HdrO x C dx l rows) ω₂ → SubO ((q, Ow.lst M) :: HdrO x C dx l rows) ω₂ := fun {M rows ω₂} h1 h2 => subO_more h1 h2
    let ρ1 : Vars := [kv "states" (.lst (states.map stD)), kv "called" (.lst (called.map .str)), kv "guest" (.str guest), kv "more" (.val (.ref q)), kv "table" (.val (.ref x))]
    let tail : Nat → List D := fun j => ((called.take j).filter fun nm => !(takenB st nm)).map fun nm => stD (st ++ [(nm, guest)])
    have htl : ∀ j, (tail j).length ≤ 10 := fun j => by
      show (((called.take j).filter _).map _).length ≤ 10
      rw [List.length_map]
      exact Nat.le_trans (List.length_filter_le _ _) (by rw [List.length_take]; lia)
    refine ex_sub (ρ' := ρ1) (ω' := (q, Ow.lst (acc.map stD ++ [stD st])) :: HdrO x C dx l st) ?_ (by walk_at "s") (lift (app_old hf (by rw [lookup_cons_ne hql, lookup_cons_eq]) (by rw [lookup_cons_ne hql]; rfl)) (subO_app hs))
    refine ex_cons (ex_for (its := called.map .str) (evi_list (fun _ _ _ => rfl) (by walk_at "n") fun d hd => ?_)
      (fun j ρ ω => ρ = ρ1 ∧ ω = (q, Ow.lst ((acc.map stD ++ [stD st]) ++ tail j)) :: HdrO x C dx l st) ⟨rfl, by rw [show tail 0 = [] from rfl, List.append_nil]⟩ (fun j d hd => .inl rfl) (fun j d ρ ω hd h => ?_) fun ρ ω h => ?_)
    · obtain ⟨p, _, rfl⟩ := List.mem_map.mp hd; trivial
    · obtain ⟨z1, z2⟩ := h
      subst z1 z2
      obtain ⟨nm, hnm, hni, rfl⟩ := its_get hd
      have N := h5 nm hnm
      have htj := htl j
      have hsucc : tail (j + 1) = tail j ++ if (!(takenB st nm)) = true then [stD (st ++ [(nm, guest)])] else [] := seats_take hni
      rw [hsucc]
      generalize hM : (acc.map stD ++ [stD st]) ++ tail j = M
      have hMl : M.length ≤ 2000 := by rw [← hM, List.length_append, List.length_append, List.length_map]; show acc.length + 1 + _ ≤ _; lia
      obtain ⟨fs, fds, Ms, Fs⟩ := H.setd
      let ρ2 : Vars := [kv "states" (.lst (states.map stD)), kv "called" (.lst (called.map .str)), kv "guest" (.str guest), kv "more" (.val (.ref q)), kv "table" (.val (.ref x)), kv "name" (.str nm)]
      refine ex_sub (ρ' := ρ2) ?_ (by walk_at "s") (SubO.refl _)
      have O1 := gen M st
      refine ex_cons (ex_ifCmp rfl (d₂ := .str guest) (by walk_at "n") (em_meth (b := false) (ds := [.str nm, .str guest]) (ω₁ := HdrO x C dx l st) (fun _ => rfl) (fun _ => rfl) (by walk_at "n") H.toClsOk Ms O1.ins O1.att rfl (es_cons (fun _ => rfl) (by walk_at "n") (es_cons (fun _ => rfl) (by walk_at "n") es_nil)) (fun h => by cases h) (fun b o eb => by rw [lookup_cons_ne fun z => by rw [z, hqn] at eb; cases eb]; exact eb) ?_))
      cases ht : takenB st nm with
      | true =>
        obtain ⟨p, hp, hfnd⟩ := taken_some ht
        refine callM_mono (callM_of (setd_old (n := n) (rows := st) (value := guest) H Fs hA (by lia) (fun p hp => (h4' p hp).1.lo) N.lo N.badl hfnd)) fun r z => ?_
        obtain ⟨ω₂, rfl, hs2⟩ := z
        refine ⟨hdr_keys hs2, fun hf2 => ⟨p.2.cps.toList == guest.cps.toList, cEqS, fun h => ?_, fun _ => ?_⟩⟩
        · exact absurd (str_ext (eq_of_beq h)) (h4' p hp).2.2.2
        · refine ex_nil (ex_nil ⟨_, _, ⟨rfl, rfl⟩, by walk_at "s", ?_⟩)
          rw [if_neg (by decide), List.append_nil, hM]
          exact lift (app_old hf2 lookup_cons_eq (hqn _)) (subO_app hs2)
      | false =>
        have hfnd := taken_none ht
        refine callM_mono (callM_of (setd_new (n := n) (rows := st) (value := guest) H Fs hA (by lia) (fun p hp => (h4' p hp).1.lo) N.lo N.badl N.len h7 N.bad h6 hfnd)) fun r z => ?_
        obtain ⟨ω₂, rfl, hs2⟩ := z
        refine ⟨hdr_keys hs2, fun hf2 => ⟨guest.cps.toList == guest.cps.toList, cEqS, fun _ => ?_, fun h => by rw [beq_self_eq_true] at h; cases h⟩⟩
        refine ex_sub (ρ' := ρ2) (ω' := (q, Ow.lst M) :: HdrO x C dx l (st ++ [(nm, guest)])) ?_ (by walk_at "s") (lift (app_old hf2 lookup_cons_eq (hqn _)) (subO_app hs2))
        rw [if_pos (by decide), ← List.append_assoc, hM]
        have hrl : (st ++ [(nm, guest)]).length ≤ 11 := by rw [List.length_append]; show st.length + 1 ≤ 11; lia
        have hlo : ∀ p ∈ st ++ [(nm, guest)], (Txt.lower p.1).length ≤ 1000000 := fun p hp => by
          rcases List.mem_append.mp hp with hp | hp
          · exact (h4' p hp).1.lo
          · rw [List.mem_singleton.mp hp]; exact N.lo
        have hback : (st ++ [(nm, guest)]).filter (fun p => !(sameLow p.1 (backNm nm))) = st := seat_back ht N.back
        have hst2 : Ow.lst (M ++ [.lst ((st ++ [(nm, guest)]).map rowD)]) = Ow.lst (M ++ [stD (st ++ [(nm, guest)])]) := rfl
        generalize st ++ [(nm, guest)] = rows at hrl hlo hback hst2
        have O2 := gen M rows
        obtain ⟨fi, fdi, Mi, Fi⟩ := H.itms
        obtain ⟨f4, fd4, M4, F4⟩ := H.deli
        refine ex_cons (ex_expr (em_appendM (l := q) (ds₀ := M) (fun _ => rfl) (fun _ => rfl) (em_ev (d := .val (.ref q)) (by walk_at "n") rfl) lookup_cons_eq (em_meth (b := false) (ds := []) (ω₁ := HdrO x C dx l rows) (fun _ => rfl) (fun _ => rfl) (by walk_at "n") H.toClsOk Mi O2.ins O2.att rfl es_nil (fun h => by cases h) (fun b o eb => by rw [lookup_cons_ne fun z => by rw [z, hqn] at eb; cases eb]; exact eb)
          (callM_mono (callM_of (items_ok (n := n + 5) (rows := rows) H.toClsOk H.hn Fi hA (by lia))) fun r z => ?_))))
        obtain ⟨c, hc, rfl⟩ := z
        refine ⟨fun b hb => ?_, fun hf3 => ?_⟩
        · by_cases e : b = c
          · rw [e, lookup_cons_eq]; rfl
          · rw [lookup_cons_ne e]; exact hb
        have hcq : c ≠ q := fun e => by
          rcases hf3 c (by rw [lookup_cons_eq]; rfl) with q1 | ⟨q1, _⟩
          · rw [hc] at q1; cases q1
          · rw [e, lookup_cons_eq] at q1; cases q1
        refine ⟨M, app_old hf3 lookup_cons_eq (hqn _), by lia, ?_⟩
        have hsubc : SubO (HdrO x C dx l rows) ((c, Ow.lst (rows.map rowD)) :: HdrO x C dx l rows) := fun b o e => by
          rw [lookup_cons_ne fun z => by rw [z, hc] at e; cases e]; exact e
        refine ex_freezeIn (g := q) (q := c) (pre := M) (ds := rows.map rowD) (ω' := (q, Ow.lst (M ++ [.val (.ref c)])) :: HdrO x C dx l rows) lookup_cons_eq ?_ (by simp) ?_ ?_ (by rw [lookup_cons_eq]; rfl) ?_
        · rw [lookup_cons_ne hcq, List.lookup_append, lookup_cons_eq]; rfl
        · refine subO_more lookup_cons_eq fun b o e => ?_
          have hbq : b ≠ q := fun z => by rw [z, hqn] at e; cases e
          rw [lookup_cons_ne hbq, List.lookup_append, hsubc b o e]; rfl
        · rw [lookup_cons_ne hcq]; exact hc
        rw [hst2]
        refine ex_sub (ρ' := ρ2) (ω' := (q, Ow.lst (M ++ [stD rows])) :: HdrO x C dx l rows) ?_ (by walk_at "s") (subO_more lookup_cons_eq fun b o e => by
          have hbq : b ≠ q := fun z => by rw [z, hqn] at e; cases e
          rw [lookup_cons_ne hbq, lookup_cons_ne hbq]; exact e)
        have O3 := gen (M ++ [stD rows]) rows
        refine ex_cons (ex_delMeth (b := false) (d₁ := .str (backNm nm)) (ω₁ := HdrO x C dx l rows) H.seq M4 O3.ins O3.att (by walk_at "n") (ev_back rfl (by walk_at "n") ?_ ?_ ?_) (fun h => by cases h) (fun b o eb => by rw [lookup_cons_ne fun z => by rw [z, hqn] at eb; cases eb]; exact eb) (callM_mono (callM_of (delitem_ok (n := n + 2) (rows := rows) H F4 hA (by lia) hlo (by rw [N.back]; exact N.lo) (by rw [N.back]; exact N.badl))) fun r z => ?_))
        · exact ev_meth (f := .builtin "str.upper") (d₀ := .str nm) (ds := []) (fun _ => rfl) (fun _ => rfl) (.inl ⟨_, rfl⟩) (by walk_at "n") m_upper es_nil (c_upper (Nat.le_trans N.up (by decide)))
        · exact ev_meth (f := .builtin "str.upper") (d₀ := .str nm) (ds := []) (fun _ => rfl) (fun _ => rfl) (.inl ⟨_, rfl⟩) (by walk_at "n") m_upper es_nil (c_upper (Nat.le_trans N.up (by decide)))
        · exact ev_meth (f := .builtin "str.lower") (d₀ := .str nm) (ds := []) (fun _ => rfl) (fun _ => rfl) (.inl ⟨_, rfl⟩) (by walk_at "n") m_lower es_nil (c_lower (Nat.le_trans N.lo (by decide)))
        · obtain ⟨ω₄, rfl, hs4⟩ := z
          rw [hback] at hs4
          refine ⟨hdr_keys hs4, fun hf4 => ?_⟩
          exact ex_nil (ex_nil ⟨_, _, ⟨rfl, rfl⟩, by walk_at "s", lift (app_old hf4 lookup_cons_eq (hqn _)) (subO_app hs4)⟩)
    · obtain ⟨z1, z2⟩ := h
      subst z1 z2
      rw [List.length_map]
      refine ex_nil ⟨_, _, ⟨rfl, rfl⟩, by walk_at "s", subO_one ?_⟩
      rw [lookup_cons_eq]
      show some (Ow.lst ((acc.map stD ++ [stD st]) ++ ((called.take called.length).filter fun nm => !(takenB st nm)).map fun nm => stD (st ++ [(nm, guest)]))) = _
      rw [List.take_length, List.map_append, List.append_assoc]
      unfold plainOne
      rw [List.map_cons, List.map_map]
      rfl
  · obtain ⟨z1, z2⟩ := h
    subst z1 z2
    rw [List.length_map, List.take_length]
    refine ex_freeze (y := "more") rfl lookup_cons_eq hqk (ω' := []) (fun b o eb => by cases eb) rfl ?_
    exact ex_cons (ex_ret (by walk_at "n") ⟨_, rfl⟩)
end

section
noncomputable def GFn (K : Frag) (name : Str) (i : Nat) : Prop := ∃ fa fd, nsIn K mainGlobals name = some (some (.ref fa)) ∧ keepIn K (.ref fa) = true ∧ Def K fa (stAt pw_tc0083_02 i) fd
noncomputable def guestAt (i : Nat) : Str := (["", "y", "z"] : List Str).getD i ""
noncomputable def crowdN (q : List (Str × Bool)) (cells : List Int) : Nat → List (List (Str × Str)) × List Int
  | 0 => ([[]], [])
  | i + 1 => (plainOf (calledOf q (cells.getD i 0)) (guestAt i) (crowdN q cells i).1, (crowdN q cells i).2 ++ [((calledOf q (cells.getD i 0)).length : Int)])
noncomputable def runAt (p : Int × Nat) : Str := Txt.mul " " (p.1 + 2 - (p.2 : Int)) ++ "\t"
noncomputable def runsOf (hs : List Int) : List Str := (sortZ hs).zipIdx.map runAt
noncomputable def seatsOk (q : List (Str × Bool)) : Prop := ∀ p ∈ q, p.2 = false → NmOk p.1 ∧ NmOk (Txt.upper p.1)
theorem called_len (q : List (Str × Bool)) (cell : Int) : (calledOf q cell).length ≤ 3 := by
  obtain ⟨m, em, hm⟩ := fmod_nat (cell.fmod 10) (k := 4) (by decide)
  have hto : takeOf cell = m := by unfold takeOf; rw [show ((4 : Nat) : Int) = 4 from rfl] at em; rw [em, Int.toNat_natCast]
  have h1 : (((q.take (takeOf cell)).filter fun p => !p.2).map (·.1)).length ≤ 3 := by
    rw [List.length_map, hto]
    exact Nat.le_trans (List.length_filter_le _ _) (by rw [List.length_take]; lia)
  unfold calledOf
  split
  · rw [List.length_map]; exact h1
  · exact h1
theorem called_ok' {q : List (Str × Bool)} (h : seatsOk q) (cell : Int) : ∀ nm ∈ calledOf q cell, NmOk nm := fun nm hn => by
  have h1 : ∀ x ∈ ((q.take (takeOf cell)).filter fun p => !p.2).map (·.1), NmOk x ∧ NmOk (Txt.upper x) := fun x hx => by
    obtain ⟨p, hp, rfl⟩ := List.mem_map.mp hx
    obtain ⟨a, b⟩ := List.mem_filter.mp hp
    exact h p (List.mem_of_mem_take a) (by simpa using b)
  unfold calledOf at hn
  split at hn
  · obtain ⟨x, hx, rfl⟩ := List.mem_map.mp hn
    exact (h1 x hx).2
  · exact (h1 nm hn).1
theorem plain_mem {called : List Str} {g : Str} {states : List (List (Str × Str))} {st' : List (Str × Str)} (h : st' ∈ plainOf called g states) : ∃ st ∈ states, st' = st ∨ ∃ nm ∈ called, st' = st ++ [(nm, g)] := by
  obtain ⟨st, hst, h⟩ := List.mem_flatMap.mp h
  refine ⟨st, hst, ?_⟩
  rcases List.mem_cons.mp h with h | h
  · exact .inl h
  · obtain ⟨nm, hn, rfl⟩ := List.mem_map.mp h
    exact .inr ⟨nm, (List.mem_filter.mp hn).1, rfl⟩
structure CrowdOk (i : Nat) (c : List (List (Str × Str)) × List Int) : Prop where
  len : c.1.length ≤ 4 ^ i
  st : ∀ st ∈ c.1, st.length ≤ i ∧ ∀ p ∈ st, NmOk p.1 ∧ ∃ j, j < i ∧ p.2 = guestAt j
  hl : c.2.length = i
  hs : ∀ h ∈ c.2, 0 ≤ h ∧ h ≤ 3
theorem crowd_inv {q : List (Str × Bool)} (h : seatsOk q) (cells : List Int) : ∀ i, CrowdOk i (crowdN q cells i)
  | 0 => ⟨Nat.le_refl _, fun st hs => by rw [List.mem_singleton.mp hs]; exact ⟨Nat.le_refl _, fun p hp => by cases hp⟩, rfl, fun h hh => by cases hh⟩
  | i + 1 => by
    have I := crowd_inv h cells i
    refine ⟨?_, fun st hs => ?_, ?_, fun h hh => ?_⟩
    · refine Nat.le_trans (flat_len (b := 4) fun x _ => Nat.le_trans (plainOne_len _ _ x) (Nat.succ_le_succ (called_len q _))) ?_
      rw [Nat.pow_succ]; exact Nat.mul_le_mul I.len (Nat.le_refl _)
    · obtain ⟨st0, h0, e⟩ := plain_mem hs
      obtain ⟨a, b⟩ := I.st st0 h0
      rcases e with rfl | ⟨nm, hn, rfl⟩
      · refine ⟨Nat.le_succ_of_le a, fun p hp => ?_⟩
        obtain ⟨x, j, hj, y⟩ := b p hp
        exact ⟨x, j, Nat.lt_succ_of_lt hj, y⟩
      · refine ⟨by rw [List.length_append]; exact Nat.succ_le_succ a, fun p hp => ?_⟩
        rcases List.mem_append.mp hp with hp | hp
        · obtain ⟨x, j, hj, y⟩ := b p hp
          exact ⟨x, j, Nat.lt_succ_of_lt hj, y⟩
        · rw [List.mem_singleton.mp hp]
          exact ⟨called_ok' h _ nm hn, i, Nat.lt_succ_self _, rfl⟩
    · show ((crowdN q cells i).2 ++ _).length = _
      rw [List.length_append, I.hl]; rfl
    · rcases List.mem_append.mp hh with hh | hh
      · exact I.hs h hh
      · rw [List.mem_singleton.mp hh]
        have := called_len q (cells.getD i 0)
        exact ⟨Int.natCast_nonneg _, by lia⟩
theorem guest_ne : ∀ i, i < 3 → ∀ j, j < i → guestAt j ≠ guestAt i := by decide +kernel
theorem guest_ok : ∀ i, i < 3 → badStr false (guestAt i) = false ∧ (guestAt i).length ≤ 10 := by decide +kernel
theorem numbered_idx (xs : List Int) : numbered (xs.map .int) = xs.zipIdx.map fun p => D.tup [.int (p.2 : Int), .int p.1] := by
  unfold numbered
  refine List.ext_getElem? fun i => ?_
  rw [List.getElem?_mapIdx, List.getElem?_map, List.getElem?_map, List.getElem?_zipIdx]
  cases xs[i]? <;> simp
theorem run_len {p : Int × Nat} (h0 : 0 ≤ p.1 + 2 - (p.2 : Int)) (h1 : p.1 + 2 - (p.2 : Int) ≤ 5) : (Txt.mul " " (p.1 + 2 - (p.2 : Int))).length ≤ 5 := by
  have := len_mul " " (p.1 + 2 - (p.2 : Int))
  rw [if_neg (by simp; lia), show ((" " : Str).length : Int) = 1 from rfl, Int.one_mul] at this
  lia
noncomputable def crowdD (c : List (List (Str × Str)) × List Int) : D := .tup [.lst (c.1.map stD), .lst (c.1.map stD), .lst ((runsOf c.2).map .str)]
noncomputable def crowdρ (h : Addr) (cells : List Int) (q : List (Str × Bool)) (c : List (List (Str × Str)) × List Int) : Vars := [kv "cells" (.lst (cells.map .int)), kv "names" (.lst (q.map fun p => .str p.1)), kv "words" (.lst (q.map fun p => encW p.2)), kv "bad" (.lst (q.map fun p => encB p.2)), kv "states" (.lst (c.1.map stD)), kv "plain" (.lst (c.1.map stD)), kv "heights" (.val (.ref h))]
set_option maxHeartbeats 2000000 in
theorem crowd_ok {n : Nat} {C pn pv fa : Addr} {fd : FuncData} (H : Hdr K C pn pv) (gC : nsIn K mainGlobals "Headers" = some (some (.ref C))) (kC : keepIn K (.ref C) = true) (hsrt : nsIn K mainGlobals "sorted" = some none ∧ nsIn K builtinsNs "sorted" = some (some (.builtin "sorted")))
    (fc : GFn K "_law_called" 18) (fs : GFn K "_law_seated" 19) (fp : GFn K "_law_plain" 20) (F : Def K fa (stAt pw_tc0083_02 21) fd) {cells : List Int} {q : List (Str × Bool)} (hc : cells.length = 3) (hq : q.length ≤ 10) (hu : ∀ p ∈ q, (Txt.upper p.1).length ≤ 1000000) (hok : seatsOk q) :
    CallG prog w K (.ref fa) (n + 8) [.lst (cells.map .int), .lst (q.map fun p => .str p.1), .lst (q.map fun p => encW p.2), .lst (q.map fun p => encB p.2)] (crowdD (crowdN q cells 3)) := by
  refine def_call F (xs := ["cells", "names", "words", "bad"]) rfl rfl (fun vs hl => ?_) rfl (by decide) (kinds_ok rfl) ?_
  · obtain ⟨v1, v2, v3, v4, rfl⟩ := len4 hl
    intros; rfl
  conv => arg 7; whnf
  obtain ⟨ac, dc, gc, kc, Fc⟩ := fc
  obtain ⟨as, ds, gs, ks, Fs⟩ := fs
  obtain ⟨ap, dp, gp, kp, Fp⟩ := fp
  refine ex_sub (ρ' := [kv "cells" (.lst (cells.map .int)), kv "names" (.lst (q.map fun p => .str p.1)), kv "words" (.lst (q.map fun p => encW p.2)), kv "bad" (.lst (q.map fun p => encB p.2))]) ?_ (by walk_at "s") (SubO.refl _)
  have ll : ∀ {sc : Scope} {ρ : Vars} {p p' : Pos}, EV prog w K sc (n + 7) ρ (.List [.List [] p] p') (.lst [.lst []]) := ev_evl (evl_list (by decide) (es_cons (fun _ => rfl) (ev_evl (evl_list (by decide) es_nil)) es_nil))
  refine ex_cons (ex_swap3M (em_tuple3L (d₁ := .lst [.lst []]) (d₂ := .lst [.lst []]) (ds := []) (fun _ => rfl) ll ll (evl_list (by decide) es_nil) fun h hh hhk => ⟨_, _, _, rfl, ?_⟩) (.inl rfl) (.inl rfl) (.inl rfl) (fun _ _ => rfl) (fun env h => by obtain ⟨sc0, env1⟩ := env; subst h; rfl))
  refine ex_sub (ρ' := crowdρ h cells q (crowdN q cells 0)) ?_ (by walk_at "s") (SubO.refl _)
  refine ex_cons (ex_for (its := zipped ((["", "y", "z"] : List Str).map .str) (cells.map .int)) (evi_call (f := .type "zip") (ds := [.lst ((["", "y", "z"] : List Str).map .str), .lst (cells.map .int)]) (fun _ => rfl) (fun _ => rfl) (.inr (.inl ⟨_, rfl⟩)) (fun _ _ _ => rfl) (H.toTops.ev (by decide) rfl (by decide)) (es_cons (fun _ => rfl) (ev_evl (evl_list (by decide) (es_cons (fun _ => rfl) ev_str (es_cons (fun _ => rfl) ev_str (es_cons (fun _ => rfl) ev_str es_nil))))) (es_cons (fun _ => rfl) (by walk_at "n") es_nil)) zip2L)
    (fun i ρ ω => ρ = crowdρ h cells q (crowdN q cells i) ∧ ω = [(h, Ow.lst ((crowdN q cells i).2.map .int))]) ⟨rfl, rfl⟩ (fun i d hd => ?_) (fun i d ρ ω hd hz => ?_) fun ρ ω hz => ?_)
  · obtain ⟨x, y, _, _, rfl⟩ := zipped_get hd
    exact ⟨.inl rfl, .inl rfl, trivial⟩
  · obtain ⟨z1, z2⟩ := hz
    subst z1 z2
    obtain ⟨x, y, hx, hy, rfl⟩ := zipped_get hd
    obtain ⟨hi, rfl⟩ := ints_get hy
    rw [hc] at hi
    have hx' : x = .str (guestAt i) := by
      rcases lt3 hi with rfl | rfl | rfl <;> (cases hx; rfl)
    subst hx'
    have I := crowd_inv hok cells i
    have h4i : (4 : Nat) ^ i ≤ 64 := by rcases lt3 hi with rfl | rfl | rfl <;> decide
    have hg := guest_ok i hi
    have hgn := guest_ne i hi
    show EX _ _ _ _ _ _ _ _ _ _
    have hsucc : crowdN q cells (i + 1) = (plainOf (calledOf q (cells.getD i 0)) (guestAt i) (crowdN q cells i).1, (crowdN q cells i).2 ++ [((calledOf q (cells.getD i 0)).length : Int)]) := rfl
    rw [hsucc]
    have hcl := called_len q (cells.getD i 0)
    have hco := called_ok' hok (cells.getD i 0)
    have wW := called_ok (n := n + 6) (prog := prog) (w := w) (cell := cells.getD i 0) H Fc (enc := encW) (.inr rfl) hq hu
    have wB := called_ok (n := n + 6) (prog := prog) (w := w) (cell := cells.getD i 0) H Fc (enc := encB) (.inl rfl) hq hu
    generalize crowdN q cells i = c at I
    generalize cells.getD i 0 = cell at wW wB hcl hco
    generalize calledOf q cell = called at wW wB hcl hco
    generalize guestAt i = g at hg hgn
    have e1 : ∀ st ∈ c.1, st.length ≤ 10 := fun st hs => Nat.le_trans (I.st st hs).1 (by lia)
    have e2 : c.1.length ≤ 100 := Nat.le_trans I.len (by lia)
    let ρ1 : Vars := [kv "cells" (.lst (cells.map .int)), kv "names" (.lst (q.map fun p => .str p.1)), kv "words" (.lst (q.map fun p => encW p.2)), kv "bad" (.lst (q.map fun p => encB p.2)), kv "states" (.lst (c.1.map stD)), kv "plain" (.lst (c.1.map stD)), kv "heights" (.val (.ref h)), kv "guest" (.str g), kv "cell" (.int cell)]
    refine ex_sub (ρ' := ρ1) ?_ (by walk_at "s") (SubO.refl _)
    refine ex_cons (ex_assign (d := .lst ((plainOf called g c.1).map stD)) (ev_call (f := .ref as) (ds := [.lst (c.1.map stD), .lst (called.map .str), .str g]) (fun _ => rfl) (fun _ => rfl) (.inr (.inr ks)) (ev_global rfl gs (by decide)) (es_cons (fun _ => rfl) (by walk_at "n") (es_cons (fun _ => rfl) (ev_call (f := .ref ac) (ds := [.lst (q.map fun p => .str p.1), .lst (q.map fun p => encW p.2), .int cell]) (fun _ => rfl) (fun _ => rfl) (.inr (.inr kc)) (ev_global rfl gc (by decide)) (es_cons (fun _ => rfl) (by walk_at "n") (es_cons (fun _ => rfl) (by walk_at "n") (es_cons (fun _ => rfl) (by walk_at "n") es_nil))) wW) (es_cons (fun _ => rfl) (by walk_at "n") es_nil)))
      (seated_ok (n := n) H gC kC Fs e2 (by lia) e1 (fun st hs p hp => ?_) hco hg.1 (Nat.le_trans hg.2 (by decide)))) (.inl rfl) (fun _ _ => rfl) ?_)
    · obtain ⟨a, j, hj, b⟩ := (I.st st hs).2 p hp
      have hgj := guest_ok j (Nat.lt_trans hj hi)
      exact ⟨a, by rw [b]; exact hgj.1, by rw [b]; exact Nat.le_trans hgj.2 (by decide), by rw [b]; exact hgn j hj⟩
    refine ex_cons (ex_assign (d := .lst (called.map .str)) (ev_call (f := .ref ac) (ds := [.lst (q.map fun p => .str p.1), .lst (q.map fun p => encB p.2), .int cell]) (fun _ => rfl) (fun _ => rfl) (.inr (.inr kc)) (ev_global rfl gc (by decide)) (es_cons (fun _ => rfl) (by walk_at "n") (es_cons (fun _ => rfl) (by walk_at "n") (es_cons (fun _ => rfl) (by walk_at "n") es_nil))) wB) (.inl rfl) (fun _ _ => rfl) ?_)
    refine ex_cons (ex_assign (d := .lst ((plainOf called g c.1).map stD)) (ev_call (f := .ref ap) (ds := [.lst (c.1.map stD), .lst (called.map .str), .str g]) (fun _ => rfl) (fun _ => rfl) (.inr (.inr kp)) (ev_global rfl gp (by decide)) (es_cons (fun _ => rfl) (by walk_at "n") (es_cons (fun _ => rfl) (by walk_at "n") (es_cons (fun _ => rfl) (by walk_at "n") es_nil)))
      (plain_ok (n := n + 6) Fp e2 (by lia) e1 (fun st hs p hp => ((I.st st hs).2 p hp).1.lo) fun nm hn => (hco nm hn).lo)) (.inl rfl) (fun _ _ => rfl) ?_)
    refine ex_cons (ex_expr (em_append (ds := c.2.map .int) (d := .int (called.length : Int)) (fun _ => rfl) (fun _ => rfl) (by walk_at "n") lookup_cons_eq (ev_len (ds := called.map .str) H.toTops (fun _ => rfl) (fun _ => rfl) rfl (by walk_at "n") (by rw [List.length_map]; lia) (by rw [List.length_map])) (by rw [List.length_map, I.hl]; lia) ?_))
    refine ex_nil ⟨_, _, ⟨rfl, rfl⟩, by walk_at "s", subO_one ?_⟩
    rw [lookup_cons_eq, List.map_append]
    rfl
  · obtain ⟨z1, z2⟩ := hz
    subst z1 z2
    have e3 : (zipped ((["", "y", "z"] : List Str).map .str) (cells.map .int)).length = 3 := by
      unfold zipped
      rw [List.length_zipWith, List.length_map, List.length_map, hc]; rfl
    rw [e3]
    have I := crowd_inv hok cells 3
    generalize crowdN q cells 3 = c at I
    refine ex_freeze (y := "heights") rfl lookup_cons_eq hhk (ω' := []) (fun b o eb => by cases eb) rfl ?_
    have hlen : c.2.length ≤ 3 := Nat.le_of_eq I.hl
    have hsl : (sortZ c.2).length = 3 := (sortZ_perm c.2).length_eq.trans I.hl
    unfold crowdD
    refine ex_cons (ex_ret (d := crowdD c) (ev_tuple (ds := [.lst (c.1.map stD), .lst (c.1.map stD), .lst ((runsOf c.2).map .str)]) (by simp) (es_cons (fun _ => rfl) (by walk_at "n") (es_cons (fun _ => rfl) (by walk_at "n") (es_cons (fun _ => rfl) ?_ es_nil)))) ⟨_, rfl⟩)
    unfold runsOf
    rw [List.map_map]
    refine ev_evl (evl_mapL (sortZ c.2).zipIdx (fun p => .tup [.int (p.2 : Int), .int p.1]) (fun p => .str (runAt p)) rfl ?_ (by rw [List.length_zipIdx, hsl]; decide) fun p hp => ⟨⟨.inl rfl, .inl rfl, trivial⟩, fun y e hy => Sub.cons (x := "height") rfl y e (Sub.cons (x := "place") rfl y e hy), ?_⟩)
    · rw [← numbered_idx]
      exact evi_call (f := .type "enumerate") (ds := [.lst ((sortZ c.2).map .int)]) (fun _ => rfl) (fun _ => rfl) (.inr (.inl ⟨_, rfl⟩)) (fun _ _ _ => rfl) (H.toTops.ev (by decide) rfl (by decide)) (es_cons (fun _ => rfl) (ev_call (f := .builtin "sorted") (ds := [.lst (c.2.map .int)]) (fun _ => rfl) (fun _ => rfl) (.inl ⟨_, rfl⟩) (ev_builtin rfl hsrt.1 hsrt.2 (by decide)) (es_cons (fun _ => rfl) (by walk_at "n") es_nil) (c_sorted (by lia))) es_nil) enumL
    · obtain ⟨hp1, hp2, hp3⟩ := List.mem_zipIdx hp
      have hmem : p.1 ∈ c.2 := (sortZ_perm c.2).mem_iff.mp (by rw [hp3]; exact List.getElem_mem _)
      obtain ⟨a, b⟩ := I.hs p.1 hmem
      have hp2' : p.2 < 3 := by lia
      have hr := run_len (p := p) (by lia) (by lia)
      unfold runAt
      exact ev_bin (ev_bin ev_str (by walk_at "e") (bMulS (by decide) (by lia) (by lia))) ev_str (bAddS (Nat.le_trans (Nat.succ_le_succ hr) (by decide)))
end

section
theorem deq_nat (k : Nat) (a b : Nat) : deq k (natD a) (natD b) = some (decide (a = b)) := by
  have : deq k (natD a) (natD b) = some (((a : Int)) == (b : Int)) := by unfold natD; cases k <;> rfl
  rw [this]
  congr 1
  by_cases h : a = b
  · subst h; simp
  · rw [decide_eq_false h]
    exact beq_eq_false_iff_ne.mpr (by lia)

section
variable {n : Nat}
theorem cEqT (k : Nat) {as bs : List D} {b : Bool} (hk : k ≤ 20) (hb : deqL (deq k) as bs = some b) : CmpG prog w K .Eq n (.tup as) (.tup bs) b := fun A U s _ _ rm ok hz hz' => by
  obtain ⟨a, vs, e, _, p, rl⟩ := hz
  obtain ⟨c, us, e', _, p', rl'⟩ := hz'
  subst e e'
  have hu : A.units + 100 * n ≤ 9000 := rm.units
  have hc : cLine = 9900 := rfl
  have hs1 : (List.toArray vs).size = as.length := by rw [List.size_toArray, rl.length]
  have hs2 : (List.toArray us).size = bs.length := by rw [List.size_toArray, rl'.length]
  have main := PySem.SeqAt.RcAt.tuples (A := A) (s := s) (e := fun j => (deq k (as.getD j .none) (bs.getD j .none)).getD false) p p' (by lia) fun j h1 h2 => by
    obtain ⟨c, hc'⟩ := deqL_pre hb j (by rw [← hs1]; exact h1) (by rw [← hs2]; exact h2)
    rw [hc']
    exact eqAt k hc' (rl.arr h1) (rl'.arr h2) (by show A.units + 1 + k < cLine; lia)
  rw [hs1, hs2] at main
  by_cases hlen : as.length = bs.length
  · rw [(deqL_same hb hlen).1]
    rw [hlen, Nat.min_self, beq_self_eq_true, Bool.and_true, ← hlen] at main
    exact main prog w _ _ ⟨Gr.refl s, rfl⟩
  · rw [deqL_len hb hlen]
    rw [beq_eq_false_iff_ne.mpr hlen, Bool.and_false] at main
    exact main prog w _ _ ⟨Gr.refl s, rfl⟩
end
noncomputable def equalOf (s o : WS) : Bool := decide (s.count = o.count) && (decide (s.b = o.b) && true)
noncomputable def tripOf (s o : WS) (k : Nat) : Int × Int × Int := (1 + (k : Int), indentOf s (1 + (k : Int)), indentOf o (1 + (k : Int)))
noncomputable def tripD (p : Int × Int × Int) : D := .tup [.int p.1, .int p.2.1, .int p.2.2]
noncomputable def witTo (s o : WS) (i : Nat) : List (Int × Int × Int) := ((List.range i).filter fun (k : Nat) => indentOf s (1 + (k : Int)) != indentOf o (1 + (k : Int))).map (tripOf s o)
noncomputable def witOf (s o : WS) : List (Int × Int × Int) := witTo s o (max (longest s) (longest o) + 1).toNat
theorem witTo_succ (s o : WS) (i : Nat) : witTo s o (i + 1) = witTo s o i ++ if (indentOf s (1 + (i : Int)) != indentOf o (1 + (i : Int))) = true then [tripOf s o i] else [] := by
  unfold witTo
  rw [List.range_succ, List.filter_append, List.map_append]
  congr 1
  by_cases h : (indentOf s (1 + (i : Int)) != indentOf o (1 + (i : Int))) = true
  · rw [if_pos h, List.filter_cons, if_pos h]; rfl
  · rw [if_neg h, List.filter_cons, if_neg h]; rfl
theorem witTo_len (s o : WS) (i : Nat) : (witTo s o i).length ≤ i := by
  unfold witTo
  rw [List.length_map]
  exact Nat.le_trans (List.length_filter_le _ _) (Nat.le_of_eq (List.length_range ..))
section
variable {n : Nat} {C fa : Addr} {fd : FuncData} {x y : Str} {s o : WS}
theorem equal_ok (H : Wsp K C) (F : Def K fa (clsAt pw_tc0083_02 3 4) fd) : CallG prog w K (.ref fa) (n + 1) [.ins C (wsF x s), .ins C (wsF y o)] (.bool (equalOf s o)) := by
  refine def_call F (xs := ["self", "other"]) rfl rfl (fun vs hl => ?_) rfl (by decide) (kinds_ok rfl) ?_
  · obtain ⟨v1, v2, rfl⟩ := len2 hl
    intros; rfl
  conv => arg 7; whnf
  refine ex_sub (ρ' := [kv "self" (.ins C (wsF x s)), kv "other" (.ins C (wsF y o))]) ?_ (by walk_at "s") (SubO.refl _)
  refine ex_cons (ex_ret (d := .bool (equalOf s o)) (ev_cmp rfl (ev_attr (fun _ => rfl) (by walk_at "n") H.toClsOk lk_norm H.h4 trivial) (ev_attr (fun _ => rfl) (by walk_at "n") H.toClsOk lk_norm H.h4 trivial) (cEqT 2 (by decide) ?_)) ⟨_, rfl⟩)
  have h1 : deq 2 (.tup (s.count.map natD)) (.tup (o.count.map natD)) = some (decide (s.count = o.count)) := deqL_map (deq_nat 1) _ _
  have h2 : deq 2 (.int (s.b : Int)) (.int (o.b : Int)) = some (decide (s.b = o.b)) := deq_nat 2 s.b o.b
  show ((deq 2 (.tup (s.count.map natD)) (.tup (o.count.map natD))).bind fun x => (((deq 2 (.int (s.b : Int)) (.int (o.b : Int))).bind fun x => (some true).map fun y => x && y)).map fun y => x && y) = _
  rw [h1, h2]
  rfl
set_option maxHeartbeats 1000000 in
theorem witness_ok (H : Wsp K C) (F : Def K fa (clsAt pw_tc0083_02 3 5) fd) (hs : okWS s) (ho : okWS o) : CallG prog w K (.ref fa) (n + 2) [.ins C (wsF x s), .ins C (wsF y o)] (.lst ((witOf s o).map tripD)) := by
  refine def_call F (xs := ["self", "other"]) rfl rfl (fun vs hl => ?_) rfl (by decide) (kinds_ok rfl) ?_
  · obtain ⟨v1, v2, rfl⟩ := len2 hl
    intros; rfl
  conv => arg 7; whnf
  obtain ⟨fl, fdl, Ml, Fl⟩ := H.lng
  obtain ⟨fi, fdi, Mi, Fi⟩ := H.ind
  refine ex_sub (ρ' := [kv "self" (.ins C (wsF x s)), kv "other" (.ins C (wsF y o))]) ?_ (by walk_at "s") (SubO.refl _)
  have b1 := longest_le hs
  have b2 := longest_le ho
  let N : Int := max (longest s) (longest o) + 1
  refine ex_cons (ex_assign (d := .int N) (ev_bin (d₁ := .int (max (longest s) (longest o))) (ev_call (f := .builtin "max") (ds := [.int (longest s), .int (longest o)]) (fun _ => rfl) (fun _ => rfl) (.inl ⟨_, rfl⟩) (H.toTops.ev (by decide) rfl (by decide)) (es_cons (fun _ => rfl) (ev_wsMeth (ds := []) (d := .int (longest s)) H.toClsOk Ml (fun _ _ => rfl) (fun _ => rfl) (fun _ => rfl) (by walk_at "n") es_nil (longest_ok H Fl hs)) (es_cons (fun _ => rfl) (ev_wsMeth (ds := []) (d := .int (longest o)) H.toClsOk Ml (fun _ _ => rfl) (fun _ => rfl) (fun _ => rfl) (by walk_at "n") es_nil (longest_ok H Fl ho)) es_nil)) (max_ints _ _)) ev_int bAdd) (.inl rfl) (fun _ _ => rfl) ?_)
  have hN : 0 ≤ N ∧ N ≤ 1001 := by show 0 ≤ max (longest s) (longest o) + 1 ∧ max (longest s) (longest o) + 1 ≤ 1001; lia
  refine ex_cons (ex_assignL (evl_list (by decide) es_nil) (.inl rfl) (fun _ _ => rfl) fun a ha hak => ?_)
  let ρ0 : Vars := [kv "a" (.val (.ref a)), kv "n" (.int N), kv "self" (.ins C (wsF x s)), kv "other" (.ins C (wsF y o))]
  show EX _ _ _ _ _ _ _ ρ0 _ _
  refine ex_cons (ex_for (its := upto 1 (N + 1)) (evi_call (f := .type "range") (ds := [.int 1, .int (N + 1)]) (fun _ => rfl) (fun _ => rfl) (.inr (.inl ⟨_, rfl⟩)) (fun _ _ _ => rfl) (H.toTops.ev (by decide) rfl (by decide)) (es_cons (fun _ => rfl) ev_int (es_cons (fun _ => rfl) (by walk_at "e") es_nil)) (rng2 (by decide) (by lia)))
    (fun i ρ ω => ρ = ρ0 ∧ ω = [(a, Ow.lst ((witTo s o i).map tripD))]) ⟨rfl, rfl⟩ (fun i d h => .inl rfl) (fun i d ρ ω hd h => ?_) fun ρ ω h => ?_)
  · obtain ⟨e1, e2⟩ := h
    subst e1 e2
    obtain ⟨rfl, hi⟩ := upto_get hd
    have hwl := witTo_len s o i
    refine ex_sub (ρ' := [kv "a" (.val (.ref a)), kv "n" (.int N), kv "self" (.ins C (wsF x s)), kv "other" (.ins C (wsF y o)), kv "ts" (.int (1 + (i : Int)))]) ?_ (by walk_at "s") (SubO.refl _)
    rw [witTo_succ]
    refine ex_cons (ex_if (b := indentOf s (1 + (i : Int)) != indentOf o (1 + (i : Int))) (emt_et (et_cmp rfl (ev_wsMeth (ds := [.int (1 + (i : Int))]) H.toClsOk Mi (fun _ _ => rfl) (fun _ => rfl) (fun _ => rfl) (by walk_at "n") (es_cons (fun _ => rfl) (by walk_at "n") es_nil) (indent_ok H Fi hs (by lia) (by lia))) (ev_wsMeth (ds := [.int (1 + (i : Int))]) H.toClsOk Mi (fun _ _ => rfl) (fun _ => rfl) (fun _ => rfl) (by walk_at "n") (es_cons (fun _ => rfl) (by walk_at "n") es_nil) (indent_ok H Fi ho (by lia) (by lia))) cNe)) (fun h => ?_) fun h => ?_)
    · rw [if_pos h]
      refine ex_cons (ex_expr (em_append (ds := (witTo s o i).map tripD) (d := tripD (tripOf s o i)) (fun _ => rfl) (fun _ => rfl) (by walk_at "n") lookup_cons_eq (ev_tuple (ds := [.int (1 + (i : Int)), .int (indentOf s (1 + (i : Int))), .int (indentOf o (1 + (i : Int)))]) (by simp) (es_cons (fun _ => rfl) (by walk_at "n") (es_cons (fun _ => rfl) (ev_wsMeth (ds := [.int (1 + (i : Int))]) H.toClsOk Mi (fun _ _ => rfl) (fun _ => rfl) (fun _ => rfl) (by walk_at "n") (es_cons (fun _ => rfl) (by walk_at "n") es_nil) (indent_ok H Fi hs (by lia) (by lia))) (es_cons (fun _ => rfl) (ev_wsMeth (ds := [.int (1 + (i : Int))]) H.toClsOk Mi (fun _ _ => rfl) (fun _ => rfl) (fun _ => rfl) (by walk_at "n") (es_cons (fun _ => rfl) (by walk_at "n") es_nil) (indent_ok H Fi ho (by lia) (by lia))) es_nil)))) (by rw [List.length_map]; lia) ?_))
      refine ex_nil (ex_nil ⟨_, _, ⟨rfl, rfl⟩, by walk_at "s", subO_one ?_⟩)
      rw [lookup_cons_eq, List.map_append]; rfl
    · rw [if_neg (by rw [h]; decide), List.append_nil]
      exact ex_nil (ex_nil ⟨_, _, ⟨rfl, rfl⟩, by walk_at "s", SubO.refl _⟩)
  · obtain ⟨e1, e2⟩ := h
    subst e1 e2
    have hl : (upto 1 (N + 1)).length = (max (longest s) (longest o) + 1).toNat := by
      have : (upto 1 (N + 1)).length = (N + 1 - 1).toNat := by simp [upto]
      rw [this]
      show (max (longest s) (longest o) + 1 + 1 - 1).toNat = _
      rw [Int.add_sub_cancel]
    rw [hl]
    refine ex_freeze (y := "a") rfl lookup_cons_eq hak (ω' := []) (fun b o eb => by cases eb) rfl ?_
    exact ex_cons (ex_ret (by walk_at "n") ⟨_, rfl⟩)
end
end

section
structure LawK (K : Frag) (C W pn pv : Addr) : Prop where
  H : Hdr K C pn pv
  Wh : Wsp K W
  gC : nsIn K mainGlobals "Headers" = some (some (.ref C))
  kC : keepIn K (.ref C) = true
  srt : nsIn K mainGlobals "sorted" = some none ∧ nsIn K builtinsNs "sorted" = some (some (.builtin "sorted"))
  e0 : GFn K "_escape_cdata" 10
  e1 : GFn K "_escape_attrib" 11
  e2 : GFn K "_escape_attrib_html" 12
  e3 : GFn K "_escape_cdata_c14n" 13
  e4 : GFn K "_escape_attrib_c14n" 14
  spl : GFn K "_law_spelled" 16
  rfs : GFn K "_law_refusal" 17
  cal : GFn K "_law_called" 18
  sea : GFn K "_law_seated" 19
  pla : GFn K "_law_plain" 20
  cro : GFn K "_law_crowd" 21
noncomputable def escOf : Nat → Str → Str
  | 0 => escA
  | 1 => escB
  | 2 => escC
  | 3 => escD
  | _ => escE
section
variable {n : Nat} {C W pn pv : Addr}
theorem ws_ok (H : Wsp K W) {t : Str} (ht : t.length ≤ 1000) : CallG prog w K (.ref W) (n + 2) [.str t] (.ins W (wsF t (wsOf t))) := by
  obtain ⟨f, fd, M, F⟩ := H.make
  refine callG_ins (fun p hp => ?_) (callM_of (call_class M fun x dx hne _ _ => callC_mono (winit_ok (n := n) (t := t) H F hne.symm ht) fun r q => ?_))
  · unfold wsF at hp ⊢
    simp only [List.mem_cons, List.not_mem_nil, or_false] at hp
    rcases hp with rfl | rfl | rfl | rfl | rfl <;> rfl
  · obtain ⟨ω, rfl, h1, h2⟩ := q
    exact ⟨rfl, x, dx, ω, rfl, h1, h2⟩
theorem write_ok (L : LawK K C W pn pv) {hand : Nat} (hh : hand < 5) : ∃ e0 e1 e2 e3 e4 : Addr, nsIn K mainGlobals "_escape_cdata" = some (some (.ref e0)) ∧ nsIn K mainGlobals "_escape_attrib" = some (some (.ref e1)) ∧ nsIn K mainGlobals "_escape_attrib_html" = some (some (.ref e2)) ∧
    nsIn K mainGlobals "_escape_cdata_c14n" = some (some (.ref e3)) ∧ nsIn K mainGlobals "_escape_attrib_c14n" = some (some (.ref e4)) ∧
    ∃ f, ([D.val (.ref e0), .val (.ref e1), .val (.ref e2), .val (.ref e3), .val (.ref e4)] : List D)[hand]? = some (.val (.ref f)) ∧ keepIn K (.ref f) = true ∧ ∀ (n : Nat) (x : Str), x.length ≤ 12 → CallG prog w K (.ref f) (n + 1) [.str x] (.str (escOf hand x)) := by
  obtain ⟨a0, d0, g0, k0, F0⟩ := L.e0
  obtain ⟨a1, d1, g1, k1, F1⟩ := L.e1
  obtain ⟨a2, d2, g2, k2, F2⟩ := L.e2
  obtain ⟨a3, d3, g3, k3, F3⟩ := L.e3
  obtain ⟨a4, d4, g4, k4, F4⟩ := L.e4
  refine ⟨a0, a1, a2, a3, a4, g0, g1, g2, g3, g4, ?_⟩
  rcases lt5 hh with rfl | rfl | rfl | rfl | rfl
  · exact ⟨a0, rfl, k0, fun n x hx => escA_ok F0 hx⟩
  · exact ⟨a1, rfl, k1, fun n x hx => escB_ok F1 hx⟩
  · exact ⟨a2, rfl, k2, fun n x hx => escC_ok F2 hx⟩
  · exact ⟨a3, rfl, k3, fun n x hx => escD_ok F3 hx⟩
  · exact ⟨a4, rfl, k4, fun n x hx => escE_ok F4 hx⟩
end
noncomputable def lawSc : Scope := (fnScope (stAt pw_tc0083_02 22)).getD default
noncomputable def lawFrom (k : Nat) : List Stmt := (fnBody (stAt pw_tc0083_02 22)).drop k
noncomputable def lawStmt (k : Nat) : Stmt := (fnBody (stAt pw_tc0083_02 22)).getD k (.Pass ⟨0, 0, 0, 0⟩)
theorem lawFrom_cons {k : Nat} (h : k < 17) : lawFrom k = lawStmt k :: lawFrom (k + 1) := by
  have hl : (fnBody (stAt pw_tc0083_02 22)).length = 17 := by decide +kernel
  unfold lawFrom lawStmt
  rw [List.drop_eq_getElem_cons (by rw [hl]; exact h)]
  congr 1
  simp [List.getD, List.getElem?_eq_getElem (show k < (fnBody (stAt pw_tc0083_02 22)).length by rw [hl]; exact h)]
theorem law_step {n k : Nat} {P : Out → Prop} {ρ ρs ρ' : Vars} {ω ω' : Owns} (hk : k < 17) (hs : Sub ρs ρ) (h1 : ∀ Q : Out → Prop, Q (.next ρ' ω') → EX1 prog w K ⟨true, []⟩ lawSc n (lawStmt k) ρs ω Q)
    (h2 : EX prog w K ⟨true, []⟩ lawSc n (lawFrom (k + 1)) ρ' ω' P) : EX prog w K ⟨true, []⟩ lawSc n (lawFrom k) ρ ω P := by
  rw [lawFrom_cons hk]
  exact ex_sub (ex_cons (h1 _ h2)) hs (SubO.refl _)
noncomputable def signsL : List Str := ["x", "&", "<", ">", "\"", "\t", "\n", "\r", ";", "B"]
noncomputable def startS (s : Nat) : Str := ("a" ++ signsL.getD s "") ++ "&"
noncomputable def namesS (hand s : Nat) : List Str := [startS s, escOf hand (startS s), escOf hand (escOf hand (startS s))]
noncomputable def dueS (hand s : Nat) : List Str := [startS s, spelled hand (startS s), spelled hand (spelled hand (startS s))]
noncomputable def badOne (x : Str) : Bool := !decide ((x.cps.toList.filter fun c => decide (c ∈ [9, 10, 13])) = [])
noncomputable def strsD (l : List Str) : D := .lst (l.map .str)
theorem signs_at {s : Nat} (h : s < 10) : (signsL.map D.str)[s]? = some (.str (signsL.getD s "")) := by
  rw [List.getElem?_map, List.getD_eq_getElem?_getD, List.getElem?_eq_getElem (show s < signsL.length from h)]; rfl
theorem signs_len {s : Nat} (h : s < 10) : (signsL.getD s "").length = 1 := by
  have : ∀ s : Fin 10, (signsL.getD s.val "").length = 1 := by decide +kernel
  exact this ⟨s, h⟩
section
variable {n : Nat} {C W pn pv : Addr} {P : Out → Prop} {ω : Owns}
set_option maxHeartbeats 1000000 in
theorem seg_cells (L : LawK K C W pn pv) {ys : List Int} (hys : ys.length ≤ 63) (h : ∀ cells : List Int, cells.length = 6 → EX prog w K ⟨true, []⟩ lawSc n (lawFrom 1) [kv "cells" (.lst (cells.map .int))] [] P) :
    EX prog w K ⟨true, []⟩ lawSc n (lawFrom 0) [kv "script" (.lst (ys.map .int))] [] P := by
  have h60 : ∃ zs : List Int, pickD (ys.map .int) none (some 60) none = zs.map .int ∧ zs.length ≤ 60 := by
    have := pickD_to (ys.map .int) 60
    refine ⟨ys.take 60, by rw [List.map_take]; exact this, by rw [List.length_take]; lia⟩
  obtain ⟨zs, hz, hzl⟩ := h60
  have hcnt : ∀ m : Fin 61, ∀ i : Fin 6, (sliceRange (sliceBounds (some ((i.val : Nat) : Int)) none (some 6) m.val).1 (sliceBounds (some ((i.val : Nat) : Int)) none (some 6) m.val).2.1 (sliceBounds (some ((i.val : Nat) : Int)) none (some 6) m.val).2.2).length ≤ 100 := by decide +kernel
  have hst : ∀ i : Nat, ∃ l : List Int, pickD (zs.map .int) (some (i : Int)) none (some 6) = l.map .int := fun i => by
    obtain ⟨l, e, _⟩ := pickD_map .int zs (some (i : Int)) none (some 6)
    exact ⟨l, e⟩
  let sl (i : Nat) : List Int := Classical.choose (hst i)
  have hsl : ∀ i : Nat, pickD (zs.map .int) (some (i : Int)) none (some 6) = (sl i).map .int := fun i => Classical.choose_spec (hst i)
  let begins : List (Nat × Int) := [(0, 2), (1, 12), (2, 2), (3, 4), (4, 13), (5, 3)]
  conv => arg 5; whnf
  conv => arg 7; whnf
  refine ex_cons (ex_assign_mapL begins (fun p => .tup [.int p.1, .int p.2]) (fun p => .int (p.2 + iSum ((sl p.1).map fun x => x.fmod 1000000))) rfl (evi_call (f := .type "enumerate") (ds := [.tup [.int 2, .int 12, .int 2, .int 4, .int 13, .int 3]]) (fun _ => rfl) (fun _ => rfl) (.inr (.inl ⟨_, rfl⟩)) (fun _ _ _ => rfl) (L.H.toTops.ev (by decide) rfl (by decide)) (es_cons (fun _ => rfl) (ev_tuple (by decide) (es_cons (fun _ => rfl) ev_int (es_cons (fun _ => rfl) ev_int (es_cons (fun _ => rfl) ev_int (es_cons (fun _ => rfl) ev_int (es_cons (fun _ => rfl) ev_int (es_cons (fun _ => rfl) ev_int es_nil))))))) es_nil) enumT) (by decide) (fun p hp => ⟨⟨.inl rfl, .inl rfl, trivial⟩, fun y e hy => Sub.cons (x := "begin") rfl y e (Sub.cons (x := "place") rfl y e hy), ?_⟩) (.inl rfl) (fun env h => by obtain ⟨sc0, env1⟩ := env; subst h; rfl) ?_)
  · refine ev_bin (by walk_at "n") (ev_call (f := .builtin "sum") (ds := [.lst (((sl p.1).map fun x => x.fmod 1000000).map .int)]) (fun _ => rfl) (fun _ => rfl) (.inl ⟨_, rfl⟩) (L.H.toTops.ev (by decide) rfl (by decide)) (es_cons (fun _ => rfl) ?_ es_nil) (sum_lst _)) bAdd
    rw [List.map_map]
    refine ev_evl (evl_mapL (sl p.1) .int (fun x => .int (x.fmod 1000000)) rfl (evi_list (fun _ _ _ => rfl) ?_ fun d hd => trivial) ?_ fun x hx => ⟨.inl rfl, Sub.cons (x := "x") rfl, ev_bin (by walk_at "n") ev_int (bMod (by decide))⟩)
    · rw [← hsl]
      exact ev_evl (evl_slice (ev_evl (by rw [← hz]; exact evl_slice (by walk_at "n") rfl ⟨_, rfl, ev_int⟩ rfl (by decide) (fun _ _ => by first | exact .inl rfl | exact .inr rfl) (by rw [List.length_map]; lia))) ⟨_, rfl, by walk_at "n"⟩ rfl ⟨_, rfl, ev_int⟩ (by decide) (fun _ _ => by first | exact .inl rfl | exact .inr rfl) (by rw [List.length_map]; lia))
    · have hp6 : p.1 < 6 := by
        have : ∀ p ∈ begins, p.1 < 6 := by decide
        exact this p hp
      have e1 : (sl p.1).length = (pickD (zs.map .int) (some (p.1 : Int)) none (some 6)).length := by rw [hsl, List.length_map]
      have e2 : (pickD (zs.map .int) (some (p.1 : Int)) none (some 6)).length ≤ 100 := by
        unfold pickD
        rw [List.length_map]
        exact Nat.le_trans (List.length_filterMap_le _ _) (hcnt ⟨zs.length, by lia⟩ ⟨p.1, hp6⟩)
      lia
  · have := h (begins.map fun p => p.2 + iSum ((sl p.1).map fun x => x.fmod 1000000)) rfl
    rw [List.map_map] at this
    exact ex_sub this (by walk_at "s") (SubO.refl _)
theorem st_hand (L : LawK K C W pn pv) {cells : List Int} {hand : Nat} (hh : (iSum cells).fmod 5 = (hand : Int)) (h : P (.next [kv "hand" (.int hand), kv "cells" (.lst (cells.map .int))] ω)) :
    EX1 prog w K ⟨true, []⟩ lawSc n (lawStmt 1) [kv "cells" (.lst (cells.map .int))] ω P := by
  conv => arg 5; whnf; zeta
  conv => arg 7; whnf; zeta
  (with_reducible refine ex_assign (d := .int hand) ?e ?k ?s h)
  case k => exact .inl rfl
  case s => exact fun _ _ => rfl
  case e =>
    rw [← hh]
    exact ev_bin (ev_call (f := .builtin "sum") (ds := [.lst (cells.map .int)]) (fun _ => rfl) (fun _ => rfl) (.inl ⟨_, rfl⟩) (L.H.toTops.ev (by decide) rfl (by decide)) (es_cons (fun _ => rfl) (by walk_at "n") es_nil) (sum_lst _)) ev_int (bMod (by decide))
theorem st_write {d1 : D} {hand : Nat} {e0 e1 e2 e3 e4 f : Addr} (g0 : nsIn K mainGlobals "_escape_cdata" = some (some (.ref e0))) (g1 : nsIn K mainGlobals "_escape_attrib" = some (some (.ref e1))) (g2 : nsIn K mainGlobals "_escape_attrib_html" = some (some (.ref e2)))
    (g3 : nsIn K mainGlobals "_escape_cdata_c14n" = some (some (.ref e3))) (g4 : nsIn K mainGlobals "_escape_attrib_c14n" = some (some (.ref e4))) (hf : ([D.val (.ref e0), .val (.ref e1), .val (.ref e2), .val (.ref e3), .val (.ref e4)] : List D)[hand]? = some (.val (.ref f))) (hh5 : hand < 5)
    (h : P (.next [kv "write" (.val (.ref f)), kv "hand" (.int hand), kv "cells" d1] ω)) :
    EX1 prog w K ⟨true, []⟩ lawSc n (lawStmt 2) [kv "hand" (.int hand), kv "cells" d1] ω P := by
  conv => arg 5; whnf; zeta
  conv => arg 7; whnf; zeta
  exact ex_assign (d := .val (.ref f)) (ev_titem (ds := [.val (.ref e0), .val (.ref e1), .val (.ref e2), .val (.ref e3), .val (.ref e4)]) (k := hand) (i := (hand : Int)) (fun _ _ => by first | exact .inl rfl | exact .inr rfl) (ev_tuple (by simp) (es_cons (fun _ => rfl) (ev_global rfl g0 (by decide)) (es_cons (fun _ => rfl) (ev_global rfl g1 (by decide)) (es_cons (fun _ => rfl) (ev_global rfl g2 (by decide)) (es_cons (fun _ => rfl) (ev_global rfl g3 (by decide)) (es_cons (fun _ => rfl) (ev_global rfl g4 (by decide)) es_nil)))))) (by walk_at "n") (by lia) (by lia) (seq_at hh5) hf) (.inl rfl) (fun _ _ => rfl) h
set_option maxHeartbeats 2000000 in
theorem st_start (L : LawK K C W pn pv) {d1 d2 : D} {cells : List Int} {s : Nat} (hs : ((iSum cells).fdiv 10).fmod 10 = (s : Int)) (hs10 : s < 10) (h : P (.next [kv "start" (.str (startS s)), kv "write" d1, kv "hand" d2, kv "cells" (.lst (cells.map .int))] ω)) :
    EX1 prog w K ⟨true, []⟩ lawSc n (lawStmt 3) [kv "write" d1, kv "hand" d2, kv "cells" (.lst (cells.map .int))] ω P := by
  conv => arg 5; whnf; zeta
  conv => arg 7; whnf; zeta
  (with_reducible refine ex_assign (d := .str (startS s)) ?e ?k ?s h)
  case k => exact .inl rfl
  case s => exact fun _ _ => rfl
  case e =>
    unfold startS
    (with_reducible refine ev_bin (ev_bin ev_str ?i (bAddS ?b1)) ev_str (bAddS ?b2))
    case b1 => rw [signs_len hs10]; decide
    case b2 =>
      show (("a" : Str).cps ++ (signsL.getD s "").cps).size + 1 ≤ 2 ^ 24
      rw [Array.size_append]
      have := signs_len hs10
      have e : (signsL.getD s "").cps.size = 1 := this
      rw [e]; decide
    case i =>
      (with_reducible refine ev_item (ds := signsL.map .str) (i := (s : Int)) ?q1 ?q2 ?q3 ?q4 ?q5 ?q6)
      case q1 => exact fun _ _ => by first | exact .inl rfl | exact .inr rfl
      case q2 =>
        show EV _ _ _ _ _ _ _ (.lst [.str "x", .str "&", .str "<", .str ">", .str "\"", .str "\t", .str "\n", .str "\r", .str ";", .str "B"])
        (with_reducible refine ev_evl (evl_list ?l ?e2))
        case l => simp
        (with_reducible refine es_cons ?_ ev_str ?_); · exact fun _ => rfl
        (with_reducible refine es_cons ?_ ev_str ?_); · exact fun _ => rfl
        (with_reducible refine es_cons ?_ ev_str ?_); · exact fun _ => rfl
        (with_reducible refine es_cons ?_ ev_str ?_); · exact fun _ => rfl
        (with_reducible refine es_cons ?_ ev_str ?_); · exact fun _ => rfl
        (with_reducible refine es_cons ?_ ev_str ?_); · exact fun _ => rfl
        (with_reducible refine es_cons ?_ ev_str ?_); · exact fun _ => rfl
        (with_reducible refine es_cons ?_ ev_str ?_); · exact fun _ => rfl
        (with_reducible refine es_cons ?_ ev_str ?_); · exact fun _ => rfl
        (with_reducible refine es_cons ?_ ev_str ?_); · exact fun _ => rfl
        exact es_nil
      case q3 =>
        rw [← hs]
        exact ev_bin (ev_bin (ev_call (f := .builtin "sum") (ds := [.lst (cells.map .int)]) (fun _ => rfl) (fun _ => rfl) (.inl ⟨_, rfl⟩) (L.H.toTops.ev (by decide) rfl (by decide)) (es_cons (fun _ => rfl) (by walk_at "n") es_nil) (sum_lst _)) ev_int (bDiv (by decide) (by decide))) ev_int (bMod (by decide))
      case q4 => lia
      case q5 => lia
      case q6 => rw [Int.toNat_natCast]; exact signs_at hs10
theorem st_names {d2 d3 : D} {hand s : Nat} {f : Addr} (kf : keepIn K (.ref f) = true) (hcall : ∀ (n : Nat) (x : Str), x.length ≤ 12 → CallG prog w K (.ref f) (n + 1) [.str x] (.str (escOf hand x))) (h1 : (startS s).length ≤ 12) (h2 : (escOf hand (startS s)).length ≤ 12)
    (h : P (.next [kv "names" (strsD (namesS hand s)), kv "start" (.str (startS s)), kv "write" (.val (.ref f)), kv "hand" d2, kv "cells" d3] ω)) :
    EX1 prog w K ⟨true, []⟩ lawSc (n + 1) (lawStmt 4) [kv "start" (.str (startS s)), kv "write" (.val (.ref f)), kv "hand" d2, kv "cells" d3] ω P := by
  conv => arg 5; whnf; zeta
  conv => arg 7; whnf; zeta
  (with_reducible refine ex_assign (d := strsD (namesS hand s)) ?e ?k ?s h)
  case k => exact .inl rfl
  case s => exact fun _ _ => rfl
  case e =>
    show EV _ _ _ _ _ _ _ (.lst [.str (startS s), .str (escOf hand (startS s)), .str (escOf hand (escOf hand (startS s)))])
    have wr : ∀ {e : Expr} {p1 p2 : Pos} {x : Str} {ρ : Vars}, x.length ≤ 12 → EV prog w K lawSc (n + 1) ρ (.Name "write" p1) (.val (.ref f)) → EV prog w K lawSc (n + 1) ρ e (.str x) → (∀ env, starEach [e] env = [(false, eval e env)]) → (∀ env, eval (.Call (.Name "write" p1) [e] [] p2) env = (do callWith p2 (← eval (.Name "write" p1) env) [] (backTo p2 (starEach [e] env)) (backToKw p2 (keywordEach [] env)))) →
        EV prog w K lawSc (n + 1) ρ (.Call (.Name "write" p1) [e] [] p2) (.str (escOf hand x)) := fun hx hw he hse hsh =>
      ev_call hsh (fun env => by rw [hse]; rfl) (.inr (.inr kf)) hw (es_cons hse he es_nil) (hcall n _ hx)
    exact ev_evl (evl_list (by show 3 ≤ 1000; decide) (es_cons (fun _ => rfl) (by walk_at "n") (es_cons (fun _ => rfl) (wr h1 (by walk_at "n") (by walk_at "n") (fun _ => rfl) fun _ => rfl) (es_cons (fun _ => rfl) (wr h2 (by walk_at "n") (wr h1 (by walk_at "n") (by walk_at "n") (fun _ => rfl) fun _ => rfl) (fun _ => rfl) fun _ => rfl) es_nil))))
end
end

section
noncomputable def wordOf (x : Str) : Str := if badStr true x = true then ctlMsg else ""
theorem deq_sign (k : Nat) (a b : Nat) : deq k (.str ⟨#[a]⟩) (.str ⟨#[b]⟩) = some (decide (a = b)) := by
  have h : deq k (.str ⟨#[a]⟩) (.str ⟨#[b]⟩) = some ((⟨#[a]⟩ : Str) == ⟨#[b]⟩) := by cases k <;> rfl
  rw [h, str_beq]
  congr 1
  by_cases e : a = b
  · subst e; simp
  · rw [decide_eq_false e, decide_eq_false fun q => e (by simpa using q)]
section
variable {n : Nat} {C W pn pv : Addr} {P : Out → Prop} {ω : Owns}
set_option maxHeartbeats 1000000 in
theorem st_words (L : LawK K C W pn pv) {d1 d2 d3 : D} {nms : List Str} (hn : nms.length = 3) (hok : ∀ x ∈ nms, x.length ≤ 1000 ∧ (Txt.lower x).length ≤ 1000 ∧ badStr true x = badStr true (Txt.lower x)) (h : P (.next [kv "words" (strsD (nms.map wordOf)), kv "names" (strsD nms), kv "start" d1, kv "hand" d2, kv "cells" d3] ω)) :
    EX1 prog w K ⟨true, []⟩ lawSc (n + 8) (lawStmt 5) [kv "names" (strsD nms), kv "start" d1, kv "hand" d2, kv "cells" d3] ω P := by
  conv => arg 5; whnf; zeta
  conv => arg 7; whnf; zeta
  obtain ⟨fr, fdr, gr, kr, Fr⟩ := L.rfs
  refine ex_assignCS (its := nms.map .str) (r := fun i => .str (wordOf (nms.getD i ""))) (CompScope.of rfl) (by decide) (evi_list (fun _ _ _ => rfl) (by walk_at "n") fun d hd => ?_) (fun i d hd => ?_) (by rw [List.length_map]; lia) rfl (.inl rfl) (fun env h => by obtain ⟨sc0, env1⟩ := env; subst h; rfl) ?_
  · obtain ⟨x, _, rfl⟩ := List.mem_map.mp hd; trivial
  · obtain ⟨x, hx, hxi, rfl⟩ := its_get hd
    have e : nms.getD i "" = x := by rw [List.getD_eq_getElem?_getD, hxi]; rfl
    rw [e]
    obtain ⟨h1, h2, h3⟩ := hok x hx
    refine ⟨.inl rfl, Sub.cons (x := "name") rfl, elt_call (f := .ref fr) (ds := [.str x]) (fun _ => rfl) (fun _ => rfl) (.inr (.inr kr)) (ev_global rfl gr (by decide)) (es_cons (fun _ => rfl) (by walk_at "n") es_nil) trivial (callM_mono (callM_of (refusal_ok (n := n) L.H L.gC L.kC Fr (Nat.le_trans h1 (by decide)) (Nat.le_trans h2 (by decide)) h3)) fun r z => z)⟩
  · have e : (List.range (nms.map D.str).length).map (fun i => D.str (wordOf (nms.getD i ""))) = (nms.map wordOf).map .str := by
      obtain ⟨a, b, c, rfl⟩ := len3 hn
      rfl
    rw [e]; exact h
theorem st_due (L : LawK K C W pn pv) {d1 d2 d3 : D} {hand s : Nat} (hh : hand < 5) (h1 : (startS s).length ≤ 10000) (h2 : (spelled hand (startS s)).length ≤ 10000) (h : P (.next [kv "due" (strsD (dueS hand s)), kv "words" d1, kv "names" d2, kv "start" (.str (startS s)), kv "hand" (.int hand), kv "cells" d3] ω)) :
    EX1 prog w K ⟨true, []⟩ lawSc (n + 8) (lawStmt 6) [kv "words" d1, kv "names" d2, kv "start" (.str (startS s)), kv "hand" (.int hand), kv "cells" d3] ω P := by
  conv => arg 5; whnf; zeta
  conv => arg 7; whnf; zeta
  obtain ⟨fr, fdr, gr, kr, Fr⟩ := L.spl
  (with_reducible refine ex_assign (d := strsD (dueS hand s)) ?e ?k ?s h)
  case k => exact .inl rfl
  case s => exact fun _ _ => rfl
  case e =>
    show EV _ _ _ _ _ _ _ (.lst [.str (startS s), .str (spelled hand (startS s)), .str (spelled hand (spelled hand (startS s)))])
    have sp : ∀ {e1 e2 : Expr} {p1 p2 : Pos} {x : Str} {ρ : Vars}, x.length ≤ 10000 → EV prog w K lawSc (n + 8) ρ e1 (.int hand) → EV prog w K lawSc (n + 8) ρ e2 (.str x) → (∀ env, starEach [e1, e2] env = (false, eval e1 env) :: starEach [e2] env) → (∀ env, starEach [e2] env = (false, eval e2 env) :: starEach [] env) → (∀ env, eval (.Call (.Name "_law_spelled" p1) [e1, e2] [] p2) env = (do callWith p2 (← eval (.Name "_law_spelled" p1) env) [] (backTo p2 (starEach [e1, e2] env)) (backToKw p2 (keywordEach [] env)))) →
        EV prog w K lawSc (n + 8) ρ (.Call (.Name "_law_spelled" p1) [e1, e2] [] p2) (.str (spelled hand x)) := fun hx he1 he2 hs1 hs2 hsh =>
      ev_call hsh (fun env => by rw [hs1, hs2]; rfl) (.inr (.inr kr)) (ev_global rfl gr (by decide)) (es_cons hs1 he1 (es_cons hs2 he2 es_nil)) (spelled_ok (n := n + 7) Fr hh hx)
    exact ev_evl (evl_list (by show 3 ≤ 1000; decide) (es_cons (fun _ => rfl) (by walk_at "n") (es_cons (fun _ => rfl) (sp h1 (by walk_at "n") (by walk_at "n") (fun _ => rfl) (fun _ => rfl) fun _ => rfl) (es_cons (fun _ => rfl) (sp h2 (by walk_at "n") (sp h1 (by walk_at "n") (by walk_at "n") (fun _ => rfl) (fun _ => rfl) fun _ => rfl) (fun _ => rfl) (fun _ => rfl) fun _ => rfl) es_nil))))
set_option maxHeartbeats 1000000 in
theorem st_bad {d1 d2 d3 : D} {due : List Str} (hd : due.length = 3) (hl : ∀ x ∈ due, x.length ≤ 1000) (h : P (.next [kv "bad" (.lst (due.map fun x => .bool (badOne x))), kv "due" (strsD due), kv "words" d1, kv "names" d2, kv "cells" d3] ω)) :
    EX1 prog w K ⟨true, []⟩ lawSc (n + 8) (lawStmt 7) [kv "due" (strsD due), kv "words" d1, kv "names" d2, kv "cells" d3] ω P := by
  conv => arg 5; whnf; zeta
  conv => arg 7; whnf; zeta
  refine ex_assign_mapL due .str (fun x => .bool (badOne x)) rfl (evi_list (fun _ _ _ => rfl) (by walk_at "n") fun d hd => ?_) (by lia) (fun x hx => ⟨.inl rfl, Sub.cons (x := "name") rfl, ?_⟩) (.inl rfl) (fun env h => by obtain ⟨sc0, env1⟩ := env; subst h; rfl) h
  · obtain ⟨x, _, rfl⟩ := List.mem_map.mp hd; trivial
  · unfold badOne
    refine ev_cmp (d₁ := .lst ((x.cps.toList.filter fun c => decide (c ∈ [9, 10, 13])).map fun c => .str ⟨#[c]⟩)) (d₂ := .lst []) rfl ?_ (ev_evl (evl_list (by decide) es_nil)) (cNeL 0 (by decide) (deqL_map (deq_sign 0) _ []))
    refine ev_evl (evl_filterL x.cps.toList (fun c => .str ⟨#[c]⟩) (fun c => .str ⟨#[c]⟩) (fun c => decide (c ∈ [9, 10, 13])) rfl (evi_str (x := x) (fun _ _ _ => rfl) (by walk_at "n")) ?_ fun c hc => ⟨.inl rfl, Sub.cons (x := "one") rfl, ?_, fun _ => by walk_at "n"⟩)
    · have : x.cps.toList.length = x.length := by rw [Array.length_toList]; rfl
      have := hl x hx
      lia
    · have e := StrLaws.found_one ("\t\n\r" : Str) c
      have e2 : decide (c ∈ [9, 10, 13]) = (!(Builtin.Str.occurrences ("\t\n\r" : Str) ⟨#[c]⟩ 0 ("\t\n\r" : Str).length 1).isEmpty) := e.symm
      rw [e2]
      exact et_cmp rfl (by walk_at "n") ev_str cInS
noncomputable def qNames (q : List (Str × Bool)) : D := .lst (q.map fun p => .str p.1)
noncomputable def qWords (q : List (Str × Bool)) : D := .lst (q.map fun p => encW p.2)
noncomputable def qBad (q : List (Str × Bool)) : D := .lst (q.map fun p => encB p.2)
noncomputable def stsD (c : List (List (Str × Str)) × List Int) : D := .lst (c.1.map stD)
set_option maxHeartbeats 1000000 in
theorem st_crowd1 (L : LawK K C W pn pv) {d1 : D} {cells : List Int} {q : List (Str × Bool)} (hc : cells.length = 6) (hq : q.length ≤ 10) (hu : ∀ p ∈ q, (Txt.upper p.1).length ≤ 1000000) (hok : seatsOk q)
    (h : P (.next [kv "runs" (strsD (runsOf (crowdN q (cells.take 3) 3).2)), kv "plain" (stsD (crowdN q (cells.take 3) 3)), kv "first" (stsD (crowdN q (cells.take 3) 3)), kv "bad" (qBad q), kv "due" d1, kv "words" (qWords q), kv "names" (qNames q), kv "cells" (.lst (cells.map .int))] ω)) :
    EX1 prog w K ⟨true, []⟩ lawSc (n + 8) (lawStmt 8) [kv "bad" (qBad q), kv "due" d1, kv "words" (qWords q), kv "names" (qNames q), kv "cells" (.lst (cells.map .int))] ω P := by
  conv => arg 5; whnf; zeta
  conv => arg 7; whnf; zeta
  obtain ⟨fr, fdr, gr, kr, Fr⟩ := L.cro
  have e : pickD (cells.map D.int) none (some 3) none = (cells.take 3).map .int := by
    rw [show pickD (cells.map D.int) none (some 3) none = (cells.map D.int).take 3 from pickD_to (cells.map .int) 3, List.map_take]
  refine ex_assignTM (em_ev (d := crowdD (crowdN q (cells.take 3) 3)) (ev_call (f := .ref fr) (ds := [.lst ((cells.take 3).map .int), qNames q, qWords q, qBad q]) (fun _ => rfl) (fun _ => rfl) (.inr (.inr kr)) (ev_global rfl gr (by decide)) (es_cons (fun _ => rfl) ?_ (es_cons (fun _ => rfl) (by walk_at "n") (es_cons (fun _ => rfl) (by walk_at "n") (es_cons (fun _ => rfl) (by walk_at "n") es_nil))))
    (crowd_ok (n := n) L.H L.gC L.kC L.srt L.cal L.sea L.pla Fr (by rw [List.length_take, hc]; rfl) hq hu hok)) ⟨_, rfl, ⟨.inl rfl, .inl rfl, .inl rfl, trivial⟩, h⟩) (fun _ _ => rfl) (fun _ _ => rfl)
  rw [← e]
  exact ev_evl (evl_slice (by walk_at "n") rfl ⟨_, rfl, ev_int⟩ rfl (by decide) (fun _ _ => by first | exact .inl rfl | exact .inr rfl) (by rw [List.length_map]; lia))
set_option maxHeartbeats 1000000 in
theorem st_crowd2 (L : LawK K C W pn pv) {d1 d2 d3 d4 : D} {cells : List Int} {q : List (Str × Bool)} (hc : cells.length = 6) (hq : q.length ≤ 10) (hu : ∀ p ∈ q, (Txt.upper p.1).length ≤ 1000000) (hok : seatsOk q)
    (h : P (.next [kv "turned" (strsD (runsOf (crowdN q (cells.drop 3) 3).2)), kv "other" (stsD (crowdN q (cells.drop 3) 3)), kv "second" (stsD (crowdN q (cells.drop 3) 3)), kv "runs" d2, kv "plain" d3, kv "first" d4, kv "bad" (qBad q), kv "due" d1, kv "words" (qWords q), kv "names" (qNames q), kv "cells" (.lst (cells.map .int))] ω)) :
    EX1 prog w K ⟨true, []⟩ lawSc (n + 8) (lawStmt 9) [kv "runs" d2, kv "plain" d3, kv "first" d4, kv "bad" (qBad q), kv "due" d1, kv "words" (qWords q), kv "names" (qNames q), kv "cells" (.lst (cells.map .int))] ω P := by
  conv => arg 5; whnf; zeta
  conv => arg 7; whnf; zeta
  obtain ⟨fr, fdr, gr, kr, Fr⟩ := L.cro
  have e : pickD (cells.map D.int) (some 3) none none = (cells.drop 3).map .int := by
    rw [show pickD (cells.map D.int) (some 3) none none = (cells.map D.int).drop 3 from pickD_from (cells.map .int) 3, List.map_drop]
  refine ex_assignTM (em_ev (d := crowdD (crowdN q (cells.drop 3) 3)) (ev_call (f := .ref fr) (ds := [.lst ((cells.drop 3).map .int), qNames q, qWords q, qBad q]) (fun _ => rfl) (fun _ => rfl) (.inr (.inr kr)) (ev_global rfl gr (by decide)) (es_cons (fun _ => rfl) ?_ (es_cons (fun _ => rfl) (by walk_at "n") (es_cons (fun _ => rfl) (by walk_at "n") (es_cons (fun _ => rfl) (by walk_at "n") es_nil))))
    (crowd_ok (n := n) L.H L.gC L.kC L.srt L.cal L.sea L.pla Fr (by rw [List.length_drop, hc]) hq hu hok)) ⟨_, rfl, ⟨.inl rfl, .inl rfl, .inr rfl, trivial⟩, h⟩) (fun _ _ => rfl) (fun _ _ => rfl)
  rw [← e]
  exact ev_evl (evl_slice (by walk_at "n") ⟨_, rfl, ev_int⟩ rfl rfl (by decide) (fun _ _ => by first | exact .inl rfl | exact .inr rfl) (by rw [List.length_map]; lia))
theorem st_ends {d1 d2 d3 d4 d5 d6 d7 d8 d9 d10 : D} {cells : List Int} {a b : Nat} (hc : cells.length = 6) (ha : ((cells.getD 0 0).fdiv 100).fmod 2 = (a : Int)) (hb : ((cells.getD 3 0).fdiv 100).fmod 2 = (b : Int))
    (h : P (.next [kv "ends" (.lst [.int a, .int b]), kv "turned" d1, kv "other" d2, kv "second" d3, kv "runs" d4, kv "plain" d5, kv "first" d6, kv "bad" d7, kv "due" d8, kv "words" d9, kv "names" d10, kv "cells" (.lst (cells.map .int))] ω)) :
    EX1 prog w K ⟨true, []⟩ lawSc (n + 8) (lawStmt 10) [kv "turned" d1, kv "other" d2, kv "second" d3, kv "runs" d4, kv "plain" d5, kv "first" d6, kv "bad" d7, kv "due" d8, kv "words" d9, kv "names" d10, kv "cells" (.lst (cells.map .int))] ω P := by
  conv => arg 5; whnf; zeta
  conv => arg 7; whnf; zeta
  have it : ∀ (i : Nat), i < 6 → (cells.map D.int)[i]? = some (.int (cells.getD i 0)) := fun i hi => by
    rw [List.getElem?_map, List.getD_eq_getElem?_getD, List.getElem?_eq_getElem (show i < cells.length by lia)]; rfl
  (with_reducible refine ex_assign (d := .lst [.int a, .int b]) ?e ?k ?s h)
  case k => exact .inl rfl
  case s => exact fun _ _ => rfl
  case e =>
    rw [← ha, ← hb]
    exact ev_evl (evl_list (by show 2 ≤ 1000; decide) (es_cons (fun _ => rfl) (ev_bin (ev_bin (ev_item (ds := cells.map .int) (i := 0) (fun _ _ => by first | exact .inl rfl | exact .inr rfl) (by walk_at "n") ev_int (by decide) (by decide) (it 0 (by decide))) ev_int (bDiv (by decide) (by decide))) ev_int (bMod (by decide))) (es_cons (fun _ => rfl) (ev_bin (ev_bin (ev_item (ds := cells.map .int) (i := 3) (fun _ _ => by first | exact .inl rfl | exact .inr rfl) (by walk_at "n") ev_int (by decide) (by decide) (it 3 (by decide))) ev_int (bDiv (by decide) (by decide))) ev_int (bMod (by decide))) es_nil)))
end
end

section
theorem nat_eqD (a b : Nat) : (((a : Int)) == (b : Int)) = decide (a = b) := by
  by_cases h : a = b
  · subst h; simp
  · rw [decide_eq_false h]; exact beq_eq_false_iff_ne.mpr (by lia)
theorem deq_int (k : Nat) (a b : Int) : deq k (.int a) (.int b) = some (decide (a = b)) := by cases k <;> rfl

theorem deq_trip (k : Nat) (a b : Int × Int × Int) : deq (k + 1) (tripD a) (tripD b) = some (decide (a = b)) := by
  obtain ⟨a1, a2, a3⟩ := a
  obtain ⟨b1, b2, b3⟩ := b
  have h : deq (k + 1) (tripD (a1, a2, a3)) (tripD (b1, b2, b3)) = some ((a1 == b1) && ((a2 == b2) && ((a3 == b3) && true))) := by
    show deqL (deq k) _ _ = _
    cases k <;> rfl
  rw [h]
  by_cases h1 : a1 = b1 <;> by_cases h2 : a2 = b2 <;> by_cases h3 : a3 = b3 <;> simp [h1, h2, h3]
noncomputable def wsD (W : Addr) (t : Str) : D := .ins W (wsF t (wsOf t))
noncomputable def txt1 (rs : List Str) (a : Nat) : Str := (Txt.join "" rs ++ Txt.mul " " a) ++ "x \t"
noncomputable def txt2 (tr : List Str) (b : Nat) : Str := txt1 [tr.getD 2 "", tr.getD 1 "", tr.getD 0 ""] b
theorem join_len {rs : List Str} (h : rs.length ≤ 3) (hl : ∀ r ∈ rs, r.length ≤ 10) : (Txt.join "" rs).length ≤ 30 ∧ (rs.map (·.length)).sum ≤ 30 := by
  have e : (Txt.join "" rs).length = (rs.flatMap fun s => s.cps.toList).length := by rw [← join_cps, Array.length_toList]; rfl
  have h1 : (rs.flatMap fun s => s.cps.toList).length ≤ rs.length * 10 := flat_len (b := 10) fun r hr => by rw [Array.length_toList]; exact hl r hr
  have h2 : (rs.flatMap fun s => s.cps.toList).length = (rs.map (·.length)).sum := by
    rw [List.length_flatMap]
    rfl
  lia
theorem mul_len (a : Nat) (h : a ≤ 10) : (Txt.mul " " (a : Int)).length ≤ 10 := by
  have := len_mul " " (a : Int)
  rw [if_neg (by simp), show ((" " : Str).length : Int) = 1 from rfl, Int.one_mul] at this
  lia
theorem app_len (x y : Str) : (x ++ y).length = x.length + y.length := by show (x.cps ++ y.cps).size = _; rw [Array.size_append]; rfl
theorem txt1_len {rs : List Str} {a : Nat} (h : rs.length ≤ 3) (hl : ∀ r ∈ rs, r.length ≤ 10) (ha : a ≤ 10) : (txt1 rs a).length ≤ 50 := by
  have h1 := join_len h hl
  have h2 := mul_len a ha
  unfold txt1
  rw [app_len, app_len]
  show _ + 3 ≤ 50
  lia
section
variable {n : Nat} {C W pn pv : Addr} {P : Out → Prop} {ω : Owns}
theorem ev_txt {sc : Scope} {ρ : Vars} {e1 e2 : Expr} {p1 p2 p3 p4 p5 p6 p7 apos : Pos} {k1 k2 k3 : Nat} {pl : Env → Sem Bool} {rs : List Str} {a : Nat} (hr : rs.length ≤ 3) (hl : ∀ r ∈ rs, r.length ≤ 10) (ha : a ≤ 10)
    (hshape : ∀ env, eval (.Call (.Attribute (.Constant (.str "") k1 p1) "join" apos) [e1] [] p2) env = (do
      let ov ← eval (.Constant (.str "") k1 p1) env
      standAt apos.atName
      let (f, first) ← holding [ov] (getMethod ov "join" (pl env))
      callWith p2 f first (backTo p2 (starEach [e1] env)) [])) (hse : ∀ env, starEach [e1] env = (false, eval e1 env) :: starEach [] env)
    (h1 : EV prog w K sc n ρ e1 (strsD rs)) (h2 : EV prog w K sc n ρ e2 (.int (a : Int))) :
    EV prog w K sc n ρ (.BinOp (.BinOp (.Call (.Attribute (.Constant (.str "") k1 p1) "join" apos) [e1] [] p2) .Add (.BinOp (.Constant (.str " ") k2 p3) .Mult e2 p4) p5) .Add (.Constant (.str "x \t") k3 p6) p7) (.str (txt1 rs a)) := by
  have j1 := join_len hr hl
  have j2 := mul_len a ha
  refine ev_bin (ev_bin (ev_meth (f := .builtin "str.join") (d₀ := .str "") (ds := [.lst (rs.map .str)]) hshape (fun env => by rw [hse]; rfl) (.inl ⟨_, rfl⟩) ev_str m_join (es_cons hse h1 es_nil) (c_join ?_)) (ev_bin ev_str h2 (bMulS (by decide) (by lia) (by lia))) (bAddS ?_)) ev_str (bAddS ?_)
  · show _ + _ * 0 ≤ _; lia
  · have : (2 : Nat) ^ 24 = 16777216 := by decide
    lia
  · rw [app_len]
    show _ + 3 ≤ _
    have : (2 : Nat) ^ 24 = 16777216 := by decide
    lia
set_option maxHeartbeats 2000000 in
theorem st_spaces (L : LawK K C W pn pv) {d2 d3 d5 d6 d7 d8 d9 d10 : D} {a b : Nat} {rs tr : List Str} (ha : a ≤ 10) (hb : b ≤ 10) (hr : rs.length = 3) (ht : tr.length = 3) (hrl : ∀ r ∈ rs, r.length ≤ 10) (htl : ∀ r ∈ tr, r.length ≤ 10)
    (h : P (.next [kv "spaces" (.lst [wsD W (txt1 rs a), wsD W (txt2 tr b)]), kv "ends" (.lst [.int a, .int b]), kv "turned" (strsD tr), kv "other" d2, kv "second" d3, kv "runs" (strsD rs), kv "plain" d5, kv "first" d6, kv "bad" d7, kv "due" d8, kv "words" d9, kv "names" d10] ω)) :
    EX1 prog w K ⟨true, []⟩ lawSc (n + 8) (lawStmt 11) [kv "ends" (.lst [.int a, .int b]), kv "turned" (strsD tr), kv "other" d2, kv "second" d3, kv "runs" (strsD rs), kv "plain" d5, kv "first" d6, kv "bad" d7, kv "due" d8, kv "words" d9, kv "names" d10] ω P := by
  conv => arg 5; whnf; zeta
  conv => arg 7; whnf; zeta
  have htr : ∀ i, i < 3 → (tr.getD i "").length ≤ 10 := fun i hi => htl _ (getD_mem (by lia))
  have hrv : ∀ r ∈ [tr.getD 2 "", tr.getD 1 "", tr.getD 0 ""], r.length ≤ 10 := fun r hr => by
    simp only [List.mem_cons, List.not_mem_nil, or_false] at hr
    rcases hr with rfl | rfl | rfl
    · exact htr 2 (by decide)
    · exact htr 1 (by decide)
    · exact htr 0 (by decide)
  (with_reducible refine ex_assign (d := .lst [wsD W (txt1 rs a), wsD W (txt2 tr b)]) ?e ?k ?s h)
  case k => exact .inl rfl
  case s => exact fun _ _ => rfl
  case e =>
    have mk : ∀ {e : Expr} {p1 p2 : Pos} {t : Str} {ρ : Vars}, t.length ≤ 1000 → EV prog w K lawSc (n + 8) ρ e (.str t) → (∀ env, starEach [e] env = (false, eval e env) :: starEach [] env) → (∀ env, eval (.Call (.Name "Whitespace" p1) [e] [] p2) env = (do callWith p2 (← eval (.Name "Whitespace" p1) env) [] (backTo p2 (starEach [e] env)) (backToKw p2 (keywordEach [] env)))) → EV prog w K lawSc (n + 8) ρ (.Call (.Name "Whitespace" p1) [e] [] p2) (wsD W t) := fun ht he hs hsh =>
      ev_call (f := .ref W) (ds := [.str _]) hsh (fun env => by rw [hs]; rfl) (.inr (.inr L.Wh.kp)) (ev_global rfl L.Wh.gl (by decide)) (es_cons hs he es_nil) (ws_ok (n := n + 6) L.Wh ht)
    refine ev_evl (evl_list (by show 2 ≤ 1000; decide) (es_cons (fun _ => rfl) (mk (Nat.le_trans (txt1_len (by lia) hrl ha) (by decide)) (ev_txt (by lia) hrl ha (fun _ => rfl) (fun _ => rfl) (by walk_at "n") (ev_item (ds := [.int a, .int b]) (i := 0) (fun _ _ => by first | exact .inl rfl | exact .inr rfl) (by walk_at "n") ev_int (by decide) (by decide) rfl)) (fun _ => rfl) fun _ => rfl)
      (es_cons (fun _ => rfl) (mk (Nat.le_trans (txt1_len (by show 3 ≤ 3; decide) hrv hb) (by decide)) (ev_txt (by show 3 ≤ 3; decide) hrv hb (fun _ => rfl) (fun _ => rfl) ?_ (ev_item (ds := [.int a, .int b]) (i := 1) (fun _ _ => by first | exact .inl rfl | exact .inr rfl) (by walk_at "n") ev_int (by decide) (by decide) rfl)) (fun _ => rfl) fun _ => rfl) es_nil)))
    have e : strsD [tr.getD 2 "", tr.getD 1 "", tr.getD 0 ""] = .lst (([2, 1, 0] : List Nat).map fun i => .str (tr.getD i "")) := rfl
    rw [e]
    refine ev_evl (evl_mapL ([2, 1, 0] : List Nat) natD (fun i => .str (tr.getD i "")) rfl (evi_tuple (fun _ _ _ => rfl) (ev_tuple (ds := [.int 2, .int 1, .int 0]) (by decide) (es_cons (fun _ => rfl) ev_int (es_cons (fun _ => rfl) ev_int (es_cons (fun _ => rfl) ev_int es_nil)))) fun d hd => ?_) (by decide) fun i hi => ⟨.inl rfl, Sub.cons (x := "place") rfl, ?_⟩)
    · obtain ⟨i, _, rfl⟩ := List.mem_map.mp hd; trivial
    · have hi3 : i < 3 := by
        simp only [List.mem_cons, List.not_mem_nil, or_false] at hi
        rcases hi with rfl | rfl | rfl <;> decide
      exact ev_item (ds := tr.map .str) (i := (i : Int)) (fun _ _ => by first | exact .inl rfl | exact .inr rfl) (by walk_at "n") (by walk_at "n") (by lia) (by lia) (by rw [Int.toNat_natCast, List.getElem?_map, List.getD_eq_getElem?_getD, List.getElem?_eq_getElem (show i < tr.length by lia)]; rfl)
noncomputable def rookOf (sts : List (List (Str × Str))) : List Int := (List.range 4).map fun (c : Nat) => ((sts.filter fun st => decide (st.length = c)).length : Int)
set_option maxHeartbeats 2000000 in
theorem st_rooks (L : LawK K C W pn pv) {d1 d2 d3 d5 d7 d8 d9 d10 : D} {f g : List (List (Str × Str))} (hf : f.length ≤ 100) (hg : g.length ≤ 100) (hl : ∀ st ∈ f ++ g, st.length ≤ 10)
    (h : P (.next [kv "rooks" (.lst [.lst ((rookOf f).map .int), .lst ((rookOf g).map .int)]), kv "spaces" d1, kv "ends" d2, kv "other" d3, kv "second" (.lst (g.map stD)), kv "plain" d5, kv "first" (.lst (f.map stD)), kv "bad" d7, kv "due" d8, kv "words" d9, kv "names" d10] ω)) :
    EX1 prog w K ⟨true, []⟩ lawSc (n + 8) (lawStmt 12) [kv "spaces" d1, kv "ends" d2, kv "other" d3, kv "second" (.lst (g.map stD)), kv "plain" d5, kv "first" (.lst (f.map stD)), kv "bad" d7, kv "due" d8, kv "words" d9, kv "names" d10] ω P := by
  conv => arg 5; whnf; zeta
  conv => arg 7; whnf; zeta
  refine ex_assign_mapL [f, g] (fun sts => .lst (sts.map stD)) (fun sts => .lst ((rookOf sts).map .int)) rfl (evi_tuple (fun _ _ _ => rfl) (ev_tuple (ds := [.lst (f.map stD), .lst (g.map stD)]) (by simp) (es_cons (fun _ => rfl) (by walk_at "n") (es_cons (fun _ => rfl) (by walk_at "n") es_nil))) fun d hd => ?_) (by show 2 ≤ 100000; decide) (fun sts hsts => ⟨.inr rfl, Sub.cons (x := "states") rfl, ?_⟩) (.inl rfl) (fun env h => by obtain ⟨sc0, env1⟩ := env; subst h; rfl) h
  · obtain ⟨x, _, rfl⟩ := List.mem_map.mp hd; trivial
  · have hs : sts.length ≤ 100 ∧ ∀ st ∈ sts, st.length ≤ 10 := by
      simp only [List.mem_cons, List.not_mem_nil, or_false] at hsts
      rcases hsts with rfl | rfl
      · exact ⟨hf, fun st hst => hl st (List.mem_append_left _ hst)⟩
      · exact ⟨hg, fun st hst => hl st (List.mem_append_right _ hst)⟩
    unfold rookOf
    rw [List.map_map]
    refine ev_evl (evl_mapL (List.range 4) natD (fun (c : Nat) => .int ((sts.filter fun st => decide (st.length = c)).length : Int)) rfl (evi_call (f := .type "range") (ds := [.int 4]) (its := upto 0 4) (fun _ => rfl) (fun _ => rfl) (.inr (.inl ⟨_, rfl⟩)) (fun _ _ _ => rfl) (L.H.toTops.ev (by decide) rfl (by decide)) (es_cons (fun _ => rfl) ev_int es_nil) (rng1 (by decide))) (by decide) fun c hc => ⟨.inr rfl, Sub.cons (x := "count") rfl, ?_⟩)
    have hfl := List.length_filter_le (fun st : List (Str × Str) => decide (st.length = c)) sts
    refine ev_len (ds := (sts.filter fun st => decide (st.length = c)).map stD) L.H.toTops (fun _ => rfl) (fun _ => rfl) rfl ?_ (by rw [List.length_map]; lia) (by rw [List.length_map])
    refine ev_evl (evl_filterL sts stD stD (fun st => decide (st.length = c)) rfl (evi_list (fun _ _ _ => rfl) (by walk_at "n") fun d hd => ?_) (by lia) fun st hst => ⟨.inl rfl, Sub.cons (x := "state") rfl, ?_, fun _ => by walk_at "n"⟩)
    · obtain ⟨x, _, rfl⟩ := List.mem_map.mp hd; trivial
    · rw [← nat_eqD]
      have := hs.2 st hst
      exact et_cmp rfl (ev_len (ds := st.map rowD) L.H.toTops (fun _ => rfl) (fun _ => rfl) rfl (by walk_at "n") (by rw [List.length_map]; lia) (by rw [List.length_map])) (by walk_at "n") cEq
noncomputable def alikeOf (f g : List (List (Str × Str))) (a b : Nat) : Bool := decide (rookOf f = rookOf g) && ((a : Int) == (b : Int))
theorem st_alike {d1 d3 d4 d5 d6 d7 d8 d9 d10 : D} {f g : List (List (Str × Str))} {a b : Nat}
    (h : P (.next [kv "alike" (.bool (alikeOf f g a b)), kv "rooks" (.lst [.lst ((rookOf f).map .int), .lst ((rookOf g).map .int)]), kv "spaces" d1, kv "ends" (.lst [.int a, .int b]), kv "other" d3, kv "second" d4, kv "plain" d5, kv "first" d6, kv "bad" d7, kv "due" d8, kv "words" d9, kv "names" d10] ω)) :
    EX1 prog w K ⟨true, []⟩ lawSc (n + 8) (lawStmt 13) [kv "rooks" (.lst [.lst ((rookOf f).map .int), .lst ((rookOf g).map .int)]), kv "spaces" d1, kv "ends" (.lst [.int a, .int b]), kv "other" d3, kv "second" d4, kv "plain" d5, kv "first" d6, kv "bad" d7, kv "due" d8, kv "words" d9, kv "names" d10] ω P := by
  conv => arg 5; whnf; zeta
  conv => arg 7; whnf; zeta
  (with_reducible refine ex_assign (d := .bool (alikeOf f g a b)) ?e ?k ?s h)
  case k => exact .inl rfl
  case s => exact fun _ _ => rfl
  case e =>
    unfold alikeOf
    exact ev_and (ev_cmp rfl (ev_item (ds := [.lst ((rookOf f).map .int), .lst ((rookOf g).map .int)]) (i := 0) (fun _ _ => by first | exact .inl rfl | exact .inr rfl) (by walk_at "n") ev_int (by decide) (by decide) rfl) (ev_item (ds := [.lst ((rookOf f).map .int), .lst ((rookOf g).map .int)]) (i := 1) (fun _ _ => by first | exact .inl rfl | exact .inr rfl) (by walk_at "n") ev_int (by decide) (by decide) rfl) (cEqL 1 (by decide) (deqL_map (deq_int 1) _ _))) fun _ => ev_and_one (ev_cmp rfl (ev_item (ds := [.int a, .int b]) (i := 0) (fun _ _ => by first | exact .inl rfl | exact .inr rfl) (by walk_at "n") ev_int (by decide) (by decide) rfl) (ev_item (ds := [.int a, .int b]) (i := 1) (fun _ _ => by first | exact .inl rfl | exact .inr rfl) (by walk_at "n") ev_int (by decide) (by decide) rfl) cEq)
set_option maxHeartbeats 2000000 in
theorem st_test (L : LawK K C W pn pv) {d2 d3 d4 d5 d6 d7 d8 d9 d10 d11 : D} {t u : Str} {al : Bool} (h1 : okWS (wsOf t)) (h2 : okWS (wsOf u)) (he : equalOf (wsOf t) (wsOf u) = al) (hw : decide (witOf (wsOf t) (wsOf u) = []) = al)
    (h : P (.next [kv "alike" (.bool al), kv "rooks" d11, kv "spaces" (.lst [wsD W t, wsD W u]), kv "ends" d2, kv "other" d3, kv "second" d4, kv "plain" d5, kv "first" d6, kv "bad" d7, kv "due" d8, kv "words" d9, kv "names" d10] ω)) :
    EX1 prog w K ⟨true, []⟩ lawSc (n + 8) (lawStmt 14) [kv "alike" (.bool al), kv "rooks" d11, kv "spaces" (.lst [wsD W t, wsD W u]), kv "ends" d2, kv "other" d3, kv "second" d4, kv "plain" d5, kv "first" d6, kv "bad" d7, kv "due" d8, kv "words" d9, kv "names" d10] ω P := by
  conv => arg 5; whnf; zeta
  conv => arg 7; whnf; zeta
  obtain ⟨fe, fde, Me, Fe⟩ := L.Wh.eql
  obtain ⟨fw, fdw, Mw, Fw⟩ := L.Wh.wit
  have hb : ((equalOf (wsOf t) (wsOf u) != al) || ((decide (witOf (wsOf t) (wsOf u) = []) != al) || false)) = false := by rw [he, hw, bne_self_eq_false]; rfl
  refine ex_if (b := (equalOf (wsOf t) (wsOf u) != al) || ((decide (witOf (wsOf t) (wsOf u) = []) != al) || false)) (emt_et (et_or (et_cmp rfl (ev_meth (f := .ref fe) (d₀ := wsD W t) (ds := [wsD W u]) (fun _ => rfl) (fun _ => rfl) (.inr (.inr Me.keep)) (ev_item (ds := [wsD W t, wsD W u]) (i := 0) (fun _ _ => by first | exact .inl rfl | exact .inr rfl) (by walk_at "n") ev_int (by decide) (by decide) rfl) (getG_ins L.Wh.toClsOk Me rfl) (es_cons (fun _ => rfl) (ev_item (ds := [wsD W t, wsD W u]) (i := 1) (fun _ _ => by first | exact .inl rfl | exact .inr rfl) (by walk_at "n") ev_int (by decide) (by decide) rfl) es_nil) (equal_ok (n := n + 7) L.Wh Fe)) (by walk_at "n") cIsNotB) fun _ =>
    et_or (et_cmp rfl (ev_cmp (d₂ := .lst []) rfl (ev_meth (f := .ref fw) (d₀ := wsD W t) (ds := [wsD W u]) (fun _ => rfl) (fun _ => rfl) (.inr (.inr Mw.keep)) (ev_item (ds := [wsD W t, wsD W u]) (i := 0) (fun _ _ => by first | exact .inl rfl | exact .inr rfl) (by walk_at "n") ev_int (by decide) (by decide) rfl) (getG_ins L.Wh.toClsOk Mw rfl) (es_cons (fun _ => rfl) (ev_item (ds := [wsD W t, wsD W u]) (i := 1) (fun _ _ => by first | exact .inl rfl | exact .inr rfl) (by walk_at "n") ev_int (by decide) (by decide) rfl) es_nil) (witness_ok (n := n + 6) L.Wh Fw h1 h2)) (ev_evl (evl_list (by decide) es_nil)) (cEqL 1 (by decide) (deqL_map (deq_trip 0) _ []))) (by walk_at "n") cIsNotB) fun _ => et_or_nil)) (fun hz => by rw [hb] at hz; cases hz) fun _ => ex_nil h
end
end

section
noncomputable def prodTo (count : List Nat) (m : Nat) : Nat → Int
  | 0 => 1
  | j + 1 => prodTo count m j * ((m : Int) + (j : Int) - 2) ^ (count.getD j 0)
noncomputable def rookPoly (ws : List Int) (m : Int) : Int := ((ws.getD 3 0 + ws.getD 2 0 * m) + (ws.getD 1 0 * m) * (m - 1)) + ((ws.getD 0 0 * m) * (m - 1)) * (m - 2)
structure PassOk (st : WS) (ways : List Int) (e : Nat) : Prop where
  len : st.count.length ≤ 10
  small : ∀ k ∈ st.count, k ≤ 3
  nway : ways.length = 4
  prod : ∀ m : Nat, m < 4 → rookPoly ways m = prodTo st.count m st.count.length
  sum : iSum (st.count.map fun (k : Nat) => (k : Int)) = 3
  b : st.b = e
theorem numbered_nat {l : List Nat} {i : Nat} {d : D} (h : (numbered (l.map natD))[i]? = some d) : i < l.length ∧ d = .tup [.int i, .int (l.getD i 0 : Nat)] := by
  unfold numbered at h
  rw [List.getElem?_mapIdx, List.getElem?_map] at h
  cases hx : l[i]? with
  | none => rw [hx] at h; cases h
  | some x =>
    rw [hx] at h
    cases h
    refine ⟨(List.getElem?_eq_some_iff.mp hx).1, ?_⟩
    rw [List.getD_eq_getElem?_getD, hx]
    rfl
theorem pow_bound {a : Int} {k : Nat} (h0 : -2 ≤ a) (h1 : a ≤ 12) (hk : k ≤ 3) : -(2 ^ 63) < a ^ k ∧ a ^ k < 2 ^ 63 := by
  have h : ∀ k ≤ 3, a ^ k ≤ 2000 ∧ -2000 ≤ a ^ k := fun k hk => by
    have e : k = 0 ∨ k = 1 ∨ k = 2 ∨ k = 3 := by lia
    have q : a * a ≤ 144 := by
      have : (a + 2) * (12 - a) ≥ 0 := Int.mul_nonneg (by lia) (by lia)
      lia
    have q0 : 0 ≤ a * a := by
      rcases Int.le_total 0 a with h | h
      · exact Int.mul_nonneg h h
      · exact Int.mul_nonneg_of_nonpos_of_nonpos h h
    have q3 : (a * a) * a ≤ 1728 := Int.le_trans (Int.mul_le_mul_of_nonneg_left h1 q0) (by lia)
    have q4 : -288 ≤ (a * a) * a := Int.le_trans (by lia) (Int.mul_le_mul_of_nonneg_left h0 q0)
    rcases e with rfl | rfl | rfl | rfl
    · rw [Int.pow_zero]; decide
    · rw [Int.pow_succ, Int.pow_zero, Int.one_mul]; lia
    · rw [Int.pow_succ, Int.pow_succ, Int.pow_zero, Int.one_mul]; lia
    · rw [Int.pow_succ, Int.pow_succ, Int.pow_succ, Int.pow_zero, Int.one_mul]; lia
  have := h k hk
  lia
section
variable {n : Nat} {C W pn pv : Addr} {P : Out → Prop} {ω : Owns}
set_option maxHeartbeats 4000000 in
theorem st_loop (L : LawK K C W pn pv) {d3 d4 d5 d6 d7 d8 d9 d10 : D} {t u : Str} {a b : Nat} {w1 w2 : List Int} (h1 : PassOk (wsOf t) w1 a) (h2 : PassOk (wsOf u) w2 b)
    (h : P (.next [kv "rooks" (.lst [.lst (w1.map .int), .lst (w2.map .int)]), kv "spaces" (.lst [wsD W t, wsD W u]), kv "ends" (.lst [.int a, .int b]), kv "other" d3, kv "second" d4, kv "plain" d5, kv "first" d6, kv "bad" d7, kv "due" d8, kv "words" d9, kv "names" d10] ω)) :
    EX1 prog w K ⟨true, []⟩ lawSc (n + 8) (lawStmt 15) [kv "rooks" (.lst [.lst (w1.map .int), .lst (w2.map .int)]), kv "spaces" (.lst [wsD W t, wsD W u]), kv "ends" (.lst [.int a, .int b]), kv "other" d3, kv "second" d4, kv "plain" d5, kv "first" d6, kv "bad" d7, kv "due" d8, kv "words" d9, kv "names" d10] ω P := by
  conv => arg 5; whnf; zeta
  conv => arg 7; whnf; zeta
  have hz : ∀ {i : Nat} {d : D}, (zipped3 [wsD W t, wsD W u] [.lst (w1.map .int), .lst (w2.map .int)] [.int a, .int b])[i]? = some d → ∃ (t : Str) (ways : List Int) (e : Nat), d = .tup [wsD W t, .lst (ways.map .int), .int e] ∧ PassOk (wsOf t) ways e := fun {i d} hd => by
    have hd : ([.tup [wsD W t, .lst (w1.map .int), .int a], .tup [wsD W u, .lst (w2.map .int), .int b]] : List D)[i]? = some d := hd
    rcases i with _ | _ | i
    · cases hd; exact ⟨_, _, _, rfl, h1⟩
    · cases hd; exact ⟨_, _, _, rfl, h2⟩
    · cases hd
  let ρ0 : Vars := [kv "rooks" (.lst [.lst (w1.map .int), .lst (w2.map .int)]), kv "spaces" (.lst [wsD W t, wsD W u]), kv "ends" (.lst [.int a, .int b]), kv "other" d3, kv "second" d4, kv "plain" d5, kv "first" d6, kv "bad" d7, kv "due" d8, kv "words" d9, kv "names" d10]
  refine ex_for (its := zipped3 [wsD W t, wsD W u] [.lst (w1.map .int), .lst (w2.map .int)] [.int a, .int b]) (evi_call (f := .type "zip") (ds := [.lst [wsD W t, wsD W u], .lst [.lst (w1.map .int), .lst (w2.map .int)], .lst [.int a, .int b]]) (fun _ => rfl) (fun _ => rfl) (.inr (.inl ⟨_, rfl⟩)) (fun _ _ _ => rfl) (L.H.toTops.ev (by decide) rfl (by decide))
    (es_cons (fun _ => rfl) (by walk_at "n") (es_cons (fun _ => rfl) (by walk_at "n") (es_cons (fun _ => rfl) (by walk_at "n") es_nil))) (zip3L rfl rfl))
    (fun i ρ ω' => ρ = ρ0 ∧ ω' = ω) ⟨rfl, rfl⟩ (fun i d hd => ?_) (fun i d ρ ω1 hd hj => ?_) fun ρ ω1 hj => ?_
  · obtain ⟨t, ways, e, rfl, _⟩ := hz hd
    exact ⟨.inl rfl, .inl rfl, .inl rfl, trivial⟩
  · obtain ⟨z1, z2⟩ := hj
    subst z1 z2
    obtain ⟨t, ways, e, rfl, G⟩ := hz hd
    obtain ⟨G1, G2, G3, G4, G5, G6⟩ := G
    have hw : ∀ k : Nat, k < 4 → (ways.map D.int)[k]? = some (.int (ways.getD k 0)) := fun k hk => by
      rw [List.getElem?_map, List.getD_eq_getElem?_getD, List.getElem?_eq_getElem (show k < ways.length by lia)]; rfl
    have hsum : CallG prog w K (.builtin "sum") (n + 8) [.tup ((wsOf t).count.map natD)] (.int 3) := by
      have := sum_tup (prog := prog) (w := w) (K := K) (n := n + 8) ((wsOf t).count.map fun (k : Nat) => (k : Int))
      rw [List.map_map, G5] at this
      exact this
    unfold wsD
    generalize wsOf t = s at *
    obtain ⟨sn, snt, sb, count⟩ := s
    simp only at G1 G2 G4 G5 G6 hsum
    subst G6
    let ρ1 : Vars := kv "behind" (.int sb) :: kv "counts" (.tup (count.map natD)) :: kv "end" (.int sb) :: kv "ways" (.lst (ways.map .int)) :: ρ0
    have hP2 : ∀ {Q : Out → Prop} {ω : Owns} {ρ : Vars} {x : Str} {v : Int}, Q (.next ρ ω) → True := fun _ => trivial
    refine ex_cons (ex_assignTM (em_ev (d := .tup [.tup (count.map natD), .int sb]) (ev_attr (C := W) (fs := wsF t ⟨sn, snt, sb, count⟩) (fun _ => rfl) (by walk_at "n") L.Wh.toClsOk lk_norm L.Wh.h4 trivial) ⟨_, rfl, ⟨.inl rfl, .inl rfl, trivial⟩, ?_⟩) (fun _ _ => rfl) (fun _ _ => rfl))
    refine ex_sub (ρ' := ρ1) ?_ (by walk_at "s") (SubO.refl _)
    refine ex_cons (ex_for (its := upto 0 4) (evi_call (f := .type "range") (ds := [.int 4]) (fun _ => rfl) (fun _ => rfl) (.inr (.inl ⟨_, rfl⟩)) (fun _ _ _ => rfl) (L.H.toTops.ev (by decide) rfl (by decide)) (es_cons (fun _ => rfl) ev_int es_nil) (rng1 (by decide))) (fun i ρ ω' => ρ = ρ1 ∧ ω' = ω1) ⟨rfl, rfl⟩ (fun i d hd => .inl rfl) (fun m d ρ ω2 hd hj => ?_) fun ρ ω2 hj => ?_)
    · obtain ⟨z1, z2⟩ := hj
      subst z1 z2
      obtain ⟨rfl, hm⟩ := upto0_get hd
      have hm4 : m < 4 := by lia
      let ρ2 (j : Nat) : Vars := kv "product" (.int (prodTo count m j)) :: kv "more" (.int m) :: ρ1
      refine ex_cons (ex_assign ev_int (.inl rfl) (fun _ _ => rfl) ?_)
      refine ex_cons (ex_for (its := numbered (count.map natD)) (evi_call (f := .type "enumerate") (ds := [.tup (count.map natD)]) (fun _ => rfl) (fun _ => rfl) (.inr (.inl ⟨_, rfl⟩)) (fun _ _ _ => rfl) (L.H.toTops.ev (by decide) rfl (by decide)) (es_cons (fun _ => rfl) (by walk_at "n") es_nil) enumT) (fun j ρ ω' => ρ = ρ2 j ∧ ω' = ω2) ⟨rfl, rfl⟩ (fun i d hd => ?_) (fun j d ρ ω' hd hj => ?_) fun ρ ω' hj => ?_)
      · obtain ⟨_, rfl⟩ := numbered_nat hd
        exact ⟨.inl rfl, .inl rfl, trivial⟩
      · obtain ⟨z1, z2⟩ := hj
        subst z1 z2
        obtain ⟨hjl, rfl⟩ := numbered_nat hd
        have hk := G2 _ (getD_mem (d := 0) hjl)
        refine ex_cons (ex_assign (d := .int (prodTo count m (j + 1))) (ev_bin (d₁ := .int (prodTo count m j)) (d₂ := .int (((m : Int) + (j : Int) - 2) ^ (count.getD j 0))) (by walk_at "n") (ev_bin (d₁ := .int ((m : Int) + (j : Int) - 2)) (d₂ := .int (count.getD j 0 : Nat)) (ev_bin (d₁ := .int ((m : Int) + (j : Int))) (ev_bin (by walk_at "n") (by walk_at "n") bAdd) ev_int bSub) (by walk_at "n") ?_) (bMul (.inr (pow_bound (by lia) (by lia) hk)))) (.inl rfl) (fun _ _ => rfl) (ex_nil ⟨ρ2 (j + 1), _, ⟨rfl, rfl⟩, by walk_at "s", SubO.refl _⟩))
        have := bPow (prog := prog) (w := w) (K := K) (n := n + 8) (a := (m : Int) + (j : Int) - 2) (b := (count.getD j 0 : Nat)) (by lia) (by lia) (by lia)
        rw [Int.toNat_natCast] at this
        exact this
      · obtain ⟨z1, z2⟩ := hj
        subst z1 z2
        have hl : (numbered (count.map natD)).length = count.length := by simp [numbered]
        rw [hl]
        have hb : (rookPoly ways m != prodTo count m count.length) = false := by rw [G4 m hm4, bne_self_eq_false]
        refine ex_cons (ex_if (b := rookPoly ways m != prodTo count m count.length) (emt_et (et_cmp (d₁ := .int (rookPoly ways m)) (d₂ := .int (prodTo count m count.length)) rfl (ev_bin (ev_bin (ev_bin (ev_item (ds := ways.map .int) (i := 3) (fun _ _ => by first | exact .inl rfl | exact .inr rfl) (by walk_at "n") ev_int (by decide) (by decide) (hw 3 (by decide))) (ev_bin (ev_item (ds := ways.map .int) (i := 2) (fun _ _ => by first | exact .inl rfl | exact .inr rfl) (by walk_at "n") ev_int (by decide) (by decide) (hw 2 (by decide))) (by walk_at "n") (bMul (.inr (by lia)))) bAdd) (ev_bin (ev_bin (ev_item (ds := ways.map .int) (i := 1) (fun _ _ => by first | exact .inl rfl | exact .inr rfl) (by walk_at "n") ev_int (by decide) (by decide) (hw 1 (by decide))) (by walk_at "n") (bMul (.inr (by lia)))) (ev_bin (by walk_at "n") ev_int bSub) (bMul (.inr (by lia)))) bAdd) (ev_bin (ev_bin (ev_bin (ev_item (ds := ways.map .int) (i := 0) (fun _ _ => by first | exact .inl rfl | exact .inr rfl) (by walk_at "n") ev_int (by decide) (by decide) (hw 0 (by decide))) (by walk_at "n") (bMul (.inr (by lia)))) (ev_bin (by walk_at "n") ev_int bSub) (bMul (.inr (by lia)))) (ev_bin (by walk_at "n") ev_int bSub) (bMul (.inr (by lia)))) bAdd) (by walk_at "n") cNe)) (fun hz => by rw [hb] at hz; cases hz) fun _ => ex_nil (ex_nil ⟨ρ1, _, ⟨rfl, rfl⟩, by walk_at "s", SubO.refl _⟩))
    · obtain ⟨z1, z2⟩ := hj
      subst z1 z2
      refine ex_cons (ex_if (b := ((3 : Int) != 3) || (((sb : Int) != (sb : Int)) || false)) (emt_et (et_or (et_cmp (d₁ := .int 3) rfl (ev_call (f := .builtin "sum") (ds := [.tup (count.map natD)]) (fun _ => rfl) (fun _ => rfl) (.inl ⟨_, rfl⟩) (L.H.toTops.ev (by decide) rfl (by decide)) (es_cons (fun _ => rfl) (by walk_at "n") es_nil) hsum) ev_int cNe) fun _ => et_or (et_cmp rfl (by walk_at "n") (by walk_at "n") cNe) fun _ => et_or_nil)) (fun hz => ?_) fun _ => ex_nil (ex_nil ⟨ρ0, _, ⟨rfl, rfl⟩, by walk_at "s", SubO.refl _⟩))
      rw [bne_self_eq_false, bne_self_eq_false] at hz
      cases hz
  · obtain ⟨z1, z2⟩ := hj
    subst z1 z2
    exact h
end
end

section
noncomputable def wOf (p : Str × Bool) : Str := if p.2 = true then ctlMsg else ""
section
variable {n : Nat} {C W pn pv : Addr} {P : Out → Prop} {ω : Owns}
set_option maxHeartbeats 2000000 in
theorem st_ret {q : List (Str × Bool)} {f g : List (List (Str × Str))} (hq : q.length ≤ 10)
    (h : P (.ret (.bool true) ω)) :
    EX1 prog w K ⟨true, []⟩ lawSc (n + 8) (lawStmt 16) [kv "other" (.lst (g.map stD)), kv "second" (.lst (g.map stD)), kv "plain" (.lst (f.map stD)), kv "first" (.lst (f.map stD)), kv "bad" (qBad q), kv "due" (strsD (q.map fun p => p.1)), kv "words" (qWords q), kv "names" (qNames q)] ω P := by
  conv => arg 5; whnf; zeta
  conv => arg 7; whnf; zeta
  have e1 : qNames q = strsD (q.map fun p => p.1) := by unfold qNames strsD; rw [List.map_map]; rfl
  have e2 : qWords q = .lst ((q.map wOf).map .str) := by unfold qWords; rw [List.map_map]; rfl
  rw [e1, e2]
  have hb : (decide ((q.map fun p => p.1) = (q.map fun p => p.1)) && (decide (q.map wOf = q.map wOf) && (decide (f = f) && decide (g = g)))) = true := by simp
  refine ex_ret (d := .bool true) ?_ h
  rw [← hb]
  refine ev_and (ev_cmp rfl (by walk_at "n") (by walk_at "n") (cEqL 0 (by decide) (deqL_map (str_deq 0) _ _))) fun _ => ev_and (ev_cmp (d₂ := .lst ((q.map wOf).map .str)) rfl (by walk_at "n") ?_ (cEqL 0 (by decide) (deqL_map (str_deq 0) _ _))) fun _ => ev_and (ev_cmp rfl (by walk_at "n") (by walk_at "n") (cEqL 3 (by decide) (deqL_map (f := deq 3) (enc := stD) (fun a b => deqL_map (deq_row 1) a b) _ _))) fun _ => ev_and_one (ev_cmp rfl (by walk_at "n") (by walk_at "n") (cEqL 3 (by decide) (deqL_map (f := deq 3) (enc := stD) (fun a b => deqL_map (deq_row 1) a b) _ _)))
  rw [List.map_map]
  refine ev_evl (evl_mapL q (fun p => encB p.2) _ rfl (evi_list (fun _ _ _ => rfl) (by walk_at "n") fun d hd => ?_) (by lia) fun p hp => ⟨.inl rfl, Sub.cons (x := "out") rfl, ?_⟩)
  · obtain ⟨x, _, rfl⟩ := List.mem_map.mp hd; trivial
  · obtain ⟨x, b⟩ := p
    refine ev_if (b := b) (et_bool (by walk_at "n") fun _ _ => rfl) (fun hb => ?_) fun hb => ?_
    · subst hb; exact ev_str
    · subst hb; exact ev_str
end
end

end Lw
end

section
open PySem PySem.W PyProof.Rows PySem.Calls PySem.Challenge
namespace Lw
local macro_rules | `(tactic| walk_at "k") => `(tactic| first | rfl | assumption | exact lookup_cons_eq | (rw [lookup_cons_ne (by decide)]; walk_at "k"))

section
noncomputable def escL : Nat → List Nat → List Nat
  | 0, l => subC 62 ("&gt;" : Str).cps.toList (subC 60 ("&lt;" : Str).cps.toList (subC 38 ("&amp;" : Str).cps.toList l))
  | 1, l => subC 9 ("&#09;" : Str).cps.toList (subC 10 ("&#10;" : Str).cps.toList (subC 13 ("&#13;" : Str).cps.toList (subC 34 ("&quot;" : Str).cps.toList (subC 62 ("&gt;" : Str).cps.toList (subC 60 ("&lt;" : Str).cps.toList (subC 38 ("&amp;" : Str).cps.toList l))))))
  | 2, l => subC 34 ("&quot;" : Str).cps.toList (subC 62 ("&gt;" : Str).cps.toList (subC 38 ("&amp;" : Str).cps.toList l))
  | 3, l => subC 13 ("&#xD;" : Str).cps.toList (subC 62 ("&gt;" : Str).cps.toList (subC 60 ("&lt;" : Str).cps.toList (subC 38 ("&amp;" : Str).cps.toList l)))
  | _, l => subC 13 ("&#xD;" : Str).cps.toList (subC 10 ("&#xA;" : Str).cps.toList (subC 9 ("&#x9;" : Str).cps.toList (subC 34 ("&quot;" : Str).cps.toList (subC 60 ("&lt;" : Str).cps.toList (subC 38 ("&amp;" : Str).cps.toList l)))))
theorem escOf_cps (hand : Nat) (x : Str) : (escOf hand x).cps.toList = escL hand x.cps.toList := by
  have E := fun (c : Nat) (z x : Str) (l : List Nat) (h : x.cps.toList = l) => (esc_cps x z c).trans (congrArg (subC c z.cps.toList) h)
  match hand with
  | 0 => exact E 62 _ _ _ (E 60 _ _ _ (E 38 _ _ _ rfl))
  | 1 => exact E 9 _ _ _ (E 10 _ _ _ (E 13 _ _ _ (E 34 _ _ _ (E 62 _ _ _ (E 60 _ _ _ (E 38 _ _ _ rfl))))))
  | 2 => exact E 34 _ _ _ (E 62 _ _ _ (E 38 _ _ _ rfl))
  | 3 => exact E 13 _ _ _ (E 62 _ _ _ (E 60 _ _ _ (E 38 _ _ _ rfl)))
  | _ + 4 => exact E 13 _ _ _ (E 10 _ _ _ (E 9 _ _ _ (E 34 _ _ _ (E 60 _ _ _ (E 38 _ _ _ rfl)))))
noncomputable def AppOk (f : List Nat → List Nat) : Prop := ∀ a b, f (a ++ b) = f a ++ f b
theorem AppOk.sub {c : Nat} {z : List Nat} {f : List Nat → List Nat} (h : AppOk f) : AppOk fun l => subC c z (f l) := fun a b => (congrArg (subC c z) (h a b)).trans (subC_append ..)
theorem appId : AppOk fun l => l := fun _ _ => rfl
theorem escL_append (hand : Nat) (a b : List Nat) : escL hand (a ++ b) = escL hand a ++ escL hand b := by
  match hand with
  | 0 => exact (appId.sub.sub.sub : AppOk (escL 0)) a b
  | 1 => exact (appId.sub.sub.sub.sub.sub.sub.sub : AppOk (escL 1)) a b
  | 2 => exact (appId.sub.sub.sub : AppOk (escL 2)) a b
  | 3 => exact (appId.sub.sub.sub.sub : AppOk (escL 3)) a b
  | n + 4 => exact (appId.sub.sub.sub.sub.sub.sub : AppOk (escL (n + 4))) a b
theorem all_of {α : Type} {l : List α} {p : α → Bool} (h : l.all p = true) : ∀ x ∈ l, p x = true := List.all_eq_true.mp h
theorem escL_nil (h : Nat) : escL h [] = [] := by
  match h with
  | 0 => rfl
  | 1 => rfl
  | 2 => rfl
  | 3 => rfl
  | _ + 4 => rfl
theorem escL_flat (h : Nat) : ∀ l : List Nat, escL h l = l.flatMap fun c => escL h [c]
  | [] => escL_nil h
  | c :: r => by
    have e : escL h (c :: r) = escL h [c] ++ escL h r := escL_append h [c] r
    rw [e, escL_flat h r]; rfl
theorem spelled_cps (h : Nat) (x : Str) : (spelled h x).cps.toList = x.cps.toList.flatMap fun c => (spellSign h c).cps.toList := by
  unfold spelled
  rw [join_cps, List.flatMap_map]
theorem flat_congr {α β : Type} {f g : α → List β} : ∀ {l : List α}, (∀ x ∈ l, f x = g x) → l.flatMap f = l.flatMap g
  | [], _ => rfl
  | a :: r, h => by rw [List.flatMap_cons, List.flatMap_cons, h a (List.mem_cons_self ..), flat_congr fun x hx => h x (List.mem_cons_of_mem _ hx)]
theorem len_cps (x : Str) : x.length = x.cps.toList.length := by simp [Str.length]
theorem up_up (c : Nat) : up1 (up1 c) = up1 c := by unfold up1; split <;> (try split) <;> lia
theorem lo_up (c : Nat) : lo1 (up1 c) = lo1 c := by unfold up1 lo1; split <;> split <;> (try split) <;> lia
theorem lo_lo (c : Nat) : lo1 (lo1 c) = lo1 c := by unfold lo1; split <;> (try split) <;> lia
noncomputable def Asc (x : Str) : Prop := ∀ c ∈ x.cps.toList, c < 127
theorem up_lt {c : Nat} (h : c < 127) : up1 c < 127 := by unfold up1; split <;> lia
theorem lo_lt {c : Nat} (h : c < 127) : lo1 c < 127 := by unfold lo1; split <;> lia
theorem up_cps {x : Str} (h : Asc x) : (Txt.upper x).cps.toList = x.cps.toList.map up1 := by
  rw [upper_ascii fun c hc => Nat.lt_of_lt_of_le (h c hc) (by decide)]; simp
theorem lo_cps {x : Str} (h : Asc x) : (Txt.lower x).cps.toList = x.cps.toList.map lo1 := by
  rw [lower_ascii fun c hc => Nat.lt_of_lt_of_le (h c hc) (by decide)]; simp
theorem up_asc {x : Str} (h : Asc x) : Asc (Txt.upper x) := fun c hc => by
  rw [up_cps h] at hc
  obtain ⟨a, ha, rfl⟩ := List.mem_map.mp hc
  exact up_lt (h a ha)
theorem lo_asc {x : Str} (h : Asc x) : Asc (Txt.lower x) := fun c hc => by
  rw [lo_cps h] at hc
  obtain ⟨a, ha, rfl⟩ := List.mem_map.mp hc
  exact lo_lt (h a ha)
theorem upper_upper {x : Str} (h : Asc x) : Txt.upper (Txt.upper x) = Txt.upper x := str_ext (by
  rw [up_cps (up_asc h), up_cps h, List.map_map]; exact List.map_congr_left fun c _ => up_up c)
theorem lower_upper {x : Str} (h : Asc x) : Txt.lower (Txt.upper x) = Txt.lower x := str_ext (by
  rw [lo_cps (up_asc h), up_cps h, lo_cps h, List.map_map]; exact List.map_congr_left fun c _ => lo_up c)
theorem lower_lower {x : Str} (h : Asc x) : Txt.lower (Txt.lower x) = Txt.lower x := str_ext (by
  rw [lo_cps (lo_asc h), lo_cps h, List.map_map]; exact List.map_congr_left fun c _ => lo_lo c)

theorem upper_len {x : Str} (h : Asc x) : (Txt.upper x).length = x.length ∧ (Txt.lower x).length = x.length := by
  rw [len_cps, len_cps x, len_cps (Txt.lower x), up_cps h, lo_cps h, List.length_map, List.length_map]; exact ⟨rfl, rfl⟩
noncomputable def startL (s : Nat) : List Nat := [97, ([120, 38, 60, 62, 34, 9, 10, 13, 59, 66] : List Nat).getD s 120, 38]
noncomputable def alph : List Nat := [97, 120, 38, 60, 62, 34, 9, 10, 13, 59, 66, 109, 112, 108, 116, 103, 113, 117, 111, 35, 48, 57, 49, 51, 68, 65]
noncomputable def nameL (hand s : Nat) : List (List Nat) := [startL s, escL hand (startL s), escL hand (escL hand (startL s))]
noncomputable def okL (l : List Nat) : Bool := l.all (fun c => decide (c ∈ alph)) && (decide (l.length ≤ 100) && (((l.map lo1).any badName == l.any badName) && (((l.map up1).any badName == l.any badName) && ((!decide ((l.filter fun c => decide (c ∈ [9, 10, 13])) = [])) == l.any badName))))
theorem start_cpsB : ((List.range 10).all fun s => decide ((startS s).cps.toList = startL s)) = true := by decide +kernel
theorem sign_eqB : ((List.range 5).all fun h => alph.all fun c => decide ((spellSign h c).cps.toList = escL h [c])) = true := by decide +kernel
theorem names_okB : ((List.range 5).all fun h => (List.range 10).all fun s => (nameL h s).all okL && (decide ((escL h (startL s)).length ≤ 12) && decide ((((nameL h s).filter fun l => !l.any badName).map fun l => l.map lo1).Nodup))) = true := by decide +kernel
theorem alph_lt : ∀ c ∈ alph, c < 127 := by decide +kernel
structure NameOk (x : Str) : Prop where
  asc : Asc x
  al : ∀ c ∈ x.cps.toList, c ∈ alph
  len : x.length ≤ 100
  low : badStr true x = badStr true (Txt.lower x)
  up : badStr true (Txt.upper x) = badStr true x
  one : badOne x = badStr true x
theorem name_ok {x : Str} (h : okL x.cps.toList = true) : NameOk x := by
  unfold okL at h
  simp only [Bool.and_eq_true, beq_iff_eq] at h
  obtain ⟨h1, h2, h3, h4, h5⟩ := h
  have a : ∀ c ∈ x.cps.toList, c ∈ alph := fun c hc => of_decide_eq_true (all_of h1 c hc)
  have A : Asc x := fun c hc => alph_lt c (a c hc)
  refine ⟨A, a, by rw [len_cps]; exact of_decide_eq_true h2, ?_, ?_, h5⟩
  · show x.cps.toList.any badName = (Txt.lower x).cps.toList.any badName
    rw [lo_cps A, h3]
  · show (Txt.upper x).cps.toList.any badName = x.cps.toList.any badName
    rw [up_cps A, h4]
theorem NameOk.spelled {x : Str} (h : NameOk x) {hand : Nat} (hh : hand < 5) : spelled hand x = escOf hand x := by
  apply str_ext
  rw [spelled_cps, escOf_cps, escL_flat]
  exact flat_congr fun c hc => of_decide_eq_true (all_of (all_of sign_eqB hand (List.mem_range.mpr hh)) c (h.al c hc))
theorem NameOk.nm {x : Str} (h : NameOk x) (hb : badStr true x = false) : NmOk x ∧ NmOk (Txt.upper x) := by
  have u := upper_len h.asc
  have l := h.len
  have e := lower_upper h.asc
  have hb' : badStr true (Txt.lower x) = false := by rw [← h.low, hb]
  refine ⟨⟨by lia, by lia, by lia, e, lower_lower h.asc, hb, hb'⟩, by lia, by rw [e]; lia, by rw [upper_upper h.asc]; lia, by rw [upper_upper h.asc], lower_lower (up_asc h.asc), by rw [h.up, hb], by rw [e, hb']⟩
section
variable {hand s : Nat}
theorem names_cps (hs : s < 10) : (namesS hand s).map (fun x => x.cps.toList) = nameL hand s := by
  have e : (startS s).cps.toList = startL s := of_decide_eq_true (all_of start_cpsB s (List.mem_range.mpr hs))
  unfold namesS nameL
  rw [List.map_cons, List.map_cons, List.map_cons, List.map_nil, escOf_cps, escOf_cps, escOf_cps, e]
theorem names_ok (hh : hand < 5) (hs : s < 10) : (∀ x ∈ namesS hand s, NameOk x) ∧ (escOf hand (startS s)).length ≤ 12 ∧ (((nameL hand s).filter fun l => !l.any badName).map fun l => l.map lo1).Nodup := by
  have q := all_of (all_of names_okB hand (List.mem_range.mpr hh)) s (List.mem_range.mpr hs)
  simp only [Bool.and_eq_true, decide_eq_true_eq] at q
  have e : (startS s).cps.toList = startL s := of_decide_eq_true (all_of start_cpsB s (List.mem_range.mpr hs))
  refine ⟨fun x hx => name_ok (all_of q.1 _ ?_), by rw [len_cps, escOf_cps, e]; exact q.2.1, q.2.2⟩
  rw [← names_cps hs]
  exact List.mem_map.mpr ⟨x, hx, rfl⟩
noncomputable def qOf (hand s : Nat) : List (Str × Bool) := (namesS hand s).map fun x => (x, badStr true x)
noncomputable def lowOf (q : List (Str × Bool)) : List Str := (q.filter fun p => !p.2).map fun p => Txt.lower p.1
theorem nodup_of_map {α β : Type} (f : α → β) : ∀ {l : List α}, (l.map f).Nodup → l.Nodup
  | [], _ => List.Pairwise.nil
  | a :: l, h => by
    rw [List.map_cons, List.nodup_cons] at h
    exact List.nodup_cons.mpr ⟨fun hm => h.1 (List.mem_map.mpr ⟨a, hm, rfl⟩), nodup_of_map f h.2⟩
theorem low_nodup (hh : hand < 5) (hs : s < 10) : (lowOf (qOf hand s)).Nodup := by
  obtain ⟨h1, h2, h3⟩ := names_ok hh hs
  refine nodup_of_map (fun x : Str => x.cps.toList) ?_
  have e : (lowOf (qOf hand s)).map (fun x : Str => x.cps.toList) = ((nameL hand s).filter fun l => !l.any badName).map fun l => l.map lo1 := by
    rw [← names_cps hs]
    unfold lowOf qOf
    rw [List.map_map, List.filter_map, List.map_map, List.filter_map, List.map_map]
    refine List.map_congr_left fun x hx => ?_
    exact lo_cps (h1 x (List.mem_filter.mp hx).1).asc
  rw [e]
  exact h3
theorem seats_ok (hh : hand < 5) (hs : s < 10) : seatsOk (qOf hand s) := fun p hp hb => by
  obtain ⟨x, hx, rfl⟩ := List.mem_map.mp hp
  exact ((names_ok hh hs).1 x hx).nm hb
theorem due_eq (hh : hand < 5) (hs : s < 10) : dueS hand s = namesS hand s := by
  have h := (names_ok hh hs).1
  have e1 : spelled hand (startS s) = escOf hand (startS s) := (h _ (List.mem_cons_self ..)).spelled hh
  have e2 : spelled hand (escOf hand (startS s)) = escOf hand (escOf hand (startS s)) := (h _ (List.mem_cons_of_mem _ (List.mem_cons_self ..))).spelled hh
  unfold dueS namesS
  rw [e1, e2]
end
end

section
noncomputable def seatK (h : Nat) (st : List Nat) : List (List Nat) := st :: ((List.range h).filter fun i => !decide (i ∈ st)).map fun i => st ++ [i]
noncomputable def crowdK : List Nat → List (List Nat)
  | [] => [[]]
  | h :: r => (crowdK r).flatMap (seatK h)
noncomputable def rookK (sts : List (List Nat)) : List Int := (List.range 4).map fun (c : Nat) => ((sts.filter fun st => decide (st.length = c)).length : Int)
noncomputable def absSt (L : List Str) (st : List (Str × Str)) : List Nat := st.map fun p => L.idxOf (Txt.lower p.1)
theorem idx_inj {L : List Str} {x y : Str} (hx : x ∈ L) (hy : y ∈ L) (h : L.idxOf x = L.idxOf y) : x = y := by
  have g : ∀ {z : Str}, z ∈ L → L[L.idxOf z]? = some z := fun {z} hz => by
    have hl : L.idxOf z < L.length := List.idxOf_lt_length_of_mem hz
    rw [List.getElem?_eq_getElem hl]
    congr 1
    have := List.findIdx_getElem (xs := L) (p := (· == z)) (w := hl)
    exact eq_of_beq this
  have a := g hx
  rw [h, g hy] at a
  exact (Option.some.inj a).symm
theorem idx_range {L : List Str} (hn : L.Nodup) (h3 : L.length ≤ 3) {h : Nat} (hh : h ≤ L.length) : (L.take h).map (fun x => L.idxOf x) = List.range h := by
  refine List.ext_getElem? fun i => ?_
  by_cases hi : i < h
  · rw [List.getElem?_map, List.getElem?_take_of_lt hi, List.getElem?_eq_getElem (show i < L.length by lia), List.getElem?_range hi]
    show some _ = some _
    congr 1
    have hm : L[i]'(by lia) ∈ L := List.getElem_mem _
    have hl := List.idxOf_lt_length_of_mem hm
    have e : L[L.idxOf (L[i]'(by lia))] = L[i]'(by lia) := by
      have := List.findIdx_getElem (xs := L) (p := (· == L[i]'(by lia))) (w := hl)
      exact eq_of_beq this
    exact (List.getElem_inj hn).mp e
  · rw [List.getElem?_eq_none (by rw [List.length_map, List.length_take]; lia), List.getElem?_eq_none (by rw [List.length_range]; lia)]
section
variable {L : List Str} {called : List Str} {h : Nat} {g : Str}
theorem one_abs (hn : L.Nodup) (h3 : L.length ≤ 3) (hh : h ≤ L.length) (hc : called.map Txt.lower = L.take h) {st : List (Str × Str)} (hst : ∀ p ∈ st, Txt.lower p.1 ∈ L) : (plainOne called g st).map (absSt L) = seatK h (absSt L st) := by
  have e1 : called.map (fun nm => L.idxOf (Txt.lower nm)) = List.range h := by
    rw [← idx_range hn h3 hh, ← hc, List.map_map]; rfl
  unfold plainOne seatK
  rw [List.map_cons, ← e1, List.filter_map, List.map_map, List.map_map]
  congr 1
  have e2 : called.filter ((fun i => !decide (i ∈ absSt L st)) ∘ fun nm => L.idxOf (Txt.lower nm)) = called.filter fun nm => !takenB st nm := by
    refine List.filter_congr fun nm hnm => ?_
    have hm : Txt.lower nm ∈ L := List.mem_of_mem_take (by rw [← hc]; exact List.mem_map.mpr ⟨nm, hnm, rfl⟩)
    show (!decide (L.idxOf (Txt.lower nm) ∈ absSt L st)) = !decide (Txt.lower nm ∈ st.map fun p => Txt.lower p.1)
    congr 1
    refine decide_eq_decide.mpr ⟨fun q => ?_, fun q => ?_⟩
    · obtain ⟨p, hp, e⟩ := List.mem_map.mp q
      exact List.mem_map.mpr ⟨p, hp, idx_inj (hst p hp) hm e⟩
    · obtain ⟨p, hp, e⟩ := List.mem_map.mp q
      exact List.mem_map.mpr ⟨p, hp, by rw [e]⟩
  rw [e2]
  refine List.map_congr_left fun nm _ => ?_
  show (st ++ [(nm, g)]).map (fun p => L.idxOf (Txt.lower p.1)) = absSt L st ++ [L.idxOf (Txt.lower nm)]
  rw [List.map_append]; rfl
theorem all_abs (hn : L.Nodup) (h3 : L.length ≤ 3) (hh : h ≤ L.length) (hc : called.map Txt.lower = L.take h) : ∀ {sts : List (List (Str × Str))}, (∀ st ∈ sts, ∀ p ∈ st, Txt.lower p.1 ∈ L) → (plainOf called g sts).map (absSt L) = (sts.map (absSt L)).flatMap (seatK h)
  | [], _ => rfl
  | st :: r, hs => by
    show ((st :: r).flatMap (plainOne called g)).map (absSt L) = _
    rw [List.flatMap_cons, List.map_append, one_abs hn h3 hh hc fun p hp => hs st (List.mem_cons_self ..) p hp, List.map_cons, List.flatMap_cons]
    have := all_abs (sts := r) hn h3 hh hc fun x hx => hs x (List.mem_cons_of_mem _ hx)
    unfold plainOf at this
    rw [this]
end
theorem called_low {q : List (Str × Bool)} (hl : ∀ p ∈ q, p.2 = false → Txt.lower (Txt.upper p.1) = Txt.lower p.1) (cell : Int) : (calledOf q cell).map Txt.lower = (lowOf q).take (calledOf q cell).length ∧ (calledOf q cell).length ≤ (lowOf q).length := by
  have e : (calledOf q cell).map Txt.lower = ((q.take (takeOf cell)).filter fun p => !p.2).map fun p => Txt.lower p.1 := by
    unfold calledOf
    split
    · rw [List.map_map, List.map_map]
      refine List.map_congr_left fun p hp => ?_
      obtain ⟨a, b⟩ := List.mem_filter.mp hp
      exact hl p (List.mem_of_mem_take a) (by simpa using b)
    · rw [List.map_map]; rfl
  have hp : (calledOf q cell).map Txt.lower <+: lowOf q := by
    rw [e]
    exact ((List.take_prefix _ q).filter _).map _
  have h1 := List.prefix_iff_eq_take.mp hp
  rw [List.length_map] at h1
  have h2 := hp.length_le
  rw [List.length_map] at h2
  exact ⟨h1, h2⟩
noncomputable def seatsN (q : List (Str × Bool)) (cells : List Int) : Nat → List Nat
  | 0 => []
  | i + 1 => (calledOf q (cells.getD i 0)).length :: seatsN q cells i
theorem crowd_abs {q : List (Str × Bool)} (hl : ∀ p ∈ q, p.2 = false → Txt.lower (Txt.upper p.1) = Txt.lower p.1) (hn : (lowOf q).Nodup) (h3 : (lowOf q).length ≤ 3) (cells : List Int) : ∀ i, (∀ st ∈ (crowdN q cells i).1, ∀ p ∈ st, Txt.lower p.1 ∈ lowOf q) ∧ (crowdN q cells i).1.map (absSt (lowOf q)) = crowdK (seatsN q cells i)
  | 0 => ⟨fun st hs p hp => (by rw [List.mem_singleton.mp hs] at hp; cases hp), rfl⟩
  | i + 1 => by
    obtain ⟨I1, I2⟩ := crowd_abs hl hn h3 cells i
    obtain ⟨c1, c2⟩ := called_low hl (cells.getD i 0)
    refine ⟨fun st hs p hp => ?_, ?_⟩
    · obtain ⟨st0, h0, e⟩ := plain_mem hs
      rcases e with rfl | ⟨nm, hnm, rfl⟩
      · exact I1 _ h0 p hp
      · rcases List.mem_append.mp hp with hp | hp
        · exact I1 _ h0 p hp
        · rw [List.mem_singleton.mp hp]
          exact List.mem_of_mem_take (by rw [← c1]; exact List.mem_map.mpr ⟨nm, hnm, rfl⟩)
    · show (plainOf (calledOf q (cells.getD i 0)) (guestAt i) (crowdN q cells i).1).map _ = (crowdK (seatsN q cells i)).flatMap _
      rw [all_abs hn h3 c2 c1 I1, I2]
theorem rook_abs (L : List Str) (sts : List (List (Str × Str))) : rookOf sts = rookK (sts.map (absSt L)) := by
  unfold rookOf rookK
  refine List.map_congr_left fun c _ => ?_
  rw [List.filter_map, List.length_map]
  congr 2
  refine List.filter_congr fun st _ => ?_
  show _ = decide ((absSt L st).length = c)
  unfold absSt
  rw [List.length_map]
theorem crowd_sum {q : List (Str × Bool)} (hl : ∀ p ∈ q, p.2 = false → Txt.lower (Txt.upper p.1) = Txt.lower p.1) (hn : (lowOf q).Nodup) (h3 : (lowOf q).length ≤ 3) (cells : List Int) :
    ∃ h1 h2 h3 : Nat, h1 ≤ 3 ∧ h2 ≤ 3 ∧ h3 ≤ 3 ∧ (crowdN q cells 3).2 = [(h1 : Int), (h2 : Int), (h3 : Int)] ∧ rookOf (crowdN q cells 3).1 = rookK (crowdK [h3, h2, h1]) :=
  ⟨(calledOf q (cells.getD 0 0)).length, (calledOf q (cells.getD 1 0)).length, (calledOf q (cells.getD 2 0)).length, called_len _ _, called_len _ _, called_len _ _, rfl, by rw [rook_abs (lowOf q), (crowd_abs hl hn h3 cells 3).2]; rfl⟩
end

section
noncomputable def cntT : List (List Nat) := [[1, 1, 1], [0, 2, 1], [0, 1, 2], [0, 1, 1, 1], [0, 0, 3], [0, 0, 2, 1], [0, 0, 1, 2], [0, 0, 1, 1, 1], [0, 0, 0, 3], [0, 0, 0, 2, 1], [0, 0, 0, 1, 2], [0, 0, 0, 1, 1, 1]]
noncomputable def rkT : List (List Int) := [[1, 0, 0, 0], [1, 1, 0, 0], [1, 2, 0, 0], [1, 3, 0, 0], [1, 3, 1, 0], [1, 4, 2, 0], [1, 5, 4, 0], [1, 6, 6, 0], [1, 6, 7, 1], [1, 7, 10, 2], [1, 8, 14, 4], [1, 9, 18, 6]]
noncomputable def sortT : List Nat := [0, 1, 2, 3, 1, 2, 4, 5, 2, 4, 5, 6, 3, 5, 6, 7, 1, 2, 4, 5, 2, 3, 5, 6, 4, 5, 6, 8, 5, 6, 8, 9, 2, 4, 5, 6, 4, 5, 6, 8, 5, 6, 7, 9, 6, 8, 9, 10, 3, 5, 6, 7, 5, 6, 8, 9, 6, 8, 9, 10, 7, 9, 10, 11]
noncomputable def wsT (j e : Nat) : WS := ⟨(((cntT.getD j []).zipIdx.map fun p => p.1 * p.2).foldl (· + ·) 3) + e, 3, e, cntT.getD j []⟩
noncomputable def rT (j : Nat) : List Int := rkT.getD j []
noncomputable def hsI (a b c : Nat) : List Int := [(a : Int), (b : Int), (c : Int)]
noncomputable def jT (a b c : Nat) : Nat := sortT.getD (16 * a + 4 * b + c) 0
noncomputable def sameWs (x y : WS) : Bool := x.n == y.n && (x.nt == y.nt && (x.b == y.b && x.count == y.count))
theorem sameWs_eq {x y : WS} (h : sameWs x y = true) : x = y := by
  obtain ⟨x1, x2, x3, x4⟩ := x
  obtain ⟨y1, y2, y3, y4⟩ := y
  unfold sameWs at h
  simp only [Bool.and_eq_true, beq_iff_eq] at h
  obtain ⟨h1, h2, h3, h4⟩ := h
  rw [h1, h2, h3, h4]
theorem rookB : ((List.range 4).all fun a => (List.range 4).all fun b => (List.range 4).all fun c => decide (rookK (crowdK [c, b, a]) = rT (jT a b c)) && decide (jT a b c < 12)) = true := by decide +kernel
theorem ws1B : ((List.range 4).all fun a => (List.range 4).all fun b => (List.range 4).all fun c => (List.range 2).all fun e => sameWs (wsOf (txt1 (runsOf (hsI a b c)) e)) (wsT (jT a b c) e)) = true := by decide +kernel
theorem ws2B : ((List.range 4).all fun a => (List.range 4).all fun b => (List.range 4).all fun c => (List.range 2).all fun e => sameWs (wsOf (txt2 (runsOf (hsI a b c)) e)) (wsT (jT a b c) e)) = true := by decide +kernel
theorem passB : ((List.range 12).all fun j => decide ((cntT.getD j []).length ≤ 6) && ((cntT.getD j []).all (fun k => decide (k ≤ 3)) && (decide ((rT j).length = 4) && (decide (iSum ((cntT.getD j []).map fun (k : Nat) => (k : Int)) = 3) && (List.range 4).all fun m => decide (rookPoly (rT j) m = prodTo (cntT.getD j []) m (cntT.getD j []).length))))) = true := by decide +kernel
theorem rk_injB : ((List.range 12).all fun j => (List.range 12).all fun k => decide (rT j = rT k) == decide (cntT.getD j [] = cntT.getD k [])) = true := by decide +kernel
theorem witB : ((List.range 12).all fun j => (List.range 12).all fun k => (List.range 2).all fun e => (List.range 2).all fun f => decide (witOf (wsT j e) (wsT k f) = []) == (decide (cntT.getD j [] = cntT.getD k []) && decide (e = f))) = true := by decide +kernel
end

end Lw
end

section
open PySem PySem.W PyProof.Rows PySem.Calls PySem.Challenge
namespace Lw
local macro_rules | `(tactic| walk_at "k") => `(tactic| first | rfl | assumption | exact lookup_cons_eq | (rw [lookup_cons_ne (by decide)]; walk_at "k"))
local macro_rules | `(tactic| walk_at "s") => `(tactic| first | exact Sub.nil | (refine' Sub.more ?lk ?r; (case lk => walk_at "k"); (case r => walk_at "s")))

section
theorem runB : ((List.range 4).all fun a => (List.range 4).all fun b => (List.range 4).all fun c => decide ((runsOf (hsI a b c)).length = 3) && (runsOf (hsI a b c)).all fun r => decide (r.length ≤ 10)) = true := by decide +kernel
structure CrowdIs (c : List (List (Str × Str)) × List Int) (j : Nat) : Prop where
  jl : j < 12
  rook : rookOf c.1 = rT j
  ws1 : ∀ e, e < 2 → wsOf (txt1 (runsOf c.2) e) = wsT j e
  ws2 : ∀ e, e < 2 → wsOf (txt2 (runsOf c.2) e) = wsT j e
  rl : (runsOf c.2).length = 3
  rs : ∀ r ∈ runsOf c.2, r.length ≤ 10
theorem crowd_is {q : List (Str × Bool)} (hl : ∀ p ∈ q, p.2 = false → Txt.lower (Txt.upper p.1) = Txt.lower p.1) (hn : (lowOf q).Nodup) (h3 : (lowOf q).length ≤ 3) (cells : List Int) : ∃ j, CrowdIs (crowdN q cells 3) j := by
  obtain ⟨a, b, c, ha, hb, hc, e1, e2⟩ := crowd_sum hl hn h3 cells
  have m4 : ∀ {x : Nat}, x ≤ 3 → x ∈ List.range 4 := fun h => List.mem_range.mpr (by lia)
  have r := all_of (all_of (all_of rookB a (m4 ha)) b (m4 hb)) c (m4 hc)
  have s := all_of (all_of (all_of runB a (m4 ha)) b (m4 hb)) c (m4 hc)
  rw [Bool.and_eq_true] at r s
  refine ⟨jT a b c, of_decide_eq_true r.2, e2.trans (of_decide_eq_true r.1), fun e he => ?_, fun e he => ?_, ?_, fun x hx => ?_⟩
  · rw [e1]; exact sameWs_eq (all_of (all_of (all_of (all_of ws1B a (m4 ha)) b (m4 hb)) c (m4 hc)) e (List.mem_range.mpr he))
  · rw [e1]; exact sameWs_eq (all_of (all_of (all_of (all_of ws2B a (m4 ha)) b (m4 hb)) c (m4 hc)) e (List.mem_range.mpr he))
  · rw [e1]; exact of_decide_eq_true s.1
  · rw [e1] at hx; exact of_decide_eq_true (all_of s.2 x hx)
theorem pass_ok {j e : Nat} (hj : j < 12) : PassOk (wsT j e) (rT j) e := by
  have h := all_of passB j (List.mem_range.mpr hj)
  simp only [Bool.and_eq_true, decide_eq_true_eq] at h
  obtain ⟨h1, h2, h3, h4, h5⟩ := h
  exact ⟨Nat.le_trans h1 (by decide), fun k hk => of_decide_eq_true (all_of h2 k hk), h3, fun m hm => of_decide_eq_true (all_of h5 m (List.mem_range.mpr hm)), h4, rfl⟩
theorem int_beq (e f : Nat) : ((e : Int) == (f : Int)) = decide (e = f) := by
  by_cases h : e = f
  · subst h; rw [decide_eq_true rfl, beq_self_eq_true]
  · rw [decide_eq_false h]; exact beq_eq_false_iff_ne.mpr fun q => h (by lia)
theorem alike_eq {j k e f : Nat} (hj : j < 12) (hk : k < 12) (he : e < 2) (hf : f < 2) :
    equalOf (wsT j e) (wsT k f) = (decide (rT j = rT k) && ((e : Int) == (f : Int))) ∧ decide (witOf (wsT j e) (wsT k f) = []) = (decide (rT j = rT k) && ((e : Int) == (f : Int))) := by
  have h1 := eq_of_beq (all_of (all_of rk_injB j (List.mem_range.mpr hj)) k (List.mem_range.mpr hk))
  have h2 := eq_of_beq (all_of (all_of (all_of (all_of witB j (List.mem_range.mpr hj)) k (List.mem_range.mpr hk)) e (List.mem_range.mpr he)) f (List.mem_range.mpr hf))
  rw [int_beq, h1]
  refine ⟨?_, h2⟩
  show (decide (cntT.getD j [] = cntT.getD k []) && (decide (e = f) && true)) = _
  rw [Bool.and_true]
section
variable {n : Nat} {C W pn pv : Addr} {P : Out → Prop}
theorem q_words {hand s : Nat} : strsD ((namesS hand s).map wordOf) = qWords (qOf hand s) := by
  unfold strsD qWords qOf
  rw [List.map_map, List.map_map]; rfl
theorem q_names {hand s : Nat} : strsD (namesS hand s) = qNames (qOf hand s) := by
  unfold strsD qNames qOf
  rw [List.map_map]; rfl
theorem q_bad {hand s : Nat} (h : ∀ x ∈ namesS hand s, badOne x = badStr true x) : D.lst ((namesS hand s).map fun x => .bool (badOne x)) = qBad (qOf hand s) := by
  unfold qBad qOf
  rw [List.map_map]
  congr 1
  exact List.map_congr_left fun x hx => by rw [h x hx]; rfl
theorem txt2_len {tr : List Str} {b : Nat} (h : tr.length = 3) (hl : ∀ r ∈ tr, r.length ≤ 10) (hb : b ≤ 10) : (txt2 tr b).length ≤ 50 := by
  have g : ∀ i, i < 3 → (tr.getD i "").length ≤ 10 := fun i hi => hl _ (getD_mem (by lia))
  refine txt1_len (by show 3 ≤ 3; decide) (fun r hr => ?_) hb
  simp only [List.mem_cons, List.not_mem_nil, or_false] at hr
  rcases hr with rfl | rfl | rfl
  · exact g 2 (by decide)
  · exact g 1 (by decide)
  · exact g 0 (by decide)
set_option maxHeartbeats 1000000 in
theorem law_run (L : LawK K C W pn pv) {cells : List Int} (hc : cells.length = 6) {hand s a b : Nat} (hh : hand < 5) (hs : s < 10) (ha : a < 2) (hb : b < 2) (eh : (iSum cells).fmod 5 = (hand : Int)) (es : ((iSum cells).fdiv 10).fmod 10 = (s : Int))
    (ea : ((cells.getD 0 0).fdiv 100).fmod 2 = (a : Int)) (eb : ((cells.getD 3 0).fdiv 100).fmod 2 = (b : Int)) (h : ∀ ω, P (.ret (.bool true) ω)) : EX prog w K ⟨true, []⟩ lawSc (n + 8) (lawFrom 1) [kv "cells" (.lst (cells.map .int))] [] P := by
  obtain ⟨n1, n2, n3⟩ := names_ok hh hs
  have nS : NameOk (startS s) := n1 _ (List.mem_cons_self ..)
  have l1 : (startS s).length ≤ 12 := by
    have : (startS s).length = (startL s).length := by rw [len_cps]; exact congrArg List.length (of_decide_eq_true (all_of start_cpsB s (List.mem_range.mpr hs)))
    rw [this]; show 3 ≤ 12; decide
  have hso := seats_ok hh hs
  have hnd := low_nodup hh hs
  have hlow : ∀ p ∈ qOf hand s, p.2 = false → Txt.lower (Txt.upper p.1) = Txt.lower p.1 := fun p hp hb => (hso p hp hb).1.lu
  have hql : (qOf hand s).length = 3 := rfl
  have hl3 : (lowOf (qOf hand s)).length ≤ 3 := by
    unfold lowOf
    rw [List.length_map]
    exact Nat.le_trans (List.length_filter_le _ _) (by rw [hql]; decide)
  obtain ⟨j, J⟩ := crowd_is hlow hnd hl3 (cells.take 3)
  obtain ⟨k, M⟩ := crowd_is hlow hnd hl3 (cells.drop 3)
  have hup : ∀ p ∈ qOf hand s, (Txt.upper p.1).length ≤ 1000000 := fun p hp => by
    obtain ⟨x, hx, rfl⟩ := List.mem_map.mp hp
    have N := n1 x hx
    have := (upper_len N.asc).1
    have := N.len
    lia
  have I := crowd_inv hso (cells.take 3) 3
  have I' := crowd_inv hso (cells.drop 3) 3
  obtain ⟨e0, e1, e2, e3, e4, g0, g1, g2, g3, g4, f, hf, kf, hcall⟩ := write_ok (prog := prog) (w := w) L hh
  have hal := alike_eq J.jl M.jl ha hb
  refine law_step (by decide) (Sub.refl _) (fun Q h => st_hand L eh h) ?_
  refine law_step (by decide) (Sub.refl _) (fun Q h => st_write g0 g1 g2 g3 g4 hf hh h) ?_
  with_reducible refine law_step (by decide) (Sub.refl _) (fun Q h => st_start L es hs h) ?_
  refine law_step (by decide) (Sub.refl _) (fun Q h => st_names (n := n + 7) kf hcall l1 n2 h) ?_
  refine law_step (ρs := [kv "names" (strsD (namesS hand s)), kv "start" (.str (startS s)), kv "hand" (.int hand), kv "cells" (.lst (cells.map .int))]) (by decide) (by walk_at "s") (fun Q h => st_words L (nms := namesS hand s) rfl (fun x hx => ?_) h) ?_
  · have N := n1 x hx
    have := (upper_len N.asc).2
    have := N.len
    exact ⟨by lia, by lia, N.low⟩
  refine law_step (ρs := [kv "words" (strsD ((namesS hand s).map wordOf)), kv "names" (strsD (namesS hand s)), kv "start" (.str (startS s)), kv "hand" (.int hand), kv "cells" (.lst (cells.map .int))]) (by decide) (by walk_at "s") (fun Q h => st_due L hh (Nat.le_trans l1 (by decide)) (by rw [nS.spelled hh]; exact Nat.le_trans n2 (by decide)) h) ?_
  rw [due_eq hh hs]
  refine law_step (ρs := [kv "due" (strsD (namesS hand s)), kv "words" (strsD ((namesS hand s).map wordOf)), kv "names" (strsD (namesS hand s)), kv "cells" (.lst (cells.map .int))]) (by decide) (by walk_at "s") (fun Q h => st_bad (due := namesS hand s) rfl (fun x hx => Nat.le_trans (n1 x hx).len (by decide)) h) ?_
  rw [q_words, q_bad fun x hx => (n1 x hx).one]
  refine law_step (ρs := [kv "bad" (qBad (qOf hand s)), kv "due" (strsD (namesS hand s)), kv "words" (qWords (qOf hand s)), kv "names" (qNames (qOf hand s)), kv "cells" (.lst (cells.map .int))]) (by decide) (by rw [← q_names]; walk_at "s") (fun Q h => st_crowd1 (n := n) L hc (by rw [hql]; decide) hup hso h) ?_
  refine law_step (by decide) (Sub.refl _) (fun Q h => st_crowd2 (n := n) L hc (by rw [hql]; decide) hup hso h) ?_
  have dueE : strsD (namesS hand s) = strsD ((qOf hand s).map fun p => p.1) := by
    unfold strsD qOf
    rw [List.map_map, List.map_map]; rfl
  rw [dueE]
  generalize qOf hand s = q at *
  generalize crowdN q (cells.take 3) 3 = c at *
  generalize crowdN q (cells.drop 3) 3 = d at *
  refine law_step (by decide) (Sub.refl _) (fun Q h => st_ends hc ea eb h) ?_
  refine law_step (ρs := [kv "ends" (.lst [.int a, .int b]), kv "turned" (strsD (runsOf d.2)), kv "other" (stsD d), kv "second" (stsD d), kv "runs" (strsD (runsOf c.2)), kv "plain" (stsD c), kv "first" (stsD c), kv "bad" (qBad q), kv "due" (strsD (q.map fun p => p.1)), kv "words" (qWords q), kv "names" (qNames q)]) (by decide) (by walk_at "s") (fun Q h => st_spaces L (by lia) (by lia) J.rl M.rl J.rs M.rs h) ?_
  refine law_step (ρs := [kv "spaces" (.lst [wsD W (txt1 (runsOf c.2) a), wsD W (txt2 (runsOf d.2) b)]), kv "ends" (.lst [.int a, .int b]), kv "other" (stsD d), kv "second" (stsD d), kv "plain" (stsD c), kv "first" (stsD c), kv "bad" (qBad q), kv "due" (strsD (q.map fun p => p.1)), kv "words" (qWords q), kv "names" (qNames q)]) (by decide) (by walk_at "s") (fun Q h => st_rooks L (f := c.1) (g := d.1) (Nat.le_trans I.len (by decide)) (Nat.le_trans I'.len (by decide)) (fun st hst => ?_) h) ?_
  · rcases List.mem_append.mp hst with hst | hst
    · exact Nat.le_trans (I.st st hst).1 (by decide)
    · exact Nat.le_trans (I'.st st hst).1 (by decide)
  refine law_step (by decide) (Sub.refl _) (fun Q h => st_alike h) ?_
  have hrk : alikeOf c.1 d.1 a b = (decide (rT j = rT k) && ((a : Int) == (b : Int))) := by unfold alikeOf; rw [J.rook, M.rook]
  have t1 := J.ws1 a ha
  have t2 := M.ws2 b hb
  refine law_step (by decide) (Sub.refl _) (fun Q h => st_test L (wsOf_ok (Nat.le_trans (txt1_len (by rw [J.rl]; decide) J.rs (by lia)) (by decide))) (wsOf_ok (Nat.le_trans (txt2_len M.rl M.rs (by lia)) (by decide))) (by rw [t1, t2, hal.1, hrk]) (by rw [t1, t2, hal.2, hrk]) h) ?_
  refine law_step (ρs := [kv "rooks" (.lst [.lst ((rookOf c.1).map .int), .lst ((rookOf d.1).map .int)]), kv "spaces" (.lst [wsD W (txt1 (runsOf c.2) a), wsD W (txt2 (runsOf d.2) b)]), kv "ends" (.lst [.int a, .int b]), kv "other" (stsD d), kv "second" (stsD d), kv "plain" (stsD c), kv "first" (stsD c), kv "bad" (qBad q), kv "due" (strsD (q.map fun p => p.1)), kv "words" (qWords q), kv "names" (qNames q)]) (by decide) (by walk_at "s") (fun Q h => st_loop L (by rw [t1, J.rook]; exact pass_ok J.jl) (by rw [t2, M.rook]; exact pass_ok M.jl) h) ?_
  rw [lawFrom_cons (by decide)]
  refine ex_sub (ρ' := [kv "other" (stsD d), kv "second" (stsD d), kv "plain" (stsD c), kv "first" (stsD c), kv "bad" (qBad q), kv "due" (strsD (q.map fun p => p.1)), kv "words" (qWords q), kv "names" (qNames q)]) (ω' := []) (ex_cons ?_) (by walk_at "s") (SubO.refl _)
  exact st_ret (by rw [hql]; decide) (h _)
theorem law_ok (L : LawK K C W pn pv) {fa : Addr} {fd : FuncData} (F : Def K fa (stAt pw_tc0083_02 22) fd) {ys : List Int} (hys : ys.length ≤ 63) :
    CallC prog w K true (.ref fa) (n + 9) [] [.lst (ys.map .int)] [] (fun r => ∃ ω, r = .val (.bool true) ω) := by
  refine def_callC F.toD (xs := ["script"]) rfl rfl (fun name qual body scope gl clo doc md an code ct bi => bind_kw (fun vs us hl hu => ?_) rfl) (by decide) (kinds_ok rfl) ?_
  · obtain ⟨v1, rfl⟩ := len1 hl
    obtain rfl := len0 hu
    rfl
  have h := seg_cells (prog := prog) (w := w) (n := n + 8) (P := Ret true fun r => ∃ ω, r = .val (.bool true) ω) L hys fun cells hc => by
    obtain ⟨hand, eh, hh⟩ := fmod_nat (iSum cells) (k := 5) (by decide)
    obtain ⟨s, es, hs⟩ := fmod_nat ((iSum cells).fdiv 10) (k := 10) (by decide)
    obtain ⟨a, ea, ha⟩ := fmod_nat ((cells.getD 0 0).fdiv 100) (k := 2) (by decide)
    obtain ⟨b, eb, hb⟩ := fmod_nat ((cells.getD 3 0).fdiv 100) (k := 2) (by decide)
    exact law_run L hc hh hs ha hb eh es ea eb fun ω => ⟨ω, rfl⟩
  exact ex_sub h (Sub.refl _) (SubO.refl _)
end
end

end Lw
end

section
open PySem PySem.W PyProof.Rows PySem.Calls PySem.Challenge PySem.Spec
namespace Lw

section
theorem rl_ints {U : Addr → Prop} {h : Heap} : ∀ {vs : List Value} {ns : List Int}, IntsAre vs ns → RL U h vs (ns.map .int)
  | _, _, .nil => rfl
  | _, _, .cons n t r => ⟨_, _, rfl, ⟨t, rfl⟩, rl_ints r⟩
theorem law_goal {C W pn pv fa l : Addr} {fd : FuncData} (L : LawK K C W pn pv) (F : Def K fa (stAt pw_tc0083_02 22) fd) {s : Shared} (X : K.In s.heap) (hlim : s.heap.NoLimit) (htk : 0 < s.toks) (hg : s.gens = #[])
    {vs : List Value} {ys : List Int} (hp : s.heap.get? l = some { cls := .type "list", data := .seq vs.toArray }) (hi : IntsAre vs ys) (hys : ys.length ≤ 63) {c : ClaimW} {cl : Str → Option Addr} {mean : ExcName → Option Value} {args : List WData}
    (hr : ∀ cls, c.raises args cls = false) (hpost : c.post args (.bool true) args = true) :
    wpAny (model prog w) callerA (call (.ref fa) [.ref l] []) (fun v s' => GoodWG c cl mean args s (.ok (.ret v)) s') (fun e s' => GoodWG c cl mean args s (.error e) s') s := by
  have h := callM_of (law_ok (prog := prog) (w := w) (n := 0) L F hys)
  have rm : Rm 9 callerA := ⟨rfl, by decide, by decide⟩
  have i0 : In0 K (fun _ => False) (fun _ => False) [] s := ⟨⟨X, hlim, fun _ h => h.elim, htk⟩, fun _ _ h => (by cases h), fun _ h => (by cases h), fun _ h => h.elim⟩
  have rl : RL (fun _ => False) s.heap [.ref l] [.lst (ys.map .int)] := ⟨_, _, rfl, ⟨l, vs, rfl, id, ⟨_, hp⟩, rl_ints hi⟩, rfl⟩
  refine wpAny_mono (h callerA _ _ s _ _ rm i0 (fun _ => ⟨[], rfl, fun _ h => by cases h⟩) rl KwOk.nil) (fun v s' hz231 => ?_) fun e s' hz232 => by obtain ⟨d, ω', ⟨ω, q⟩, b, r⟩ := hz232; cases q
  obtain ⟨d, ω', ⟨ω, q⟩, b, r⟩ := hz231
  cases q
  have hv : v = .bool true := r
  subst hv
  obtain ⟨hh, tk, e⟩ := b.same
  refine ⟨.inl ⟨_, _, [], rfl, hr, ReadsW.bool true, hpost, fun _ => ⟨List.nodup_nil, fun _ hm => (nomatch hm)⟩⟩, .of_keep fun b' o ho => b.keep b' o rfl id ho, by rw [e], .of_eq ?_⟩
  rw [e]; exact hg
end

end Lw
end

section
open PySem PySem.W PyProof.Rows PySem.Calls PySem.Challenge PySem.Spec PySem.W.X PySem.Builtin.Re
namespace Lw

section
theorem frag_in (k : Nat) (h : Heap) : (fragAt k h).In h := fun a o e => by
  have hm : (a, o) ∈ fragAt k h := by
    unfold fragAt at e ⊢
    generalize (List.range k).filterMap (fun a => (h.get? a).map fun o => (a, o)) = l at e
    induction l with
    | nil => cases e
    | cons p r ih =>
      obtain ⟨b, q⟩ := p
      rw [List.lookup_cons] at e
      by_cases hb : a == b
      · rw [hb] at e
        have : a = b := eq_of_beq hb
        cases e
        rw [this]
        exact List.mem_cons_self
      · rw [Bool.not_eq_true _ |>.mp hb] at e
        exact List.mem_cons_of_mem _ (ih e)
  unfold fragAt at hm
  obtain ⟨b, _, hb⟩ := List.mem_filterMap.mp hm
  cases hq : h.get? b with
  | none => rw [hq] at hb; cases hb
  | some o' => rw [hq] at hb; cases hb; exact hq
theorem refV_of {v : Value} {a : Addr} (h : refV v = some a) : v = .ref a := by
  cases v <;> first
    | (cases (show (none : Option Addr) = some a from h); done)
    | (cases h; rfl)
theorem strV_of {v : Value} {x : Str} (h : strV v = some x) : ∃ t, v = .str x t := by
  cases v <;> first
    | (cases (show (none : Option Str) = some x from h); done)
    | (cases h; exact ⟨_, rfl⟩)
theorem refO_of {x : Option (Option Value)} {a : Addr} (h : refO x = some a) : x = some (some (.ref a)) := by
  obtain ⟨y, e1, h1⟩ := Option.bind_eq_some_iff.mp h
  obtain ⟨z, e2, h2⟩ := Option.bind_eq_some_iff.mp h1
  rw [e1, e2, refV_of h2]
theorem funD_of {d : Data} {fd : FuncData} (h : funD d = some fd) : d = .func fd := by
  cases d <;> first
    | (cases (show (none : Option FuncData) = some fd from h); done)
    | (cases h; rfl)
theorem seqD_of {d : Data} {xs : Array Value} (h : seqD d = some xs) : ∃ n, d = .seq xs n := by
  cases d <;> first
    | (cases (show (none : Option (Array Value)) = some xs from h); done)
    | (cases h; exact ⟨_, rfl⟩)
theorem fldD_of {d : Data} {xs : Array Value} (h : fldD d = some xs) : d = .fields xs := by
  cases d <;> first
    | (cases (show (none : Option (Array Value)) = some xs from h); done)
    | (cases h; rfl)
theorem code_ok {K : Frag} {fd : FuncData} (h : codeOk K fd = true) : ∃ c co vs t, fd.code = .ref c ∧ K.lookup c = some co ∧ co.data = .fields vs ∧ vs[1]? = some (.str fd.qualname t) := by
  obtain ⟨c, hc, h⟩ := Option.bind_eq_some_iff.mp (of_decide_eq_true h)
  obtain ⟨o, ho, h⟩ := Option.bind_eq_some_iff.mp h
  obtain ⟨vs, hv, h⟩ := Option.bind_eq_some_iff.mp h
  obtain ⟨v, h1, h⟩ := Option.bind_eq_some_iff.mp h
  obtain ⟨t, rfl⟩ := strV_of h
  exact ⟨c, o, vs, t, refV_of hc, ho, fldD_of hv, h1⟩
theorem defD_of {K : Frag} {f : Addr} {st : Stmt} {dv : Value} (h : fnSum K f = some (sumOf st dv)) (ha : (fnArgs st).isSome = true) (hs : (fnScope st).isSome = true) : ∃ fd, DefD K f st fd dv := by
  obtain ⟨o, ho, h⟩ := Option.bind_eq_some_iff.mp h
  obtain ⟨fd, hf, h⟩ := Option.map_eq_some_iff.mp h
  have h1 := congrArg Prod.fst h
  have h := congrArg Prod.snd h
  have h2 := congrArg Prod.fst h
  have h := congrArg Prod.snd h
  have h3 := congrArg (fun x => x.1.1) h
  have h4 := congrArg (fun x => x.1.2) h
  have h := congrArg Prod.snd h
  have h5 : fd.params = (fnArgs st).getD default := congrArg Prod.fst h
  have h := congrArg Prod.snd h
  have h6 : fd.scope = (fnScope st).getD default := congrArg Prod.fst h
  have h := congrArg Prod.snd h
  have h7 := congrArg Prod.fst h
  have h := congrArg Prod.snd h
  have h8 := congrArg Prod.fst h
  have h9 : (okScope fd.scope && codeOk K fd) = true := congrArg Prod.snd h
  rw [Bool.and_eq_true] at h9
  obtain ⟨ps, hps⟩ := Option.isSome_iff_exists.mp ha
  obtain ⟨sc, hsc⟩ := Option.isSome_iff_exists.mp hs
  rw [hps] at h5
  rw [hsc] at h6
  obtain ⟨h9, h10⟩ := h9
  unfold okScope at h9
  simp only [Bool.and_eq_true, List.all_eq_true, bne_iff_ne, Bool.not_eq_true', beq_iff_eq] at h9
  obtain ⟨⟨k1, k2⟩, k3, k4⟩ := h9
  exact ⟨fd, ⟨⟨⟨_, ho, funD_of hf⟩, h1, h2, h3, h4, k1, k2, k3, k4, code_ok h10⟩, by rw [hps, h5]; rfl, by rw [hsc, h6]; rfl, h7, h8⟩⟩
theorem def_of {K : Frag} {f : Addr} {st : Stmt} (h : fnSum K f = some (sumOf st .none)) (ha : (fnArgs st).isSome = true) (hs : (fnScope st).isSome = true) : ∃ fd, Def K f st fd := by
  obtain ⟨fd, D⟩ := defD_of h ha hs
  exact ⟨fd, ⟨D.toFnOk, D.params, D.scope, D.dflt, D.kwd⟩⟩
theorem g_of {K : Frag} {name : Str} {i : Nat} (h : gSum K name = some (true, some (sumOf (stAt pw_tc0083_02 i) .none))) (ha : (fnArgs (stAt pw_tc0083_02 i)).isSome = true) (hs : (fnScope (stAt pw_tc0083_02 i)).isSome = true) : GFn K name i := by
  obtain ⟨f, hf, h⟩ := Option.map_eq_some_iff.mp h
  obtain ⟨fd, D⟩ := def_of (congrArg Prod.snd h) ha hs
  exact ⟨f, fd, refO_of hf, congrArg Prod.fst h, D⟩
theorem mD_of {K : Frag} {C : Addr} {name : Str} {st : Stmt} {dv : Value} (h : mSum K C name = some (some (.type "function"), true, some (sumOf st dv))) (ha : (fnArgs st).isSome = true) (hs : (fnScope st).isSome = true) : ∃ f fd, MethOk K C name f ∧ DefD K f st fd dv := by
  obtain ⟨f, hf, h⟩ := Option.map_eq_some_iff.mp h
  obtain ⟨fd, D⟩ := defD_of (congrArg (fun x => x.2.2) h) ha hs
  exact ⟨f, fd, ⟨refO_of hf, congrArg Prod.fst h, congrArg (fun x => x.2.1) h⟩, D⟩
theorem m_of {K : Frag} {C : Addr} {name : Str} {st : Stmt} (h : mSum K C name = some (some (.type "function"), true, some (sumOf st .none))) (ha : (fnArgs st).isSome = true) (hs : (fnScope st).isSome = true) : ∃ f fd, MethOk K C name f ∧ Def K f st fd := by
  obtain ⟨f, fd, M, D⟩ := mD_of h ha hs
  exact ⟨f, fd, M, ⟨D.toFnOk, D.params, D.scope, D.dflt, D.kwd⟩⟩
theorem i_of {K : Frag} {C : Addr} {st : Stmt} {dv : Value} (h : iSumOf K C = some (true, some (.type "function"), some (sumOf st dv))) (ha : (fnArgs st).isSome = true) (hs : (fnScope st).isSome = true) : ∃ f fd, MakeOk K C f ∧ DefD K f st fd dv := by
  obtain ⟨f, hf, h⟩ := Option.map_eq_some_iff.mp h
  obtain ⟨fd, D⟩ := defD_of (congrArg (fun x => x.2.2) h) ha hs
  exact ⟨f, fd, ⟨congrArg Prod.fst h, refO_of hf, congrArg (fun x => x.2.1) h⟩, D⟩
theorem seq_of {K : Frag} {a : Addr} {xs : Array Value} (h : seqAt K a = some xs) : ∃ od, K.lookup a = some od ∧ ∃ n, od.data = .seq xs n := by
  obtain ⟨o, ho, h⟩ := Option.bind_eq_some_iff.mp h
  exact ⟨o, ho, seqD_of h⟩
theorem pat_of {K : Frag} {p : Addr} {code : Array Nat} (h : patSum K p = some (.type "re.Pattern", none, rawInt 0, rawInt 0, some code)) : PatOk K p code := by
  obtain ⟨o, ho, h⟩ := Option.bind_eq_some_iff.mp h
  obtain ⟨vs, hv, h⟩ := Option.map_eq_some_iff.mp h
  have h5 := congrArg (fun x => x.2.2.2.2) h
  obtain ⟨q, hq, h6⟩ := Option.bind_eq_some_iff.mp h5
  obtain ⟨xs, hx, hc⟩ := Option.map_eq_some_iff.mp h6
  obtain ⟨od, hod, n, hd⟩ := seq_of hx
  exact ⟨o, vs, q, od, xs, n, ho, congrArg Prod.fst h, congrArg (fun x => x.2.1) h, fldD_of hv, congrArg (fun x => x.2.2.1) h, refV_of hq, congrArg (fun x => x.2.2.2.1) h, hod, hd, hc⟩
theorem cls_of {K : Frag} {C : Addr} (h : clsSum K C = clsGood) : SetOk K C := by
  unfold clsSum clsGood at h
  simp only [Prod.mk.injEq] at h
  obtain ⟨h1, h2, h3, h4, h5⟩ := h
  obtain ⟨cd, a, b⟩ := Option.map_eq_some_iff.mp h3
  exact ⟨⟨h1, h2, cd, a, b⟩, h4, h5⟩
theorem strAt_of {K : Frag} {C : Addr} {name s : Str} (h : strAt K C name = some s) : ∃ t, findCls K (.ref C) (.type "type") name = some (.val (.str s t)) := by
  obtain ⟨c, hc, h⟩ := Option.bind_eq_some_iff.mp h
  obtain ⟨v, hv, h⟩ := Option.bind_eq_some_iff.mp h
  obtain ⟨t, rfl⟩ := strV_of h
  cases c with
  | val u => cases hv; exact ⟨t, hc⟩
  | get _ _ _ _ => cases hv
theorem fnOks : (([10, 11, 12, 13, 14, 16, 17, 18, 19, 20, 21, 22].all fun i => (fnArgs (stAt pw_tc0083_02 i)).isSome && (fnScope (stAt pw_tc0083_02 i)).isSome) && (([0, 1, 4, 11, 15, 8].all fun i => (fnArgs (clsAt pw_tc0083_02 7 i)).isSome && (fnScope (clsAt pw_tc0083_02 7 i)).isSome) && [1, 2, 3, 4, 5].all fun i => (fnArgs (clsAt pw_tc0083_02 3 i)).isSome && (fnScope (clsAt pw_tc0083_02 3 i)).isSome)) = true := by decide +kernel
theorem law_of {K : Frag} (h : summ K = summGood (.ref (dfltAt K 237 "__init__")) (.ref (dfltAt K 237 "get"))) : LawK K 237 100 109 114 ∧ GFn K "law" 22 := by
  have o := fnOks
  rw [Bool.and_eq_true, Bool.and_eq_true] at o
  obtain ⟨o1, o2, o3⟩ := o
  have p1 : ∀ i ∈ [10, 11, 12, 13, 14, 16, 17, 18, 19, 20, 21, 22], (fnArgs (stAt pw_tc0083_02 i)).isSome = true ∧ (fnScope (stAt pw_tc0083_02 i)).isSome = true := fun i hi => by
    have := all_of o1 i hi
    rw [Bool.and_eq_true] at this
    exact this
  have p2 : ∀ i ∈ [0, 1, 4, 11, 15, 8], (fnArgs (clsAt pw_tc0083_02 7 i)).isSome = true ∧ (fnScope (clsAt pw_tc0083_02 7 i)).isSome = true := fun i hi => by
    have := all_of o2 i hi
    rw [Bool.and_eq_true] at this
    exact this
  have p3 : ∀ i ∈ [1, 2, 3, 4, 5], (fnArgs (clsAt pw_tc0083_02 3 i)).isSome = true ∧ (fnScope (clsAt pw_tc0083_02 3 i)).isSome = true := fun i hi => by
    have := all_of o3 i hi
    rw [Bool.and_eq_true] at this
    exact this
  have T : Tops K := ⟨fun x v hx => by
    have ht : topNames.map (fun p => (nsIn K mainGlobals p.1, nsIn K builtinsNs p.1)) = topNames.map fun p => (some none, some (some p.2)) := congrArg Summ.top h
    have hm := List.map_inj_left.mp ht (x, v) hx
    exact ⟨congrArg Prod.fst hm, congrArg Prod.snd hm⟩⟩
  have T2 : Tops2 K 109 114 := ⟨T, (Option.some.inj (congrArg (fun s : Summ => s.gl[0]?) h)), (Option.some.inj (congrArg (fun s : Summ => s.gl[1]?) h)), pat_of (Option.some.inj (congrArg (fun s : Summ => s.pats[0]?) h)), pat_of (Option.some.inj (congrArg (fun s : Summ => s.pats[1]?) h)), ⟨(Option.some.inj (congrArg (fun s : Summ => s.gl[2]?) h)), (Option.some.inj (congrArg (fun s : Summ => s.gl[3]?) h))⟩⟩
  obtain ⟨fi, fdi, MI, DI⟩ := i_of (Option.some.inj (congrArg (fun s : Summ => s.inits[0]?) h)) (p2 0 (by decide)).1 (p2 0 (by decide)).2
  obtain ⟨fw, fdw, MW, DW⟩ := i_of (Option.some.inj (congrArg (fun s : Summ => s.inits[1]?) h)) (p3 1 (by decide)).1 (p3 1 (by decide)).2
  obtain ⟨fg, fdg, MG, DG⟩ := mD_of (Option.some.inj (congrArg (fun s : Summ => s.meths[8]?) h)) (p2 8 (by decide)).1 (p2 8 (by decide)).2
  obtain ⟨od, ho, hn⟩ := seq_of (Option.some.inj (congrArg (fun s : Summ => s.dflt[0]?) h))
  obtain ⟨og, hgo, hgn⟩ := seq_of (Option.some.inj (congrArg (fun s : Summ => s.dflt[1]?) h))
  have H : Hdr K 237 109 114 :=
    { toTops2 := T2, toSetOk := cls_of (Option.some.inj (congrArg (fun s : Summ => s.cls[0]?) h)), hn := (Option.some.inj (congrArg (fun s : Summ => s.fields[0]?) h)), tk := (Option.some.inj (congrArg (fun s : Summ => s.takes[0]?) h)), seq := (Option.some.inj (congrArg (fun s : Summ => s.bs[0]?) h))
      conv := m_of (Option.some.inj (congrArg (fun s : Summ => s.meths[0]?) h)) (p2 1 (by decide)).1 (p2 1 (by decide)).2
      deli := m_of (Option.some.inj (congrArg (fun s : Summ => s.meths[1]?) h)) (p2 4 (by decide)).1 (p2 4 (by decide)).2
      itms := m_of (Option.some.inj (congrArg (fun s : Summ => s.meths[2]?) h)) (p2 11 (by decide)).1 (p2 11 (by decide)).2
      setd := m_of (Option.some.inj (congrArg (fun s : Summ => s.meths[3]?) h)) (p2 15 (by decide)).1 (p2 15 (by decide)).2
      gett := ⟨fg, fdg, _, og, MG, DG, hgo, hgn⟩
      init := ⟨fi, fdi, _, od, MI, DI, ho, hn⟩ }
  have Wh : Wsp K 100 :=
    { toTops := T, toSetOk := cls_of (Option.some.inj (congrArg (fun s : Summ => s.cls[1]?) h)), h1 := (Option.some.inj (congrArg (fun s : Summ => s.fields[1]?) h)), h2 := (Option.some.inj (congrArg (fun s : Summ => s.fields[2]?) h)), h3 := (Option.some.inj (congrArg (fun s : Summ => s.fields[3]?) h)), h4 := (Option.some.inj (congrArg (fun s : Summ => s.fields[4]?) h)), h5 := (Option.some.inj (congrArg (fun s : Summ => s.fields[5]?) h)), t1 := (Option.some.inj (congrArg (fun s : Summ => s.takes[1]?) h)), t2 := (Option.some.inj (congrArg (fun s : Summ => s.takes[2]?) h)), t3 := (Option.some.inj (congrArg (fun s : Summ => s.takes[3]?) h)), t4 := (Option.some.inj (congrArg (fun s : Summ => s.takes[4]?) h)), t5 := (Option.some.inj (congrArg (fun s : Summ => s.takes[5]?) h)), gl := (Option.some.inj (congrArg (fun s : Summ => s.gl[5]?) h)), kp := (Option.some.inj (congrArg (fun s : Summ => s.bs[2]?) h)), rd := (Option.some.inj (congrArg (fun s : Summ => s.bs[3]?) h)), cS := strAt_of (Option.some.inj (congrArg (fun s : Summ => s.texts[0]?) h)), cT := strAt_of (Option.some.inj (congrArg (fun s : Summ => s.texts[1]?) h))
      make := ⟨fw, fdw, MW, ⟨DW.toFnOk, DW.params, DW.scope, DW.dflt, DW.kwd⟩⟩
      lng := m_of (Option.some.inj (congrArg (fun s : Summ => s.meths[4]?) h)) (p3 2 (by decide)).1 (p3 2 (by decide)).2
      ind := m_of (Option.some.inj (congrArg (fun s : Summ => s.meths[5]?) h)) (p3 3 (by decide)).1 (p3 3 (by decide)).2
      eql := m_of (Option.some.inj (congrArg (fun s : Summ => s.meths[6]?) h)) (p3 4 (by decide)).1 (p3 4 (by decide)).2
      wit := m_of (Option.some.inj (congrArg (fun s : Summ => s.meths[7]?) h)) (p3 5 (by decide)).1 (p3 5 (by decide)).2 }
  refine ⟨{ H := H, Wh := Wh, gC := (Option.some.inj (congrArg (fun s : Summ => s.gl[4]?) h)), kC := (Option.some.inj (congrArg (fun s : Summ => s.bs[1]?) h)), srt := ⟨(Option.some.inj (congrArg (fun s : Summ => s.gl[6]?) h)), (Option.some.inj (congrArg (fun s : Summ => s.gl[7]?) h))⟩
            e0 := g_of (Option.some.inj (congrArg (fun s : Summ => s.defs[0]?) h)) (p1 10 (by decide)).1 (p1 10 (by decide)).2
            e1 := g_of (Option.some.inj (congrArg (fun s : Summ => s.defs[1]?) h)) (p1 11 (by decide)).1 (p1 11 (by decide)).2
            e2 := g_of (Option.some.inj (congrArg (fun s : Summ => s.defs[2]?) h)) (p1 12 (by decide)).1 (p1 12 (by decide)).2
            e3 := g_of (Option.some.inj (congrArg (fun s : Summ => s.defs[3]?) h)) (p1 13 (by decide)).1 (p1 13 (by decide)).2
            e4 := g_of (Option.some.inj (congrArg (fun s : Summ => s.defs[4]?) h)) (p1 14 (by decide)).1 (p1 14 (by decide)).2
            spl := g_of (Option.some.inj (congrArg (fun s : Summ => s.defs[5]?) h)) (p1 16 (by decide)).1 (p1 16 (by decide)).2
            rfs := g_of (Option.some.inj (congrArg (fun s : Summ => s.defs[6]?) h)) (p1 17 (by decide)).1 (p1 17 (by decide)).2
            cal := g_of (Option.some.inj (congrArg (fun s : Summ => s.defs[7]?) h)) (p1 18 (by decide)).1 (p1 18 (by decide)).2
            sea := g_of (Option.some.inj (congrArg (fun s : Summ => s.defs[8]?) h)) (p1 19 (by decide)).1 (p1 19 (by decide)).2
            pla := g_of (Option.some.inj (congrArg (fun s : Summ => s.defs[9]?) h)) (p1 20 (by decide)).1 (p1 20 (by decide)).2
            cro := g_of (Option.some.inj (congrArg (fun s : Summ => s.defs[10]?) h)) (p1 21 (by decide)).1 (p1 21 (by decide)).2 }, g_of (Option.some.inj (congrArg (fun s : Summ => s.defs[11]?) h)) (p1 22 (by decide)).1 (p1 22 (by decide)).2⟩
end

end Lw
end
open PySem PySem.W PyProof.Rows PySem.W.X PySem.W.ZRun PySem.Calls PySem.Challenge
namespace Lw
set_option maxHeartbeats 0 in
set_option maxHeartbeats 0 in
theorem law_facts {s : Shared} {w : World} (h : yfL s = yaL w) : LawK (fragAt 323 s.heap) 237 100 109 114 ∧ GFn (fragAt 323 s.heap) "law" 22 ∧ 0 < s.toks := by
  unfold yfL yaL at h
  simp only [Prod.mk.injEq] at h
  obtain ⟨h1, h2, h3, h4, h5⟩ := h
  rw [← h2, ← h3] at h1
  obtain ⟨a, b⟩ := law_of h1
  exact ⟨a, b, Nat.le_of_ble_eq_true h5⟩
end Lw
end Own
open PySem PySem.W PyProof.Rows PySem.W.X PySem.W.ZRun PySem.Calls PySem.Challenge
set_option maxHeartbeats 0 in
theorem PySem.Challenge.cw_tc0083_02_holds : PySem.Challenge.rw_tc0083_02.Holds := by
  refine holds_law Lw.said_law fun said => ?_
  refine holds_openX (q := Lw.qL) (loose := Lw.looseL) (Xt := fun s => xlAt Lw.qL [] s && recOk [] s) (XP := XL Lw.qL []) (Yf := Lw.yfL) (Ya := Lw.yaL) (N := 4008) Lw.left_law (fun s e => xl_of s (Bool.and_eq_true_iff.mp e).1) XL.keeps (by rfl) (by rfl) (by rfl) (fun s e => recFacts_of (Bool.and_eq_true_iff.mp e).2) (by rfl) said (by decide +kernel) ⟨rfl, rfl, rfl, rfl, rfl, by decide +kernel⟩ ?hw ?hc
  case hw => w_witness2
  intro w s0 s1 mg mb G y fa o pm cd doc dV kV ho hd hcd hD hmg hg args vals as L hpre hlay hrd hwl hlo
  refine Ground.open G ?_
  intro T B D TE TW
  wrow_args hpre hlay hrd hwl hlo
  obtain ⟨hat, hsz⟩ := script_at L
  have htk := script_toks L rfl
  all_lens
  obtain ⟨LK, ⟨f2, fd2, hg2, _, D2⟩, htk2⟩ := Lw.law_facts y
  have KX := Frag.In.keeps (Lw.frag_in 323 s0.heap) (Laid.keeps L)
  have hfa : mg ("law" : Str) = some (.ref f2) := mg_of KX T.g hg2
  have hmg2 : mg ("law" : Str) = some (.ref fa) := hmg
  rw [hmg2] at hfa
  cases hfa
  refine Lw.law_goal LK D2 KX T.nolimit (Nat.lt_of_lt_of_le htk2 htk) hg (script_obj L (by assumption)) (by assumption) (by omega) (fun _ => rfl) ?_
  first | rfl | wrow_post
