import PyProof.Rows.All
import Wide.All
import OpenK.AllK
import Wide.FinOn
import PySem.Challenge.RW_ao0012_01
open PySem PySem.W PyProof.Rows PySem.Calls PySem.Spec
set_option Elab.async false
set_option linter.unusedVariables false
set_option linter.unusedSimpArgs false
namespace Mine
section
/-- what is left of the head, over any other form of the run: one equation a world -/
theorem leftQ {p q : Program} {loose : List Str} {Xt : Shared → Bool} {α : Type} {Yf : Shared → α} {Ya : World → α} {N : Nat} {X : World → Option Shared} (hX : ∀ w, openEnds treeTable p w N = X w)
    (h : ∀ w, (X w).map (fun s => (Fast.tw4187177175401517315 q loose (Fast.tw5923862056798008813 p.main.body) Xt true s, Yf s)) = some (openGood q loose, Ya w)) : LeftO p q loose Xt Yf Ya N := fun w => by
  have h1 := h w
  rw [← hX w, ← Fast.te4187177175401517315, ← Fast.te5923862056798008813] at h1
  exact h1
local macro_rules | `(tactic| o_head ($_:ident $k $a $p)) => `(tactic| o_head (kmHook $k $a $p [159]))
local macro_rules | `(tactic| refine $f:ident $args*) => do
  let open_ (a : Lean.Syntax) : Bool := a.isOfKind ``Lean.Parser.Term.syntheticHole && a[1].getId == `hl
  if f.getId != `PySem.W.holds_open || !(args.any fun a => open_ a.raw) then Lean.Macro.throwUnsupported
  let args ← args.mapM fun a => if open_ a.raw then `(leftQ (fun w => by (unfold openEnds fencedOpening topFrom; rw [Fast.te10274390034422433532, Fast.te14364793385576792824, Fast.te14289696077712309145, Fast.te14082659384304107361, Fast.te5923862056798008813])) $(⟨a.raw⟩)) else pure ⟨a.raw⟩
  `(tactic| refine $f $args*)
set_option maxRecDepth 100000 in
set_option maxHeartbeats 8000000 in
open_top hd for PySem.Challenge.rw_ao0012_01
theorem quiet : True := by
  w_top off
  exact trivial
end
section
noncomputable abbrev LV0 : List Str := looseW hd.view_39 [Str.ofString "un_chomsky_normal_form"]
noncomputable abbrev LV : List Str := LV0 ++ (recsOf hd.view_39).map (·.name) ++ (litsOf hd.view_39).map (·.1) ++ (clssOf hd.view_39 LV0).map (·.name)
end
section

/-- a forest: a list of trees; a leaf is a text, a node has a label and children -/
inductive Fo where
  | nil
  | leaf (s : Str) (r : Fo)
  | node (lab : Str) (k : Fo) (r : Fo)

def Fo.app : Fo → Fo → Fo
  | .nil, b => b
  | .leaf s r, b => .leaf s (r.app b)
  | .node l k r, b => .node l k (r.app b)
def Fo.count : Fo → Nat
  | .nil => 0
  | .leaf _ r => r.count + 1
  | .node _ k r => k.count + r.count + 1

abbrev tup (vs : List Value) (n : Nat) : Obj := { cls := .type "tuple", data := .seq vs.toArray n }

/-- the ledger bears the forest, as tuples of tuples and texts -/
inductive MI (news : List (Addr × Obj)) : List Value → Fo → Prop
  | nil : MI news [] .nil
  | leaf {s : Str} {tk : Tok} {vs : List Value} {r : Fo} : MI news vs r → MI news (.str s tk :: vs) (.leaf s r)
  | node {a b : Addr} {n n2 : Nat} {tk : Tok} {ws vs : List Value} {lab : Str} {k r : Fo} :
      (a, tup [.str lab tk, .ref b] n) ∈ news → (b, tup ws n2) ∈ news → MI news ws k → MI news vs r → MI news (.ref a :: vs) (.node lab k r)

theorem MI.mono {news news' : List (Addr × Obj)} {vs : List Value} {f : Fo} (h : MI news vs f) (hs : ∀ p ∈ news, p ∈ news') : MI news' vs f := by
  induction h with
  | nil => exact .nil
  | leaf _ ih => exact .leaf ih
  | node h1 h2 _ _ i1 i2 => exact .node (hs _ h1) (hs _ h2) i1 i2
theorem MI.app {news : List (Addr × Obj)} {vs ws : List Value} {f g : Fo} (h : MI news vs f) (h2 : MI news ws g) : MI news (vs ++ ws) (f.app g) := by
  induction h with
  | nil => exact h2
  | leaf _ ih => exact .leaf ih
  | node a b c _ _ i2 => exact .node a b c i2
theorem MI.length {news : List (Addr × Obj)} {vs : List Value} {f : Fo} (h : MI news vs f) : vs.length ≤ f.count := by
  induction h with
  | nil => exact Nat.le_refl _
  | leaf _ ih => simp only [Fo.count, List.length_cons]; omega
  | node _ _ _ _ _ ih => simp only [Fo.count, List.length_cons]; omega
theorem Fo.app_assoc : ∀ a b c : Fo, (a.app b).app c = a.app (b.app c)
  | .nil, _, _ => rfl
  | .leaf _ r, b, c => by simp only [Fo.app, r.app_assoc]
  | .node _ _ r, b, c => by simp only [Fo.app, r.app_assoc]
theorem Fo.app_nil : ∀ a : Fo, a.app .nil = a
  | .nil => rfl
  | .leaf _ r => by simp only [Fo.app, r.app_nil]
  | .node _ _ r => by simp only [Fo.app, r.app_nil]
theorem Fo.count_app : ∀ a b : Fo, (a.app b).count = a.count + b.count
  | .nil, _ => by simp [Fo.app, Fo.count]
  | .leaf _ r, b => by simp only [Fo.app, Fo.count, r.count_app]; omega
  | .node _ _ r, b => by simp only [Fo.app, Fo.count, r.count_app]; omega

theorem MI.head {news : List (Addr × Obj)} {ws : List Value} {rest : Fo} {i : Nat} {v : Value} (h : MI news (ws.drop i) rest) (hv : ws[i]? = some v) :
    ∃ d r, rest = Fo.app d r ∧ MI news [v] d ∧ MI news (ws.drop (i + 1)) r ∧ d.count + r.count = rest.count := by
  have e : ws.drop i = v :: ws.drop (i + 1) := by
    obtain ⟨hi, rfl⟩ := List.getElem?_eq_some_iff.mp hv
    exact List.drop_eq_getElem_cons hi
  rw [e] at h
  cases h with
  | leaf h => exact ⟨.leaf _ .nil, _, rfl, .leaf .nil, h, by simp only [Fo.count]; omega⟩
  | node a b c h => exact ⟨.node _ _ .nil, _, rfl, .node a b c .nil, h, by simp only [Fo.count]; omega⟩
/-- what a call of a def of the text brings: new objects, nothing else -/
def CallOk (w : World) (f : Addr) (vs : List Value) (news : List (Addr × Obj)) (dn cu : Nat) (Out : List (Addr × Obj) → Value → Prop) : Prop :=
  ∀ (mean : ExcName → Option Value) (mg mb : Str → Option Value) (dp un : Nat) (gd : Option (List Code)) (cn : Str) (cs : Scope) (a : Addr) (ccd : Value) (cl : List (Str × Addr)) (outer : List Env)
    (A₀ : Around) (base h₀ : Heap) (L : Addr) (m : Str → Option Value) (s : Shared) (Q E : Value → Shared → Prop),
    Below A₀ base outer h₀ → Fr h₀ L s.heap m → (hd.heap_39 w.params).In h₀ → News h₀ L s.heap news → Top topProg LV mean mg mb h₀ → cs.kind = .function →
    dp + dn < recursionLimit → un + cu < cLine →
    (∀ r tl h' tk', Fr h₀ L h' m → News h₀ L h' (news ++ tl) → (∀ q ∈ news, ∀ p ∈ tl, q.1 < p.1) → Out tl r → Q r { s with heap := h', toks := tk' }) →
    wpAny (model PySem.Challenge.rw_ao0012_01.row.prog w) (ktrTop dp un gd cn cs L a ccd cl outer) (call (.ref f) vs) Q E s
end
section
open PyProof.Rows.LCg

/-- a mark: the walk stops here -/
def Held (p : Prop) : Prop := p
theorem held {p : Prop} (h : Held p) : p := h
theorem unheld {p : Prop} (h : p) : Held p := h

theorem callOk_use {w : World} {f : Addr} {vs : List Value} {news : List (Addr × Obj)} {dn cu : Nat} {Out : List (Addr × Obj) → Value → Prop}
    {mean : ExcName → Option Value} {mg mb : Str → Option Value} {dp un : Nat} {gd : Option (List Code)} {cn : Str} {cs : Scope} {a : Addr} {ccd : Value} {cl : List (Str × Addr)} {outer : List Env}
    {A₀ : Around} {base h₀ : Heap} {L : Addr} {m : Str → Option Value} {s : Shared} {Q E : Value → Shared → Prop}
    (C : CallOk w f vs news dn cu Out) (B : Below A₀ base outer h₀) (F : Fr h₀ L s.heap m) (X : (hd.heap_39 w.params).In h₀) (N : News h₀ L s.heap news) (T : Top topProg LV mean mg mb h₀) (hk : cs.kind = .function)
    (hdp : dp + dn < recursionLimit) (hun : un + cu < cLine)
    (ret : ∀ r tl h' tk', Fr h₀ L h' m → News h₀ L h' (news ++ tl) → (∀ q ∈ news, ∀ p ∈ tl, q.1 < p.1) → Out tl r → Q r { s with heap := h', toks := tk' }) :
    wpAny (model PySem.Challenge.rw_ao0012_01.row.prog w) (ktrTop dp un gd cn cs L a ccd cl outer) (call (.ref f) vs) Q E s :=
  C _ _ _ _ _ _ _ _ _ _ _ _ _ _ _ _ _ _ _ _ B F X N T hk hdp hun ret

theorem CallOk.weaken {w : World} {f : Addr} {vs : List Value} {news : List (Addr × Obj)} {dn cu dn' cu' : Nat} {Out Out' : List (Addr × Obj) → Value → Prop}
    (C : CallOk w f vs news dn cu Out) (h1 : dn ≤ dn') (h2 : cu ≤ cu') (h3 : ∀ tl r, Out tl r → Out' tl r) : CallOk w f vs news dn' cu' Out' :=
  fun _ _ _ _ _ _ _ _ _ _ _ _ _ _ _ _ _ _ _ _ B F X N T hk hdp hun ret =>
    C _ _ _ _ _ _ _ _ _ _ _ _ _ _ _ _ _ _ _ _ B F X N T hk (Nat.lt_of_le_of_lt (Nat.add_le_add_left h1 _) hdp) (Nat.lt_of_le_of_lt (Nat.add_le_add_left h2 _) hun)
      fun r tl h' tk' F' N' o ho => ret r tl h' tk' F' N' o (h3 _ _ ho)

section
variable {prog : Program} {w : World} {A : Around} {E : Value → Shared → Prop} {s : Shared} {h₀ : Heap} {L : Addr} {m : Str → Option Value} {env : Env}

/-- the source of a comprehension is a tuple of the ledger -/
def SrcTup (prog : Program) (w : World) (A : Around) (h₀ : Heap) (L : Addr) (m : Str → Option Value) (env : Env) (elt : Expr) (x : Str) (scope : Scope) (cl : List (Str × Addr)) (Q : Value → Shared → Prop) (xv : Value) (s₁ : Shared) : Prop :=
  ∃ ax vs n news, xv = .ref ax ∧ A.handled = none ∧ Fr h₀ L s₁.heap m ∧ News h₀ L s₁.heap news ∧ (ax, tup vs n) ∈ news ∧ vs.length ≤ sizeLine ∧
    ∀ s₂ : Shared, (∃ h, s₂ = { s₁ with heap := h }) → CompRest prog w A h₀ L m env elt x scope cl s₂ (fun nw => (ax, tup vs n) ∈ nw) (fun i v => vs[i]? = some v) (FinE h₀ L m s₂ Q) vs.length 0 [] news

theorem comp_tup {elt iter : Expr} {x : Str} {px : Pos} {scope : Scope} {cl : List (Str × Addr)} {pos : Pos} {Q : Value → Shared → Prop} (_F₀ : Fr h₀ L s.heap m)
    (hclos : closureFor scope env = pure cl) (hcell : ∀ y ∈ scope.names, y.2 ≠ .cell) (hkind : scope.kind = .function)
    (hnames : ∀ y ∈ scope.names, y.2 = .local → scope.names.lookup y.1 = some .local) (hx : scope.names.lookup x = some .local)
    (h : wpAny (model prog w) A (eval iter env) (SrcTup prog w A h₀ L m env elt x scope cl Q) E s)
    (hs : ∀ x, foldedSetIterable iter env x = pure x := by intro _; rfl) :
    wpAny (model prog w) A (eval (.ListComp elt [⟨.Name x px, iter, [], 0⟩] scope pos) env) Q E s := by
  rw [eval_ListComp]
  refine wpAny_comprehension_free (use := none) rfl hs hclos hkind hnames (wpAny_mono h (fun xv s₁ h₁ => ?_) fun _ _ e => e)
  obtain ⟨ax, vs, n, news, rfl, hh, F, N, hm, hsz, R⟩ := h₁
  have hl : s₁.heap.IsTuple ax vs.toArray := ⟨_, (N _ hm).1, rfl, _, rfl⟩
  have hlt : ax < s₁.heap.objs.size := Heap.lt_size (N _ hm).1
  refine wpAny_pyIter_tuple hl ?_
  have up : ∀ b o, s₁.heap.get? b = some o → (s₁.heap.push { cls := .type "tuple_iterator", data := .fields #[.ref ax, .int 0 0] }).get? b = some o := fun b o e => Heap.get?_push_of_some _ e
  have R' := R { s₁ with heap := s₁.heap.push { cls := .type "tuple_iterator", data := .fields #[.ref ax, .int 0 0] } } ⟨_, rfl⟩
  have e0 : (fun i v => vs[i]? = some v) = (fun (i : Nat) (v : Value) => vs.toArray[i]? = some v) := by funext i v; simp
  rw [e0] at R'
  refine block_U (n := vs.toArray.size) (Walks.tuple hh s₁.heap.objs.size ax (Nat.ne_of_lt hlt) vs.toArray) (by simpa using hsz) (fun i h st => by obtain ⟨o, e, _⟩ := st.1; exact ⟨o, e⟩)
    (fun i h h' o nw st e e' k N S => ⟨by obtain ⟨o', q, r⟩ := st.1; rw [e] at q; cases q; exact ⟨o, e', r⟩, ⟨_, (N _ S).1, rfl, _, rfl⟩⟩) hcell hkind hx ⟨⟨_, Heap.get?_push_size _ rfl, rfl, rfl⟩, hl.push _⟩ (fun b hb => ?_)
    (F.keeps up) (N.grown up) (Nat.ne_of_lt F.ns.lt) (next_is_new F) (fun p hp => Nat.ne_of_lt (Heap.lt_size (N p hp).1)) hm (by simpa using R') ?_
  · show b < (s₁.heap.push _).objs.size
    rw [Heap.size_push]
    rcases List.mem_cons.mp hb with rfl | hb
    · exact Nat.lt_succ_self _
    · rw [List.mem_singleton.mp hb]; exact Nat.lt_succ_of_lt hlt
  · intro D C h tk m' ys news' F' N' o1 hn hC₀ hD₀ hCL hDL hCD offC fin
    refine ⟨m', hn, fun h'' hs'' => fin D h'' tk (F'.change hs'' hCL hC₀) (fun p hp => ?_) o1⟩
    refine ⟨hs''.extBut _ _ ?_ (N' p hp).1, (N' p hp).2⟩
    rcases List.mem_cons.mp hp with rfl | hp
    · exact Ne.symm hCD
    · exact offC p hp
end
section
variable {prog : Program} {w : World} {A : Around} {s : Shared} {h₀ : Heap} {L : Addr} {m : Str → Option Value} {env : Env}
theorem compRest_ind {elt : Expr} {x : Str} {scope : Scope} {cl : List (Str × Addr)} {S : List (Addr × Obj) → Prop} {P : Nat → Value → Prop} {Fin : List Value → List (Addr × Obj) → Prop} {n : Nat} {news : List (Addr × Obj)}
    (J : Nat → List Value → List (Addr × Obj) → Prop) (start : J 0 [] news)
    (step : ∀ i ys nw, i < n → J i ys nw → ∀ v I oI C oC D m₂ h tk (E' : Value → Shared → Prop), P i v → NsObj oC m₂ → m₂ x = some v → Fr h₀ L h m → News h₀ L h ((I, oI) :: (C, oC) :: (D, lst ys) :: nw) → Off3 I C D nw → ((@Ne Nat I C) ∧ (@Ne Nat I D) ∧ (@Ne Nat C D)) →
      wpAny (model prog w) A (eval elt (compEnvC scope cl C env)) (CompEnd h₀ L m { s with heap := h, toks := tk } I oI C oC D (lst ys) S (fun y news' => J (i + 1) (ys ++ [y]) news')) E' { s with heap := h, toks := tk })
    (fin : ∀ ys nw, J n ys nw → Fin ys nw) : CompRest prog w A h₀ L m env elt x scope cl s S P Fin n 0 [] news := by
  have all : ∀ k i ys nw, i + k = n → J i ys nw → CompRest prog w A h₀ L m env elt x scope cl s S P Fin k i ys nw := by
    intro k
    induction k with
    | zero => intro i ys nw e hJ; obtain rfl : i = n := by omega
              exact CompRest.zero (fin _ _ hJ)
    | succ k ih =>
      intro i ys nw e hJ
      refine CompRest.succ fun v I oI C oC D m₂ h tk E' hP hC hx F N o3 hne => ?_
      refine wpAny_mono (step i ys nw (by omega) hJ v I oI C oC D m₂ h tk E' hP hC hx F N o3 hne) (fun y s₂ q => ?_) fun _ _ e => e
      obtain ⟨h', tk', news', e', F', N', o', hS, hJ'⟩ := q
      exact ⟨h', tk', news', e', F', N', o', hS, ih _ _ _ (by omega) hJ'⟩
  exact all n 0 [] news (by omega) start
end

/-- a tree's own record: the node, its dict, its list of children -/
structure NP where
  x : Addr
  dx : Addr
  l : Addr
  ln : Nat
  dn : Nat
  h1 : Int
  h2 : Int
  t1 : Tok
  t2 : Tok
  tk : Tok
inductive AT where
  | nil
  | leaf (s : Str) (tk : Tok) (r : AT)
  | node (p : NP) (lab : Str) (k r : AT)
def AT.vals : AT → List Value
  | .nil => []
  | .leaf s tk r => .str s tk :: r.vals
  | .node p _ _ r => .ref p.x :: r.vals
def AT.fo : AT → Fo
  | .nil => .nil
  | .leaf s _ r => .leaf s r.fo
  | .node _ lab k r => .node lab k.fo r.fo
abbrev NP.dict (p : NP) (lab : Str) : Obj := dictOf [⟨p.h1, .str (Str.ofString "_children") p.t1, .ref p.l⟩, ⟨p.h2, .str (Str.ofString "_label") p.t2, .str lab p.tk⟩] p.dn
abbrev NP.led (p : NP) (lab : Str) (vs : List Value) : List (Addr × Obj) := [(p.x, instObj 145 p.dx), (p.dx, p.dict lab), (p.l, listOf vs.toArray p.ln)]
def AT.led : AT → List (Addr × Obj)
  | .nil => []
  | .leaf _ _ r => r.led
  | .node p lab k r => p.led lab k.vals ++ (k.led ++ r.led)
def AT.app : AT → AT → AT
  | .nil, b => b
  | .leaf s tk r, b => .leaf s tk (r.app b)
  | .node p l k r, b => .node p l k (r.app b)
theorem AT.vals_app : ∀ a b : AT, (a.app b).vals = a.vals ++ b.vals
  | .nil, _ => rfl
  | .leaf _ _ r, b => by simp only [AT.app, AT.vals, r.vals_app, List.cons_append]
  | .node _ _ _ r, b => by simp only [AT.app, AT.vals, r.vals_app, List.cons_append]
theorem AT.vals_length : ∀ a : AT, a.vals.length ≤ a.fo.count
  | .nil => Nat.le_refl _
  | .leaf _ _ r => by have := r.vals_length; simp only [AT.vals, AT.fo, Fo.count, List.length_cons]; omega
  | .node _ _ _ r => by have := r.vals_length; simp only [AT.vals, AT.fo, Fo.count, List.length_cons]; omega
theorem AT.fo_app : ∀ a b : AT, (a.app b).fo = a.fo.app b.fo
  | .nil, _ => rfl
  | .leaf _ _ r, b => by simp only [AT.app, AT.fo, Fo.app, r.fo_app]
  | .node _ _ _ r, b => by simp only [AT.app, AT.fo, Fo.app, r.fo_app]
theorem AT.led_app : ∀ a b : AT, (a.app b).led = a.led ++ b.led
  | .nil, _ => rfl
  | .leaf _ _ r, b => by simp only [AT.app, AT.led, r.led_app]
  | .node _ _ _ r, b => by simp only [AT.app, AT.led, r.led_app, List.append_assoc]
end
section
open PyProof.Rows.LCg
local macro_rules | `(tactic| walk_at "eval ListComp") => `(tactic| (k_here; (with_reducible rename Fr _ _ _ _ => kF); with_unfolding_all refine' comp_tup (cl := []) kF ?k1 ?k2 ?k3 ?k4 ?k5 ?_ ?k6; (case k1 => rfl); (case k2 => decide); (case k3 => rfl); (case k4 => decide); (case k5 => rfl); (case k6 => intro _; rfl)))
local macro_rules | `(tactic| walk_at "call ref") => `(tactic| ((with_reducible show wpAny _ _ (call (Value.ref 188) _ _) _ _ _); refine held ?_))
local macro_rules | `(tactic| k_room) => `(tactic| ((try simp only [depth_under_make, depth_under_kw, depth_in1, depth_deeper, depth_caller]); (try dsimp only [ktrTop]); omega))
local macro_rules | `(tactic| k_units) => `(tactic| ((try simp only [units_in1, units_deeper, Around.mark_units, units_caller]); (try dsimp only [ktrTop]); omega))
local macro_rules | `(tactic| walk_at "call type:list") => `(tactic| (k_here; (with_reducible show wpAny _ _ (call (Value.type "list") [Value.ref _]) _ _ _); k_dflt (refine' list_copyK ?k1 ?k2 ?k3 ?_ ?z; (case k1 => k_asm); (case k2 => k_asm); (case k3 => exact News.isList (by k_asm) (by k_mem)); (case z => (first | assumption | size_fits)); k_whole); intro D' c' h' F' N' l1; (try k_lt l1); (try k_sweep)))
def TreeOut (d : Fo) (tl : List (Addr × Obj)) (r : Value) : Prop := ∃ t : AT, t.vals = [r] ∧ t.fo = d ∧ (∀ p ∈ t.led, p ∈ tl) ∧ (t.led.map (·.1)).Nodup
def TreeJ (news : List (Addr × Obj)) (ws : List Value) (k : Fo) (i : Nat) (ys : List Value) (nw : List (Addr × Obj)) : Prop :=
  ∃ (t : AT) (rest : Fo) (tl : List (Addr × Obj)), MI news (ws.drop i) rest ∧ t.fo.app rest = k ∧ t.vals = ys ∧ nw = news ++ tl ∧ (∀ q ∈ news, ∀ p ∈ tl, q.1 < p.1) ∧ (∀ p ∈ t.led, p ∈ tl) ∧ (t.led.map (·.1)).Nodup
theorem treeJ_step {I C D : Addr} {oI oC oD : Obj} {news : List (Addr × Obj)} {ws : List Value} {t : AT} {rest d r : Fo} {tl tl9 : List (Addr × Obj)} {i : Nat} {v y : Value}
    (hr : MI news (ws.drop (i + 1)) r) (hord : ∀ q ∈ news, ∀ p ∈ tl, q.1 < p.1) (hled : ∀ p ∈ t.led, p ∈ tl) (hnd : (t.led.map (·.1)).Nodup)
    (hord9 : ∀ q ∈ (I, oI) :: (C, oC) :: (D, oD) :: (news ++ tl), ∀ p ∈ tl9, q.1 < p.1) (ho : TreeOut d tl9 y) (e : rest = d.app r) :
    TreeJ news ws (t.fo.app rest) (i + 1) (t.vals ++ [y]) (news ++ (tl ++ tl9)) := by
  obtain ⟨t2, hv2, hf2, hl2, hn2⟩ := ho
  subst e; subst hf2
  refine ⟨t.app t2, r, tl ++ tl9, hr, ?_, ?_, rfl, ?_, ?_, ?_⟩
  · rw [AT.fo_app, Fo.app_assoc]
  · rw [AT.vals_app, hv2]
  · intro q hq p hp
    rcases List.mem_append.mp hp with hp | hp
    · exact hord q hq p hp
    · exact hord9 q (by simp [hq]) p hp
  · intro p hp
    rw [AT.led_app] at hp
    rcases List.mem_append.mp hp with hp | hp
    · exact List.mem_append_left _ (hled p hp)
    · exact List.mem_append_right _ (hl2 p hp)
  · rw [AT.led_app, List.map_append]
    refine List.nodup_append.mpr ⟨hnd, hn2, ?_⟩
    rintro x hx y hy rfl
    obtain ⟨p, hp, rfl⟩ := List.mem_map.mp hx
    obtain ⟨q, hq, e⟩ := List.mem_map.mp hy
    have := hord9 p (by simp [hled p hp]) q (hl2 q hq)
    exact absurd e (Nat.ne_of_gt this)
theorem tree_end {h₀ h : Heap} {L x dx l D : Addr} {ln dn : Nat} {h1 h2 : Int} {t1 t2 tk : Tok} {oD : Obj} {lab : Str} {t : AT} {k : Fo} {news tl : List (Addr × Obj)} {Q : Value → Shared → Prop} {m : Str → Option Value} {tk' : Nat} {s : Shared}
    (hret : ∀ r tl h' tk', Fr h₀ L h' m → News h₀ L h' (news ++ tl) → (∀ q ∈ news, ∀ p ∈ tl, q.1 < p.1) → TreeOut (.node lab k .nil) tl r → Q r { s with heap := h', toks := tk' })
    (F : Fr h₀ L h m)
    (N : News h₀ L h ((l, listOf t.vals.toArray ln) :: (x, instObj 145 dx) :: (dx, dictOf [⟨h1, .str (Str.ofString "_children") t1, .ref l⟩, ⟨h2, .str (Str.ofString "_label") t2, .str lab tk⟩] dn) :: (D, oD) :: (news ++ tl)))
    (hord : ∀ q ∈ news, ∀ p ∈ tl, q.1 < p.1) (hled : ∀ p ∈ t.led, p ∈ tl) (hnd : (t.led.map (·.1)).Nodup) (hfo : t.fo.app .nil = k) (hA : AllLt dx (news ++ tl)) (h12 : @LT.lt Nat _ dx x) (h13 : @LT.lt Nat _ x l) :
    Q (.ref x) { s with heap := h, toks := tk' } := by
  have hlt := ktn_ltOf hA
  refine hret _ (NP.led ⟨x, dx, l, ln, dn, h1, h2, t1, t2, tk⟩ lab t.vals ++ tl) _ _ F (fun q hq => N q ?_) (fun q hq p hp => ?_) ⟨.node ⟨x, dx, l, ln, dn, h1, h2, t1, t2, tk⟩ lab t .nil, rfl, ?_, ?_, ?_⟩
  · simp only [NP.led, List.mem_append, List.mem_cons, List.not_mem_nil, or_false] at hq ⊢
    rcases hq with hq | (hq | hq | hq) | hq
    · exact .inr (.inr (.inr (.inr (.inl hq))))
    · exact .inr (.inl hq)
    · exact .inr (.inr (.inl hq))
    · exact .inl hq
    · exact .inr (.inr (.inr (.inr (.inr hq))))
  · have hq' := hlt q (List.mem_append_left _ hq)
    simp only [NP.led, List.mem_append, List.mem_cons, List.not_mem_nil, or_false] at hp
    rcases hp with (rfl | rfl | rfl) | hp
    · exact Nat.lt_trans hq' h12
    · exact hq'
    · exact Nat.lt_trans hq' (Nat.lt_trans h12 h13)
    · exact hord q hq p hp
  · rw [AT.fo, AT.fo, ← hfo, Fo.app_nil]
  · intro q hq
    simp only [AT.led, List.append_nil] at hq
    rcases List.mem_append.mp hq with hq | hq
    · exact List.mem_append_left _ hq
    · exact List.mem_append_right _ (hled q hq)
  · simp only [AT.led, NP.led, List.append_nil, List.map_append, List.map_cons, List.map_nil, List.cons_append, List.nil_append]
    have hne : ∀ a, @LE.le Nat _ dx a → a ∉ t.led.map (·.1) := by
      intro a ha hm
      obtain ⟨p, hp, rfl⟩ := List.mem_map.mp hm
      exact Nat.lt_irrefl _ (Nat.lt_of_lt_of_le (hlt p (List.mem_append_right _ (hled p hp))) ha)
    refine List.nodup_cons.mpr ⟨?_, List.nodup_cons.mpr ⟨?_, List.nodup_cons.mpr ⟨?_, hnd⟩⟩⟩
    · simp only [List.mem_cons, not_or]
      exact ⟨Nat.ne_of_gt h12, Nat.ne_of_lt h13, hne _ (Nat.le_of_lt h12)⟩
    · simp only [List.mem_cons, not_or]
      exact ⟨Nat.ne_of_lt (Nat.lt_trans h12 h13), hne _ (Nat.le_refl _)⟩
    · exact hne _ (Nat.le_of_lt (Nat.lt_trans h12 h13))
set_option maxRecDepth 100000 in
set_option maxHeartbeats 8000000 in
theorem tree_node : ∀ (w : World) (a b : Addr) (n n2 : Nat) (lab : Str) (tk : Tok) (ws : List Value) (k : Fo) (news : List (Addr × Obj)), (a, tup [.str lab tk, .ref b] n) ∈ news → (b, tup ws n2) ∈ news → MI news ws k →
   (IH : ∀ (d : Fo) (nw : List (Addr × Obj)) (v : Value), d.count ≤ k.count → MI nw [v] d → CallOk w 188 [v] nw (4 * d.count) (20 * d.count) (TreeOut d)) →
   CallOk w 188 [.ref a] news (4 * (k.count + 1)) (20 * (k.count + 1)) (TreeOut (.node lab k .nil)) := by
  intro w va vb n n2 lab tkl ws k news hma hmb hk IH
  unfold CallOk
  k_fill
  intro mean mg mb dp un gd cn cs a ccd cl outer A₀ base h₀ L m s Q E B F X N T hkf hdp hu hret
  refine wpAny_call ?_
  k_dflt ktr_enter
  k_steps
  have hlen := hk.length
  have hsz : ws.length ≤ sizeLine := by simp only [recursionLimit, sizeLine] at *; omega
  refine ⟨_, ws, n2, news, rfl, rfl, by assumption, by assumption, hmb, hsz, fun s₂ hs₂ => ?_⟩
  obtain ⟨g, rfl⟩ := hs₂
  refine compRest_ind (TreeJ news ws k) ⟨.nil, k, [], by simpa using hk, rfl, rfl, by simp, by simp, by simp [AT.led], by simp [AT.led]⟩ ?_ ?_
  · clear hret
    rintro i ys nw hi ⟨t, rest, tl, hrest, hfo, rfl, rfl, hord, hled, hnd⟩ v I oI C oC D m₂ h tk' E' hv hoC hm₂ F₂ N₂ o3 hne
    k_steps
    obtain ⟨d, r, hdr, hd, hr, hc⟩ := hrest.head hv
    have hcnt : d.count + r.count + t.fo.count = k.count := by rw [← hfo, Fo.count_app]; omega
    refine callOk_use (IH d ((I, oI) :: (C, oC) :: (D, lst t.vals) :: (news ++ tl)) v (by omega) (hd.mono fun p hp => by simp [hp])) (by assumption) (by assumption) (by assumption) (by assumption) (by assumption) rfl ?_ ?_ ?_
    · show dp + 1 + 4 * d.count < recursionLimit
      omega
    · show un + 3 + 20 * d.count < cLine
      omega
    intro y tl9 h9 tk9 F9 N9 hord9 ho9
    refine CompEnd.intro F9 N9 (news ++ (tl ++ tl9)) (fun p hp => by simpa [or_assoc] using hp) ?_ (by simp [hmb]) ?_
    · refine Off3.of fun p hp => ?_
      rw [← List.append_assoc] at hp
      rcases List.mem_append.mp hp with hp | hp
      · exact o3.mem p hp
      · exact ⟨Nat.ne_of_gt (hord9 (I, oI) (by simp) p hp), Nat.ne_of_gt (hord9 (C, oC) (by simp) p hp), Nat.ne_of_gt (hord9 (D, lst t.vals) (by simp) p hp)⟩
    · rw [← hfo]; exact treeJ_step (v := v) hr hord hled hnd hord9 ho9 hdr
  · rintro ys nw ⟨t, rest, tl, hrest, hfo, rfl, rfl, hord, hled, hnd⟩ 
    rw [List.drop_length] at hrest
    cases hrest
    intro D h tk9 F9 N9 o1
    have hts : t.vals.toArray.size ≤ sizeLine := by
      have h1 := t.vals_length
      have h2 : t.fo.count ≤ k.count := by rw [← hfo, Fo.count_app]; omega
      simp only [recursionLimit, sizeLine, List.size_toArray] at *; omega
    k_steps
    (rename News _ _ _ _ => N9); (rename Fr _ _ _ _ => F9)
    with_reducible rename (_ ∧ _ ∧ _ ∧ AllLt _ _) => lb
    with_reducible rename (_ ∧ AllLt _ _) => la
    exact tree_end hret F9 N9 hord hled hnd hfo la.2 (by omega) (by omega)

set_option maxRecDepth 100000 in
set_option maxHeartbeats 8000000 in
theorem tree_leaf : ∀ (w : World) (s : Str) (tk : Tok) (news : List (Addr × Obj)), CallOk w 188 [.str s tk] news 4 20 (TreeOut (.leaf s .nil)) := by
  intro w sx tkx
  unfold CallOk
  k_fill
  intro news mean mg mb dp un gd cn cs a ccd cl outer A₀ base h₀ L m s Q E B F X N T hk hdp hu hret
  refine wpAny_call ?_
  k_dflt ktr_enter
  k_steps
  (rename News _ _ _ _ => N9); (rename Fr _ _ _ _ => F9)
  exact hret _ [] _ _ F9 (by rw [List.append_nil]; exact N9) (fun _ _ _ h => nomatch h) ⟨.leaf sx tkx .nil, rfl, rfl, by simp [AT.led], by simp [AT.led]⟩
theorem tree_spec (w : World) : ∀ (N : Nat) (d : Fo) (news : List (Addr × Obj)) (v : Value), d.count ≤ N → MI news [v] d → CallOk w 188 [v] news (4 * d.count) (20 * d.count) (TreeOut d) := by
  intro N
  induction N with
  | zero =>
    intro d news v hd h
    have := h.length
    simp only [List.length_cons] at this
    omega
  | succ N ih =>
    intro d news v hd h
    cases h with
    | leaf h => cases h; exact tree_leaf w _ _ _
    | node a b c h =>
      cases h
      simp only [Fo.count] at hd ⊢
      exact tree_node w _ _ _ _ _ _ _ _ _ a b c fun d' nw v' h1 h2 => ih d' nw v' (by omega) h2
end
section
set_option maxRecDepth 100000
theorem lri_nolen : typeLookup (.type "list_reverseiterator") "__len__" = pure none := by rw [typeLookup_type, builtinLookup_eq_fast]; kernel_rfl
theorem lri_hint : typeLookup (.type "list_reverseiterator") "__length_hint__" = pure (some (.builtin "list_reverseiterator.__length_hint__")) := by rw [typeLookup_type, builtinLookup_eq_fast]; kernel_rfl

section
variable {prog : Program} {w : World} {A : Around} {s : Shared} {R : Result → Shared → Prop}
variable {I : Addr} {fp wr : List Addr} {G : Array GenState → Array GenState → Prop} {n : Nat} {P : Nat → Value → Prop} {St : Nat → Shared → Prop}

theorem extend_rev (W : WalksS prog w A.in1 I fp wr G n P St) (hT : ∀ i s, St i s → s.TypeIs (.ref I) "list_reverseiterator") (S : Addr) (res : Value) (c₀ : Nat) (hst : St 0 s) (hSf : S ∉ fp) (hI : I ∈ fp)
    (hS : s.heap.get? S = some { cls := .type "list", data := .seq #[] c₀ })
    (hR : ∀ s' acc' c', Moved (S :: wr) G s s' → s'.heap.get? S = some { cls := .type "list", dict := none, data := .seq acc' c', slots := #[] } → ItemsOf P acc' n → R (.ok (.ret res)) s') (hn : n ≤ sizeLine) :
    wpAny (model prog w) A.in1 (Builtin.List.listExtendWith (.ref S) (.ref I) res)
      (fun fin s' => match fin with | .done f => R (.ok f) s' | .again c' => c'.quiet = true ∧ codeAny (model prog w) A c' R s') (fun e s' => R (.error e) s') s := by
  have hSI : S ≠ I := fun e => hSf (e ▸ hI)
  have h1 : Builtin.List.listSameRef (.ref S) (.ref I) = false := by simp [Builtin.List.listSameRef, hSI]
  unfold Builtin.List.listExtendWith
  refine wpAny_bind (wpAny_typeOf (hT 0 _ hst) ?_)
  rw [if_neg (by rw [h1]; decide)]
  refine wpAny_bind (W.self 0 _ _ _ hst ?_)
  refine wpAny_bind (wpAny_holding ?_)
  unfold Builtin.List.listLengthHint
  refine wpAny_bind (wpAny_specialOf (hT 0 _ hst) lri_nolen ?_)
  show wpAny _ A.in1 (specialOf (Value.ref I) (Str.ofString "__length_hint__") >>= _) _ _ _
  refine wpAny_bind (wpAny_specialOf (hT 0 _ hst) lri_hint ?_)
  (generalize hid : ("list_reverseiterator.__length_hint__" : String) = id0; (fail_if_success (clear hid id0)); wp_delta; rw [show splitId id0 = some ("list_reverseiterator", "__length_hint__") from by subst hid; decide +kernel]; subst hid)
  refine wpAny_bind (wpAny_isInstance (b := true) (hT 0 _ hst) (by rw [isSubtype_type]; kernel_rfl) ?_)
  refine wpAny_pure ?_
  rw [if_neg (by decide)]
  refine wpAny_pure ⟨plainId_quiet F.plain_extend_loop _, codeAny_extend_loopS W hn _ hSf _ n 0 _ _ _ rfl (Nat.zero_le _) hst hS (ItemsOf.nil P) fun s' acc' c' hm hS' hacc => ?_⟩
  exact hR s' acc' c' hm hS' hacc

theorem list_init_rev (W : WalksS prog w A.in1 I fp wr G n P St) (hT : ∀ i s, St i s → s.TypeIs (.ref I) "list_reverseiterator") (S : Addr) (hst : St 0 s) (hSf : S ∉ fp) (hI : I ∈ fp)
    (hS : s.heap.get? S = some { cls := .type "list", data := .seq #[] })
    (hR : ∀ s' acc' c', Moved (S :: wr) G s s' → s'.heap.get? S = some { cls := .type "list", dict := none, data := .seq acc' c', slots := #[] } → ItemsOf P acc' n → R (.ok (.ret .none)) s') (hn : n ≤ sizeLine) :
    wpAny (model prog w) A.in1 (Builtin.«list.__init__» ⟨[.ref S, .ref I], []⟩)
      (fun fin s' => match fin with | .done f => R (.ok f) s' | .again c' => c'.quiet = true ∧ codeAny (model prog w) A c' R s') (fun e s' => R (.error e) s') s := by
  show wpAny _ A.in1 (do let old ← Builtin.List.listItems (.ref S); Builtin.List.listUpdate (.ref S) (fun _ => #[]); letGo old.toList.reverse; Builtin.List.listExtendWith (.ref S) (.ref I) .none) _ _ s
  refine wpAny_bind ?_
  unfold Builtin.List.listItems
  refine wpAny_bind (wpAny_seqItems hS rfl (wpAny_pure ?_))
  show wpAny _ A.in1 (updateSeq S (fun _ => #[]) >>= fun _ => letGo (#[] : Array Value).toList.reverse >>= fun _ => Builtin.List.listExtendWith (.ref S) (.ref I) .none) _ _ s
  refine wpAny_bind (wpAny_updateSeq hS rfl ?_)
  have hS₂ := Heap.get?_update_self (Obj.mapSeq (fun _ => (#[] : Array Value))) hS rfl
  have oth : ∀ b o, b ≠ S → s.heap.get? b = some o → (s.heap.update S (Obj.mapSeq (fun _ => (#[] : Array Value)))).get? b = some o :=
    fun b o hb e => (Heap.get?_update_other _ _ (Ne.symm hb)).trans e
  refine wpAny_bind (wpAny_letGo ?_)
  refine extend_rev (hn := hn) W hT S .none _ (W.frame 0 s _ s.toks hst (Nat.le_refl _) fun b hb o e => oth b o (fun h => hSf (h ▸ hb)) e) hSf hI hS₂ fun s' acc' c' hm hS' hacc => ?_
  exact hR s' acc' c' (Moved.trans W.gtrans ((Moved.refl W.grefl).then_heap (Nat.le_refl _) fun b o hb e => oth b o (fun h => hb (h ▸ List.mem_cons_self)) e) hm) hS' hacc

theorem call_list_rev {E : Value → Shared → Prop} {Q : Value → Shared → Prop} (W : WalksS prog w A.in1.in1 I fp wr G n P St) (hT : ∀ i s, St i s → s.TypeIs (.ref I) "list_reverseiterator") (hst : St 0 s) (hfp : ∀ b ∈ fp, b < s.heap.objs.size) (hI : I ∈ fp)
    (hQ : ∀ s' acc' c', Moved (s.heap.objs.size :: wr) G { s with heap := s.heap.push { cls := .type "list", data := .seq #[] } } s' →
      s'.heap.get? s.heap.objs.size = some { cls := .type "list", dict := none, data := .seq acc' c', slots := #[] } → ItemsOf P acc' n → Q (.ref s.heap.objs.size) s') (hn : n ≤ sizeLine) :
    wpAny (model prog w) A (call (.type "list") [.ref I]) Q E s := by
  have hSf : s.heap.objs.size ∉ fp := fun hm => Nat.lt_irrefl _ (hfp _ hm)
  refine callType_codes (Q₁ := fun obj s₁ => obj = .ref s.heap.objs.size ∧ s₁ = { s with heap := s.heap.push { cls := .type "list", data := .seq #[] } }) F.called_list (F.typeCall_list_1 _) F.entry_list_init
    (code_list_new _ ⟨rfl, rfl⟩) fun obj s₁ h₁ => ?_
  obtain ⟨rfl, rfl⟩ := h₁
  have hS : (s.heap.push { cls := .type "list", data := .seq #[] }).get? s.heap.objs.size = some { cls := .type "list", data := .seq #[] } := Heap.get?_push_size _ rfl
  refine ⟨⟨_, hS, rfl⟩, F.args_list_init_2 _ _, list_init_rev (hn := hn) W hT _ (W.frame 0 s _ s.toks hst (Nat.le_refl _) fun b _ o e => Heap.get?_push_of_some _ e) hSf hI hS fun s' acc' c' hm hS' hacc => ?_⟩
  exact ⟨rfl, hQ s' acc' c' hm hS' hacc⟩
end

theorem items_rev {items acc : Array Value} (h : ItemsOf (fun i v => items[items.size - 1 - i]? = some v) acc items.size) : acc = items.reverse := by
  obtain ⟨hs, hi⟩ := h
  refine Array.ext (by rw [hs, Array.size_reverse]) fun i h1 h2 => ?_
  have := hi i acc[i] (by simp [h1])
  dsimp only at this
  rw [Array.getElem?_eq_some_iff] at this
  obtain ⟨_, e⟩ := this
  simpa [Array.getElem_reverse] using e.symm

/-- list(it), it the reversed iterator of a list of the ledger, not yet begun -/
theorem list_rev_K {prog : Program} {w : World} {A : Around} {E : Value → Shared → Prop} {s : Shared} {h₀ : Heap} {L I l : Addr} {m : Str → Option Value} {vs : List Value} {n : Nat} {news : List (Addr × Obj)} {Q : Value → Shared → Prop}
    (hh : A.handled = none) (F : Fr h₀ L s.heap m) (N : News h₀ L s.heap ((I, revObj l ((vs.length : Int) - 1)) :: news)) (hl : (l, listOf vs.toArray n) ∈ news) (hI : ∀ p ∈ news, p.1 ≠ I) (hsz : vs.length ≤ sizeLine)
    (h : ∀ D c h' tk, Fr h₀ L h' m → News h₀ L h' ((D, listOf vs.reverse.toArray c) :: news) → (∀ q ∈ news, q.1 < D) → Q (.ref D) { s with heap := h', toks := tk }) :
    wpAny (model prog w) A (call (.type "list") [.ref I]) Q E s := by
  have gI := (N _ (.head _)).1
  have gl := (N _ (.tail _ hl)).1
  have hne : l ≠ I := hI _ hl
  refine call_list_rev (W := (Walks.listRev (A := A.in1.in1) hh I l hne vs.toArray).toS) (fun i s st => st.2.1.typeIs) ⟨Nat.zero_le _, ⟨_, gI, rfl, by simp [revObj]⟩, ⟨_, gl, rfl, _, rfl⟩⟩ ?_ (by simp) ?_ (by simpa using hsz)
  · intro b hb
    simp only [List.mem_cons, List.not_mem_nil, or_false] at hb
    rcases hb with rfl | rfl
    · exact Heap.lt_size gI
    · exact Heap.lt_size gl
  · intro s' acc' c' hm hS hacc
    obtain ⟨h', gs, dr, tk, os⟩ := s'
    have e1 := hm.gens; have e2 := hm.drawn; have e3 := hm.os
    dsimp only at e1 e2 e3 hS
    subst e1; subst e2; subst e3
    have e := items_rev hacc
    subst e
    have kp : ∀ b o, b ≠ I → s.heap.get? b = some o → h'.get? b = some o := fun b o hb e => by
      refine hm.heap b o ?_ (Heap.get?_push_of_some _ e)
      simp only [List.mem_cons, List.not_mem_nil, or_false, not_or]
      exact ⟨Nat.ne_of_lt (Heap.lt_size e), hb⟩
    have I0 := (N _ (.head _)).2
    have hDL : s.heap.objs.size ≠ L := Nat.ne_of_gt F.ns.lt
    refine h _ c' h' tk ⟨F.ns.at' fun o e => kp _ _ I0.1.symm e, fun b o e => kp b o (fun q => by rw [q, I0.2] at e; cases e) (F.keep b o e), F.above⟩ (fun p hp => ?_) (fun q hq => Heap.lt_size (N q (.tail _ hq)).1)
    rcases List.mem_cons.mp hp with rfl | hp
    · refine ⟨by simpa using hS, hDL, next_is_new F⟩
    · exact ⟨kp _ _ (hI p hp) (N p (.tail _ hp)).1, (N p (.tail _ hp)).2⟩
end
section
set_option maxRecDepth 100000
section
variable {prog : Program} {w : World} {A : Around} {E : Value → Shared → Prop} {s : Shared} {h₀ h : Heap} {L D l b : Addr} {m : Str → Option Value} {news : List (Addr × Obj)} {its : Array Value} {n n2 : Nat}
theorem truthy_L {Q : Bool → Shared → Prop} (N : News h₀ L s.heap news) (hm : (l, listOf its n) ∈ news) (hsz : its.size ≤ sizeLine) (h : Q (!its.isEmpty) { s with toks := s.toks + 1 + 1 }) : wpAny (model prog w) A (truthy (.ref l)) Q E s :=
  wpAny_truthy_list ⟨_, (N _ hm).1, rfl, _, rfl⟩ (by have h2 : sizeLine = 2 ^ 24 := rfl; omega) h
theorem pop_L {p : List Value} {y : Value} {news' : List (Addr × Obj)} {Q : Value → Shared → Prop} (F : Fr h₀ L s.heap m) (N : News h₀ L s.heap news) (U : Upd D (listOf (p ++ [y]).toArray n) (listOf p.toArray (n + 1)) news news')
    (hz : p.length + 1 ≤ sizeLine) (h : ∀ h', Fr h₀ L h' m → News h₀ L h' news' → Q y { s with heap := h' }) : wpAny (model prog w) A (call (.builtin "list.pop") [.ref D]) Q E s :=
  kl_pop F N (by rw [List.toList_toArray]; exact kpa_last y p) U (by simpa using hz) h
theorem extend_L {ys zs : List Value} {news' : Nat → List (Addr × Obj)} {Q : Value → Shared → Prop} (F : Fr h₀ L s.heap m) (N : News h₀ L s.heap news) (hb : (b, listOf zs.toArray n2) ∈ news) (U : ∀ n', Upd D (listOf ys.toArray n) (listOf (ys ++ zs).toArray n') news (news' n'))
    (hz : ys.length + zs.length ≤ sizeLine) (h : ∀ h' n', Fr h₀ L h' m → News h₀ L h' (news' n') → Q .none { s with heap := h' }) : wpAny (model prog w) A (call (.builtin "list.extend") [.ref D, .ref b]) Q E s := by
  obtain ⟨pre, post, rfl, -, a, c⟩ := (U 0).split
  refine extend_in F N a c (N _ hb).1 (fun h' n' F' N' => h h' n' F' ?_) (by simpa using hz)
  have key : ∀ {l l' : List (Addr × Obj)} {o o' : Obj}, Upd D o o' l l' → (∀ p ∈ l', p ∈ l ∨ p = (D, o')) := by
    intro l l' o o' u
    induction u with
    | head h => intro p hp; rcases List.mem_cons.mp hp with rfl | hp
                · exact .inr rfl
                · exact .inl (.tail _ hp)
    | tail h _ ih => intro p hp; rcases List.mem_cons.mp hp with rfl | hp
                     · exact .inl (.head _)
                     · exact (ih p hp).imp (fun q => .tail _ q) id
  have key2 : ∀ {l l' : List (Addr × Obj)} {o o' : Obj}, Upd D o o' l l' → (∀ p ∈ l', p.1 ≠ D ∨ p = (D, o')) := by
    intro l l' o o' u
    induction u with
    | head h => intro p hp; rcases List.mem_cons.mp hp with rfl | hp
                · exact .inr rfl
                · exact .inl (h p hp)
    | tail h _ ih => intro p hp; rcases List.mem_cons.mp hp with rfl | hp
                     · exact .inl h
                     · exact ih p hp
  intro p hp
  rcases key (U n') p hp with q | rfl
  · rcases key2 (U n') p hp with q2 | rfl
    · refine N' p ?_
      rcases List.mem_append.mp q with q | q
      · exact List.mem_append_left _ q
      · rcases List.mem_cons.mp q with rfl | q
        · exact absurd rfl q2
        · exact List.mem_append_right _ (.tail _ q)
    · have := N' (D, listOf (ys ++ zs).toArray n') (List.mem_append_right _ (by simp))
      exact this
  · exact N' (D, listOf (ys ++ zs).toArray n') (List.mem_append_right _ (by simp))
end
theorem put_children {hsh h1 h2 : Int} {key v a b : Value} {t1 t2 : Tok} {n : Nat} :
    (putL (Str.ofString "_children") hsh key v [⟨h1, .str (Str.ofString "_children") t1, a⟩, ⟨h2, .str (Str.ofString "_label") t2, b⟩], putN (Str.ofString "_children") [⟨h1, .str (Str.ofString "_children") t1, a⟩, ⟨h2, .str (Str.ofString "_label") t2, b⟩] n)
      = ([⟨h1, .str (Str.ofString "_children") t1, v⟩, ⟨h2, .str (Str.ofString "_label") t2, b⟩], n) := by
  have e1 : (Value.str (Str.ofString "_children") t1).isStr (Str.ofString "_children") = true := by simp [Value.isStr]
  simp [putL, putN, e1]
theorem put_label {hsh h1 h2 : Int} {key v a b : Value} {t1 t2 : Tok} {n : Nat} :
    (putL (Str.ofString "_label") hsh key v [⟨h1, .str (Str.ofString "_children") t1, a⟩, ⟨h2, .str (Str.ofString "_label") t2, b⟩], putN (Str.ofString "_label") [⟨h1, .str (Str.ofString "_children") t1, a⟩, ⟨h2, .str (Str.ofString "_label") t2, b⟩] n)
      = ([⟨h1, .str (Str.ofString "_children") t1, a⟩, ⟨h2, .str (Str.ofString "_label") t2, v⟩], n) := by
  have e0 : (Str.ofString "_children" == Str.ofString "_label") = false := by decide
  have e1 : (Value.str (Str.ofString "_label") t2).isStr (Str.ofString "_label") = true := by simp [Value.isStr]
  have e2 : (Value.str (Str.ofString "_children") t1).isStr (Str.ofString "_label") = false := by simpa [Value.isStr] using e0
  simp [putL, putN, e1, e2]
end
section
set_option maxRecDepth 100000
/-- how a turn of a for ends -/
def ForPost (h₀ : Heap) (L I : Addr) (oI : Obj) (R0 : Shared → Prop) (Jn : (Str → Option Value) → List (Addr × Obj) → Prop) (Q : Flow → Shared → Prop) (f : Flow) (s₂ : Shared) : Prop :=
  match f with
  | .ret v => Q (.ret v) s₂
  | .brk => Q .next s₂
  | _ => R0 s₂ ∧ ∃ m nx, Fr h₀ L s₂.heap m ∧ News h₀ L s₂.heap ((I, oI) :: nx) ∧ (∀ p ∈ nx, p.1 ≠ I) ∧ Jn m nx
theorem ForPost.intro {h₀ : Heap} {L I : Addr} {oI : Obj} {R0 : Shared → Prop} {Jn : (Str → Option Value) → List (Addr × Obj) → Prop} {Q : Flow → Shared → Prop} {s₂ : Shared} {m : Str → Option Value} {nx : List (Addr × Obj)}
    (r : R0 s₂) (F : Fr h₀ L s₂.heap m) (N : News h₀ L s₂.heap ((I, oI) :: nx)) (hI : ∀ p ∈ nx, p.1 ≠ I) (hJ : Jn m nx) : ForPost h₀ L I oI R0 Jn Q .next s₂ := ⟨r, m, nx, F, N, hI, hJ⟩
/-- a for at its iterator -/
def ForAt (prog : Program) (w : World) (A : Around) (h₀ : Heap) (env : Env) (x : Str) (body : List Stmt) (Q : Flow → Shared → Prop) (it : Value) (s₂ : Shared) : Prop :=
  ∃ (I : Addr) (fp : List Addr) (n : Nat) (P : Nat → Value → Prop) (St : Nat → Heap → Prop) (S : List (Addr × Obj) → Prop) (R0 : Shared → Prop) (J : Nat → (Str → Option Value) → List (Addr × Obj) → Prop) (m : Str → Option Value) (nx : List (Addr × Obj)) (oI : Obj),
    it = .ref I ∧ Walks prog w A I fp [I] n P St ∧ env.locals ∉ fp ∧ h₀.get? I = none ∧ (∀ i h, St i h → ∃ o, h.get? I = some o) ∧
    (∀ i h h' o nw, St i h → h.get? I = some o → h'.get? I = some o → (∀ b o, h₀.get? b = some o → h'.get? b = some o) → News h₀ env.locals h' nw → S nw → St i h') ∧
    (∀ s h tk, R0 s → R0 { s with heap := h, toks := tk }) ∧ St 0 s₂.heap ∧ s₂.heap.get? I = some oI ∧ R0 s₂ ∧ Fr h₀ env.locals s₂.heap m ∧ News h₀ env.locals s₂.heap nx ∧ (∀ p ∈ nx, p.1 ≠ I) ∧ (∀ i m nx, J i m nx → S nx) ∧ J 0 m nx ∧
    (∀ i v m₁ nx s₁ oI, R0 s₁ → i < n → P i v → J i m₁ nx → (∀ p ∈ nx, p.1 ≠ I) → Fr h₀ env.locals s₁.heap (fun y => if y = x then some v else m₁ y) → News h₀ env.locals s₁.heap ((I, oI) :: nx) →
      wpAny (model prog w) A (execs body env) (ForPost h₀ env.locals I oI R0 (J (i + 1)) Q) (fun _ _ => False) s₁) ∧
    (∀ m₁ nx s₁, R0 s₁ → J n m₁ nx → Fr h₀ env.locals s₁.heap m₁ → News h₀ env.locals s₁.heap nx → Q .next s₁)
theorem for_at {prog : Program} {w : World} {A : Around} {s : Shared} {h₀ : Heap} {env : Env} {x : Str} {px pos : Pos} {iter : Expr} {body : List Stmt} {Q : Flow → Shared → Prop} {m : Str → Option Value} (_F : Fr h₀ env.locals s.heap m)
    (hx : env.kindOf x = some .local) (hp : (env.scope.kind == .class || (env.scope.kind == .module && env.locals != env.globals)) = false)
    (h : wpAny (model prog w) A (eval iter env) (fun xv s₁ => Held (wpAny (model prog w) A (pyIter xv) (ForAt prog w A h₀ env x body Q) (fun _ _ => False) s₁)) (fun _ _ => False) s)
    (hs : ∀ x, foldedSetIterable iter env x = pure x) :
    wpAny (model prog w) A (exec (.For (.Name x px) iter body [] pos) env) Q (fun _ _ => False) s := by
  refine wpAny_For (wpAny_mono h (fun xv s₁ h₁ => wpAny_mono h₁ (fun it s₂ h₂ => ?_) fun _ _ e => e) fun _ _ e => e) hs
  obtain ⟨I, fp, n, P, St, S, R0, J, m, nx, oI, rfl, W, hLf, hI0, hIo, hSt, hR0, hst, hoI, r0, F, N, hnI, hJS, hJ0, turn, done⟩ := h₂
  have hLI : env.locals ≠ I := fun e => hLf (W.sub _ (by rw [e]; exact List.mem_singleton.mpr rfl))
  refine codeAny_forLoop (fun k s' => ∃ i m' nx', R0 s' ∧ St i s'.heap ∧ Fr h₀ env.locals s'.heap m' ∧ News h₀ env.locals s'.heap nx' ∧ (∀ p ∈ nx', p.1 ≠ I) ∧ J i m' nx' ∧ i ≤ n ∧ k = n + 1 - i) ?_ (n + 1)
    ⟨0, m, nx, r0, hst, F, N, hnI, hJ0, Nat.zero_le _, rfl⟩
  rintro k s' ⟨i, m', nx', r', hst', F', N', hnI', hJ, hi, rfl⟩
  have next : ∀ h₁ : Heap, (∀ b o, b ∉ [I] → s'.heap.get? b = some o → h₁.get? b = some o) → Fr h₀ env.locals h₁ m' ∧ News h₀ env.locals h₁ nx' := fun h₁ hk₁ =>
    ⟨⟨F'.ns.at' fun o e => hk₁ _ o (by simpa using hLI) e, fun b o e => hk₁ b o (fun hb => by rw [List.mem_singleton.mp hb, hI0] at e; cases e) (F'.keep b o e), F'.above⟩,
      fun p hp => ⟨hk₁ _ _ (by simpa using hnI' p hp) (N' p hp).1, (N' p hp).2⟩⟩
  by_cases hlt : i < n
  · refine W.item i _ _ _ hlt hst' fun v h₁ tk₁ hP hst₁ hk₁ => ?_
    obtain ⟨F₁, N₁⟩ := next h₁ hk₁
    refine wpAny_assign_Name (wpAny_storeName_local hx F₁.ns (fun h₂ hn₂ hs₂ => ?_) hp)
    have F₂ := F₁.set hn₂ hs₂
    have hst₂ : St (i + 1) h₂ := W.frame _ _ _ hst₁ fun b hb o e => (hs₂.2 b fun q => hLf (q ▸ hb)).trans e
    obtain ⟨o₂, ho₂⟩ := hIo _ _ hst₂
    have N₂ : News h₀ env.locals h₂ ((I, o₂) :: nx') := fun p hp => by
      rcases List.mem_cons.mp hp with rfl | hp
      · exact ⟨ho₂, hLI.symm, hI0⟩
      · exact N₁.set hs₂ p hp
    have key : ∀ s₃, (R0 s₃ ∧ ∃ m nx, Fr h₀ env.locals s₃.heap m ∧ News h₀ env.locals s₃.heap ((I, o₂) :: nx) ∧ (∀ p ∈ nx, p.1 ≠ I) ∧ J (i + 1) m nx) →
        ∃ k, k < n + 1 - i ∧ ∃ i m' nx', R0 s₃ ∧ St i s₃.heap ∧ Fr h₀ env.locals s₃.heap m' ∧ News h₀ env.locals s₃.heap nx' ∧ (∀ p ∈ nx', p.1 ≠ I) ∧ J i m' nx' ∧ i ≤ n ∧ k = n + 1 - i := by
      rintro s₃ ⟨r₃, m₃, nx₃, F₃, N₃, hnI₃, hJ₃⟩
      have N₃' : News h₀ env.locals s₃.heap nx₃ := fun p hp => N₃ p (.tail _ hp)
      exact ⟨n + 1 - (i + 1), by omega, i + 1, m₃, nx₃, r₃, hSt _ _ _ _ _ hst₂ ho₂ (N₃ _ (.head _)).1 F₃.keep N₃' (hJS _ _ _ hJ₃), F₃, N₃', hnI₃, hJ₃, hlt, rfl⟩
    refine wpAny_mono (turn i v m' nx' _ o₂ (hR0 _ _ _ (hR0 _ _ _ r')) hlt hP hJ hnI' F₂ N₂) (fun f s₃ h₃ => ?_) fun _ _ e => e.elim
    cases f with
    | ret v => exact h₃
    | brk => exact h₃
    | next => exact key _ h₃
    | cont => exact key _ h₃
  · obtain rfl : i = n := by omega
    refine W.done _ _ _ hst' fun h₁ tk₁ hk₁ => wpAny_execs_nil ?_
    obtain ⟨F₁, N₁⟩ := next h₁ hk₁
    exact done m' nx' _ (hR0 _ _ _ r') hJ F₁ N₁

section
variable {prog : Program} {w : World} {A : Around} {s : Shared} {h₀ : Heap} {env : Env} {x : Str} {body : List Stmt} {Q : Flow → Shared → Prop}
/-- over a list of the ledger -/
theorem for_list {l : Addr} {vs : List Value} {k : Nat} {m : Str → Option Value} {nx : List (Addr × Obj)} (R0 : Shared → Prop) (J : Nat → (Str → Option Value) → List (Addr × Obj) → Prop)
    (hh : A.handled = none) (F : Fr h₀ env.locals s.heap m) (N : News h₀ env.locals s.heap nx) (hl : (l, listOf vs.toArray k) ∈ nx) (r0 : R0 s) (hR0 : ∀ s h tk, R0 s → R0 { s with heap := h, toks := tk })
    (hJl : ∀ i m nx, J i m nx → (l, listOf vs.toArray k) ∈ nx) (hJ : J 0 m nx)
    (turn : ∀ I i v m₁ nx s₁ oI, R0 s₁ → i < vs.length → vs[i]? = some v → J i m₁ nx → (∀ p ∈ nx, p.1 ≠ I) → Fr h₀ env.locals s₁.heap (fun y => if y = x then some v else m₁ y) → News h₀ env.locals s₁.heap ((I, oI) :: nx) →
      wpAny (model prog w) A (execs body env) (ForPost h₀ env.locals I oI R0 (J (i + 1)) Q) (fun _ _ => False) s₁)
    (done : ∀ m₁ nx s₁, R0 s₁ → J vs.length m₁ nx → Fr h₀ env.locals s₁.heap m₁ → News h₀ env.locals s₁.heap nx → Q .next s₁) :
    wpAny (model prog w) A (pyIter (.ref l)) (ForAt prog w A h₀ env x body Q) (fun _ _ => False) s := by
  have gl := (N _ hl).1
  have hlt : l < s.heap.objs.size := Heap.lt_size gl
  have hls : s.heap.IsList l vs.toArray := ⟨_, gl, rfl, _, rfl⟩
  have hLlt := F.ns.lt
  refine wpAny_pyIter_list hls ?_
  refine ⟨s.heap.objs.size, [s.heap.objs.size, l], vs.toArray.size, fun i v => vs.toArray[i]? = some v, fun i h => h.IsListIter s.heap.objs.size l i ∧ h.IsList l vs.toArray, fun nw => (l, listOf vs.toArray k) ∈ nw, R0, J, m, nx, _, rfl,
    Walks.list hh s.heap.objs.size l (Nat.ne_of_lt hlt) vs.toArray, ?_, next_is_new F, fun i h st => let ⟨o, e, _⟩ := st.1; ⟨o, e⟩, ?_, hR0, ⟨⟨_, Heap.get?_push_size _ rfl, rfl, rfl⟩, hls.push _⟩, Heap.get?_push_size _ rfl, ?_, F.push _, N.grown fun b o e => Heap.get?_push_of_some _ e, fun p hp => Nat.ne_of_lt (Heap.lt_size (N p hp).1), hJl, hJ, ?_, ?_⟩
  · intro hm
    rcases List.mem_cons.mp hm with e | hm
    · exact absurd hLlt (by rw [e]; exact Nat.lt_irrefl _)
    · exact (N _ hl).2.1 (List.mem_singleton.mp hm).symm
  · intro i h h' o nw st e e' k N S
    exact ⟨by obtain ⟨o', q, r⟩ := st.1; rw [e] at q; cases q; exact ⟨o, e', r⟩, ⟨_, (N _ S).1, rfl, _, rfl⟩⟩
  · exact hR0 s _ s.toks r0
  · intro i v m₁ nx s₁ oI r hi hP
    exact turn _ i v m₁ nx s₁ oI r (by simpa using hi) (by simpa using hP)
  · intro m₁ nx s₁ r hj
    exact done m₁ nx s₁ r (by simpa using hj)
/-- over a tuple of the ledger -/
theorem for_tuple {l : Addr} {vs : List Value} {k : Nat} {m : Str → Option Value} {nx : List (Addr × Obj)} (R0 : Shared → Prop) (J : Nat → (Str → Option Value) → List (Addr × Obj) → Prop)
    (hh : A.handled = none) (F : Fr h₀ env.locals s.heap m) (N : News h₀ env.locals s.heap nx) (hl : (l, tup vs k) ∈ nx) (r0 : R0 s) (hR0 : ∀ s h tk, R0 s → R0 { s with heap := h, toks := tk })
    (hJl : ∀ i m nx, J i m nx → (l, tup vs k) ∈ nx) (hJ : J 0 m nx)
    (turn : ∀ I i v m₁ nx s₁ oI, R0 s₁ → i < vs.length → vs[i]? = some v → J i m₁ nx → (∀ p ∈ nx, p.1 ≠ I) → Fr h₀ env.locals s₁.heap (fun y => if y = x then some v else m₁ y) → News h₀ env.locals s₁.heap ((I, oI) :: nx) →
      wpAny (model prog w) A (execs body env) (ForPost h₀ env.locals I oI R0 (J (i + 1)) Q) (fun _ _ => False) s₁)
    (done : ∀ m₁ nx s₁, R0 s₁ → J vs.length m₁ nx → Fr h₀ env.locals s₁.heap m₁ → News h₀ env.locals s₁.heap nx → Q .next s₁) :
    wpAny (model prog w) A (pyIter (.ref l)) (ForAt prog w A h₀ env x body Q) (fun _ _ => False) s := by
  have gl := (N _ hl).1
  have hlt : l < s.heap.objs.size := Heap.lt_size gl
  have hls : s.heap.IsTuple l vs.toArray := ⟨_, gl, rfl, _, rfl⟩
  have hLlt := F.ns.lt
  refine wpAny_pyIter_tuple hls ?_
  refine ⟨s.heap.objs.size, [s.heap.objs.size, l], vs.toArray.size, fun i v => vs.toArray[i]? = some v, fun i h => h.IsTupleIter s.heap.objs.size l i ∧ h.IsTuple l vs.toArray, fun nw => (l, tup vs k) ∈ nw, R0, J, m, nx, _, rfl,
    Walks.tuple hh s.heap.objs.size l (Nat.ne_of_lt hlt) vs.toArray, ?_, next_is_new F, fun i h st => let ⟨o, e, _⟩ := st.1; ⟨o, e⟩, ?_, hR0, ⟨⟨_, Heap.get?_push_size _ rfl, rfl, rfl⟩, hls.push _⟩, Heap.get?_push_size _ rfl, ?_, F.push _, N.grown fun b o e => Heap.get?_push_of_some _ e, fun p hp => Nat.ne_of_lt (Heap.lt_size (N p hp).1), hJl, hJ, ?_, ?_⟩
  · intro hm
    rcases List.mem_cons.mp hm with e | hm
    · exact absurd hLlt (by rw [e]; exact Nat.lt_irrefl _)
    · exact (N _ hl).2.1 (List.mem_singleton.mp hm).symm
  · intro i h h' o nw st e e' k N S
    exact ⟨by obtain ⟨o', q, r⟩ := st.1; rw [e] at q; cases q; exact ⟨o, e', r⟩, ⟨_, (N _ S).1, rfl, _, rfl⟩⟩
  · exact hR0 s _ s.toks r0
  · intro i v m₁ nx s₁ oI r hi hP
    exact turn _ i v m₁ nx s₁ oI r (by simpa using hi) (by simpa using hP)
  · intro m₁ nx s₁ r hj
    exact done m₁ nx s₁ r (by simpa using hj)
end
end
section
open PyProof.Rows.LCg
/-- the def un_chomsky_normal_form, as the text has it -/
def uncDef : Stmt := (PySem.Challenge.pw_ao0012_01.main.body.filter fun st => match st with | .FunctionDef n .. => n == (Str.ofString "un_chomsky_normal_form") | _ => false).headD (.Pass default)
def bodyOf : Stmt → List Stmt
  | .FunctionDef _ _ b _ _ _ _ _ _ _ => b
  | .While _ b _ _ => b
  | .If _ b _ _ => b
  | _ => []
def testOf : Stmt → Expr
  | .While t _ _ _ => t
  | .If t _ _ _ => t
  | _ => .Constant .none 0 default
def scopeOf : Stmt → Scope
  | .FunctionDef _ _ _ _ _ _ sc _ _ _ => sc
  | _ => default
def uncScope : Scope := scopeOf uncDef
def uncWhile : Stmt := (bodyOf uncDef).getD 1 (.Pass default)
abbrev uncEnv (L : Addr) : Env := envOfC (Str.ofString "un_chomsky_normal_form") uncScope L 162 (.ref 161)
theorem fr_know {h₀ h : Heap} {L : Addr} {m : Str → Option Value} {x : Str} {v : Value} (F : Fr h₀ L h m) (e : m x = some v) : Fr h₀ L h (fun y => if y = x then some v else m y) := by
  have : (fun y => if y = x then some v else m y) = m := by funext y; split <;> simp_all
  rw [this]; exact F
theorem fr_know4 {h₀ h : Heap} {L : Addr} {m : Str → Option Value} {x1 x2 x3 x4 : Str} {v1 v2 v3 v4 : Value} (F : Fr h₀ L h m) (e1 : m x1 = some v1) (e2 : m x2 = some v2) (e3 : m x3 = some v3) (e4 : m x4 = some v4) :
    Fr h₀ L h (fun y => if y = x1 then some v1 else if y = x2 then some v2 else if y = x3 then some v3 else if y = x4 then some v4 else m y) := by
  have : (fun y => if y = x1 then some v1 else if y = x2 then some v2 else if y = x3 then some v3 else if y = x4 then some v4 else m y) = m := by funext y; (repeat' split) <;> simp_all
  rw [this]; exact F
end
section
open PyProof.Rows.LCg
/-- a node of the program's, as the heap has it -/
structure NodeAt (h : Heap) (x dx l : Addr) (lab : Str) : Prop where
  at_ : h.get? x = some (instObj 145 dx)
  dict : ∃ h1 h2 t1 t2 tk n, h.get? dx = some (dictOf [⟨h1, .str (Str.ofString "_children") t1, .ref l⟩, ⟨h2, .str (Str.ofString "_label") t2, .str lab tk⟩] n)

theorem code_any {prog : Program} {w : World} {A : Around} {s : Shared} {K : Frag} {R : Result → Shared → Prop} {name qual : Str} {params : Arguments} {body : List Stmt} {scope : Scope} {dV kV doc pm cdv ct oc : Value} {an od : Option Addr} {osl : Array (Option Value)} {f : Addr} {args : Args} {binds : List (Str × Value)}
    (X : K.In s.heap) (hlim : s.heap.NoLimit) (ho : K.lookup f = some ⟨oc, od, .func (fnOf name qual params body scope dV kV doc pm an cdv ct), osl⟩) (hcd : codeIn K cdv qual = true) (hroom : A.depth < recursionLimit)
    (hbind : BindsTo s (fnOf name qual params body scope dV kV doc pm an cdv ct) args binds) (hloc : ∀ y ∈ binds, scope.names.lookup y.1 = some .local)
    (h : ∀ h₁, Fr s.heap s.heap.objs.size h₁ (fun y => binds.reverse.lookup y) →
      wpAny (model prog w) (A.deeper (envOf qual scope s.heap.objs.size f cdv)) (execs body (envOf qual scope s.heap.objs.size f cdv))
        (fun fl s' => R (.ok (.ret (match fl with | .ret v => v | _ => .none))) s') (fun _ _ => False) { s with heap := h₁, toks := s.toks + binds.length })
    (hco : scope.isCoroutine = false) (hgen : scope.isGenerator = false) (hk : scope.kind = .function)
    (hcell : ∀ x ∈ scope.names, x.2 ≠ .cell) : codeAny (model prog w) A (.call (.ref f) args) R s :=
  codeAny_call_def (fd := fnOf name qual params body scope dV kV doc pm an cdv ct) (body := body) (binds := binds) hroom (X _ _ ho) rfl hlim (codeRec_of X hcd) rfl hbind hcell hloc
    (fun h₁ hns hk₁ => wpAny_mono (h h₁ ⟨hns, hk₁, Nat.le_refl _⟩) (fun _ _ q => q) fun _ _ q => q.elim) hco hgen hk
section
local macro_rules | `(tactic| k_inst) => `(tactic| assumption)
set_option maxRecDepth 100000 in
set_option maxHeartbeats 8000000 in
theorem label_any : ∀ {w : World} {A : Around} {E Q : Value → Shared → Prop} {s : Shared} {x dx l : Addr} {lab : Str} {kw : List (Str × Value)},
    kw = [] → A.depth < recursionLimit → (hd.heap_39 w.params).In s.heap → s.heap.NoLimit → NodeAt s.heap x dx l lab → (∀ h' tk t, s.heap.StaysIn h' → Q (.str lab t) { s with heap := h', toks := tk }) →
    wpAny (model PySem.Challenge.rw_ao0012_01.row.prog w) A (call (.ref 71) [.ref x] kw) Q E s := by
  k_fill
  intro w A E Q s x dx l lab kw hkw hroom X hlim hN hQ
  subst hkw
  obtain ⟨hx, h1, h2, t1, t2, tk, n, hdx⟩ := hN
  refine wpAny_call ?_
  k_dflt (refine' code_any ?k1 ?k2 ?k6 ?k7 ?k8 ?k9 ?kB ?_ ?c2 ?c3 ?c4 ?c5; (case k1 => exact X); (case k2 => exact hlim); (case k6 => k_is); (case k7 => k_is); (case k8 => exact hroom); (case k9 => exact BindsTo.of_eq rfl); (case c5 => decide); (case kB => exact locs rfl); (case c2 => exact rfl); (case c3 => exact rfl); (case c4 => exact rfl); k_whole)
  intro h₁ F
  have hk₁ := F.keep
  have I : PySem.W.InstAt h₁ x (instObj 145 dx) 145 (some (dictOf [⟨h1, .str (Str.ofString "_children") t1, .ref l⟩, ⟨h2, .str (Str.ofString "_label") t2, .str lab tk⟩] n)) := ⟨hk₁ _ _ hx, rfl, rfl, hk₁ _ _ hdx⟩
  k_steps
  exact hQ _ _ _ hk₁
end
/-- the body of the if within the while -/
def uncIn : List Stmt := bodyOf ((bodyOf uncWhile).getD 1 (.Pass default))
def uncAny : Stmt := uncIn.getD 0 (.Pass default)
def argOf : Expr → Expr
  | .Call _ as _ _ => as.headD (.Constant .none 0 default)
  | e => e
def uncGen : Expr := argOf (testOf uncAny)
def eltOf : Expr → Expr
  | .GeneratorExp e _ _ _ => e
  | e => e
def gensOf : Expr → List Comprehension
  | .GeneratorExp _ g _ _ => g
  | _ => []
def scOf : Expr → Scope
  | .GeneratorExp _ _ s _ => s
  | _ => default
def posOf : Expr → Pos
  | .GeneratorExp _ _ _ p => p
  | _ => default
section
variable {M : Model} {A : Around} {E : Value → Shared → Prop} {s : Shared} {K : Frag} {h₀ : Heap} {L C : Addr} {m mg mb : Str → Option Value} {news : List (Addr × Obj)} {scope : Scope} {cl : List (Str × Addr)} {env : Env} {code : Value} {p : Program} {loose : List Str} {mean : ExcName → Option Value} {x : Str} {pos : Pos} {v : Value} {Q : Value → Shared → Prop} {c : Addr} {o : Obj}
theorem gn_local (F : Fr h₀ C s.heap m) (hv : m x = some v) (h : Q v s)
    (hk : scope.kind = .function := by rfl) (hx : (genEnv scope cl C code builtinsNs env).kindOf x = some .local := by rfl) (hd : (x == ("__debug__" : Str)) = false := by decide) :
    wpAny M A (eval (.Name x pos) (genEnv scope cl C code builtinsNs env)) Q E s := wpAny_Name (wpAny_loadName_local hk hx F.ns hv h) hd
theorem gn_global (F : Fr h₀ C s.heap m) (X : K.In h₀) (T : Top p loose mean mg mb h₀) (e : nsIn K mainGlobals x = some (some v)) (h : Q v s) (hg : env.globals = mainGlobals := by rfl)
    (hk : scope.kind = .function := by rfl) (hx : (genEnv scope cl C code builtinsNs env).kindOf x = some .globalImplicit := by rfl) (hd : (x == ("__debug__" : Str)) = false := by decide) :
    wpAny M A (eval (.Name x pos) (genEnv scope cl C code builtinsNs env)) Q E s :=
  Name_function_global hk hx (loadGlobal_global (env := genEnv scope cl C code builtinsNs env) (show s.heap.Ns env.globals mg from hg ▸ (T.keeps F.keep).g) (mg_of X T.g e) h) hd
theorem gn_built (F : Fr h₀ C s.heap m) (X : K.In h₀) (T : Top p loose mean mg mb h₀) (e : nsIn K mainGlobals x = some none) (hv : bootBuiltins x = some v) (hn : x ≠ "__name__") (h : Q v s) (hg : env.globals = mainGlobals := by rfl)
    (hk : scope.kind = .function := by rfl) (hx : (genEnv scope cl C code builtinsNs env).kindOf x = some .globalImplicit := by rfl) (hd : (x == ("__debug__" : Str)) = false := by decide) :
    wpAny M A (eval (.Name x pos) (genEnv scope cl C code builtinsNs env)) Q E s :=
  Name_function_global hk hx (loadGlobal_builtin (env := genEnv scope cl C code builtinsNs env) (show s.heap.Ns env.globals mg from hg ▸ (T.keeps F.keep).g) (mg_none_of X T.g e) ((T.keeps F.keep).b) ((T.builtins x hn).trans hv) h) hd
theorem gn_free (N : News h₀ C s.heap news) (hc : cl.lookup x = some c) (hm : (c, o) ∈ news) (hdt : o.data = .cell (some v)) (h : Q v s)
    (hk : scope.kind = .function := by rfl) (hx : (genEnv scope cl C code builtinsNs env).kindOf x = some .free := by rfl) (hb : (x == ("__debug__" : Str)) = false := by decide) (hn : (x == ("__classdict__" : Str)) = false := by decide) :
    wpAny M A (eval (.Name x pos) (genEnv scope cl C code builtinsNs env)) Q E s := wpAny_Name (wpAny_loadName_free hk hx hc ⟨o, N.get hm, hdt⟩ h hn) hb
end
section
local macro_rules | `(tactic| walk_at "eval Name") => `(tactic| (k_here; k_dflt (first
  | (refine' gn_local ?F ?v ?_ ?a ?b; (case F => k_asm); (case a => rfl); (case b => rfl); (case v => assumption); k_whole)
  | (refine' gn_free ?N ?c ?m ?d ?_ ?a ?b; (case a => rfl); (case b => rfl); (case N => k_asm); (case c => rfl); (case m => k_mem); (case d => k_asm); k_whole)
  | (refine' gn_global ?F ?X ?T ?e ?_ ?g ?a ?b; (case F => k_asm); (case X => k_asm); (case T => k_asm); (case g => rfl); (case a => rfl); (case b => rfl); (case e => k_is); k_whole)
  | (refine' gn_built ?F ?X ?T ?e ?v ?n ?_ ?g ?a ?b; (case F => k_asm); (case X => k_asm); (case T => k_asm); (case g => rfl); (case a => rfl); (case b => rfl); (case e => k_is); (case v => boot_fast); (case n => decide); k_whole))))
local macro_rules | `(tactic| walk_at "call ref") => `(tactic| (k_here; (with_reducible show wpAny _ _ (call (Value.ref 71) _ _) _ _ _); refine held ?_))
set_option maxRecDepth 100000 in
set_option maxHeartbeats 8000000 in
theorem elt_node : ∀ {w : World} {mean : ExcName → Option Value} {mg mb : Str → Option Value} {A : Around} {g : Heap} {L C : Addr} {code : Value} {E : Value → Shared → Prop} {s : Shared} {m : Str → Option Value} {news : List (Addr × Obj)} {x dx l : Addr} {h1 h2 : Int} {t1 t2 tk : Tok} {n : Nat} {lab c1 : Str} {tc : Tok} {oc : Obj},
    A.depth < recursionLimit → Fr g C s.heap m → (hd.heap_39 w.params).In g → Top topProg LV mean mg mb g → News g C s.heap news → m (Str.ofString "child") = some (.ref x) →
    (x, instObj 145 dx) ∈ news → (dx, dictOf [⟨h1, .str (Str.ofString "_children") t1, .ref l⟩, ⟨h2, .str (Str.ofString "_label") t2, .str lab tk⟩] n) ∈ news → (L + 1, oc) ∈ news → oc.data = .cell (some (.str c1 tc)) →
    wpAny (model PySem.Challenge.rw_ao0012_01.row.prog w) A (eval (eltOf uncGen) (genEnv (scOf uncGen) [(Str.ofString "childChar", L + 1)] C code builtinsNs (uncEnv L))) (fun y s₃ => y = .bool (Txt.find lab c1 != -1) ∧ Keeps s s₃) E s := by
  k_fill
  intro w mean mg mb A g L C code E s m news x dx l h1 h2 t1 t2 tk n lab c1 tc oc hroom F X T N hm mx md mc hoc
  generalize hT : eltOf uncGen = tT
  (with_unfolding_all conv at hT => lhs; whnf)
  subst hT
  k_steps
  have Ns : s.heap.NoLimit := T.nolimit.keeps F.keep
  refine label_any rfl hroom (X.keeps F.keep) Ns ⟨(N _ mx).1, _, _, _, _, _, _, (N _ md).1⟩ fun h' tk' t hst => ?_
  have F9 : Fr g C h' m := F.keeps hst
  have N9 : News g C h' news := fun p hp => ⟨hst _ _ (N p hp).1, (N p hp).2⟩
  clear F N
  k_steps
  exact ⟨_, _, rfl, hst⟩
set_option maxRecDepth 100000 in
set_option maxHeartbeats 8000000 in
theorem elt_leaf : ∀ {w : World} {mean : ExcName → Option Value} {mg mb : Str → Option Value} {A : Around} {g : Heap} {L C : Addr} {code : Value} {E : Value → Shared → Prop} {s : Shared} {m : Str → Option Value} {lab : Str} {tc : Tok},
    Fr g C s.heap m → (hd.heap_39 w.params).In g → Top topProg LV mean mg mb g → m (Str.ofString "child") = some (.str lab tc) →
    wpAny (model PySem.Challenge.rw_ao0012_01.row.prog w) A (eval (eltOf uncGen) (genEnv (scOf uncGen) [(Str.ofString "childChar", L + 1)] C code builtinsNs (uncEnv L))) (fun y s₃ => y = .bool false ∧ Keeps s s₃) E s := by
  k_fill
  intro w mean mg mb A g L C code E s m lab tc F X T hm
  generalize hT : eltOf uncGen = tT
  (with_unfolding_all conv at hT => lhs; whnf)
  subst hT
  k_steps
  exact ⟨_, _, rfl, fun _ _ e => e⟩
end
end
section
open PyProof.Rows.LCg
set_option maxRecDepth 100000
def TabOk (pos : Pos) (ps : Array Value) : Prop := ps = #[] ∨ ∃ c', ps = #[rawInt pos.line, rawInt pos.col, Value.ref c']
theorem passing_all (n : Nat) : passing (fun _ => true) n 0 = List.range n := by simp [passing]

def GenSrc (prog : Program) (w : World) (A : Around) (g : Heap) (L P : Addr) (m : Str → Option Value) (env : Env) (elt : Expr) (x : Str) (scope : Scope) (cl : List (Str × Addr)) (pos : Pos) (Q : Value → Shared → Prop) (xv : Value) (s₁ : Shared) : Prop :=
  ∃ (l : Addr) (vs : Array Value) (n : Nat) (nw : List (Addr × Obj)) (ps : Array Value) (q : Nat → Bool), xv = .ref l ∧ Fr g L s₁.heap m ∧ News g L s₁.heap ((P, tabObj ps) :: nw) ∧ (∀ p ∈ nw, p.1 ≠ P) ∧ (l, listOf vs n) ∈ nw ∧ TabOk pos ps ∧ AllBare s₁.gens ∧
    (∀ (C : Addr) (code : Value) (A' : Around) (E' : Value → Shared → Prop) i v (t : Shared) (m₂ : Str → Option Value), A'.handled = none → A'.depth ≤ A.depth + 1 → vs[i]? = some v → Fr g C t.heap m₂ → m₂ x = some v → News g C t.heap nw →
      wpAny (model prog w) A' (eval elt (genEnv scope cl C code builtinsNs env)) (fun y s₃ => y = .bool (q i) ∧ Keeps t s₃) E' t) ∧
    (∀ (a : Addr) (s₅ : Shared) (ps' : Array Value) (K : Addr), L ≤ K → Fr g L s₅.heap m → News g L s₅.heap ((P, tabObj ps') :: nw) → TabOk pos ps' → AllBare s₅.gens → s₅.os = s₁.os → (∀ p ∈ (P, tabObj ps') :: nw, p.1 ≤ K) →
      Gen prog w A K a (passing (fun _ => true) vs.size 0).length (fun j y => ∃ i, (passing (fun _ => true) vs.size 0)[j]? = some i ∧ y = .bool (q i)) s₅ → Q (.ref a) s₅)

theorem genexp_L {prog : Program} {w : World} {A : Around} {E : Value → Shared → Prop} {s : Shared} {g : Heap} {L P c : Addr} {m mg mb : Str → Option Value} {p : Program} {loose : List Str} {mean : ExcName → Option Value} {env : Env} {elt iter : Expr} {x : Str} {px : Pos} {scope : Scope} {cl : List (Str × Addr)} {pos : Pos} {Q : Value → Shared → Prop}
    (_F : Fr g L s.heap m) (T : Top p loose mean mg mb g) (CH : CodeHd g c P) (hcode : env.code = .ref c) (hgl : env.globals = mainGlobals)
    (hh : A.handled = none) (hco : scope.isCoroutine = false) (hclos : closureFor scope env = pure cl) (hcell : ∀ y ∈ scope.names, y.2 ≠ .cell) (h0 : scope.names.lookup (".0" : Str) = some NameKind.local)
    (hx : scope.names.lookup x = some .local) (hkind : scope.kind = .function) (hroom : A.depth < recursionLimit)
    (h : wpAny (model prog w) A (eval iter env) (GenSrc prog w A g L P m env elt x scope cl pos Q) E s)
    (hs : ∀ x, genFold iter env x = pure x) :
    wpAny (model prog w) A (eval (.GeneratorExp elt [⟨.Name x px, iter, [], 0⟩] scope pos) env) Q E s := by
  refine wpAny_GeneratorExp_walksQD hh hco hclos hcell h0 hx hkind hroom (wpAny_mono h (fun xv s₁ h₁ => ?_) fun _ _ e => e) hs
  obtain ⟨l, vs, n, nw, ps, q, rfl, F₁, N₁, hP, hl, htab, G₁, helt, hQ⟩ := h₁
  have NP := N₁ (P, tabObj ps) (.head _)
  have Nl := N₁ _ (.tail _ hl)
  have hl₁ : s₁.heap.IsList l vs := ⟨_, Nl.1, rfl, _, rfl⟩
  have hlt : l < s₁.heap.objs.size := Heap.lt_size Nl.1
  have lim₁ : s₁.heap.NoLimit := T.nolimit.keeps F₁.keep
  have hLlt := F₁.ns.lt
  have hPlt : P < s₁.heap.objs.size := Heap.lt_size NP.1
  have hIP : s₁.heap.objs.size ≠ P := Nat.ne_of_gt hPlt
  refine wpAny_pyIter_list hl₁ ⟨lim₁.push _, ?_⟩
  have fin : ∀ (cv : Value) (h₃ : Heap) (tk₃ : Nat) (ps' : Array Value), Heap.ExtBut P (s₁.heap.push { cls := .type "list_iterator", data := .fields #[.ref l, .int 0 0] }) h₃ → s₁.heap.objs.size + 1 ≤ h₃.objs.size → h₃.get? P = some (tabObj ps') → TabOk pos ps' →
      wpAny (model prog w) A (builtinsFor env.globals env.builtins) (fun bi s₄ =>
        ∃ I fp wr n₀ P St₀ pz F, Value.ref s₁.heap.objs.size = .ref I ∧ (∀ A' : Around, A'.handled = none → Walks prog w A' I fp wr n₀ P St₀) ∧ St₀ 0 s₄.heap ∧ (∀ b ∈ fp, b < s₄.heap.objs.size) ∧ s₄.heap.NoLimit ∧ cStatics ∉ wr ∧
          (∀ href : Heap, (∀ b o, s₄.heap.get? b = some o → href.get? b = some o) →
            QuietGenD prog w (genEnv scope cl s₄.heap.objs.size cv bi env) x [] elt (List.range s₄.heap.objs.size) wr P pz F href (A.depth + 1) (A.units + 8)) ∧
          (∀ a h₅ tk gs, gs.bare = true → s₄.heap.objs.size < a → h₅.objs.size = a + 1 → (∀ b o, s₄.heap.get? b = some o → h₅.get? b = some o) →
            WalksS prog w A.in4 a (a :: s₄.heap.objs.size :: List.range s₄.heap.objs.size) (s₄.heap.objs.size :: wr) (GenOnlyQ s₄.gens.size) (passing pz n₀ 0).length
              (fun j y => ∃ i, (passing pz n₀ 0)[j]? = some i ∧ F i y) (GenAt prog w A.in4 a s₄.gens.size s₄.heap.objs.size (List.range s₄.heap.objs.size) wr pz n₀ F) →
            GenAt prog w A.in4 a s₄.gens.size s₄.heap.objs.size (List.range s₄.heap.objs.size) wr pz n₀ F 0 { s₄ with gens := s₄.gens.push gs, toks := tk, heap := h₅ } →
            Q (.ref a) { s₄ with gens := s₄.gens.push gs, toks := tk, heap := h₅ })) E { s₁ with heap := h₃, toks := tk₃ } := by
    intro cv h₃ tk₃ ps' hx₃ hge hPn htab'
    have up : ∀ b o, b ≠ P → s₁.heap.get? b = some o → h₃.get? b = some o := fun b o hb e => hx₃ b o hb (Heap.get?_push_of_some _ e)
    have kp₃ : ∀ b o, g.get? b = some o → h₃.get? b = some o := fun b o e => up b o (fun z => by rw [z, NP.2.2] at e; cases e) (F₁.keep b o e)
    have F₃ : Fr g L h₃ m := ⟨F₁.ns.at' fun o e => up _ _ NP.2.1.symm e, kp₃, F₁.above⟩
    have N₃ : News g L h₃ ((P, tabObj ps') :: nw) := fun pq hp => by
      rcases List.mem_cons.mp hp with rfl | hp
      · exact ⟨hPn, NP.2⟩
      · exact ⟨up _ _ (hP pq hp) (N₁ pq (.tail _ hp)).1, (N₁ pq (.tail _ hp)).2⟩
    have lim₃ : h₃.NoLimit := T.nolimit.keeps kp₃
    obtain ⟨bm, ob, b1, b2, b3, b4, b5, b6⟩ := T.bmain
    have hI0 : g.get? s₁.heap.objs.size = none := next_is_new F₁
    have hIh : h₃.get? s₁.heap.objs.size = some { cls := .type "list_iterator", data := .fields #[.ref l, .int 0 0] } := hx₃ _ _ hIP (Heap.get?_push_size _ rfl)
    have hIlt : s₁.heap.objs.size < h₃.objs.size := by omega
    refine wpAny_builtinsFor (m := mg) (by rw [hgl]; exact T.g.keeps kp₃) b1 b2 (kp₃ _ _ b3) b4 b5 b6 ?_
    refine ⟨s₁.heap.objs.size, [s₁.heap.objs.size, l], [s₁.heap.objs.size], vs.size, fun i v => vs[i]? = some v, fun i h => h.IsListIter s₁.heap.objs.size l i ∧ h.IsList l vs, fun _ => true, fun i y => y = .bool (q i), rfl,
      fun A' hA => Walks.list hA _ _ (Nat.ne_of_lt hlt) vs, ⟨⟨_, hIh, rfl, rfl⟩, ⟨_, up _ _ (hP _ hl) Nl.1, rfl, _, rfl⟩⟩, ?_, lim₃, ?_, ?_, ?_⟩
    · intro b hb
      show b < h₃.objs.size
      rcases List.mem_cons.mp hb with rfl | hb
      · exact hIlt
      · rw [List.mem_singleton.mp hb]; exact Nat.lt_trans hlt hIlt
    · intro hm
      obtain ⟨_, hn, _⟩ := lim₁
      have := hn.lt
      rw [List.mem_singleton.mp hm] at this
      exact Nat.lt_irrefl _ this
    · intro href hhref
      have kp : ∀ (t : Shared), (∀ b ∈ List.range h₃.objs.size, b ∉ [s₁.heap.objs.size] → ∀ o, href.get? b = some o → t.heap.get? b = some o) → ∀ b o, b ≠ s₁.heap.objs.size → h₃.get? b = some o → t.heap.get? b = some o :=
        fun t hk b o hb e => hk b (List.mem_range.mpr (Heap.lt_size e)) (by simpa using hb) o (hhref b o e)
      constructor
      · intro A' E' i v t m₂ _ _ _ _ _ _ _
        exact wpAny_pure ⟨rfl, t.heap, t.toks, rfl, fun _ _ e => e⟩
      · intro A' E' i v t m₂ hA hD _ hPi _ hn hm hk
        refine helt h₃.objs.size cv A' E' i v t m₂ hA hD hPi ⟨hn, fun b o e => kp t hk b o (fun z => by rw [z, hI0] at e; cases e) (kp₃ b o e), Nat.le_trans F₁.above (Nat.le_of_lt (Nat.lt_trans hLlt hIlt))⟩ hm ?_
        intro pq hp
        have z := N₁ pq (.tail _ hp)
        have zl := Heap.lt_size z.1
        exact ⟨kp t hk _ _ (Nat.ne_of_lt zl) (up _ _ (hP pq hp) z.1), Nat.ne_of_lt (Nat.lt_trans zl hIlt), z.2.2⟩
    · intro a h₅ tk gs hgb hag hsz₅ hk₅ W hat
      have hsz : 0 < s₁.heap.objs.size := Nat.lt_of_le_of_lt (Nat.zero_le _) hLlt
      refine hQ a _ ps' (s₁.heap.objs.size - 1) (Nat.le_sub_one_of_lt hLlt) (F₃.keeps hk₅) (N₃.grown hk₅) htab' (G₁.push hgb) rfl ?_ ⟨_, _, _, _, W, hat, (fun i s' st => st.1.typeIs), List.mem_cons_self, ?_, ?_⟩
      · intro pq hp
        rcases List.mem_cons.mp hp with rfl | hp
        · exact Nat.le_sub_one_of_lt hPlt
        · exact Nat.le_sub_one_of_lt (Heap.lt_size (N₁ pq (.tail _ hp)).1)
      · intro b hb
        show b < h₅.objs.size
        rw [hsz₅]
        rcases List.mem_cons.mp hb with rfl | hb
        · exact Nat.lt_succ_self _
        · rcases List.mem_cons.mp hb with rfl | hb
          · exact Nat.lt_succ_of_lt hag
          · exact Nat.lt_succ_of_lt (Nat.lt_trans (List.mem_range.mp hb) hag)
      · intro b hb
        rcases List.mem_cons.mp hb with rfl | hb
        · show s₁.heap.objs.size - 1 < h₃.objs.size
          omega
        · rw [List.mem_singleton.mp hb]; exact Nat.sub_one_lt (Nat.ne_of_gt hsz)
  have CH₂ : CodeHd (s₁.heap.push { cls := .type "list_iterator", data := .fields #[.ref l, .int 0 0] }) c P := (CH.keeps F₁.keep).keeps fun b o e => Heap.get?_push_of_some _ e
  have hP₂ : (s₁.heap.push { cls := .type "list_iterator", data := .fields #[.ref l, .int 0 0] }).get? P = some (tabObj ps) := Heap.get?_push_of_some _ NP.1
  rcases htab with rfl | ⟨c₀, rfl⟩
  · refine wpAny_genexprCodeX hcode (CH₂.code hP₂ (by first | trivial | exact .nil | simp [TriplesOk])) (CH₂.tab hP₂) rfl fun c' h₃ tk₃ hx₃ hge hlt _ _ htab₃ _ => ?_
    exact fin _ h₃ tk₃ _ hx₃ (by have := hge; rw [Heap.size_push] at this; omega) htab₃.2 (.inr ⟨c', by simp⟩)
  · refine wpAny_genexprCode_hit (c' := .ref c₀) hcode (CH₂.code hP₂ (by simp [TriplesOk, rawInt])) (by simp [codeAmong, rawInt]) ?_
    exact fin _ _ _ _ (fun b o _ e => e) (by rw [Heap.size_push]; exact Nat.le_refl _) hP₂ (.inr ⟨c₀, rfl⟩)

theorem any_L {prog : Program} {w : World} {A : Around} {E : Value → Shared → Prop} {s : Shared} {g : Heap} {L a K : Addr} {m : Str → Option Value} {n : Nat} {q : Nat → Bool} {nw : List (Addr × Obj)} {Q : Value → Shared → Prop}
    (F : Fr g L s.heap m) (N : News g L s.heap nw) (G : AllBare s.gens) (X : Gen prog w A K a (passing (fun _ => true) n 0).length (fun j y => ∃ i, (passing (fun _ => true) n 0)[j]? = some i ∧ y = .bool (q i)) s) (hLK : L ≤ K) (hK : ∀ p ∈ nw, p.1 ≤ K)
    (h : ∀ s', Fr g L s'.heap m → News g L s'.heap nw → AllBare s'.gens → s'.os = s.os → Q (.bool ((List.range n).any q)) s') : wpAny (model prog w) A (call (.builtin "any") [.ref a]) Q E s := by
  rw [passing_all] at X
  refine any_rowsK F G X hLK q (fun j v t Q' E' hv hq => ?_) fun s' F' G' hos hk => ?_
  · obtain ⟨i, hi, rfl⟩ := hv
    have : i = j := by
      rw [List.getElem?_eq_some_iff] at hi
      obtain ⟨_, e⟩ := hi
      simpa using e.symm
    subst this
    exact wpAny_truthy_bool hq
  · rw [List.length_range]
    exact h s' F' (fun pq hp => ⟨hk _ _ (hK pq hp) (N pq hp).1, (N pq hp).2⟩) G' hos
end
section
/-- the sign stands in the label -/
def hasC (lab c : Str) : Bool := Txt.find lab c != -1
def Fo.kept (c : Str) : Fo → Fo
  | .nil => .nil
  | .leaf s r => .leaf s (r.kept c)
  | .node lab k r => if hasC lab c then (k.kept c).app (r.kept c) else .node lab k (r.kept c)
def AT.kept (c : Str) : AT → AT
  | .nil => .nil
  | .leaf s tk r => .leaf s tk (r.kept c)
  | .node p lab k r => if hasC lab c then (k.kept c).app (r.kept c) else .node p lab k (r.kept c)
def AT.flags (c : Str) : AT → List Bool
  | .nil => []
  | .leaf _ _ r => false :: r.flags c
  | .node _ lab _ r => hasC lab c :: r.flags c
def AT.count : AT → Nat
  | .nil => 0
  | .leaf _ _ r => r.count + 1
  | .node _ _ k r => k.count + r.count + 1
theorem AT.app_assoc : ∀ a b c : AT, (a.app b).app c = a.app (b.app c)
  | .nil, _, _ => rfl
  | .leaf _ _ r, b, c => by simp only [AT.app, r.app_assoc]
  | .node _ _ _ r, b, c => by simp only [AT.app, r.app_assoc]
theorem AT.app_nil : ∀ a : AT, a.app .nil = a
  | .nil => rfl
  | .leaf _ _ r => by simp only [AT.app, r.app_nil]
  | .node _ _ _ r => by simp only [AT.app, r.app_nil]
theorem AT.count_app : ∀ a b : AT, (a.app b).count = a.count + b.count
  | .nil, _ => by simp [AT.app, AT.count]
  | .leaf _ _ r, b => by simp only [AT.app, AT.count, r.count_app]; omega
  | .node _ _ _ r, b => by simp only [AT.app, AT.count, r.count_app]; omega
theorem AT.count_fo : ∀ a : AT, a.fo.count = a.count
  | .nil => rfl
  | .leaf _ _ r => by simp only [AT.fo, AT.count, Fo.count, r.count_fo]
  | .node _ _ k r => by simp only [AT.fo, AT.count, Fo.count, r.count_fo, k.count_fo]
theorem AT.kept_app (c : Str) : ∀ a b : AT, (a.app b).kept c = (a.kept c).app (b.kept c)
  | .nil, _ => rfl
  | .leaf _ _ r, b => by simp only [AT.app, AT.kept, r.kept_app]
  | .node p lab k r, b => by
    simp only [AT.app, AT.kept, r.kept_app]
    split
    · rw [AT.app_assoc]
    · rfl
theorem AT.kept_fo (c : Str) : ∀ a : AT, (a.kept c).fo = a.fo.kept c
  | .nil => rfl
  | .leaf _ _ r => by simp only [AT.kept, AT.fo, Fo.kept, r.kept_fo]
  | .node p lab k r => by
    simp only [AT.kept, AT.fo, Fo.kept]
    split
    · rw [AT.fo_app, k.kept_fo, r.kept_fo]
    · rw [AT.fo, r.kept_fo]
theorem AT.kept_led (c : Str) : ∀ a : AT, (a.kept c).led.Sublist a.led
  | .nil => List.Sublist.refl _
  | .leaf _ _ r => by simp only [AT.kept, AT.led]; exact r.kept_led c
  | .node p lab k r => by
    simp only [AT.kept]
    split
    · rw [AT.led_app, AT.led]
      exact ((k.kept_led c).append (r.kept_led c)).trans (List.sublist_append_right _ _)
    · rw [AT.led, AT.led]
      exact (List.Sublist.refl _).append ((List.Sublist.refl _).append (r.kept_led c))
theorem AT.kept_count (c : Str) : ∀ a : AT, (a.kept c).count ≤ a.count
  | .nil => Nat.le_refl _
  | .leaf _ _ r => by have := r.kept_count c; simp only [AT.kept, AT.count]; omega
  | .node p lab k r => by
    have h1 := k.kept_count c
    have h2 := r.kept_count c
    simp only [AT.kept]
    split
    · rw [AT.count_app, AT.count]; omega
    · simp only [AT.count]; omega
theorem AT.kept_of_no (c : Str) : ∀ a : AT, (∀ b ∈ a.flags c, b = false) → a.kept c = a
  | .nil, _ => rfl
  | .leaf _ _ r, h => by rw [AT.kept, r.kept_of_no c fun b hb => h b (.tail _ hb)]
  | .node p lab k r, h => by
    have h1 : hasC lab c = false := h _ (.head _)
    rw [AT.kept, h1, if_neg Bool.false_ne_true, r.kept_of_no c fun b hb => h b (.tail _ hb)]
theorem AT.flags_length (c : Str) : ∀ a : AT, (a.flags c).length = a.vals.length
  | .nil => rfl
  | .leaf _ _ r => by simp only [AT.flags, AT.vals, List.length_cons, r.flags_length]
  | .node _ _ _ r => by simp only [AT.flags, AT.vals, List.length_cons, r.flags_length]
theorem AT.vals_count : ∀ a : AT, a.vals.length ≤ a.count
  | .nil => Nat.le_refl _
  | .leaf _ _ r => by have := r.vals_count; simp only [AT.vals, AT.count, List.length_cons]; omega
  | .node _ _ _ r => by have := r.vals_count; simp only [AT.vals, AT.count, List.length_cons]; omega
/-- an item of the forest at its place -/
theorem AT.item (c : Str) : ∀ (a : AT) (i : Nat) (v : Value), a.vals[i]? = some v →
    (∃ s tk, v = .str s tk ∧ (a.flags c).getD i false = false) ∨ (∃ p lab k, v = .ref p.x ∧ (a.flags c).getD i false = hasC lab c ∧ ∀ q ∈ NP.led p lab k, q ∈ a.led)
  | .nil, i, v, h => by simp [AT.vals] at h
  | .leaf s tk r, 0, v, h => .inl ⟨s, tk, by simpa [AT.vals] using h.symm, rfl⟩
  | .leaf s tk r, i + 1, v, h => by
    have h' : r.vals[i]? = some v := by simpa [AT.vals] using h
    rcases r.item c i v h' with ⟨s', tk', e, f⟩ | ⟨p, lab, k, e, f, m⟩
    · exact .inl ⟨s', tk', e, by simpa [AT.flags] using f⟩
    · exact .inr ⟨p, lab, k, e, by simpa [AT.flags] using f, fun q hq => by rw [AT.led]; exact m q hq⟩
  | .node p lab k r, 0, v, h => .inr ⟨p, lab, k.vals, by simpa [AT.vals] using h.symm, rfl, fun q hq => by rw [AT.led]; exact List.mem_append_left _ hq⟩
  | .node p0 lab0 k0 r, i + 1, v, h => by
    have h' : r.vals[i]? = some v := by simpa [AT.vals] using h
    rcases r.item c i v h' with ⟨s', tk', e, f⟩ | ⟨p, lab, k, e, f, m⟩
    · exact .inl ⟨s', tk', e, by simpa [AT.flags] using f⟩
    · exact .inr ⟨p, lab, k, e, by simpa [AT.flags] using f, fun q hq => by rw [AT.led]; exact List.mem_append_right _ (List.mem_append_right _ (m q hq))⟩
theorem any_flags (l : List Bool) : (List.range l.length).any (fun i => l.getD i false) = l.any id := by
  induction l with
  | nil => rfl
  | cons b r ih =>
    rw [List.length_cons, List.range_succ_eq_map, List.any_cons, List.any_map, List.any_cons, ← ih]
    rfl
end
section
open PyProof.Rows.LCg
local macro_rules | `(tactic| k_room) => `(tactic| ((try simp only [depth_under_make, depth_under_kw, depth_in1, depth_deeper, depth_caller]); (try dsimp only [ktrTop]); omega))
local macro_rules | `(tactic| k_units) => `(tactic| ((try simp only [units_in1, units_deeper, Around.mark_units, units_caller]); (try dsimp only [ktrTop]); omega))
local macro_rules | `(tactic| k_mem) => `(tactic| assumption)
local macro_rules | `(tactic| k_all) => `(tactic| assumption)
section
local macro_rules | `(tactic| walk_at "truthy ref") => `(tactic| (k_here; k_dflt (refine' truthy_L ?k1 ?k2 ?k3 ?_; (case k1 => k_asm); (case k2 => k_mem); (case k3 => first | assumption | ((try simp only [List.size_toArray, List.length_append, List.length_cons, List.length_nil, List.length_reverse]); omega)); k_whole)))
local macro_rules | `(tactic| walk_at "call builtin:list.pop") => `(tactic| (k_here; k_dflt (refine' pop_L ?k1 ?k2 ?k3 ?k4 ?_; (case k1 => k_asm); (case k2 => k_asm); (case k3 => k_upd); (case k4 => first | assumption | ((try simp only [List.size_toArray, List.length_append, List.length_cons, List.length_nil, List.length_reverse]); omega)); k_whole); intro h' F' N'; (try k_sweep)))
local macro_rules | `(tactic| walk_at "call type:reversed") => `(tactic| (k_here; (with_reducible show wpAny _ _ (call (Value.type _) [Value.ref _]) _ _ _); k_dflt (refine' krv_reversed ?F ?N ?l ?_; (case F => k_asm); (case N => k_asm); (case l => exact News.isList (by k_asm) (by k_mem)); k_whole); intro D' h' F' N' l1; (try k_lt l1); (try k_sweep)))
local macro_rules | `(tactic| walk_at "call type:list") => `(tactic| (k_here; (with_reducible show wpAny _ _ (call (Value.type _) [Value.ref _]) _ _ _); k_dflt (refine' list_rev_K ?hh ?F ?N ?l ?I ?z ?_; (case hh => rfl); (case F => k_asm); (case N => k_asm); (case l => k_mem); (case I => k_all); (case z => first | assumption | ((try simp only [List.size_toArray, List.length_append, List.length_cons, List.length_nil, List.length_reverse]); omega)); k_whole); intro D' c' h' tk' F' N' l1; (try k_lt l1); (try k_sweep)))
local macro_rules | `(tactic| walk_at "call builtin:list.extend") => `(tactic| (k_here; k_dflt (refine' extend_L ?F ?N ?b ?U ?z ?_; (case F => k_asm); (case N => k_asm); (case b => k_mem); (case U => intro n'; k_upd); (case z => first | assumption | ((try simp only [List.size_toArray, List.length_append, List.length_cons, List.length_nil, List.length_reverse]); omega)); k_whole); intro h' n' F' N'; (try dsimp only at N'); (try k_sweep)))
local macro_rules | `(tactic| k_put) => `(tactic| first | exact put_children | exact put_label)
section
open PyProof.Rows.LCg
def uncFlat : Stmt := (bodyOf uncAny).getD 2 (.Pass default)
theorem know2 {m : Str → Option Value} {x1 x2 : Str} {v1 v2 : Value} (e1 : m x1 = some v1) (e2 : m x2 = some v2) :
    m = (fun y => if y = x1 then some v1 else if y = x2 then some v2 else m y) := by
  funext y; (repeat' split) <;> simp_all
section
def FlatJ (c : Str) (t : AT) (st nc : Addr) (m₀ : Str → Option Value) (led : List (Addr × Obj)) (n : Nat) (m₁ : Str → Option Value) (news₁ : List (Addr × Obj)) : Prop :=
  ∃ (rem acc : AT) (c1 c2 : Nat), n = rem.count ∧ rem.count + acc.count ≤ t.count ∧ acc.app (rem.kept c) = t.kept c ∧ (∀ q ∈ rem.led, q ∈ led) ∧ news₁ = (st, listOf rem.vals.reverse.toArray c1) :: (nc, listOf acc.vals.toArray c2) :: led ∧ ∀ y, y ≠ Str.ofString "child" → m₁ y = m₀ y
set_option maxRecDepth 100000 in
set_option maxHeartbeats 8000000 in
theorem unc_flat : ∀ {w : World} {mean : ExcName → Option Value} {mg mb : Str → Option Value} {dp un : Nat} {gd : Option (List Code)} {cn : Str} {cs : Scope} {a : Addr} {ccd : Value} {cl : List (Str × Addr)} {outer : List Env}
   {base g : Heap} {L₀ L : Addr} {m : Str → Option Value} {s : Shared} {Q : Flow → Shared → Prop} {st nc : Addr} {c1 : Str} {tc : Tok} {t : AT} {n1 n2 : Nat} {oc : Obj} {led : List (Addr × Obj)},
   Below (ktrTop dp un gd cn cs L₀ a ccd cl outer) base (envX cn cs L₀ a ccd cl :: outer) g → Fr g L s.heap m → (hd.heap_39 w.params).In g → Top topProg LV mean mg mb g → dp + 100 < recursionLimit → un + 100 < cLine →
   m (Str.ofString "stack") = some (.ref st) → m (Str.ofString "newChildren") = some (.ref nc) → (∀ p ∈ led, p.1 ≠ st) → (∀ p ∈ led, p.1 ≠ nc) → @Ne Nat st nc → (L + 1, oc) ∈ led → oc.data = .cell (some (.str c1 tc)) → (∀ q ∈ t.led, q ∈ led) → t.count < 1000000 →
   News g L s.heap ((st, listOf t.vals.reverse.toArray n1) :: (nc, listOf #[] n2) :: led) →
   (∀ h' tk m' n1' n2', Fr g L h' m' → (∀ y, y ≠ Str.ofString "child" → m' y = m y) → News g L h' ((st, listOf #[] n1') :: (nc, listOf (t.kept c1).vals.toArray n2') :: led) → Q .next { s with heap := h', toks := tk }) →
   wpAny (model PySem.Challenge.rw_ao0012_01.row.prog w) ((ktrTop dp un gd cn cs L₀ a ccd cl outer).deeper (uncEnv L)) (exec uncFlat (uncEnv L)) Q (fun _ _ => False) s := by
  k_fill
  intro w mean mg mb dp un gd cn cs a ccd cl outer base g L₀ L m s Q st nc c1 tc t n1 n2 oc led B F X T hdp hun ms mn hst hnc hsn hmc hoc hled hcnt N hQ
  generalize hT : uncFlat = tT
  (with_unfolding_all conv at hT => lhs; whnf)
  subst hT
  refine While_inv (FlatJ c1 t st nc m led) F N ⟨t, .nil, n1, n2, rfl, Nat.le_refl _, rfl, hled, rfl, fun _ _ => rfl⟩ ?_ PassesOwn.never
  rintro n m₁ news₁ h₁ tk₁ F₁ N₁ ⟨rem, acc, k1, k2, rfl, hct, hk, hrl, rfl, hm⟩
  have hsl : sizeLine = 16777216 := rfl
  rw [know2 ((hm _ (by decide)).trans ms) ((hm _ (by decide)).trans mn)] at F₁ hm
  cases rem with
  | nil =>
    simp only [AT.vals, AT.kept, AT.app_nil, List.reverse_nil] at N₁ hk
    subst hk
    k_steps
    exact hQ _ _ _ _ _ F₁ hm N₁
  | leaf sx tkx r =>
    simp only [AT.vals, AT.kept, AT.led, AT.count, List.reverse_cons] at N₁ hk hrl hct ⊢
    have hrc := r.vals_count
    have hac := acc.vals_count
    k_steps
    · exfalso; simp_all
    · (rename News _ _ _ _ => N9); (rename Fr _ _ _ _ => F9)
      exact .intro F9 N9 (Nat.lt_succ_self _) ⟨r, acc.app (.leaf sx tkx .nil), k1 + 1, k2 + 1, rfl, by simp only [AT.count_app, AT.count]; omega, by rw [AT.app_assoc]; exact hk, hrl, by simp [AT.vals_app, AT.vals], fun y hy => by simpa [hy] using hm y hy⟩
  | node p lab k r =>
    simp only [AT.vals, AT.kept, AT.led, AT.count, List.reverse_cons] at N₁ hk hrl hct ⊢
    have hrc := r.vals_count
    have hac := acc.vals_count
    have hkc := k.vals_count
    have px := hrl (p.x, instObj 145 p.dx) (by simp [NP.led])
    have pd := hrl (p.dx, p.dict lab) (by simp [NP.led])
    have pl := hrl (p.l, listOf k.vals.toArray p.ln) (by simp [NP.led])
    obtain ⟨x, dx, l, ln, dn, e1, e2, u1, u2, tkl⟩ := p
    dsimp only [NP.dict] at px pd pl N₁
    k_steps
    · exfalso; simp_all
    · (rename News _ _ _ _ => N9); (rename Fr _ _ _ _ => F9); (rename Txt.find _ _ ≠ _ => ha)
      have hc : hasC lab c1 = true := bne_iff_ne.mpr ha
      rw [if_pos hc] at hk
      refine .intro F9 (fun p hp => N9 p (.tail _ hp)) (Nat.lt_succ_self _) ⟨k.app r, acc, _, k2, (AT.count_app k r).symm, by rw [AT.count_app]; omega, by rw [AT.kept_app]; exact hk, ?_, by rw [AT.vals_app, List.reverse_append], fun y hy => by simpa [hy] using hm y hy⟩
      intro q hq
      rw [AT.led_app] at hq
      exact hrl q (List.mem_append_right _ hq)
    · (rename News _ _ _ _ => N9); (rename Fr _ _ _ _ => F9); (rename Txt.find _ _ = _ => ha)
      have hc : hasC lab c1 = false := by simp [hasC, ha]
      rw [if_neg (by rw [hc]; exact Bool.false_ne_true)] at hk
      exact .intro F9 N9 (by omega) ⟨r, acc.app (.node ⟨x, dx, l, ln, dn, e1, e2, u1, u2, tkl⟩ lab k .nil), k1 + 1, k2 + 1, rfl, by simp only [AT.count_app, AT.count]; omega, by rw [AT.app_assoc]; exact hk,
        fun q hq => hrl q (List.mem_append_right _ (List.mem_append_right _ hq)), by simp [AT.vals_app, AT.vals], fun y hy => by simpa [hy] using hm y hy⟩
end
end
section
open PyProof.Rows.LCg
section

local macro_rules | `(tactic| walk_at "eval GeneratorExp") => `(tactic| (k_here; (with_reducible rename Fr _ _ _ _ => kF); with_unfolding_all refine' genexp_L (P := 159) (c := 161) kF ?T ?C ?c1 ?c2 ?c3 ?c4 ?c5 ?c6 ?c7 ?c8 ?c9 ?cr ?_ ?cs; (case T => assumption); (case C => assumption); (case c1 => rfl); (case c2 => rfl); (case c3 => rfl); (case c4 => rfl); (case c5 => rfl); (case c6 => decide); (case c7 => rfl); (case c8 => rfl); (case c9 => rfl); (case cr => k_room); (case cs => intro _; rfl)))
local macro_rules | `(tactic| walk_at "call builtin:any") => `(tactic| (k_here; k_dflt (refine' any_L ?F ?N ?G ?X ?K ?hK ?_; (case F => k_asm); (case N => k_asm); (case G => assumption); (case X => assumption); (case K => assumption); (case hK => assumption); k_whole); intro s' F' N' G' hos'))
local macro_rules | `(tactic| walk_at "exec While") => `(tactic| (refine held ?_))
set_option maxRecDepth 100000 in
set_option maxHeartbeats 8000000 in
theorem unc_anyS : ∀ {w : World} {mean : ExcName → Option Value} {mg mb : Str → Option Value} {dp un : Nat} {gd : Option (List Code)} {cn : Str} {cs : Scope} {a : Addr} {ccd : Value} {cl : List (Str × Addr)} {outer : List Env}
   {base g : Heap} {L₀ L : Addr} {m : Str → Option Value} {s : Shared} {Q : Flow → Shared → Prop} {x dx l : Addr} {ln dn : Nat} {h1 h2 : Int} {u1 u2 tk : Tok} {lab c1 : Str} {tc : Tok} {t : AT} {oc : Obj} {ps : Array Value} {led : List (Addr × Obj)},
   Below (ktrTop dp un gd cn cs L₀ a ccd cl outer) base (envX cn cs L₀ a ccd cl :: outer) g → Fr g L s.heap m → (hd.heap_39 w.params).In g → Top topProg LV mean mg mb g → dp + 100 < recursionLimit → un + 100 < cLine →
   CodeHd g 161 159 → AllBare s.gens →
   m (Str.ofString "node") = some (.ref x) → (L + 1, oc) ∈ led → oc.data = .cell (some (.str c1 tc)) → (∀ q ∈ t.led, q ∈ led) → t.count < 1000000 →
   (∀ p ∈ led, p.1 ≠ dx) → (∀ p ∈ led, p.1 ≠ 159) → @Ne Nat x 159 → @Ne Nat dx 159 → @Ne Nat l 159 → @Ne Nat x dx → @Ne Nat l dx → TabOk (posOf uncGen) ps →
   News g L s.heap ((159, tabObj ps) :: (x, instObj 145 dx) :: (dx, dictOf [⟨h1, .str (Str.ofString "_children") u1, .ref l⟩, ⟨h2, .str (Str.ofString "_label") u2, .str lab tk⟩] dn) :: (l, listOf t.vals.toArray ln) :: led) →
   (∀ s' m' l' ln' ps', AllBare s'.gens → s'.os = s.os → Fr g L s'.heap m' → (∀ y, y ≠ Str.ofString "child" → y ≠ Str.ofString "stack" → y ≠ Str.ofString "newChildren" → m' y = m y) → TabOk (posOf uncGen) ps' → @Ne Nat l' 159 → (l' = l ∨ ((∀ q ∈ led, q.1 < l') ∧ @LT.lt Nat _ x l' ∧ @LT.lt Nat _ dx l')) →
     News g L s'.heap ((159, tabObj ps') :: (x, instObj 145 dx) :: (dx, dictOf [⟨h1, .str (Str.ofString "_children") u1, .ref l'⟩, ⟨h2, .str (Str.ofString "_label") u2, .str lab tk⟩] dn) :: (l', listOf (t.kept c1).vals.toArray ln') :: led) → Q .next s') →
   wpAny (model PySem.Challenge.rw_ao0012_01.row.prog w) ((ktrTop dp un gd cn cs L₀ a ccd cl outer).deeper (uncEnv L)) (exec uncAny (uncEnv L)) Q (fun _ _ => False) s := by
  k_fill
  intro w mean mg mb dp un gd cn cs a ccd cl outer base g L₀ L m s Q x dx l ln dn h1 h2 u1 u2 tk lab c1 tc t oc ps led B F X T hdp hun CH G mnd hmc hoc hled hcnt hdl hpl xp dp' lp xd ld htab N hQ
  have hsl : sizeLine = 16777216 := rfl
  have hvc := t.vals_count
  rw [know2 mnd mnd] at F
  generalize hT : uncAny = tT
  (with_unfolding_all conv at hT => lhs; whnf)
  subst hT
  k_steps
  refine ⟨l, t.vals.toArray, ln, (x, instObj 145 dx) :: (dx, dictOf [⟨h1, .str (Str.ofString "_children") u1, .ref l⟩, ⟨h2, .str (Str.ofString "_label") u2, .str lab tk⟩] dn) :: (l, listOf t.vals.toArray ln) :: led, ps, fun i => (t.flags c1).getD i false, rfl, by assumption, N, ?_, by simp, htab, G, ?_, ?_⟩
  · intro p hp
    simp only [List.mem_cons] at hp
    rcases hp with rfl | rfl | rfl | hp
    · exact xp
    · exact dp'
    · exact lp
    · exact hpl p hp
  · intro C code A' E' i v t' m₂ hA hD hv F2 hm N2
    have hroom : A'.depth < recursionLimit := by
      have : A'.depth ≤ dp + 1 + 1 := hD
      omega
    show wpAny _ _ _ (fun y s₃ => y = Value.bool ((t.flags c1).getD i false) ∧ Keeps t' s₃) _ _
    rcases t.item c1 i v (by simpa using hv) with ⟨s', tk', rfl, f⟩ | ⟨p, lab', k, rfl, f, hmem⟩
    · rw [f]
      with_unfolding_all exact elt_leaf F2 X T hm
    · rw [f]
      have hmm : ∀ q ∈ led, q ∈ (x, instObj 145 dx) :: (dx, dictOf [⟨h1, .str (Str.ofString "_children") u1, .ref l⟩, ⟨h2, .str (Str.ofString "_label") u2, .str lab tk⟩] dn) :: (l, listOf t.vals.toArray ln) :: led := fun q hq => .tail _ (.tail _ (.tail _ hq))
      with_unfolding_all exact elt_node (x := p.x) (dx := p.dx) (l := p.l) hroom F2 X T N2 hm (hmm _ (hled _ (hmem _ (by simp [NP.led])))) (hmm _ (hled _ (hmem (p.dx, p.dict lab') (by simp [NP.led])))) (hmm _ hmc) hoc
  · intro ga s₅ ps' K hLK F5 N5 htab' G5 hos hK X5
    rw [List.size_toArray] at X5
    k_steps
    · refine' unc_flat (t := t) B ?F X T hdp hun ?ms ?mn ?a1 ?a2 ?a3 ?a4 hoc ?a5 hcnt ?N ?Q9
      case N => assumption
      case F => assumption
      case ms => rfl
      case mn => rfl
      case a1 => k_all
      case a2 => k_all
      case a3 => omega
      case a4 => k_mem
      case a5 => exact fun q hq => .tail _ (.tail _ (.tail _ (.tail _ (hled q hq))))
      case Q9 =>
        intro h9 tk9 m9 n1 n2 F9 hm9 N9
        rw [know2 (hm9 (Str.ofString "node") (by decide)) (hm9 (Str.ofString "newChildren") (by decide))] at F9 hm9
        k_steps
        (rename News _ _ _ _ => N10); (rename Fr _ _ _ _ => F10)
        with_reducible rename (_ ∧ _ ∧ _ ∧ _ ∧ AllLt _ _) => la
        refine hQ _ _ _ n2 ps' (by assumption) (Eq.trans (by assumption) hos) F10 ?_ (by with_unfolding_all exact htab') (by omega) (.inr ⟨ktn_ltOf la.2.2.2.2, la.2.1, la.2.2.1⟩) (fun p hp => N10 p ?_)
        · intro y y1 y2 y3
          refine (hm9 y y1).trans ?_
          rw [if_neg y2, if_neg y3]
          (repeat' split)
          all_goals first | rfl | (rename y = _ => e; rw [e, mnd])
        · simp only [List.mem_cons] at hp ⊢
          rcases hp with hp | hp | hp | hp | hp
          · exact .inr (.inr (.inl hp))
          · exact .inr (.inr (.inr (.inl hp)))
          · exact .inr (.inr (.inr (.inr (.inl hp))))
          · exact .inr (.inl hp)
          · exact .inr (.inr (.inr (.inr (.inr (.inr hp)))))
    · (rename News _ _ _ _ => N10); (rename Fr _ _ _ _ => F10); (rename _ = false => ha)
      have hk : t.kept c1 = t := by
        refine t.kept_of_no c1 fun b hb => ?_
        rw [← t.flags_length c1] at ha
        have h2 : ((t.flags c1).any id) = false := (any_flags _).symm.trans ha
        have := List.any_eq_false.mp h2 b hb
        simpa using this
      refine hQ _ _ l ln ps' (by assumption) (Eq.trans (by assumption) hos) F10 ?_ (by with_unfolding_all exact htab') lp (.inl rfl) (by rw [hk]; exact N10)
      intro y y1 y2 y3
      (repeat' split)
      all_goals first | rfl | (rename y = _ => e; rw [e, mnd])
end
end
section
open PyProof.Rows.LCg
theorem know3 {m : Str → Option Value} {x1 x2 x3 : Str} {v1 v2 v3 : Value} (e1 : m x1 = some v1) (e2 : m x2 = some v2) (e3 : m x3 = some v3) :
    m = (fun y => if y = x1 then some v1 else if y = x2 then some v2 else if y = x3 then some v3 else m y) := by
  funext y; (repeat' split) <;> simp_all
/-- the label, cut at the first sign -/
def cutA (lab c : Str) : Str := if Txt.find lab c = -1 then lab else Txt.slice lab none (some (Txt.find lab c))
section

local macro_rules | `(tactic| walk_at "execs cons") => `(tactic| ((with_reducible show wpAny _ _ (execs (Stmt.If (Expr.Name _ _) _ _ _ :: _) _) _ _ _); refine held ?_))
set_option maxRecDepth 100000 in
set_option maxHeartbeats 8000000 in
theorem unc_cut : ∀ {w : World} {mean : ExcName → Option Value} {mg mb : Str → Option Value} {dp un : Nat} {gd : Option (List Code)} {cn : Str} {cs : Scope} {a : Addr} {ccd : Value} {cl : List (Str × Addr)} {outer : List Env}
   {base g : Heap} {L₀ L : Addr} {m : Str → Option Value} {s : Shared} {Q : Flow → Shared → Prop} {x dx l : Addr} {dn : Nat} {h1 h2 : Int} {u1 u2 tk : Tok} {lab c2 : Str} {t2 : Tok} {led : List (Addr × Obj)},
   Below (ktrTop dp un gd cn cs L₀ a ccd cl outer) base (envX cn cs L₀ a ccd cl :: outer) g → Fr g L s.heap m → (hd.heap_39 w.params).In g → Top topProg LV mean mg mb g → dp + 100 < recursionLimit → un + 100 < cLine →
   m (Str.ofString "node") = some (.ref x) → m (Str.ofString "parentChar") = some (.str c2 t2) → lab.length ≤ 100 → 
   (∀ p ∈ led, p.1 ≠ dx) → @Ne Nat x dx →
   News g L s.heap ((x, instObj 145 dx) :: (dx, dictOf [⟨h1, .str (Str.ofString "_children") u1, .ref l⟩, ⟨h2, .str (Str.ofString "_label") u2, .str lab tk⟩] dn) :: led) →
   (∀ h' m' tk' tk2, Fr g L h' m' → (∀ y, y ≠ Str.ofString "parentIndex" → m' y = m y) → 
     News g L h' ((x, instObj 145 dx) :: (dx, dictOf [⟨h1, .str (Str.ofString "_children") u1, .ref l⟩, ⟨h2, .str (Str.ofString "_label") u2, .str (cutA lab c2) tk2⟩] dn) :: led) →
     wpAny (model PySem.Challenge.rw_ao0012_01.row.prog w) ((ktrTop dp un gd cn cs L₀ a ccd cl outer).deeper (uncEnv L)) (execs (uncIn.drop 3) (uncEnv L)) Q (fun _ _ => False) { s with heap := h', toks := tk' }) →
   wpAny (model PySem.Challenge.rw_ao0012_01.row.prog w) ((ktrTop dp un gd cn cs L₀ a ccd cl outer).deeper (uncEnv L)) (execs (uncIn.drop 1) (uncEnv L)) Q (fun _ _ => False) s := by
  k_fill
  intro w mean mg mb dp un gd cn cs a ccd cl outer base g L₀ L m s Q x dx l dn h1 h2 u1 u2 tk lab c2 t2 led B F X T hdp hun mnd mpc hlen hdl xd N hQ
  have hsl : sizeLine = 16777216 := rfl
  rw [know2 mnd mpc] at F
  generalize hT : uncIn.drop 1 = tT
  (with_unfolding_all conv at hT => lhs; whnf)
  subst hT
  k_steps
  · (rename News _ _ _ _ => N9); (rename Fr _ _ _ _ => F9); (rename Txt.find _ _ ≠ _ => ha)
    have e : cutA lab c2 = Txt.slice lab none (some (Txt.find lab c2)) := if_neg ha
    rw [← e] at N9
    refine unheld ?_
    with_unfolding_all exact hQ _ _ _ _ F9 (fun y hy => by rw [if_neg hy]; (repeat' split) <;> first | rfl | (rename y = _ => e; rw [e]; first | exact mnd.symm | exact mpc.symm)) N9
  · (rename News _ _ _ _ => N9); (rename Fr _ _ _ _ => F9); (rename Txt.find _ _ = _ => ha)
    have e : cutA lab c2 = lab := if_pos ha
    rw [e] at hQ
    refine unheld ?_
    with_unfolding_all exact hQ _ _ _ _ F9 (fun y hy => by rw [if_neg hy]; (repeat' split) <;> first | rfl | (rename y = _ => e; rw [e]; first | exact mnd.symm | exact mpc.symm)) N9
end
end
section
open PyProof.Rows.LCg
theorem skip4 {α : Type} {a b c d e : α} {r : List α} : ∀ p ∈ a :: b :: c :: d :: r, p ∈ a :: b :: c :: d :: e :: r := by
  intro p hp
  simp only [List.mem_cons] at hp ⊢
  rcases hp with h | h | h | h | h
  · exact .inl h
  · exact .inr (.inl h)
  · exact .inr (.inr (.inl h))
  · exact .inr (.inr (.inr (.inl h)))
  · exact .inr (.inr (.inr (.inr (.inr h))))
theorem comp_list {prog : Program} {w : World} {A : Around} {E : Value → Shared → Prop} {s : Shared} {h₀ : Heap} {L : Addr} {m : Str → Option Value} {env : Env} {elt iter : Expr} {x : Str} {px : Pos} {scope : Scope} {cl : List (Str × Addr)} {pos : Pos} {Q : Value → Shared → Prop} (F₀ : Fr h₀ L s.heap m)
    (hclos : closureFor scope env = pure cl) (hcell : ∀ y ∈ scope.names, y.2 ≠ .cell) (hkind : scope.kind = .function)
    (hnames : ∀ y ∈ scope.names, y.2 = .local → scope.names.lookup y.1 = some .local) (hx : scope.names.lookup x = some .local)
    (h : wpAny (model prog w) A (eval iter env) (fun xv s₁ => Held (CompSrc prog w A h₀ L m env elt x scope cl (fun s₂ => FinE h₀ L m s₂ Q) xv s₁)) E s)
    (hs : ∀ x, foldedSetIterable iter env x = pure x) :
    wpAny (model prog w) A (eval (.ListComp elt [⟨.Name x px, iter, [], 0⟩] scope pos) env) Q E s := ListComp_U F₀ hclos hcell hkind hnames hx h hs
section

local macro_rules | `(tactic| walk_at "execs cons") => `(tactic| ((with_reducible show wpAny _ _ (execs (Stmt.For _ _ _ _ _ :: _) _) _ _ _); refine held ?_))
local macro_rules | `(tactic| walk_at "eval ListComp") => `(tactic| (k_here; (with_reducible rename Fr _ _ _ _ => kF); with_unfolding_all refine' comp_list (cl := []) kF ?k1 ?k2 ?k3 ?k4 ?k5 ?_ ?k6; (case k1 => rfl); (case k2 => decide); (case k3 => rfl); (case k4 => decide); (case k5 => rfl); (case k6 => intro _; rfl)))
local macro_rules | `(tactic| walk_at "call type:list") => `(tactic| (k_here; (with_reducible show wpAny _ _ (call (Value.type "list") [Value.ref _]) _ _ _); k_dflt (refine' list_copyK ?k1 ?k2 ?k3 ?_ ?z; (case k1 => k_asm); (case k2 => k_asm); (case k3 => exact News.isList (by k_asm) (by k_mem)); (case z => (first | assumption | ((try simp only [List.size_toArray, List.length_append, List.length_cons, List.length_nil, List.length_reverse]); omega))); k_whole); intro D' c' h' F' N' l1; (try k_lt l1); (try k_sweep)))
set_option maxRecDepth 100000 in
set_option maxHeartbeats 8000000 in
theorem unc_un : ∀ {w : World} {mean : ExcName → Option Value} {mg mb : Str → Option Value} {dp un : Nat} {gd : Option (List Code)} {cn : Str} {cs : Scope} {a : Addr} {ccd : Value} {cl : List (Str × Addr)} {outer : List Env}
   {base g : Heap} {L₀ L : Addr} {m : Str → Option Value} {s : Shared} {Q : Flow → Shared → Prop} {x dx l : Addr} {ln dn : Nat} {h1 h2 : Int} {u1 u2 tk : Tok} {lab c3 : Str} {t3 : Tok} {b : Bool} {vs : List Value} {led : List (Addr × Obj)},
   Below (ktrTop dp un gd cn cs L₀ a ccd cl outer) base (envX cn cs L₀ a ccd cl :: outer) g → Fr g L s.heap m → (hd.heap_39 w.params).In g → Top topProg LV mean mg mb g → dp + 100 < recursionLimit → un + 100 < cLine →
   m (Str.ofString "node") = some (.ref x) → m (Str.ofString "unaryChar") = some (.str c3 t3) → m (Str.ofString "expandUnary") = some (.bool b) → lab.length ≤ 100 → vs.length ≤ 1000000 →
   (∀ p ∈ led, p.1 ≠ dx) → @Ne Nat x dx → @Ne Nat l dx →
   News g L s.heap ((x, instObj 145 dx) :: (dx, dictOf [⟨h1, .str (Str.ofString "_children") u1, .ref l⟩, ⟨h2, .str (Str.ofString "_label") u2, .str lab tk⟩] dn) :: (l, listOf vs.toArray ln) :: led) →
   (∀ h' m' tk', (b = false ∨ Txt.find lab c3 = -1) → Fr g L h' m' → (∀ y, y ≠ Str.ofString "unaryIndex" → y ≠ Str.ofString "newNode" → m' y = m y) →
     News g L h' ((x, instObj 145 dx) :: (dx, dictOf [⟨h1, .str (Str.ofString "_children") u1, .ref l⟩, ⟨h2, .str (Str.ofString "_label") u2, .str lab tk⟩] dn) :: (l, listOf vs.toArray ln) :: led) →
     wpAny (model PySem.Challenge.rw_ao0012_01.row.prog w) ((ktrTop dp un gd cn cs L₀ a ccd cl outer).deeper (uncEnv L)) (execs (uncIn.drop 4) (uncEnv L)) Q (fun _ _ => False) { s with heap := h', toks := tk' }) →
   (∀ h' m' tk' l3 l2 x2 d2 n2 n3 dn2 h1' h2' u1' u2' tk1 tk2, b = true → Txt.find lab c3 ≠ -1 → Fr g L h' m' → (∀ y, y ≠ Str.ofString "unaryIndex" → y ≠ Str.ofString "newNode" → m' y = m y) →
     (∀ q ∈ led, q.1 < d2) → @LT.lt Nat _ x d2 → @LT.lt Nat _ dx d2 → @LT.lt Nat _ l d2 → @LT.lt Nat _ d2 x2 → @LT.lt Nat _ x2 l2 → @LT.lt Nat _ l2 l3 →
     News g L h' ((l3, listOf #[Value.ref x2] n3) :: (l2, listOf vs.toArray n2) :: (x2, instObj 145 d2) :: (d2, dictOf [⟨h1', .str (Str.ofString "_children") u1', .ref l2⟩, ⟨h2', .str (Str.ofString "_label") u2', .str (Txt.slice lab (some (Txt.find lab c3 + 1)) none) tk1⟩] dn2) ::
       (x, instObj 145 dx) :: (dx, dictOf [⟨h1, .str (Str.ofString "_children") u1, .ref l3⟩, ⟨h2, .str (Str.ofString "_label") u2, .str (Txt.slice lab none (some (Txt.find lab c3))) tk2⟩] dn) :: (l, listOf vs.toArray ln) :: led) →
     wpAny (model PySem.Challenge.rw_ao0012_01.row.prog w) ((ktrTop dp un gd cn cs L₀ a ccd cl outer).deeper (uncEnv L)) (execs (uncIn.drop 4) (uncEnv L)) Q (fun _ _ => False) { s with heap := h', toks := tk' }) →
   wpAny (model PySem.Challenge.rw_ao0012_01.row.prog w) ((ktrTop dp un gd cn cs L₀ a ccd cl outer).deeper (uncEnv L)) (execs (uncIn.drop 3) (uncEnv L)) Q (fun _ _ => False) s := by
  k_fill
  intro w mean mg mb dp un gd cn cs a ccd cl outer base g L₀ L m s Q x dx l ln dn h1 h2 u1 u2 tkl lab c3 t3 b vs led B F X T hdp hun mnd muc mex hlen hvs hdl xd ld N hQ1 hQ2
  have hsl : sizeLine = 16777216 := rfl
  rw [know3 mnd muc mex] at F
  generalize hT : uncIn.drop 3 = tT
  (with_unfolding_all conv at hT => lhs; whnf)
  subst hT
  k_steps
  · refine unheld (CompSrc.ledger (its := vs.toArray) (k := ln) rfl (by assumption) (by assumption) (by k_mem) (by rw [List.size_toArray]; omega) fun g' => ?_)
    refine compRest_ind (fun i ys nw => ys = vs.take i ∧ nw = (x, instObj 145 dx) :: (dx, dictOf [⟨h1, .str (Str.ofString "_children") u1, .ref l⟩, ⟨h2, .str (Str.ofString "_label") u2, .str lab tkl⟩] dn) :: (l, listOf vs.toArray ln) :: led) ⟨rfl, rfl⟩ ?_ ?_
    · rintro i ys nw hi ⟨rfl, rfl⟩ v I oI C oC D m₂ h tk' E' hv hoC hm₂ F₂ N₂ o3 hne
      k_steps
      refine CompEnd.intro F₂ N₂ _ (fun p hp => hp) o3 (.inr ⟨listOf vs.toArray ln, by simp, rfl, _, rfl⟩) ⟨?_, rfl⟩
      have hv' : vs[i]? = some v := by simpa using hv
      rw [List.take_add_one, hv']; rfl
    · rintro ys nw ⟨rfl, rfl⟩
      rw [List.size_toArray, List.take_length]
      intro D h9 tk9 F9 N9 o1
      simp only [Off1, and_true] at o1
      k_steps
      (rename News _ _ _ _ => N10); (rename Fr _ _ _ _ => F10); (rename Txt.find _ _ ≠ _ => ha)
      with_reducible rename (_ ∧ _ ∧ _ ∧ _ ∧ _ ∧ _ ∧ _ ∧ AllLt _ _) => la
      with_reducible rename (_ ∧ _ ∧ _ ∧ _ ∧ _ ∧ _ ∧ AllLt _ _) => lb
      with_reducible rename (_ ∧ _ ∧ _ ∧ _ ∧ AllLt _ _) => lc
      refine unheld ?_
      have hlt := ktn_ltOf lc.2.2.2.2
      with_unfolding_all exact hQ2 _ _ _ _ _ _ _ _ _ _ _ _ _ _ _ _ (by assumption) ha F10 (fun y h1 h2 => by rw [if_neg h2, if_neg h1]; (repeat' split) <;> first | rfl | (rename y = _ => e; rw [e]; first | exact mnd.symm | exact muc.symm | exact mex.symm)) hlt lc.2.1 lc.2.2.1 lc.2.2.2.1 (by omega) lb.1 la.1 (fun p hp => N10 p (skip4 p hp))
  · (rename News _ _ _ _ => N10); (rename Fr _ _ _ _ => F10); (rename Txt.find _ _ = _ => ha)
    refine unheld ?_
    with_unfolding_all exact hQ1 _ _ _ (.inr ha) F10 (fun y h1 h2 => by rw [if_neg h1]; (repeat' split) <;> first | rfl | (rename y = _ => e; rw [e]; first | exact mnd.symm | exact muc.symm | exact mex.symm)) N10
  · (rename News _ _ _ _ => N10); (rename Fr _ _ _ _ => F10)
    refine unheld ?_
    with_unfolding_all exact hQ1 _ _ _ (.inl (by assumption)) F10 (fun y h1 h2 => by (repeat' split) <;> first | rfl | (rename y = _ => e; rw [e]; first | exact mnd.symm | exact muc.symm | exact mex.symm)) N10
end
end
section
open PyProof.Rows.LCg
section

local macro_rules | `(tactic| walk_at "call builtin:list.append") => `(tactic| (k_here; (with_reducible show wpAny _ _ (call (Value.builtin _) [Value.ref _, _]) _ _ _); k_dflt (refine' append_K ?k1 ?k2 ?k3 ?_ ?z; (case k1 => k_asm); (case k2 => k_asm); (case k3 => k_upd); (case z => first | assumption | ((try simp only [List.size_toArray, List.length_append, List.length_cons, List.length_nil, List.length_reverse, List.length_take]); omega)); k_whole); intro h' F' N'; (try k_sweep)))
local macro_rules | `(tactic| walk_at "exec For Name Attribute cons nil") => `(tactic| (k_here; (with_reducible rename Fr _ _ _ _ => kF); with_unfolding_all refine' for_at kF ?k1 ?k2 ?_ ?k3; (case k1 => rfl); (case k2 => rfl); (case k3 => intro _; rfl)))
set_option maxRecDepth 100000 in
set_option maxHeartbeats 8000000 in
theorem unc_for : ∀ {w : World} {mean : ExcName → Option Value} {mg mb : Str → Option Value} {dp un : Nat} {gd : Option (List Code)} {cn : Str} {cs : Scope} {a : Addr} {ccd : Value} {cl : List (Str × Addr)} {outer : List Env}
   {base g : Heap} {L₀ L : Addr} {m : Str → Option Value} {s : Shared} {Q : Flow → Shared → Prop} {x dx l nl : Addr} {n ln dn : Nat} {h1 h2 : Int} {u1 u2 tk : Tok} {lab : Str} {vs rest : List Value} {led : List (Addr × Obj)},
   Below (ktrTop dp un gd cn cs L₀ a ccd cl outer) base (envX cn cs L₀ a ccd cl :: outer) g → Fr g L s.heap m → (hd.heap_39 w.params).In g → Top topProg LV mean mg mb g → dp + 100 < recursionLimit → un + 100 < cLine → AllBare s.gens →
   m (Str.ofString "node") = some (.ref x) → m (Str.ofString "nodeList") = some (.ref nl) → rest.length + vs.length ≤ 1000000 →
   (∀ p ∈ led, p.1 ≠ nl) → (x, instObj 145 dx) ∈ led → (dx, dictOf [⟨h1, .str (Str.ofString "_children") u1, .ref l⟩, ⟨h2, .str (Str.ofString "_label") u2, .str lab tk⟩] dn) ∈ led → (l, listOf vs.toArray ln) ∈ led →
   News g L s.heap ((nl, listOf rest.toArray n) :: led) →
   (∀ s' m' n', AllBare s'.gens → s'.os = s.os → Fr g L s'.heap m' → (∀ y, y ≠ Str.ofString "child" → m' y = m y) → News g L s'.heap ((nl, listOf (rest ++ vs).toArray n') :: led) → Q .next s') →
   wpAny (model PySem.Challenge.rw_ao0012_01.row.prog w) ((ktrTop dp un gd cn cs L₀ a ccd cl outer).deeper (uncEnv L)) (execs (uncIn.drop 4) (uncEnv L)) Q (fun _ _ => False) s := by
  k_fill
  intro w mean mg mb dp un gd cn cs a ccd cl outer base g L₀ L m s Q x dx l nl n ln dn h1 h2 u1 u2 tkl lab vs rest led B F X T hdp hun G mnd mnl hlen hnl hx hdx hl N hQ
  have hsl : sizeLine = 16777216 := rfl
  rw [know2 mnd mnl] at F
  generalize hT : uncIn.drop 4 = tT
  (with_unfolding_all conv at hT => lhs; whnf)
  subst hT
  k_steps
  refine unheld (for_list (l := l) (vs := vs) (k := ln) (fun s' => AllBare s'.gens ∧ s'.os = s.os) (fun i m₁ nx => (∀ y, y ≠ Str.ofString "child" → m₁ y = m y) ∧ ∃ n', nx = (nl, listOf (rest ++ vs.take i).toArray n') :: led) rfl (by assumption) (by assumption) (.tail _ hl) ⟨G, rfl⟩ (fun _ _ _ h => h) ?_ ?_ ?_ ?_)
  · rintro i m₁ nx ⟨_, n', rfl⟩
    exact .tail _ hl
  · refine ⟨fun y hy => ?_, n, by simp⟩
    (repeat' split) <;> first | rfl | (rename y = _ => e; rw [e]; first | exact mnd.symm | exact mnl.symm)
  · rintro I i v m₁ nx s₁ oI ⟨G1, os1⟩ hi hv ⟨hm, n', rfl⟩ hI F1 N1
    have hIn : @Ne Nat nl I := hI _ (.head _)
    rw [know2 ((hm _ (by decide)).trans mnl) ((hm _ (by decide)).trans mnl)] at F1 hm
    clear hQ
    k_steps
    (rename News _ _ _ _ => N9); (rename Fr _ _ _ _ => F9)
    refine .intro ⟨G1, os1⟩ F9 N9 (fun p hp => ?_) ⟨fun y hy => by simpa [hy] using hm y hy, n' + 1, ?_⟩
    · rcases List.mem_cons.mp hp with rfl | hp
      · exact hIn
      · exact hI p (.tail _ hp)
    · rw [List.take_add_one, hv]
      simp
  · rintro m₁ nx s₁ ⟨G1, os1⟩ ⟨hm, n', rfl⟩ F1 N1
    rw [List.take_length] at N1
    k_steps
    exact hQ _ _ _ G1 os1 F1 hm N1
end
end
section
open PyProof.Rows.LCg
abbrev nodeD (h1 h2 : Int) (u1 u2 tk : Tok) (dn : Nat) (l : Addr) (lab : Str) : Obj := dictOf [⟨h1, .str (Str.ofString "_children") u1, .ref l⟩, ⟨h2, .str (Str.ofString "_label") u2, .str lab tk⟩] dn
abbrev uncA (dp un : Nat) (gd : Option (List Code)) (cn : Str) (cs : Scope) (L₀ a : Addr) (ccd : Value) (cl : List (Str × Addr)) (outer : List Env) (L : Addr) : Around := (ktrTop dp un gd cn cs L₀ a ccd cl outer).deeper (uncEnv L)
abbrev uncP : Program := PySem.Challenge.rw_ao0012_01.row.prog
/-- the frame of un_chomsky knows its names -/
structure UM (m : Str → Option Value) (x nl : Addr) (b : Bool) (c2 c3 : Str) : Prop where
  nd : m (Str.ofString "node") = some (.ref x)
  nl : m (Str.ofString "nodeList") = some (.ref nl)
  ex : m (Str.ofString "expandUnary") = some (.bool b)
  pc : ∃ t, m (Str.ofString "parentChar") = some (.str c2 t)
  uc : ∃ t, m (Str.ofString "unaryChar") = some (.str c3 t)
theorem UM.to {m m' : Str → Option Value} {x nl : Addr} {b : Bool} {c2 c3 : Str} (h : UM m x nl b c2 c3) (e : ∀ y, y ≠ Str.ofString "child" → y ≠ Str.ofString "stack" → y ≠ Str.ofString "newChildren" → y ≠ Str.ofString "parentIndex" → y ≠ Str.ofString "unaryIndex" → y ≠ Str.ofString "newNode" → m' y = m y) : UM m' x nl b c2 c3 := by
  obtain ⟨a1, a2, a3, ⟨t, a4⟩, ⟨t', a5⟩⟩ := h
  refine ⟨?_, ?_, ?_, ⟨t, ?_⟩, ⟨t', ?_⟩⟩
  · rw [e _ (by decide) (by decide) (by decide) (by decide) (by decide) (by decide)]; exact a1
  · rw [e _ (by decide) (by decide) (by decide) (by decide) (by decide) (by decide)]; exact a2
  · rw [e _ (by decide) (by decide) (by decide) (by decide) (by decide) (by decide)]; exact a3
  · rw [e _ (by decide) (by decide) (by decide) (by decide) (by decide) (by decide)]; exact a4
  · rw [e _ (by decide) (by decide) (by decide) (by decide) (by decide) (by decide)]; exact a5


theorem ac {α : Type} {P : α → Prop} {a : α} {l : List α} (h : P a) (h2 : ∀ p ∈ l, P p) : ∀ p ∈ a :: l, P p := List.forall_mem_cons.2 ⟨h, h2⟩
theorem uc {α : Type} {P : α → Prop} {a : α} {l : List α} (h : ∀ p ∈ a :: l, P p) : P a ∧ ∀ p ∈ l, P p := List.forall_mem_cons.1 h

theorem unc_all {w : World} {mean : ExcName → Option Value} {mg mb : Str → Option Value} {dp un : Nat} {gd : Option (List Code)} {cn : Str} {cs : Scope} {a : Addr} {ccd : Value} {cl : List (Str × Addr)} {outer : List Env}
   {base g : Heap} {L₀ L : Addr} {m : Str → Option Value} {s : Shared} {Q : Flow → Shared → Prop} {x dx l nl : Addr} {n ln dn : Nat} {h1 h2 : Int} {u1 u2 tk : Tok} {lab c1 c2 c3 : Str} {tc : Tok} {b : Bool} {k : AT} {oc : Obj} {ps : Array Value} {rest : List Value} {led : List (Addr × Obj)}
   (B : Below (ktrTop dp un gd cn cs L₀ a ccd cl outer) base (envX cn cs L₀ a ccd cl :: outer) g) (F : Fr g L s.heap m) (X : (hd.heap_39 w.params).In g) (T : Top topProg LV mean mg mb g) (hdp : dp + 100 < recursionLimit) (hun : un + 100 < cLine)
   (CH : CodeHd g 161 159) (G : AllBare s.gens) (U : UM m x nl b c2 c3) (hmc : (L + 1, oc) ∈ led) (hoc : oc.data = .cell (some (.str c1 tc))) (hled : ∀ q ∈ k.led, q ∈ led) (hlen : lab.length ≤ 100) (hlen2 : (cutA lab c2).length ≤ 100)
   (hdl : ∀ p ∈ led, p.1 ≠ dx) (hpl : ∀ p ∈ led, p.1 ≠ 159) (hnl : ∀ p ∈ led, p.1 ≠ nl) (xp : @Ne Nat x 159) (dp' : @Ne Nat dx 159) (lp : @Ne Nat l 159) (xd : @Ne Nat x dx) (ld : @Ne Nat l dx) (np : @Ne Nat nl 159) (nd : @Ne Nat nl dx) (nx : @Ne Nat nl x) (nll : @Ne Nat nl l)
   (hsz : rest.length + k.count + 1 ≤ 1000000) (htab : TabOk (posOf uncGen) ps)
   (N : News g L s.heap ((nl, listOf rest.toArray n) :: (159, tabObj ps) :: (x, instObj 145 dx) :: (dx, nodeD h1 h2 u1 u2 tk dn l lab) :: (l, listOf k.vals.toArray ln) :: led))
   (hQ1 : (b = false ∨ Txt.find (cutA lab c2) c3 = -1) → ∀ s' m' n' l' ln' ps' tk', AllBare s'.gens → s'.os = s.os → Fr g L s'.heap m' → UM m' x nl b c2 c3 → TabOk (posOf uncGen) ps' →
     (l' = l ∨ ((∀ q ∈ led, q.1 < l') ∧ @LT.lt Nat _ nl l' ∧ @LT.lt Nat _ x l' ∧ @LT.lt Nat _ dx l' ∧ @LT.lt Nat _ l l')) →
     News g L s'.heap ((nl, listOf (rest ++ (k.kept c1).vals).toArray n') :: (159, tabObj ps') :: (x, instObj 145 dx) :: (dx, nodeD h1 h2 u1 u2 tk' dn l' (cutA lab c2)) :: (l', listOf (k.kept c1).vals.toArray ln') :: (l, listOf k.vals.toArray ln) :: led) → Q .next s')
   (hQ2 : b = true → Txt.find (cutA lab c2) c3 ≠ -1 → ∀ s' m' n' l' ln' ps' tk' l3 l2 x2 d2 n2 n3 dn2 h1' h2' u1' u2' tk1, AllBare s'.gens → s'.os = s.os → Fr g L s'.heap m' → UM m' x nl b c2 c3 → TabOk (posOf uncGen) ps' →
     (l' = l ∨ ((∀ q ∈ led, q.1 < l') ∧ @LT.lt Nat _ nl l' ∧ @LT.lt Nat _ x l' ∧ @LT.lt Nat _ dx l' ∧ @LT.lt Nat _ l l')) →
     (∀ q ∈ led, q.1 < d2) → @LT.lt Nat _ nl d2 → @LT.lt Nat _ x d2 → @LT.lt Nat _ dx d2 → @LT.lt Nat _ l d2 → @LT.lt Nat _ l' d2 → @LT.lt Nat _ 159 d2 → @LT.lt Nat _ d2 x2 → @LT.lt Nat _ x2 l2 → @LT.lt Nat _ l2 l3 →
     News g L s'.heap ((nl, listOf (rest ++ [Value.ref x2]).toArray n') :: (159, tabObj ps') :: (l3, listOf #[Value.ref x2] n3) :: (l2, listOf (k.kept c1).vals.toArray n2) :: (x2, instObj 145 d2) :: (d2, nodeD h1' h2' u1' u2' tk1 dn2 l2 (Txt.slice (cutA lab c2) (some (Txt.find (cutA lab c2) c3 + 1)) none)) ::
       (x, instObj 145 dx) :: (dx, nodeD h1 h2 u1 u2 tk' dn l3 (Txt.slice (cutA lab c2) none (some (Txt.find (cutA lab c2) c3)))) :: (l', listOf (k.kept c1).vals.toArray ln') :: (l, listOf k.vals.toArray ln) :: led) → Q .next s') :
   wpAny (model PySem.Challenge.rw_ao0012_01.row.prog w) ((ktrTop dp un gd cn cs L₀ a ccd cl outer).deeper (uncEnv L)) (execs uncIn (uncEnv L)) Q (fun _ _ => False) s := by
  have e : uncIn = uncAny :: uncIn.drop 1 := by with_unfolding_all rfl
  rw [e]
  have hkc := k.kept_count c1
  have hkv := (k.kept c1).vals_count
  obtain ⟨N_nl, N⟩ := uc N
  obtain ⟨N_ps, N⟩ := uc N
  obtain ⟨N_x, N⟩ := uc N
  obtain ⟨N_dx, N⟩ := uc N
  obtain ⟨N_l, N_led⟩ := uc N
  refine wpAny_execs_cons (unc_anyS (led := (nl, listOf rest.toArray n) :: (l, listOf k.vals.toArray ln) :: led) B F X T hdp hun CH G U.nd (.tail _ (.tail _ hmc)) hoc (fun q hq => .tail _ (.tail _ (hled q hq))) (by omega)
    (ac nd (ac ld hdl)) (ac np (ac lp hpl)) xp dp' lp xd ld htab (ac N_ps (ac N_x (ac N_dx (ac N_l (ac N_nl (ac N_l N_led)))))) ?_)
  intro s1 m1 l' ln' ps' G1 os1 F1 hm1 tab1 l159 hl' N1
  dsimp only
  have U1 : UM m1 x nl b c2 c3 := U.to fun y y1 y2 y3 _ _ _ => hm1 y y1 y2 y3
  have hl'2 : (l' = l ∨ ((∀ q ∈ led, q.1 < l') ∧ @LT.lt Nat _ nl l' ∧ @LT.lt Nat _ x l' ∧ @LT.lt Nat _ dx l' ∧ @LT.lt Nat _ l l')) := by
    rcases hl' with h | ⟨h, h2, h3⟩
    · exact .inl h
    · exact .inr ⟨fun q hq => h q (.tail _ (.tail _ hq)), h _ (.head _), h2, h3, h _ (.tail _ (.head _))⟩
  have ld' : @Ne Nat l' dx := by
    rcases hl'2 with h | h
    · rw [h]; exact ld
    · exact Nat.ne_of_gt h.2.2.2.1
  have nl' : @Ne Nat nl l' := by
    rcases hl'2 with h | h
    · rw [h]; exact nll
    · exact Nat.ne_of_lt h.2.1
  obtain ⟨N1_ps, N1⟩ := uc N1
  obtain ⟨N1_x, N1⟩ := uc N1
  obtain ⟨N1_dx, N1⟩ := uc N1
  obtain ⟨N1_l', N1⟩ := uc N1
  obtain ⟨N1_nl, N1⟩ := uc N1
  obtain ⟨N1_l, N1_led⟩ := uc N1
  obtain ⟨tp, pc1⟩ := U1.pc
  refine unc_cut (led := (159, tabObj ps') :: (l', listOf (k.kept c1).vals.toArray ln') :: (nl, listOf rest.toArray n) :: (l, listOf k.vals.toArray ln) :: led) B F1 X T hdp hun U1.nd pc1 hlen (ac (Ne.symm dp') (ac ld' (ac nd (ac ld hdl)))) xd (ac N1_x (ac N1_dx (ac N1_ps (ac N1_l' (ac N1_nl (ac N1_l N1_led)))))) ?_
  intro h2h m2 tk2 tkl F2 hm2 N2
  have U2 : UM m2 x nl b c2 c3 := U1.to fun y _ _ _ y4 _ _ => hm2 y y4
  obtain ⟨N2_x, N2⟩ := uc N2
  obtain ⟨N2_dx, N2⟩ := uc N2
  obtain ⟨N2_ps, N2⟩ := uc N2
  obtain ⟨N2_l', N2⟩ := uc N2
  obtain ⟨N2_nl, N2⟩ := uc N2
  obtain ⟨N2_l, N2_led⟩ := uc N2
  obtain ⟨tu, uc2⟩ := U2.uc
  refine unc_un (vs := (k.kept c1).vals) (l := l') (led := (159, tabObj ps') :: (nl, listOf rest.toArray n) :: (l, listOf k.vals.toArray ln) :: led) B F2 X T hdp hun U2.nd uc2 U2.ex hlen2 (by omega) (ac (Ne.symm dp') (ac nd (ac ld hdl))) xd ld' (ac N2_x (ac N2_dx (ac N2_l' (ac N2_ps (ac N2_nl (ac N2_l N2_led)))))) ?_ ?_
  · intro h3 m3 tk3 hcond F3 hm3 N3
    have U3 : UM m3 x nl b c2 c3 := U2.to fun y _ _ _ _ y5 y6 => hm3 y y5 y6
    obtain ⟨N3_x, N3⟩ := uc N3
    obtain ⟨N3_dx, N3⟩ := uc N3
    obtain ⟨N3_l', N3⟩ := uc N3
    obtain ⟨N3_ps, N3⟩ := uc N3
    obtain ⟨N3_nl, N3⟩ := uc N3
    obtain ⟨N3_l, N3_led⟩ := uc N3
    refine unc_for (x := x) (dx := dx) (l := l') (rest := rest) (vs := (k.kept c1).vals) (led := (x, instObj 145 dx) :: (dx, nodeD h1 h2 u1 u2 tkl dn l' (cutA lab c2)) :: (l', listOf (k.kept c1).vals.toArray ln') :: (159, tabObj ps') :: (l, listOf k.vals.toArray ln) :: led) B F3 X T hdp hun G1 U3.nd U3.nl (by omega) (ac (Ne.symm nx) (ac (Ne.symm nd) (ac (Ne.symm nl') (ac (Ne.symm np) (ac (Ne.symm nll) hnl))))) (.head _) (.tail _ (.head _)) (.tail _ (.tail _ (.head _))) (ac N3_nl (ac N3_x (ac N3_dx (ac N3_l' (ac N3_ps (ac N3_l N3_led)))))) ?_
    intro s4 m4 n4 G4 os4 F4 hm4 N4
    obtain ⟨N4_nl, N4⟩ := uc N4
    obtain ⟨N4_x, N4⟩ := uc N4
    obtain ⟨N4_dx, N4⟩ := uc N4
    obtain ⟨N4_l', N4⟩ := uc N4
    obtain ⟨N4_ps, N4⟩ := uc N4
    exact hQ1 hcond s4 m4 n4 l' ln' ps' tkl G4 (os4.trans os1) F4 (U3.to fun y y1 _ _ _ _ _ => hm4 y y1) tab1 hl'2 (ac N4_nl (ac N4_ps (ac N4_x (ac N4_dx (ac N4_l' N4)))))
  · intro h3 m3 tk3 l3 l2 x2 d2 n2 n3 dn2 h1' h2' u1' u2' tk1 tk2' hb hf F3 hm3 o1 o2 o3 o4 o5 o6 o7 N3
    have U3 : UM m3 x nl b c2 c3 := U2.to fun y _ _ _ _ y5 y6 => hm3 y y5 y6
    have q159 : @LT.lt Nat _ 159 d2 := o1 (159, tabObj ps') (.head _)
    have qnl : @LT.lt Nat _ nl d2 := o1 _ (.tail _ (.head _))
    have ql : @LT.lt Nat _ l d2 := o1 _ (.tail _ (.tail _ (.head _)))
    have qd : @LT.lt Nat _ d2 l3 := Nat.lt_trans o5 (Nat.lt_trans o6 o7)
    have e3 : @Ne Nat l3 nl := Nat.ne_of_gt (Nat.lt_trans qnl qd)
    have e2 : @Ne Nat l2 nl := Nat.ne_of_gt (Nat.lt_trans qnl (Nat.lt_trans o5 o6))
    have e1 : @Ne Nat x2 nl := Nat.ne_of_gt (Nat.lt_trans qnl o5)
    have e0 : @Ne Nat d2 nl := Nat.ne_of_gt qnl
    obtain ⟨N3_l3, N3⟩ := uc N3
    obtain ⟨N3_l2, N3⟩ := uc N3
    obtain ⟨N3_x2, N3⟩ := uc N3
    obtain ⟨N3_d2, N3⟩ := uc N3
    obtain ⟨N3_x, N3⟩ := uc N3
    obtain ⟨N3_dx, N3⟩ := uc N3
    obtain ⟨N3_l', N3⟩ := uc N3
    obtain ⟨N3_ps, N3⟩ := uc N3
    obtain ⟨N3_nl, N3⟩ := uc N3
    obtain ⟨N3_l, N3_led⟩ := uc N3
    refine unc_for (x := x) (dx := dx) (l := l3) (rest := rest) (vs := [Value.ref x2]) (led := (x, instObj 145 dx) :: (dx, nodeD h1 h2 u1 u2 tk2' dn l3 (Txt.slice (cutA lab c2) none (some (Txt.find (cutA lab c2) c3)))) :: (l3, listOf #[Value.ref x2] n3) :: (159, tabObj ps') :: (l2, listOf (k.kept c1).vals.toArray n2) :: (x2, instObj 145 d2) :: (d2, nodeD h1' h2' u1' u2' tk1 dn2 l2 (Txt.slice (cutA lab c2) (some (Txt.find (cutA lab c2) c3 + 1)) none)) ::
       (l', listOf (k.kept c1).vals.toArray ln') :: (l, listOf k.vals.toArray ln) :: led) B F3 X T hdp hun G1 U3.nd U3.nl (by simp only [List.length_cons, List.length_nil]; omega)
       (ac (Ne.symm nx) (ac (Ne.symm nd) (ac e3 (ac (Ne.symm np) (ac e2 (ac e1 (ac e0 (ac (Ne.symm nl') (ac (Ne.symm nll) hnl)))))))))
       (.head _) (.tail _ (.head _)) (.tail _ (.tail _ (.head _)))
       (ac N3_nl (ac N3_x (ac N3_dx (ac N3_l3 (ac N3_ps (ac N3_l2 (ac N3_x2 (ac N3_d2 (ac N3_l' (ac N3_l N3_led)))))))))) ?_
    intro s4 m4 n4 G4 os4 F4 hm4 N4
    obtain ⟨N4_nl, N4⟩ := uc N4
    obtain ⟨N4_x, N4⟩ := uc N4
    obtain ⟨N4_dx, N4⟩ := uc N4
    obtain ⟨N4_l3, N4⟩ := uc N4
    obtain ⟨N4_ps, N4⟩ := uc N4
    obtain ⟨N4_l2, N4⟩ := uc N4
    obtain ⟨N4_x2, N4⟩ := uc N4
    obtain ⟨N4_d2, N4⟩ := uc N4
    exact hQ2 hb hf s4 m4 n4 l' ln' ps' tk2' l3 l2 x2 d2 n2 n3 dn2 h1' h2' u1' u2' tk1 G4 (os4.trans os1) F4 (U3.to fun y y1 _ _ _ _ _ => hm4 y y1) tab1 hl'2
      (fun q hq => o1 q (.tail _ (.tail _ (.tail _ hq)))) qnl o2 o3 ql o4 q159 o5 o6 o7 (ac N4_nl (ac N4_ps (ac N4_l3 (ac N4_l2 (ac N4_x2 (ac N4_d2 (ac N4_x (ac N4_dx N4))))))))
end
section
open PyProof.Rows.LCg
structure UML (m : Str → Option Value) (nl : Addr) (b : Bool) (c2 c3 : Str) : Prop where
  nl : m (Str.ofString "nodeList") = some (.ref nl)
  ex : m (Str.ofString "expandUnary") = some (.bool b)
  pc : ∃ t, m (Str.ofString "parentChar") = some (.str c2 t)
  uc : ∃ t, m (Str.ofString "unaryChar") = some (.str c3 t)
theorem UM.l {m : Str → Option Value} {x nl : Addr} {b : Bool} {c2 c3 : Str} (h : UM m x nl b c2 c3) : UML m nl b c2 c3 := ⟨h.nl, h.ex, h.pc, h.uc⟩
theorem know4 {m : Str → Option Value} {x1 x2 x3 x4 : Str} {v1 v2 v3 v4 : Value} (e1 : m x1 = some v1) (e2 : m x2 = some v2) (e3 : m x3 = some v3) (e4 : m x4 = some v4) :
    m = (fun y => if y = x1 then some v1 else if y = x2 then some v2 else if y = x3 then some v3 else if y = x4 then some v4 else m y) := by
  funext y; (repeat' split) <;> simp_all
section
local macro_rules | `(tactic| walk_at "call builtin:list.append") => `(tactic| (k_here; (with_reducible show wpAny _ _ (call (Value.builtin _) [Value.ref _, _]) _ _ _); k_dflt (refine' append_K ?k1 ?k2 ?k3 ?_ ?z; (case k1 => k_asm); (case k2 => k_asm); (case k3 => k_upd); (case z => first | assumption | ((try simp only [List.size_toArray, List.length_append, List.length_cons, List.length_nil, List.length_reverse, List.length_take]); omega)); k_whole); intro h' F' N'; (try k_sweep)))

local macro_rules | `(tactic| walk_at "exec If") => `(tactic| (refine held ?_))
local macro_rules | `(tactic| walk_at "WhlRest") => `(tactic| (refine held ?_))
theorem if_known {M : Model} {A : Around} {env : Env} {test : PySem.Expr} {body orelse : List Stmt} {pos : Pos} {Q : Flow → Shared → Prop} {E : Value → Shared → Prop} {s : Shared}
    (h : wpAny M A (isTrue test env (eval test env)) (fun b s₂ => b = true ∧ s₂ = s) E s) (k : wpAny M A (execs body env) Q E s) : wpAny M A (exec (.If test body orelse pos) env) Q E s :=
  wpAny_If (wpAny_mono h (fun b s₂ h => by obtain ⟨rfl, rfl⟩ := h; rw [if_pos rfl]; exact k) fun _ _ h => h)

set_option maxRecDepth 100000 in
set_option maxHeartbeats 8000000 in
theorem turn_leaf : ∀ {w : World} {mean : ExcName → Option Value} {mg mb : Str → Option Value} {dp un : Nat} {gd : Option (List Code)} {cn : Str} {cs : Scope} {a : Addr} {ccd : Value} {cl : List (Str × Addr)} {outer : List Env}
   {base g : Heap} {L₀ L : Addr} {m : Str → Option Value} {s : Shared} {Q : Flow → Shared → Prop} {nl : Addr} {b : Bool} {c2 c3 : Str} {rest : List Value} {sx : Str} {tkx : Tok} {n : Nat} {led : List (Addr × Obj)},
   Below (ktrTop dp un gd cn cs L₀ a ccd cl outer) base (envX cn cs L₀ a ccd cl :: outer) g → Fr g L s.heap m → (hd.heap_39 w.params).In g → Top topProg LV mean mg mb g → dp + 100 < recursionLimit → un + 100 < cLine → AllBare s.gens →
   UML m nl b c2 c3 → rest.length + 1 ≤ 1000000 → (∀ p ∈ led, p.1 ≠ nl) →
   News g L s.heap ((nl, listOf (rest ++ [Value.str sx tkx]).toArray n) :: led) →
   (∀ s' m' n', AllBare s'.gens → s'.os = s.os → Fr g L s'.heap m' → UML m' nl b c2 c3 → News g L s'.heap ((nl, listOf rest.toArray n') :: led) → WhlRest PySem.Challenge.rw_ao0012_01.row.prog w ((ktrTop dp un gd cn cs L₀ a ccd cl outer).deeper (uncEnv L)) (fun _ _ => False) (uncEnv L) (testOf uncWhile) (bodyOf uncWhile) [] Q 0 s') →
   WhlRest PySem.Challenge.rw_ao0012_01.row.prog w ((ktrTop dp un gd cn cs L₀ a ccd cl outer).deeper (uncEnv L)) (fun _ _ => False) (uncEnv L) (testOf uncWhile) (bodyOf uncWhile) [] Q 0 s := by
  k_fill
  intro w mean mg mb dp un gd cn cs a ccd cl outer base g L₀ L m s Q nl b c2 c3 rest sx tkx n led B F X T hdp hun G U hlen hnl N hQ
  have hsl : sizeLine = 16777216 := rfl
  obtain ⟨mnl, mex, ⟨tp, mpc⟩, tu, muc⟩ := U
  rw [know4 mnl mex mpc muc] at F
  refine whl_turn (k := 0) .never ?_
  generalize hT : testOf uncWhile = tT at hQ ⊢
  generalize hB : bodyOf uncWhile = tB at hQ ⊢
  (with_unfolding_all conv at hT => lhs; whnf)
  (with_unfolding_all conv at hB => lhs; whnf)
  subst hT hB
  k_steps
  refine WhlIf.yes (by simp) ?_
  k_steps
  (rename News _ _ _ _ => N10); (rename Fr _ _ _ _ => F10)
  refine unheld (wpAny_If ?_)
  k_steps
  refine unheld ?_
  refine hQ _ _ _ G rfl F10 ⟨?_, ?_, ⟨tp, ?_⟩, tu, ?_⟩ N10 <;> first | rfl | (rw [if_neg (by decide)]; rfl)

set_option maxRecDepth 100000 in
set_option maxHeartbeats 8000000 in
theorem turn_nil : ∀ {w : World} {mean : ExcName → Option Value} {mg mb : Str → Option Value} {dp un : Nat} {gd : Option (List Code)} {cn : Str} {cs : Scope} {a : Addr} {ccd : Value} {cl : List (Str × Addr)} {outer : List Env}
   {base g : Heap} {L₀ L : Addr} {m : Str → Option Value} {s : Shared} {Q : Flow → Shared → Prop} {nl : Addr} {n : Nat} {led : List (Addr × Obj)},
   Below (ktrTop dp un gd cn cs L₀ a ccd cl outer) base (envX cn cs L₀ a ccd cl :: outer) g → Fr g L s.heap m → (hd.heap_39 w.params).In g → Top topProg LV mean mg mb g → dp + 100 < recursionLimit → un + 100 < cLine → 
   m (Str.ofString "nodeList") = some (.ref nl) → 
   News g L s.heap ((nl, listOf #[] n) :: led) → (∀ s', s'.heap = s.heap → s'.gens = s.gens → s'.os = s.os → Q .next s') →
   WhlRest PySem.Challenge.rw_ao0012_01.row.prog w ((ktrTop dp un gd cn cs L₀ a ccd cl outer).deeper (uncEnv L)) (fun _ _ => False) (uncEnv L) (testOf uncWhile) (bodyOf uncWhile) [] Q 0 s := by
  k_fill
  intro w mean mg mb dp un gd cn cs a ccd cl outer base g L₀ L m s Q nl n led B F X T hdp hun mnl N hQ
  have hsl : sizeLine = 16777216 := rfl
  rw [know2 mnl mnl] at F
  refine whl_turn (k := 0) .never ?_
  generalize hT : testOf uncWhile = tT
  generalize hB : bodyOf uncWhile = tB
  (with_unfolding_all conv at hT => lhs; whnf)
  (with_unfolding_all conv at hB => lhs; whnf)
  subst hT hB
  k_steps
  exact hQ _ rfl rfl rfl

set_option maxRecDepth 100000 in
set_option maxHeartbeats 8000000 in
theorem turn_node : ∀ {w : World} {mean : ExcName → Option Value} {mg mb : Str → Option Value} {dp un : Nat} {gd : Option (List Code)} {cn : Str} {cs : Scope} {a : Addr} {ccd : Value} {cl : List (Str × Addr)} {outer : List Env}
   {base g : Heap} {L₀ L : Addr} {m : Str → Option Value} {s : Shared} {Q : Flow → Shared → Prop} {nl x dx : Addr} {b : Bool} {c2 c3 : Str} {rest : List Value} {n dn : Nat} {h1 h2 : Int} {u1 u2 tk : Tok} {l : Addr} {lab : Str} {led : List (Addr × Obj)},
   Below (ktrTop dp un gd cn cs L₀ a ccd cl outer) base (envX cn cs L₀ a ccd cl :: outer) g → Fr g L s.heap m → (hd.heap_39 w.params).In g → Top topProg LV mean mg mb g → dp + 100 < recursionLimit → un + 100 < cLine → AllBare s.gens →
   UML m nl b c2 c3 → rest.length + 1 ≤ 1000000 → (∀ p ∈ led, p.1 ≠ nl) → (x, instObj 145 dx) ∈ led → (dx, nodeD h1 h2 u1 u2 tk dn l lab) ∈ led →
   News g L s.heap ((nl, listOf (rest ++ [Value.ref x]).toArray n) :: led) →
   (∀ s' m' n', AllBare s'.gens → s'.os = s.os → Fr g L s'.heap m' → UM m' x nl b c2 c3 → News g L s'.heap ((nl, listOf rest.toArray n') :: led) → 
     wpAny (model PySem.Challenge.rw_ao0012_01.row.prog w) ((ktrTop dp un gd cn cs L₀ a ccd cl outer).deeper (uncEnv L)) (execs uncIn (uncEnv L)) (fun f s'' => f = .next ∧ WhlRest PySem.Challenge.rw_ao0012_01.row.prog w ((ktrTop dp un gd cn cs L₀ a ccd cl outer).deeper (uncEnv L)) (fun _ _ => False) (uncEnv L) (testOf uncWhile) (bodyOf uncWhile) [] Q 0 s'') (fun _ _ => False) s') →
   WhlRest PySem.Challenge.rw_ao0012_01.row.prog w ((ktrTop dp un gd cn cs L₀ a ccd cl outer).deeper (uncEnv L)) (fun _ _ => False) (uncEnv L) (testOf uncWhile) (bodyOf uncWhile) [] Q 0 s := by
  k_fill
  intro w mean mg mb dp un gd cn cs a ccd cl outer base g L₀ L m s Q nl x dx b c2 c3 rest n dn h1 h2 u1 u2 tkd l lab led B F X T hdp hun G U hlen hnl hx hdx N hQ
  have hsl : sizeLine = 16777216 := rfl
  obtain ⟨mnl, mex, ⟨tp, mpc⟩, tu, muc⟩ := U
  have hxn : @Ne Nat x nl := hnl _ hx
  rw [know4 mnl mex mpc muc] at F
  refine whl_turn (k := 0) .never ?_
  generalize hT : testOf uncWhile = tT at hQ ⊢
  generalize hB : bodyOf uncWhile = tB at hQ ⊢
  (with_unfolding_all conv at hT => lhs; whnf)
  (with_unfolding_all conv at hB => lhs; whnf)
  subst hT hB
  k_steps
  refine WhlIf.yes (by simp) ?_
  k_steps
  (rename News _ _ _ _ => N10); (rename Fr _ _ _ _ => F10)
  refine unheld (if_known ?_ ?_)
  · k_steps
    skip
  have hq := fun h tk => hQ { heap := h, gens := s.gens, drawn := s.drawn, toks := tk, os := s.os }
  refine wpAny_mono (by with_unfolding_all exact hq _ _ _ _ G rfl F10 (by refine ⟨?_, ?_, ?_, ⟨tp, ?_⟩, tu, ?_⟩ <;> first | rfl | (rw [if_neg (by decide)]; rfl)) N10) (fun f s'' h => ?_) (fun _ _ h => h)
  obtain ⟨rfl, h⟩ := h
  k_steps
  exact unheld h
end
end
section
open PyProof.Rows.LCg
abbrev mkS (l : List Nat) : Str := ⟨l.toArray⟩
theorem mkS_surj (s : Str) : ∃ l, s = mkS l := ⟨s.cps.toList, by cases s; rfl⟩
theorem mkS_len (l : List Nat) : (mkS l).length = l.length := by simp [Str.length]
theorem at_one (l : List Nat) (v i : Nat) : StrLaws.At (mkS l) (mkS [v]) l.length i ↔ l[i]? = some v := by
  unfold StrLaws.At Builtin.Str.subAt
  rw [mkS_len]
  simp only [mkS, List.length_cons, List.length_nil, beq_iff_eq]
  constructor
  · rintro ⟨h1, h2⟩
    have h3 := congrArg (fun a => a[0]?) h2
    simp only [Array.getElem?_extract] at h3
    have : 0 < min (i + 1) l.toArray.size - i := by simp; omega
    rw [if_pos this] at h3
    simpa using h3
  · intro h
    obtain ⟨hi, rfl⟩ := List.getElem?_eq_some_iff.mp h
    refine ⟨by omega, ?_⟩
    apply Array.ext
    · simp [Str.length]; omega
    · intro j h1 h2
      have : j = 0 := by simp [Str.length] at h2; omega
      subst this
      simp
theorem find1 (l : List Nat) (v : Nat) : (Txt.find (mkS l) (mkS [v]) = -1 ∧ v ∉ l) ∨ ∃ a b, l = a ++ v :: b ∧ v ∉ a ∧ Txt.find (mkS l) (mkS [v]) = (a.length : Int) := by
  have h := StrLaws.occ_head (mkS l) (mkS [v]) 1 (Nat.le_refl _)
  unfold Txt.find
  rw [mkS_len] at h ⊢
  rcases h with ⟨h1, h2⟩ | ⟨i, r, h1, h2, h3⟩
  · refine .inl ⟨by rw [h1], fun hv => ?_⟩
    obtain ⟨i, hi⟩ := List.mem_iff_getElem?.mp hv
    exact h2 i ((at_one l v i).2 hi)
  · rw [at_one] at h2
    obtain ⟨hi, e⟩ := List.getElem?_eq_some_iff.mp h2
    refine .inr ⟨l.take i, l.drop (i + 1), ?_, fun hv => ?_, ?_⟩
    · rw [← e, ← List.drop_eq_getElem_cons hi, List.take_append_drop]
    · obtain ⟨k, hk⟩ := List.mem_iff_getElem?.mp hv
      have hki : k < i := by
        have := (List.getElem?_eq_some_iff.mp hk).1
        rw [List.length_take] at this; omega
      rw [List.getElem?_take, if_pos hki] at hk
      exact h3 k hki ((at_one l v k).2 hk)
    · rw [h1, List.length_take, Nat.min_eq_left (Nat.le_of_lt hi)]
theorem slice_to (l : List Nat) (k : Nat) (h : k ≤ l.length) : Txt.slice (mkS l) none (some (k : Int)) = mkS (l.take k) := by
  have := slice_closes_to (x := mkS l) (j := (k : Int)) ⟨by omega, by simpa using h⟩
  simpa using beq_iff_eq.mp this
theorem slice_from (l : List Nat) (k : Nat) (h : k ≤ l.length) : Txt.slice (mkS l) (some (k : Int)) none = mkS (l.drop k) := by
  have := slice_from_eq (x := mkS l) (i := (k : Int)) (b := (l.length : Int)) (by omega) (by rw [mkS_len]; omega) (by rw [mkS_len])
  rw [this]
  simp only [mkS, Int.toNat_natCast]
  rw [List.take_of_length_le]
  rw [List.length_drop]; omega
theorem cutA_len (lab c : Str) : (cutA lab c).length ≤ lab.length := by
  unfold cutA
  split
  · exact Nat.le_refl _
  · exact Txt.slice_le _ _ _
theorem tail_len {lab : Str} {v : Nat} (h : Txt.find lab (mkS [v]) ≠ -1) : (Txt.slice lab (some (Txt.find lab (mkS [v]) + 1)) none).length < lab.length := by
  obtain ⟨l, rfl⟩ := mkS_surj lab
  rcases find1 l v with ⟨h1, _⟩ | ⟨a, b, rfl, _, h2⟩
  · exact absurd h1 h
  · rw [h2]
    have := slice_from (a ++ v :: b) (a.length + 1) (by simp)
    rw [Int.natCast_add] at this
    rw [show (a.length : Int) + 1 = (a.length : Int) + ((1 : Nat) : Int) from rfl, this, mkS_len, mkS_len]
    simp
    omega
end
section
open PyProof.Rows.LCg
def Fo.wt : Fo → Nat
  | .nil => 0
  | .leaf _ r => r.wt + 1
  | .node lab k r => lab.length + k.wt + r.wt + 2
theorem Fo.wt_app : ∀ a b : Fo, (a.app b).wt = a.wt + b.wt
  | .nil, _ => by simp [Fo.app, Fo.wt]
  | .leaf _ r, b => by simp only [Fo.app, Fo.wt, r.wt_app]; omega
  | .node _ _ r, b => by simp only [Fo.app, Fo.wt, r.wt_app]; omega
theorem Fo.kept_wt (c : Str) : ∀ a : Fo, (a.kept c).wt ≤ a.wt
  | .nil => Nat.le_refl _
  | .leaf _ r => by have := r.kept_wt c; simp only [Fo.kept, Fo.wt]; omega
  | .node lab k r => by
    have h1 := k.kept_wt c
    have h2 := r.kept_wt c
    simp only [Fo.kept]
    split
    · rw [Fo.wt_app, Fo.wt]; omega
    · simp only [Fo.wt]; omega
theorem Fo.count_wt : ∀ a : Fo, a.count ≤ a.wt
  | .nil => Nat.le_refl _
  | .leaf _ r => by have := r.count_wt; simp only [Fo.count, Fo.wt]; omega
  | .node lab k r => by
    have h1 := k.count_wt
    have h2 := r.count_wt
    simp only [Fo.count, Fo.wt]; omega
/-- what the loop makes of a forest -/
inductive Unc (c1 c2 c3 : Str) (b : Bool) : Fo → Fo → Prop
  | nil : Unc c1 c2 c3 b .nil .nil
  | leaf {s : Str} {r r' : Fo} : Unc c1 c2 c3 b r r' → Unc c1 c2 c3 b (.leaf s r) (.leaf s r')
  | node {lab : Str} {k k' r r' : Fo} : (b = false ∨ Txt.find (cutA lab c2) c3 = -1) → Unc c1 c2 c3 b (k.kept c1) k' → Unc c1 c2 c3 b r r' → Unc c1 c2 c3 b (.node lab k r) (.node (cutA lab c2) k' r')
  | split {lab : Str} {k k' r r' : Fo} : b = true → Txt.find (cutA lab c2) c3 ≠ -1 → Unc c1 c2 c3 b (.node (Txt.slice (cutA lab c2) (some (Txt.find (cutA lab c2) c3 + 1)) none) (k.kept c1) .nil) k' → Unc c1 c2 c3 b r r' →
      Unc c1 c2 c3 b (.node lab k r) (.node (Txt.slice (cutA lab c2) none (some (Txt.find (cutA lab c2) c3))) k' r')
def ne3 (p : NP) (q : Nat) : Prop := @Ne Nat q p.x ∧ @Ne Nat q p.dx ∧ @Ne Nat q p.l
def AT.ND : AT → Prop
  | .nil => True
  | .leaf _ _ r => r.ND
  | .node p _ k r => (@Ne Nat p.x p.dx ∧ @Ne Nat p.x p.l ∧ @Ne Nat p.dx p.l) ∧ (∀ q ∈ k.led, ne3 p q.1) ∧ (∀ q ∈ r.led, ne3 p q.1) ∧ k.ND ∧ r.ND ∧ ∀ q ∈ k.led, ∀ q' ∈ r.led, @Ne Nat q.1 q'.1
theorem AT.ND_app : ∀ a b : AT, a.ND → b.ND → (∀ q ∈ a.led, ∀ q' ∈ b.led, @Ne Nat q.1 q'.1) → (a.app b).ND
  | .nil, _, _, h, _ => h
  | .leaf _ _ r, b, h1, h2, h3 => r.ND_app b h1 h2 h3
  | .node p lab k r, b, ⟨h1, h2, h3, h4, h5, h6⟩, hb, hd => by
    refine ⟨h1, h2, fun q hq => ?_, h4, r.ND_app b h5 hb (fun q hq => hd q (by simp [AT.led, hq])), fun q hq q' hq' => ?_⟩
    · rw [AT.led_app] at hq
      rcases List.mem_append.mp hq with hq | hq
      · exact h3 q hq
      · exact ⟨fun e => hd (p.x, instObj 145 p.dx) (by simp [AT.led, NP.led]) q hq e.symm, fun e => hd (p.dx, p.dict lab) (by simp [AT.led, NP.led]) q hq e.symm, fun e => hd (p.l, listOf k.vals.toArray p.ln) (by simp [AT.led, NP.led]) q hq e.symm⟩
    · rw [AT.led_app] at hq'
      rcases List.mem_append.mp hq' with hq' | hq'
      · exact h6 q hq q' hq'
      · exact hd q (by simp [AT.led, hq]) q' hq'
theorem AT.kept_mem {c : Str} {t : AT} {q : Addr × Obj} (h : q ∈ (t.kept c).led) : q ∈ t.led := (t.kept_led c).subset h
theorem AT.kept_ND (c : Str) : ∀ a : AT, a.ND → (a.kept c).ND
  | .nil, _ => trivial
  | .leaf _ _ r, h => r.kept_ND c h
  | .node p lab k r, ⟨h1, h2, h3, h4, h5, h6⟩ => by
    simp only [AT.kept]
    split
    · exact AT.ND_app _ _ (k.kept_ND c h4) (r.kept_ND c h5) fun q hq q' hq' => h6 q (AT.kept_mem hq) q' (AT.kept_mem hq')
    · exact ⟨h1, h2, fun q hq => h3 q (AT.kept_mem hq), h4, r.kept_ND c h5, fun q hq q' hq' => h6 q hq q' (AT.kept_mem hq')⟩
/-- one turn, as the loop needs it -/
structure Turn (Wst : List Value → List (Addr × Obj) → Prop) (nl : Addr) (c1 c2 c3 : Str) (b : Bool) (cell : Addr × Obj) : Prop where
  mono : ∀ {pend : List Value} {A B : List (Addr × Obj)}, (∀ p ∈ B, p ∈ A) → Wst pend B → Wst pend A
  leaf : ∀ {pend : List Value} {A : List (Addr × Obj)} {sx : Str} {tk : Tok}, pend.length + 1 ≤ 1000000 → (∀ p ∈ A, @Ne Nat p.1 nl) → Wst pend A → Wst (pend ++ [.str sx tk]) A
  node : ∀ {rest : List Value} {p : NP} {lab : Str} {k : AT} {led : List (Addr × Obj)}, cell ∈ led → (∀ q ∈ k.led, q ∈ led) → lab.length ≤ 100 → (cutA lab c2).length ≤ 100 →
    (∀ q ∈ led, @Ne Nat q.1 p.dx ∧ @Ne Nat q.1 159 ∧ @Ne Nat q.1 nl) → @Ne Nat p.x 159 → @Ne Nat p.dx 159 → @Ne Nat p.l 159 → @Ne Nat p.x p.dx → @Ne Nat p.l p.dx → @Ne Nat nl p.dx → @Ne Nat nl p.x → @Ne Nat nl p.l →
    rest.length + k.count + 1 ≤ 1000000 →
    ((b = false ∨ Txt.find (cutA lab c2) c3 = -1) → ∀ (l' : Addr) (ln' : Nat) (tk' : Tok), (l' = p.l ∨ ((∀ q ∈ led, @LT.lt Nat _ q.1 l') ∧ @LT.lt Nat _ nl l' ∧ @LT.lt Nat _ p.x l' ∧ @LT.lt Nat _ p.dx l' ∧ @LT.lt Nat _ p.l l')) →
      Wst (rest ++ (k.kept c1).vals) ((p.x, instObj 145 p.dx) :: (p.dx, nodeD p.h1 p.h2 p.t1 p.t2 tk' p.dn l' (cutA lab c2)) :: (l', listOf (k.kept c1).vals.toArray ln') :: led)) →
    (b = true → Txt.find (cutA lab c2) c3 ≠ -1 → ∀ (tk' : Tok) (l3 l2 x2 d2 : Addr) (n2 n3 dn2 : Nat) (h1' h2' : Int) (u1' u2' tk1 : Tok), (∀ q ∈ led, @LT.lt Nat _ q.1 d2) → @LT.lt Nat _ nl d2 → @LT.lt Nat _ p.x d2 → @LT.lt Nat _ p.dx d2 → @LT.lt Nat _ p.l d2 → @LT.lt Nat _ d2 x2 → @LT.lt Nat _ x2 l2 → @LT.lt Nat _ l2 l3 →
      Wst (rest ++ [Value.ref x2]) ((p.x, instObj 145 p.dx) :: (p.dx, nodeD p.h1 p.h2 p.t1 p.t2 tk' p.dn l3 (Txt.slice (cutA lab c2) none (some (Txt.find (cutA lab c2) c3)))) :: (l3, listOf #[Value.ref x2] n3) ::
        (x2, instObj 145 d2) :: (d2, nodeD h1' h2' u1' u2' tk1 dn2 l2 (Txt.slice (cutA lab c2) (some (Txt.find (cutA lab c2) c3 + 1)) none)) :: (l2, listOf (k.kept c1).vals.toArray n2) :: led)) →
    Wst (rest ++ [.ref p.x]) ((p.x, instObj 145 p.dx) :: (p.dx, p.dict lab) :: (p.l, listOf k.vals.toArray p.ln) :: led)
structure PostT (nl : Addr) (c1 c2 c3 : Str) (b : Bool) (t t' : AT) (LED : List (Addr × Obj)) : Prop where
  vals : t'.vals = t.vals
  unc : Unc c1 c2 c3 b t.fo t'.fo
  nd : t'.ND
  fresh : ∀ p ∈ t'.led, (∃ q ∈ t.led, @Eq Nat q.1 p.1) ∨ (∀ q ∈ LED, @LT.lt Nat _ q.1 p.1)
  good : ∀ p ∈ t'.led, @Ne Nat p.1 159 ∧ @Ne Nat p.1 nl
theorem loop {Wst : List Value → List (Addr × Obj) → Prop} {nl : Addr} {c1 c2 c3 : Str} {b : Bool} {cell : Addr × Obj} (T : Turn Wst nl c1 c2 c3 b cell) (h159 : @LT.lt Nat _ 159 nl) {cv : Nat} (hcv : c3 = mkS [cv]) : ∀ (N : Nat) (t : AT), t.fo.wt ≤ N → N ≤ 100 → ∀ (pend : List Value) (LED : List (Addr × Obj)), pend.length + N ≤ 1000000 → cell ∈ LED → t.ND → (∀ p ∈ t.led, ∀ q ∈ LED, @Ne Nat p.1 q.1) → (∀ p ∈ t.led, @Ne Nat p.1 159 ∧ @Ne Nat p.1 nl) → (∀ p ∈ LED, @Ne Nat p.1 159 ∧ @Ne Nat p.1 nl) →
    (∀ t', PostT nl c1 c2 c3 b t t' LED → Wst pend (t'.led ++ LED)) → Wst (pend ++ t.vals) (t.led ++ LED) := by
  intro N
  induction N using Nat.strongRecOn with
  | _ N IH =>
  intro t ht hN pend LED hp hcell hnd hdis hg1 hg2 K
  cases t with
  | nil =>
    have := K .nil ⟨rfl, .nil, trivial, fun p h => by simp [AT.led] at h, fun p h => by simp [AT.led] at h⟩
    simpa [AT.vals, AT.led] using this
  | leaf sx tk r =>
    have e : pend ++ (AT.leaf sx tk r).vals = (pend ++ [.str sx tk]) ++ r.vals := by simp [AT.vals]
    rw [e]
    simp only [AT.fo, Fo.wt] at ht
    simp only [AT.led] at hdis hg1 ⊢
    refine IH r.fo.wt (by omega) r (Nat.le_refl _) (by omega) _ LED (by simp only [List.length_append, List.length_cons, List.length_nil]; omega) hcell hnd hdis hg1 hg2 fun r' hr' => ?_
    refine T.leaf (by omega) (fun p hp => ?_) (K (.leaf sx tk r') ⟨?_, .leaf hr'.unc, hr'.nd, hr'.fresh, hr'.good⟩)
    · rcases List.mem_append.mp hp with hp | hp
      · exact (hr'.good p hp).2
      · exact (hg2 p hp).2
    · simp only [AT.vals, hr'.vals]
  | node p lab k r =>
    have e : pend ++ (AT.node p lab k r).vals = (pend ++ [.ref p.x]) ++ r.vals := by simp [AT.vals]
    rw [e]
    simp only [AT.fo, Fo.wt] at ht
    have hlab : lab.length ≤ 100 := by omega
    have hcl := cutA_len lab c2
    obtain ⟨⟨xd, xl, dl⟩, nk, nr, ndk, ndr, nkr⟩ := hnd
    have mp1 : (p.x, instObj 145 p.dx) ∈ (AT.node p lab k r).led := by simp [AT.led, NP.led]
    have mp2 : (p.dx, p.dict lab) ∈ (AT.node p lab k r).led := by simp [AT.led, NP.led]
    have mp3 : (p.l, listOf k.vals.toArray p.ln) ∈ (AT.node p lab k r).led := by simp [AT.led, NP.led]
    have mk : ∀ q ∈ k.led, q ∈ (AT.node p lab k r).led := fun q hq => by simp [AT.led, hq]
    have mr : ∀ q ∈ r.led, q ∈ (AT.node p lab k r).led := fun q hq => by simp [AT.led, hq]
    have gx := hg1 _ mp1
    have gd := hg1 _ mp2
    have gl := hg1 _ mp3
    dsimp only at gx gd gl
    have dx := hdis _ mp1
    have dd := hdis _ mp2
    have dL := hdis _ mp3
    dsimp only at dx dd dL
    have hkc : k.count ≤ k.fo.wt := by rw [← AT.count_fo]; exact Fo.count_wt _
    have hkw : (k.kept c1).fo.wt ≤ k.fo.wt := by rw [AT.kept_fo]; exact Fo.kept_wt _ _
    refine T.mono (B := r.led ++ (p.led lab k.vals ++ (k.led ++ LED))) (fun q hq => by simp only [AT.led, List.mem_append] at hq ⊢; rcases hq with h | h | h | h <;> simp [h]) ?_
    have LED1 : ∀ {P : Addr × Obj → Prop}, P (p.x, instObj 145 p.dx) → P (p.dx, p.dict lab) → P (p.l, listOf k.vals.toArray p.ln) → (∀ q ∈ k.led, P q) → (∀ q ∈ LED, P q) → ∀ q ∈ p.led lab k.vals ++ (k.led ++ LED), P q := by
      intro P a1 a2 a3 a4 a5
      exact ac a1 (ac a2 (ac a3 fun q hq => (List.mem_append.mp (show q ∈ k.led ++ LED from hq)).elim (a4 q) (a5 q)))
    refine IH r.fo.wt (by omega) r (Nat.le_refl _) (by omega) _ _ (by simp only [List.length_append, List.length_cons, List.length_nil]; omega) (by simp [hcell]) ndr ?_ (fun q hq => hg1 q (mr q hq)) (LED1 gx gd gl (fun q hq => hg1 q (mk q hq)) hg2) fun r' hr' => ?_
    · intro q hq
      exact LED1 (nr q hq).1 (nr q hq).2.1 (nr q hq).2.2 (fun q' hq' => (nkr q' hq' q hq).symm) (hdis q (mr q hq))
    -- r' against the others
    have r'fr : ∀ q ∈ r'.led, (∃ q0 ∈ r.led, @Eq Nat q0.1 q.1) ∨ (@LT.lt Nat _ p.x q.1 ∧ @LT.lt Nat _ p.dx q.1 ∧ @LT.lt Nat _ p.l q.1 ∧ (∀ q' ∈ k.led, @LT.lt Nat _ q'.1 q.1) ∧ (∀ q' ∈ LED, @LT.lt Nat _ q'.1 q.1)) := fun q hq => by
      rcases hr'.fresh q hq with h | h
      · exact .inl h
      · exact .inr ⟨h (p.x, instObj 145 p.dx) (.head _), h (p.dx, p.dict lab) (.tail _ (.head _)), h (p.l, listOf k.vals.toArray p.ln) (.tail _ (.tail _ (.head _))), fun q' hq' => h q' (.tail _ (.tail _ (.tail _ (show q' ∈ k.led ++ LED from List.mem_append_left _ hq')))), fun q' hq' => h q' (.tail _ (.tail _ (.tail _ (show q' ∈ k.led ++ LED from List.mem_append_right _ hq'))))⟩
    have r'3 : ∀ q ∈ r'.led, ne3 p q.1 := fun q hq => by
      rcases r'fr q hq with ⟨q0, h0, e0⟩ | ⟨h1, h2, h3, _⟩
      · have := nr q0 h0
        rw [e0] at this; exact this
      · exact ⟨Nat.ne_of_gt h1, Nat.ne_of_gt h2, Nat.ne_of_gt h3⟩
    have r'k : ∀ q' ∈ k.led, ∀ q ∈ r'.led, @Ne Nat q'.1 q.1 := fun q' hq' q hq => by
      rcases r'fr q hq with ⟨q0, h0, e0⟩ | ⟨_, _, _, h4, _⟩
      · have := nkr q' hq' q0 h0
        rw [e0] at this; exact this
      · exact Nat.ne_of_lt (h4 q' hq')
    have led2 : ∀ {P : Addr × Obj → Prop}, (∀ q ∈ k.led, P q) → (∀ q ∈ r'.led, P q) → (∀ q ∈ LED, P q) → ∀ q ∈ k.led ++ (r'.led ++ LED), P q := by
      intro P a4 a5 a6 q hq
      rcases List.mem_append.mp hq with hq | hq
      · exact a4 q hq
      · exact (List.mem_append.mp hq).elim (a5 q) (a6 q)
    refine T.mono (B := (p.x, instObj 145 p.dx) :: (p.dx, p.dict lab) :: (p.l, listOf k.vals.toArray p.ln) :: (k.led ++ (r'.led ++ LED))) (ac (by simp [NP.led]) (ac (by simp [NP.led]) (ac (by simp [NP.led]) (led2 (fun q hq => by simp [hq]) (fun q hq => by simp [hq]) (fun q hq => by simp [hq]))))) ?_
    refine T.node (by simp [hcell]) (fun q hq => by simp [hq]) hlab (by omega) (led2 (fun q hq => ⟨(nk q hq).2.1, hg1 q (mk q hq)⟩) (fun q hq => ⟨(r'3 q hq).2.1, hr'.good q hq⟩) (fun q hq => ⟨(dd q hq).symm, hg2 q hq⟩)) gx.1 gd.1 gl.1 xd dl.symm gd.2.symm gx.2.symm gl.2.symm (by omega) ?_ ?_
    · intro hcond l' ln' tk' hl'
      have hk3 : ∀ q ∈ k.led, @Ne Nat q.1 l' := fun q hq => by
        rcases hl' with rfl | h
        · exact (nk q hq).2.2
        · exact Nat.ne_of_lt (h.1 q (by simp [hq]))
      have hr3 : ∀ q ∈ r'.led, @Ne Nat q.1 l' := fun q hq => by
        rcases hl' with rfl | h
        · exact (r'3 q hq).2.2
        · exact Nat.ne_of_lt (h.1 q (by simp [hq]))
      have hL3 : ∀ q ∈ LED, @Ne Nat q.1 l' := fun q hq => by
        rcases hl' with rfl | h
        · exact (dL q hq).symm
        · exact Nat.ne_of_lt (h.1 q (by simp [hq]))
      have gl' : @Ne Nat l' 159 ∧ @Ne Nat l' nl := by
        rcases hl' with rfl | h
        · exact gl
        · exact ⟨Nat.ne_of_gt (Nat.lt_trans h159 h.2.1), Nat.ne_of_gt h.2.1⟩
      have xl' : @Ne Nat p.x l' ∧ @Ne Nat p.dx l' := by
        rcases hl' with rfl | h
        · exact ⟨xl, dl⟩
        · exact ⟨Nat.ne_of_lt h.2.2.1, Nat.ne_of_lt h.2.2.2.1⟩
      refine T.mono (B := (k.kept c1).led ++ ((p.x, instObj 145 p.dx) :: (p.dx, nodeD p.h1 p.h2 p.t1 p.t2 tk' p.dn l' (cutA lab c2)) :: (l', listOf (k.kept c1).vals.toArray ln') :: (r'.led ++ LED)))
        (fun q hq => by
          rcases List.mem_append.mp hq with hq | hq
          · have := AT.kept_mem hq; simp [this]
          · simp only [List.mem_cons, List.mem_append] at hq ⊢
            rcases hq with h | h | h | h | h <;> simp [h]) ?_
      refine IH (k.kept c1).fo.wt (by omega) (k.kept c1) (Nat.le_refl _) (by omega) pend _ (by omega) (by simp [hcell]) (AT.kept_ND _ _ ndk) (fun q hq => ?_) (fun q hq => hg1 q (mk q (AT.kept_mem hq)))
        (ac gx (ac gd (ac gl' fun q hq => (List.mem_append.mp hq).elim (hr'.good q) (hg2 q)))) fun k' hk' => ?_
      · have hq := AT.kept_mem hq
        exact ac (nk q hq).1 (ac (nk q hq).2.1 (ac (hk3 q hq) fun q' hq' => (List.mem_append.mp hq').elim (r'k q hq q') (hdis q (mk q hq) q')))
      have k'fr : ∀ q ∈ k'.led, (∃ q0 ∈ k.led, @Eq Nat q0.1 q.1) ∨ (@LT.lt Nat _ p.x q.1 ∧ @LT.lt Nat _ p.dx q.1 ∧ @LT.lt Nat _ l' q.1 ∧ (∀ q' ∈ r'.led, @LT.lt Nat _ q'.1 q.1) ∧ (∀ q' ∈ LED, @LT.lt Nat _ q'.1 q.1)) := fun q hq => by
        rcases hk'.fresh q hq with ⟨q0, h0, e0⟩ | h
        · exact .inl ⟨q0, AT.kept_mem h0, e0⟩
        · exact .inr ⟨h (p.x, instObj 145 p.dx) (.head _), h _ (.tail _ (.head _)), h _ (.tail _ (.tail _ (.head _))), fun q' hq' => h q' (.tail _ (.tail _ (.tail _ (List.mem_append_left _ hq')))), fun q' hq' => h q' (.tail _ (.tail _ (.tail _ (List.mem_append_right _ hq'))))⟩
      have hpost : PostT nl c1 c2 c3 b (.node p lab k r) (.node ⟨p.x, p.dx, l', ln', p.dn, p.h1, p.h2, p.t1, p.t2, tk'⟩ (cutA lab c2) k' r') LED := by
        refine ⟨?_, ?_, ⟨⟨xd, xl'⟩, ?_, ?_, hk'.nd, hr'.nd, ?_⟩, ?_, ?_⟩
        · simp only [AT.vals, hr'.vals]
        · refine .node hcond ?_ hr'.unc
          have := hk'.unc
          rw [AT.kept_fo] at this
          exact this
        · intro q hq
          rcases k'fr q hq with ⟨q0, h0, e0⟩ | ⟨h1, h2, h3, _⟩
          · have a1 := nk q0 h0
            have a2 := hk3 q0 h0
            rw [e0] at a1 a2
            exact ⟨a1.1, a1.2.1, a2⟩
          · exact ⟨Nat.ne_of_gt h1, Nat.ne_of_gt h2, Nat.ne_of_gt h3⟩
        · intro q hq
          exact ⟨(r'3 q hq).1, (r'3 q hq).2.1, hr3 q hq⟩
        · intro q hq q' hq'
          rcases k'fr q hq with ⟨q0, h0, e0⟩ | ⟨_, _, _, h4, _⟩
          · have := r'k q0 h0 q' hq'
            rw [e0] at this; exact this
          · exact Nat.ne_of_gt (h4 q' hq')
        · refine ac (.inl ⟨_, mp1, rfl⟩) (ac (.inl ⟨_, mp2, rfl⟩) (ac ?_ fun q hq => ?_))
          · rcases hl' with h | h
            · exact .inl ⟨_, mp3, h.symm⟩
            · exact .inr fun q hq => h.1 q (by simp [hq])
          · rcases List.mem_append.mp (show q ∈ k'.led ++ r'.led from hq) with hq | hq
            · rcases k'fr q hq with ⟨q0, h0, e0⟩ | ⟨_, _, _, _, h5⟩
              · exact .inl ⟨q0, mk q0 h0, e0⟩
              · exact .inr h5
            · rcases r'fr q hq with ⟨q0, h0, e0⟩ | ⟨_, _, _, _, h5⟩
              · exact .inl ⟨q0, mr q0 h0, e0⟩
              · exact .inr h5
        · exact ac gx (ac gd (ac gl' fun q hq => (List.mem_append.mp (show q ∈ k'.led ++ r'.led from hq)).elim (hk'.good q) (hr'.good q)))
      refine T.mono (fun q hq => ?_) (K _ hpost)
      simp only [AT.led, NP.led, NP.dict, hk'.vals, List.mem_append, List.mem_cons, List.not_mem_nil, or_false] at hq ⊢
      rcases hq with ((h | h | h) | h | h) | h <;> simp [h]
    · intro hb hf tk' l3 l2 x2 d2 n2 n3 dn2 h1' h2' u1' u2' tk1 o1 o2 o3 o4 o5 o6 o7 o8
      have ht2 := (by subst hcv; exact tail_len hf : (Txt.slice (cutA lab c2) (some (Txt.find (cutA lab c2) c3 + 1)) none).length < (cutA lab c2).length)
      have lk : ∀ q ∈ k.led, @LT.lt Nat _ q.1 d2 := fun q hq => o1 q (by simp [hq])
      have lr : ∀ q ∈ r'.led, @LT.lt Nat _ q.1 d2 := fun q hq => o1 q (by simp [hq])
      have lL : ∀ q ∈ LED, @LT.lt Nat _ q.1 d2 := fun q hq => o1 q (by simp [hq])
      have big : ∀ {a c : Nat}, @LT.lt Nat _ a d2 → @LE.le Nat _ d2 c → a < c := fun h1 h2 => Nat.lt_of_lt_of_le h1 h2
      have b2 : @LE.le Nat _ d2 x2 := Nat.le_of_lt o6
      have b3 : @LE.le Nat _ d2 l2 := Nat.le_trans b2 (Nat.le_of_lt o7)
      have b4 : @LE.le Nat _ d2 l3 := Nat.le_trans b3 (Nat.le_of_lt o8)
      have g9 : ∀ {c : Nat}, @LE.le Nat _ d2 c → c ≠ 159 ∧ @Ne Nat c nl := fun h => ⟨Nat.ne_of_gt (big (Nat.lt_trans h159 o2) h), Nat.ne_of_gt (big o2 h)⟩
      generalize hT2 : AT.node ⟨x2, d2, l2, n2, dn2, h1', h2', u1', u2', tk1⟩ (Txt.slice (cutA lab c2) (some (Txt.find (cutA lab c2) c3 + 1)) none) (k.kept c1) .nil = T2
      have eL : T2.led = (x2, instObj 145 d2) :: (d2, nodeD h1' h2' u1' u2' tk1 dn2 l2 (Txt.slice (cutA lab c2) (some (Txt.find (cutA lab c2) c3 + 1)) none)) :: (l2, listOf (k.kept c1).vals.toArray n2) :: (k.kept c1).led := by subst hT2; simp [AT.led, NP.led]
      have eV : T2.vals = [Value.ref x2] := by subst hT2; rfl
      have eW : T2.fo.wt = (Txt.slice (cutA lab c2) (some (Txt.find (cutA lab c2) c3 + 1)) none).length + (k.kept c1).fo.wt + 2 := by subst hT2; simp [AT.fo, Fo.wt]
      have eF : T2.fo = .node (Txt.slice (cutA lab c2) (some (Txt.find (cutA lab c2) c3 + 1)) none) (k.fo.kept c1) .nil := by subst hT2; simp [AT.fo, AT.kept_fo]
      have eN : T2.ND := by
        subst hT2
        refine ⟨⟨Nat.ne_of_gt o6, Nat.ne_of_lt o7, Nat.ne_of_lt (Nat.lt_trans o6 o7)⟩, fun q hq => ?_, fun q hq => by simp [AT.led] at hq, AT.kept_ND _ _ ndk, trivial, fun q hq q' hq' => by simp [AT.led] at hq'⟩
        have := lk q (AT.kept_mem hq)
        exact ⟨Nat.ne_of_lt (big this b2), Nat.ne_of_lt this, Nat.ne_of_lt (big this b3)⟩
      refine T.mono (B := T2.led ++ ((p.x, instObj 145 p.dx) :: (p.dx, nodeD p.h1 p.h2 p.t1 p.t2 tk' p.dn l3 (Txt.slice (cutA lab c2) none (some (Txt.find (cutA lab c2) c3)))) :: (l3, listOf #[Value.ref x2] n3) :: (r'.led ++ LED)))
        (fun q hq => by
          rw [eL] at hq
          simp only [List.mem_cons, List.mem_append, List.cons_append] at hq ⊢
          rcases hq with h | h | h | h | h | h | h | h | h <;> first | (have := AT.kept_mem h; simp [this]) | simp [h]) ?_
      rw [← eV]
      refine IH T2.fo.wt (by omega) T2 (Nat.le_refl _) (by omega) pend _ (by omega) (by simp [hcell]) eN (fun q hq => ?_) (fun q hq => ?_)
        (ac gx (ac gd (ac (g9 b4) fun q hq => (List.mem_append.mp hq).elim (hr'.good q) (hg2 q)))) fun k' hk' => ?_
      · rw [eL] at hq
        revert q
        refine ac ?_ (ac ?_ (ac ?_ fun q hq => ?_))
        · exact ac (Nat.ne_of_gt (big o3 b2)) (ac (Nat.ne_of_gt (big o4 b2)) (ac (Nat.ne_of_lt (Nat.lt_trans o7 o8)) fun q' hq' => (List.mem_append.mp hq').elim (fun h => Nat.ne_of_gt (big (lr q' h) b2)) (fun h => Nat.ne_of_gt (big (lL q' h) b2))))
        · exact ac (Nat.ne_of_gt o3) (ac (Nat.ne_of_gt o4) (ac (Nat.ne_of_lt (Nat.lt_trans o6 (Nat.lt_trans o7 o8))) fun q' hq' => (List.mem_append.mp hq').elim (fun h => Nat.ne_of_gt (lr q' h)) (fun h => Nat.ne_of_gt (lL q' h))))
        · exact ac (Nat.ne_of_gt (big o3 b3)) (ac (Nat.ne_of_gt (big o4 b3)) (ac (Nat.ne_of_lt o8) fun q' hq' => (List.mem_append.mp hq').elim (fun h => Nat.ne_of_gt (big (lr q' h) b3)) (fun h => Nat.ne_of_gt (big (lL q' h) b3))))
        · have hq := AT.kept_mem hq
          exact ac (nk q hq).1 (ac (nk q hq).2.1 (ac (Nat.ne_of_lt (big (lk q hq) b4)) fun q' hq' => (List.mem_append.mp hq').elim (r'k q hq q') (hdis q (mk q hq) q')))
      · rw [eL] at hq
        revert q
        exact ac (g9 b2) (ac (g9 (Nat.le_refl _)) (ac (g9 b3) fun q hq => hg1 q (mk q (AT.kept_mem hq))))
      have k'fr : ∀ q ∈ k'.led, (∃ q0 ∈ k.led, @Eq Nat q0.1 q.1) ∨ (@Ne Nat q.1 l3 ∧ @LE.le Nat _ d2 q.1) ∨ (@LT.lt Nat _ p.x q.1 ∧ @LT.lt Nat _ p.dx q.1 ∧ @LT.lt Nat _ l3 q.1 ∧ (∀ q' ∈ r'.led, @LT.lt Nat _ q'.1 q.1) ∧ (∀ q' ∈ LED, @LT.lt Nat _ q'.1 q.1)) := fun q hq => by
        rcases hk'.fresh q hq with ⟨q0, h0, e0⟩ | h
        · rw [eL] at h0
          simp only [List.mem_cons] at h0
          rcases h0 with rfl | rfl | rfl | h0
          · exact .inr (.inl ⟨by rw [← e0]; exact Nat.ne_of_lt (Nat.lt_trans o7 o8), by rw [← e0]; exact b2⟩)
          · exact .inr (.inl ⟨by rw [← e0]; exact Nat.ne_of_lt (Nat.lt_trans o6 (Nat.lt_trans o7 o8)), by rw [← e0]; exact Nat.le_refl _⟩)
          · exact .inr (.inl ⟨by rw [← e0]; exact Nat.ne_of_lt o8, by rw [← e0]; exact b3⟩)
          · exact .inl ⟨q0, AT.kept_mem h0, e0⟩
        · exact .inr (.inr ⟨h (p.x, instObj 145 p.dx) (.head _), h _ (.tail _ (.head _)), h _ (.tail _ (.tail _ (.head _))), fun q' hq' => h q' (.tail _ (.tail _ (.tail _ (List.mem_append_left _ hq')))), fun q' hq' => h q' (.tail _ (.tail _ (.tail _ (List.mem_append_right _ hq'))))⟩)
      have hpost : PostT nl c1 c2 c3 b (.node p lab k r) (.node ⟨p.x, p.dx, l3, n3, p.dn, p.h1, p.h2, p.t1, p.t2, tk'⟩ (Txt.slice (cutA lab c2) none (some (Txt.find (cutA lab c2) c3))) k' r') LED := by
        refine ⟨?_, ?_, ⟨⟨xd, Nat.ne_of_lt (big o3 b4), Nat.ne_of_lt (big o4 b4)⟩, ?_, ?_, hk'.nd, hr'.nd, ?_⟩, ?_, ?_⟩
        · simp only [AT.vals, hr'.vals]
        · refine .split hb hf ?_ hr'.unc
          have := hk'.unc
          rw [eF] at this
          exact this
        · intro q hq
          rcases k'fr q hq with ⟨q0, h0, e0⟩ | ⟨h1, h2⟩ | ⟨h1, h2, h3, _⟩
          · have a1 := nk q0 h0
            have a2 : @Ne Nat q0.1 l3 := Nat.ne_of_lt (big (lk q0 h0) b4)
            rw [e0] at a1 a2
            exact ⟨a1.1, a1.2.1, a2⟩
          · exact ⟨Nat.ne_of_gt (big o3 h2), Nat.ne_of_gt (big o4 h2), h1⟩
          · exact ⟨Nat.ne_of_gt h1, Nat.ne_of_gt h2, Nat.ne_of_gt h3⟩
        · intro q hq
          exact ⟨(r'3 q hq).1, (r'3 q hq).2.1, Nat.ne_of_lt (big (lr q hq) b4)⟩
        · intro q hq q' hq'
          rcases k'fr q hq with ⟨q0, h0, e0⟩ | ⟨h1, h2⟩ | ⟨_, _, _, h4, _⟩
          · have := r'k q0 h0 q' hq'
            rw [e0] at this; exact this
          · exact Nat.ne_of_gt (big (lr q' hq') h2)
          · exact Nat.ne_of_gt (h4 q' hq')
        · refine ac (.inl ⟨_, mp1, rfl⟩) (ac (.inl ⟨_, mp2, rfl⟩) (ac ?_ fun q hq => ?_))
          · exact .inr fun q hq => big (lL q hq) b4
          · rcases List.mem_append.mp (show q ∈ k'.led ++ r'.led from hq) with hq | hq
            · rcases k'fr q hq with ⟨q0, h0, e0⟩ | ⟨h1, h2⟩ | ⟨_, _, _, _, h5⟩
              · exact .inl ⟨q0, mk q0 h0, e0⟩
              · exact .inr fun q' hq' => big (lL q' hq') h2
              · exact .inr h5
            · rcases r'fr q hq with ⟨q0, h0, e0⟩ | ⟨_, _, _, _, h5⟩
              · exact .inl ⟨q0, mr q0 h0, e0⟩
              · exact .inr h5
        · exact ac gx (ac gd (ac (g9 b4) fun q hq => (List.mem_append.mp (show q ∈ k'.led ++ r'.led from hq)).elim (hk'.good q) (hr'.good q)))
      refine T.mono (fun q hq => ?_) (K _ hpost)
      simp only [AT.led, NP.led, NP.dict, hk'.vals, eV, List.mem_append, List.mem_cons, List.not_mem_nil, or_false] at hq ⊢
      rcases hq with ((h | h | h) | h | h) | h <;> simp [h]
end
section
open PyProof.Rows.LCg
section
variable {w : World} {mean : ExcName → Option Value} {mg mb : Str → Option Value} {dp un : Nat} {gd : Option (List Code)} {cn : Str} {cs : Scope} {a : Addr} {ccd : Value} {cl : List (Str × Addr)} {outer : List Env} {base g : Heap} {L₀ L : Addr}
def Wst (w : World) (dp un : Nat) (gd : Option (List Code)) (cn : Str) (cs : Scope) (a : Addr) (ccd : Value) (cl : List (Str × Addr)) (outer : List Env) (g : Heap) (L₀ L nl : Addr) (b : Bool) (c2 c3 : Str) (s : Shared) (Q : Flow → Shared → Prop) (pend : List Value) (LED : List (Addr × Obj)) : Prop :=
  ∀ s' m' n ps, AllBare s'.gens → s'.os = s.os → Fr g L s'.heap m' → UML m' nl b c2 c3 → TabOk (posOf uncGen) ps → News g L s'.heap ((nl, listOf pend.toArray n) :: (159, tabObj ps) :: LED) →
    WhlRest PySem.Challenge.rw_ao0012_01.row.prog w ((ktrTop dp un gd cn cs L₀ a ccd cl outer).deeper (uncEnv L)) (fun _ _ => False) (uncEnv L) (testOf uncWhile) (bodyOf uncWhile) [] Q 0 s'

theorem unc_turns (B : Below (ktrTop dp un gd cn cs L₀ a ccd cl outer) base (envX cn cs L₀ a ccd cl :: outer) g) (X : (hd.heap_39 w.params).In g) (T : Top topProg LV mean mg mb g) (hdp : dp + 100 < recursionLimit) (hun : un + 100 < cLine) (CH : CodeHd g 161 159)
    {nl : Addr} {b : Bool} {c1 c2 c3 : Str} {tc : Tok} {oc : Obj} (hoc : oc.data = .cell (some (.str c1 tc))) (np : @Ne Nat nl 159) (s : Shared) (Q : Flow → Shared → Prop) :
    Turn (Wst w dp un gd cn cs a ccd cl outer g L₀ L nl b c2 c3 s Q) nl c1 c2 c3 b (L + 1, oc) where
  mono := by
    intro pend A B h W s' m' n ps G os F U tab N
    exact W s' m' n ps G os F U tab (ac (uc N).1 (ac (uc (uc N).2).1 fun p hp => (uc (uc N).2).2 p (h p hp)))
  leaf := by
    intro pend A sx tk hlen hnl W s' m' n ps G os F U tab N
    refine turn_leaf B F X T hdp hun G U hlen (ac np.symm hnl) N fun s2 m2 n2 G2 os2 F2 U2 N2 => ?_
    exact W s2 m2 n2 ps G2 (os2.trans os) F2 U2 tab N2
  node := by
    intro rest p lab k led hcell hkl hlab hcut hne x159 d159 l159 xd ld nd nx nll hsz H1 H2 s' m' n ps G os F U tab N
    obtain ⟨N_nl, N⟩ := uc N
    obtain ⟨N_ps, N⟩ := uc N
    obtain ⟨N_x, N⟩ := uc N
    obtain ⟨N_dx, N⟩ := uc N
    obtain ⟨N_l, N⟩ := uc N
    refine turn_node (led := (159, tabObj ps) :: (p.x, instObj 145 p.dx) :: (p.dx, p.dict lab) :: (p.l, listOf k.vals.toArray p.ln) :: led) B F X T hdp hun G U (by omega)
      (ac np.symm (ac nx.symm (ac nd.symm (ac nll.symm fun q hq => (hne q hq).2.2)))) (.tail _ (.head _)) (.tail _ (.tail _ (.head _))) (ac N_nl (ac N_ps (ac N_x (ac N_dx (ac N_l N))))) fun s2 m2 n2 G2 os2 F2 U2 N2 => ?_
    refine unc_all (k := k) (ln := p.ln) B F2 X T hdp hun CH G2 U2 hcell hoc hkl hlab hcut (fun q hq => (hne q hq).1) (fun q hq => (hne q hq).2.1) (fun q hq => (hne q hq).2.2) x159 d159 l159 xd ld np nd nx nll (by omega) tab N2 ?_ ?_
    · intro hc s3 m3 n3 l' ln' ps' tk' G3 os3 F3 U3 tab3 hl' N3
      refine ⟨rfl, ?_⟩
      obtain ⟨N_nl, N⟩ := uc N3
      obtain ⟨N_ps, N⟩ := uc N
      obtain ⟨N_x, N⟩ := uc N
      obtain ⟨N_dx, N⟩ := uc N
      obtain ⟨N_l', N⟩ := uc N
      exact H1 hc l' ln' tk' hl' s3 m3 n3 ps' G3 (os3.trans (os2.trans os)) F3 U3.l tab3 (ac N_nl (ac N_ps (ac N_x (ac N_dx (ac N_l' (uc N).2)))))
    · intro hb hf s3 m3 n3 l' ln' ps' tk' l3 l2 x2 d2 n2 n3' dn2 h1' h2' u1' u2' tk1 G3 os3 F3 U3 tab3 hl' o1 o2 o3 o4 o5 o6 o7 o8 o9 o10 N3
      refine ⟨rfl, ?_⟩
      obtain ⟨N_nl, N⟩ := uc N3
      obtain ⟨N_ps, N⟩ := uc N
      obtain ⟨N_l3, N⟩ := uc N
      obtain ⟨N_l2, N⟩ := uc N
      obtain ⟨N_x2, N⟩ := uc N
      obtain ⟨N_d2, N⟩ := uc N
      obtain ⟨N_x, N⟩ := uc N
      obtain ⟨N_dx, N⟩ := uc N
      exact H2 hb hf tk' l3 l2 x2 d2 n2 n3' dn2 h1' h2' u1' u2' tk1 o1 o2 o3 o4 o5 o8 o9 o10 s3 m3 n3 ps' G3 (os3.trans (os2.trans os)) F3 U3.l tab3 (ac N_nl (ac N_ps (ac N_x (ac N_dx (ac N_l3 (ac N_x2 (ac N_d2 (ac N_l2 (uc (uc N).2).2))))))))

theorem unc_while (B : Below (ktrTop dp un gd cn cs L₀ a ccd cl outer) base (envX cn cs L₀ a ccd cl :: outer) g) (X : (hd.heap_39 w.params).In g) (T : Top topProg LV mean mg mb g) (hdp : dp + 100 < recursionLimit) (hun : un + 100 < cLine) (CH : CodeHd g 161 159)
    {nl : Addr} {b : Bool} {c1 c2 : Str} {c3 : Str} {cv : Nat} (hcv : c3 = mkS [cv]) {tc : Tok} {oc : Obj} {m : Str → Option Value} {s : Shared} {Q : Flow → Shared → Prop} {E : Value → Shared → Prop} {t : AT} {n : Nat} {ps : Array Value} {LED : List (Addr × Obj)} (hoc : oc.data = .cell (some (.str c1 tc)))
    (F : Fr g L s.heap m) (G : AllBare s.gens) (U : UML m nl b c2 c3) (h159 : @LT.lt Nat _ 159 nl) (tab : TabOk (posOf uncGen) ps) (hwt : t.fo.wt ≤ 100) (hcell : (L + 1, oc) ∈ LED) (hnd : t.ND) (hdis : ∀ p ∈ t.led, ∀ q ∈ LED, @Ne Nat p.1 q.1)
    (hg1 : ∀ p ∈ t.led, @Ne Nat p.1 159 ∧ @Ne Nat p.1 nl) (hg2 : ∀ p ∈ LED, @Ne Nat p.1 159 ∧ @Ne Nat p.1 nl)
    (N : News g L s.heap ((nl, listOf t.vals.toArray n) :: (159, tabObj ps) :: (t.led ++ LED)))
    (hQ : ∀ t' s' m' n' ps', PostT nl c1 c2 c3 b t t' LED → AllBare s'.gens → s'.os = s.os → Fr g L s'.heap m' → UML m' nl b c2 c3 → TabOk (posOf uncGen) ps' → News g L s'.heap ((nl, listOf #[] n') :: (159, tabObj ps') :: (t'.led ++ LED)) → Q .next s') :
    wpAny (model PySem.Challenge.rw_ao0012_01.row.prog w) ((ktrTop dp un gd cn cs L₀ a ccd cl outer).deeper (uncEnv L)) (exec uncWhile (uncEnv L)) Q E s := by
  refine wpAny_mono (Q := Q) (E := fun _ _ => False) ?_ (fun _ _ x => x) (fun _ _ e => e.elim)
  have e : ∃ pos, uncWhile = .While (testOf uncWhile) (bodyOf uncWhile) [] pos := ⟨_, by with_unfolding_all rfl⟩
  obtain ⟨pos, e⟩ := e
  rw [e]
  refine whl_start 0 ?_
  have h := loop (unc_turns (b := b) (c2 := c2) (c3 := c3) B X T hdp hun CH hoc (Nat.ne_of_gt h159) s Q) h159 hcv 100 t hwt (Nat.le_refl _) [] LED (by simp) hcell hnd hdis hg1 hg2 fun t' hp s' m' n' ps' G' os' F' U' tab' N' => ?_
  · exact h s m n ps G rfl F U tab N
  · refine turn_nil B F' X T hdp hun U'.nl N' fun s2 e1 e2 e3 => ?_
    exact hQ t' s2 m' n' ps' hp (by rw [e2]; exact G') (e3.trans os') (by rw [e1]; exact F') U' tab' (by rw [e1]; exact N')
end
end
section
local macro_rules | `(tactic| walk_at "pad") => `(tactic| skip)
open PyProof.Rows.LCg
/-- what a call of un_chomsky_normal_form leaves of the tree -/
structure PostE (c1 c2 c3 : Str) (b : Bool) (t t' : AT) (LED : List (Addr × Obj)) : Prop where
  vals : t'.vals = t.vals
  unc : Unc c1 c2 c3 b t.fo t'.fo
  nd : t'.ND
  dis : ∀ p ∈ t'.led, ∀ q ∈ LED, @Ne Nat p.1 q.1
  good : ∀ p ∈ t'.led, @Ne Nat p.1 159
theorem PostE.of {nl : Addr} {c1 c2 c3 : Str} {b : Bool} {t t' : AT} {c : Addr × Obj} {LED : List (Addr × Obj)} (hdis : ∀ p ∈ t.led, ∀ q ∈ LED, @Ne Nat p.1 q.1) (hp : PostT nl c1 c2 c3 b t t' (c :: LED)) : PostE c1 c2 c3 b t t' LED := by
  refine ⟨hp.vals, hp.unc, hp.nd, fun p h q hq => ?_, fun p h => (hp.good p h).1⟩
  rcases hp.fresh p h with ⟨q0, h0, e0⟩ | h1
  · have := hdis q0 h0 q hq
    rw [e0] at this; exact this
  · exact Nat.ne_of_gt (h1 q (.tail _ hq))
section
local macro_rules | `(tactic| walk_at "call builtin:list.append") => `(tactic| (k_here; (with_reducible show wpAny _ _ (call (Value.builtin _) [Value.ref _, _]) _ _ _); k_dflt (refine' append_K ?k1 ?k2 ?k3 ?_ ?z; (case k1 => k_asm); (case k2 => k_asm); (case k3 => k_upd); (case z => first | assumption | ((try simp only [List.size_toArray, List.length_append, List.length_cons, List.length_nil, List.length_reverse, List.length_take]); omega)); k_whole); intro h' F' N'; (try k_sweep)))

local macro_rules | `(tactic| walk_at "exec While") => `(tactic| (refine held ?_))
local macro_rules | `(tactic| walk_at "last exec While") => `(tactic| (refine held ?_))

set_option maxRecDepth 100000 in
set_option maxHeartbeats 8000000 in
theorem unc_callA : ∀ {w : World} {mean : ExcName → Option Value} {mg mb : Str → Option Value} {dp un : Nat} {gd : Option (List Code)} {cn : Str} {cs : Scope} {a : Addr} {ccd : Value} {cl : List (Str × Addr)} {outer : List Env}
   {A₀ : Around} {base h₀ : Heap} {L : Addr} {m : Str → Option Value} {s : Shared} {Q E : Value → Shared → Prop} {x : Addr} {t : AT} {ps : Array Value} {LED : List (Addr × Obj)} 
   (_ : Below A₀ base outer h₀) (_ : Fr h₀ L s.heap m) (_ : (hd.heap_39 w.params).In h₀) (_ : Top topProg LV mean mg mb h₀) (_ : cs.kind = .function) (_ : dp + 110 < recursionLimit) (_ : un + 110 < cLine)
   (_ : CodeHd h₀ 161 159) (_ : AllBare s.gens) (_ : t.vals = [.ref x]) (_ : TabOk (posOf uncGen) ps) (_ : t.fo.wt ≤ 100) (_ : t.ND) (_ : ∀ p ∈ t.led, ∀ q ∈ LED, @Ne Nat p.1 q.1) (_ : ∀ p ∈ t.led, @Ne Nat p.1 159) (_ : ∀ p ∈ LED, @Ne Nat p.1 159)
   (_ : News h₀ L s.heap ((159, tabObj ps) :: (t.led ++ LED)))
   (_ : ∀ t' s' ps', PostE (Str.ofString "|") (Str.ofString "^") (Str.ofString "+") true t t' LED → AllBare s'.gens → s'.os = s.os → Fr h₀ L s'.heap m → TabOk (posOf uncGen) ps' → News h₀ L s'.heap ((159, tabObj ps') :: (t'.led ++ LED)) → Q .none s'),
    wpAny (model PySem.Challenge.rw_ao0012_01.row.prog w) (ktrTop dp un gd cn cs L a ccd cl outer) (call (.ref 162) [.ref x] []) Q E s := by
  k_fill
  intro w mean mg mb dp un gd cn cs a ccd cl outer A₀ base h₀ L m s Q E x t ps LED B F X T hkf hdp hun CH G hv htab hwt hnd hdis hg1 hg2 N hret
  have hcv : Str.ofString "+" = mkS [43] := by decide +kernel
  refine wpAny_call ?_
  k_dflt (refine' code_defC ?k1 ?k2 ?k3 ?k4 ?k5 ?kA ?kF ?kK ?k6 ?k7 ?k8 ?k9 ?kB ?kD ?_ ?c2 ?c3 ?c4; (case kA => exact rfl); (case kF => exact rfl); (case kK => assumption); (case k1 => k_asm); (case k2 => k_asm); (case k3 => k_asm); (case k4 => k_asm); (case k5 => k_asm); (case k6 => k_is); (case k7 => k_is); (case k8 => k_room); (case k9 => first | exact BindsTo.of_eq rfl | exact binds_K (by k_in) rfl (by k_is) rfl rfl rfl | fail "k_enter: no rule for these arguments"); (case kB => exact rfl); (case kD => decide +kernel); (case c2 => exact rfl); (case c3 => exact rfl); (case c4 => exact rfl); k_whole; intro g' L' h' tk' cells' FG' F' N' Y' B' X' T' l1; (try k_lt l1); k_cells Y')
  rename (_ = Data.cell _) => hcell
  with_unfolding_all replace hcell : _ = Data.cell (some (Value.str (Str.ofString "|") _)) := hcell
  k_steps
  refine unheld ?_
  rename (∀ p ∈ [(L' + 1, _)] ++ _, p.1 < _) => l2
  have hnl : ∀ p ∈ t.led ++ LED, @LT.lt Nat _ p.1 _ := fun p hp => l2 p (.tail _ (.tail _ hp))
  have hn9 : @LT.lt Nat _ 159 _ := l2 (159, tabObj ps) (.tail _ (.head _))
  have hnc : @LT.lt Nat _ (L' + 1) _ := l2 (L' + 1, _) (.head _)
  have hL : ∀ p ∈ t.led ++ LED, @LT.lt Nat _ p.1 L' := ktn_ltOf l1.2
  have h9L : @LT.lt Nat _ 159 L' := l1.1
  with_unfolding_all refine' unc_while (t := t) (LED := (L' + 1, _) :: LED) (by assumption) (by assumption) (by assumption) (by omega) (by omega) (CH.keeps FG'.keep) hcv hcell ?F ?G ?U hn9 htab hwt (.head _) hnd ?dis ?g1 ?g2 ?N ?Q
  case G => exact G
  case F => assumption
  case U => exact ⟨rfl, rfl, ⟨_, rfl⟩, _, rfl⟩
  case dis => exact fun p hp => ac (Nat.ne_of_lt (Nat.lt_succ_of_lt (hL p (List.mem_append_left _ hp)))) (hdis p hp)
  case g1 => exact fun p hp => ⟨hg1 p hp, Nat.ne_of_lt (hnl p (List.mem_append_left _ hp))⟩
  case g2 => exact ac ⟨Nat.ne_of_gt (Nat.lt_succ_of_lt h9L), Nat.ne_of_lt hnc⟩ fun p hp => ⟨hg2 p hp, Nat.ne_of_lt (hnl p (List.mem_append_right _ hp))⟩
  case N =>
    rename News g' _ _ _ => N9
    rw [hv]
    obtain ⟨N1, N2⟩ := uc N9
    obtain ⟨N2, N3⟩ := uc N2
    obtain ⟨N3, N4⟩ := uc N3
    refine ac N1 (ac N3 fun p hp => ?_)
    rcases List.mem_append.mp hp with hp | hp
    · exact N4 p (List.mem_append_left _ hp)
    · rcases List.mem_cons.mp hp with rfl | hp
      · exact N2
      · exact N4 p (List.mem_append_right _ hp)
  case Q =>
    intro t' s' m' n' ps' hp G' os' F9 U' tab' N9
    k_steps
    rename News h₀ L s'.heap _ => kN
    rename Fr h₀ L s'.heap _ => kF
    have post := PostE.of hdis hp
    have kN' : News h₀ L s'.heap ((159, tabObj ps') :: (t'.led ++ LED)) := by
      obtain ⟨_, N2⟩ := uc kN
      obtain ⟨N2, N3⟩ := uc N2
      refine ac N2 fun p hp => ?_
      rcases List.mem_append.mp hp with hp | hp
      · exact N3 p (List.mem_append_left _ hp)
      · exact N3 p (List.mem_append_right _ (.tail _ hp))
    with_unfolding_all exact hret t' s' ps' post G' os' kF tab' kN'

set_option maxRecDepth 100000 in
set_option maxHeartbeats 8000000 in
theorem unc_callB : ∀ {w : World} {mean : ExcName → Option Value} {mg mb : Str → Option Value} {dp un : Nat} {gd : Option (List Code)} {cn : Str} {cs : Scope} {a : Addr} {ccd : Value} {cl : List (Str × Addr)} {outer : List Env}
   {A₀ : Around} {base h₀ : Heap} {L : Addr} {m : Str → Option Value} {s : Shared} {Q E : Value → Shared → Prop} {x : Addr} {t : AT} {ps : Array Value} {LED : List (Addr × Obj)} 
   (_ : Below A₀ base outer h₀) (_ : Fr h₀ L s.heap m) (_ : (hd.heap_39 w.params).In h₀) (_ : Top topProg LV mean mg mb h₀) (_ : cs.kind = .function) (_ : dp + 110 < recursionLimit) (_ : un + 110 < cLine)
   (_ : CodeHd h₀ 161 159) (_ : AllBare s.gens) (_ : t.vals = [.ref x]) (_ : TabOk (posOf uncGen) ps) (_ : t.fo.wt ≤ 100) (_ : t.ND) (_ : ∀ p ∈ t.led, ∀ q ∈ LED, @Ne Nat p.1 q.1) (_ : ∀ p ∈ t.led, @Ne Nat p.1 159) (_ : ∀ p ∈ LED, @Ne Nat p.1 159)
   (_ : News h₀ L s.heap ((159, tabObj ps) :: (t.led ++ LED)))
   (_ : ∀ t' s' ps', PostE (Str.ofString "|") (Str.ofString "^") (Str.ofString "+") false t t' LED → AllBare s'.gens → s'.os = s.os → Fr h₀ L s'.heap m → TabOk (posOf uncGen) ps' → News h₀ L s'.heap ((159, tabObj ps') :: (t'.led ++ LED)) → Q .none s'),
    wpAny (model PySem.Challenge.rw_ao0012_01.row.prog w) (ktrTop dp un gd cn cs L a ccd cl outer) (call (.ref 162) [.ref x] [(Str.ofString "expandUnary", .bool false)]) Q E s := by
  k_fill
  intro w mean mg mb dp un gd cn cs a ccd cl outer A₀ base h₀ L m s Q E x t ps LED B F X T hkf hdp hun CH G hv htab hwt hnd hdis hg1 hg2 N hret
  have hcv : Str.ofString "+" = mkS [43] := by decide +kernel
  refine wpAny_call ?_
  k_dflt (refine' code_defC ?k1 ?k2 ?k3 ?k4 ?k5 ?kA ?kF ?kK ?k6 ?k7 ?k8 ?k9 ?kB ?kD ?_ ?c2 ?c3 ?c4; (case kA => exact rfl); (case kF => exact rfl); (case kK => assumption); (case k1 => k_asm); (case k2 => k_asm); (case k3 => k_asm); (case k4 => k_asm); (case k5 => k_asm); (case k6 => k_is); (case k7 => k_is); (case k8 => k_room); (case k9 => first | exact BindsTo.of_eq rfl | exact binds_K (by k_in) rfl (by k_is) rfl rfl rfl | fail "k_enter: no rule for these arguments"); (case kB => exact rfl); (case kD => decide +kernel); (case c2 => exact rfl); (case c3 => exact rfl); (case c4 => exact rfl); k_whole; intro g' L' h' tk' cells' FG' F' N' Y' B' X' T' l1; (try k_lt l1); k_cells Y')
  rename (_ = Data.cell _) => hcell
  with_unfolding_all replace hcell : _ = Data.cell (some (Value.str (Str.ofString "|") _)) := hcell
  k_steps
  refine unheld ?_
  rename (∀ p ∈ [(L' + 1, _)] ++ _, p.1 < _) => l2
  have hnl : ∀ p ∈ t.led ++ LED, @LT.lt Nat _ p.1 _ := fun p hp => l2 p (.tail _ (.tail _ hp))
  have hn9 : @LT.lt Nat _ 159 _ := l2 (159, tabObj ps) (.tail _ (.head _))
  have hnc : @LT.lt Nat _ (L' + 1) _ := l2 (L' + 1, _) (.head _)
  have hL : ∀ p ∈ t.led ++ LED, @LT.lt Nat _ p.1 L' := ktn_ltOf l1.2
  have h9L : @LT.lt Nat _ 159 L' := l1.1
  with_unfolding_all refine' unc_while (t := t) (LED := (L' + 1, _) :: LED) (by assumption) (by assumption) (by assumption) (by omega) (by omega) (CH.keeps FG'.keep) hcv hcell ?F ?G ?U hn9 htab hwt (.head _) hnd ?dis ?g1 ?g2 ?N ?Q
  case G => exact G
  case F => assumption
  case U => exact ⟨rfl, rfl, ⟨_, rfl⟩, _, rfl⟩
  case dis => exact fun p hp => ac (Nat.ne_of_lt (Nat.lt_succ_of_lt (hL p (List.mem_append_left _ hp)))) (hdis p hp)
  case g1 => exact fun p hp => ⟨hg1 p hp, Nat.ne_of_lt (hnl p (List.mem_append_left _ hp))⟩
  case g2 => exact ac ⟨Nat.ne_of_gt (Nat.lt_succ_of_lt h9L), Nat.ne_of_lt hnc⟩ fun p hp => ⟨hg2 p hp, Nat.ne_of_lt (hnl p (List.mem_append_right _ hp))⟩
  case N =>
    rename News g' _ _ _ => N9
    rw [hv]
    obtain ⟨N1, N2⟩ := uc N9
    obtain ⟨N2, N3⟩ := uc N2
    obtain ⟨N3, N4⟩ := uc N3
    refine ac N1 (ac N3 fun p hp => ?_)
    rcases List.mem_append.mp hp with hp | hp
    · exact N4 p (List.mem_append_left _ hp)
    · rcases List.mem_cons.mp hp with rfl | hp
      · exact N2
      · exact N4 p (List.mem_append_right _ hp)
  case Q =>
    intro t' s' m' n' ps' hp G' os' F9 U' tab' N9
    k_steps
    rename News h₀ L s'.heap _ => kN
    rename Fr h₀ L s'.heap _ => kF
    have post := PostE.of hdis hp
    have kN' : News h₀ L s'.heap ((159, tabObj ps') :: (t'.led ++ LED)) := by
      obtain ⟨_, N2⟩ := uc kN
      obtain ⟨N2, N3⟩ := uc N2
      refine ac N2 fun p hp => ?_
      rcases List.mem_append.mp hp with hp | hp
      · exact N3 p (List.mem_append_left _ hp)
      · exact N3 p (List.mem_append_right _ (.tail _ hp))
    with_unfolding_all exact hret t' s' ps' post G' os' kF tab' kN'

set_option maxRecDepth 100000 in
set_option maxHeartbeats 8000000 in
theorem unc_callC : ∀ {w : World} {mean : ExcName → Option Value} {mg mb : Str → Option Value} {dp un : Nat} {gd : Option (List Code)} {cn : Str} {cs : Scope} {a : Addr} {ccd : Value} {cl : List (Str × Addr)} {outer : List Env}
   {A₀ : Around} {base h₀ : Heap} {L : Addr} {m : Str → Option Value} {s : Shared} {Q E : Value → Shared → Prop} {x : Addr} {t : AT} {ps : Array Value} {LED : List (Addr × Obj)} {b : Bool} {c1 c2 c3 : Str} {t1 t2 t3 : Tok} {cv : Nat} (_ : c3 = mkS [cv])
   (_ : Below A₀ base outer h₀) (_ : Fr h₀ L s.heap m) (_ : (hd.heap_39 w.params).In h₀) (_ : Top topProg LV mean mg mb h₀) (_ : cs.kind = .function) (_ : dp + 110 < recursionLimit) (_ : un + 110 < cLine)
   (_ : CodeHd h₀ 161 159) (_ : AllBare s.gens) (_ : t.vals = [.ref x]) (_ : TabOk (posOf uncGen) ps) (_ : t.fo.wt ≤ 100) (_ : t.ND) (_ : ∀ p ∈ t.led, ∀ q ∈ LED, @Ne Nat p.1 q.1) (_ : ∀ p ∈ t.led, @Ne Nat p.1 159) (_ : ∀ p ∈ LED, @Ne Nat p.1 159)
   (_ : News h₀ L s.heap ((159, tabObj ps) :: (t.led ++ LED)))
   (_ : ∀ t' s' ps', PostE (c1) (c2) (c3) b t t' LED → AllBare s'.gens → s'.os = s.os → Fr h₀ L s'.heap m → TabOk (posOf uncGen) ps' → News h₀ L s'.heap ((159, tabObj ps') :: (t'.led ++ LED)) → Q .none s'),
    wpAny (model PySem.Challenge.rw_ao0012_01.row.prog w) (ktrTop dp un gd cn cs L a ccd cl outer) (call (.ref 162) [.ref x, .bool b] [(Str.ofString "childChar", .str c1 t1), (Str.ofString "parentChar", .str c2 t2), (Str.ofString "unaryChar", .str c3 t3)]) Q E s := by
  k_fill
  intro w mean mg mb dp un gd cn cs a ccd cl outer A₀ base h₀ L m s Q E x t ps LED b c1 c2 c3 t1 t2 t3 cv hcv B F X T hkf hdp hun CH G hv htab hwt hnd hdis hg1 hg2 N hret
  
  refine wpAny_call ?_
  k_dflt (refine' code_defC ?k1 ?k2 ?k3 ?k4 ?k5 ?kA ?kF ?kK ?k6 ?k7 ?k8 ?k9 ?kB ?kD ?_ ?c2 ?c3 ?c4; (case kA => exact rfl); (case kF => exact rfl); (case kK => assumption); (case k1 => k_asm); (case k2 => k_asm); (case k3 => k_asm); (case k4 => k_asm); (case k5 => k_asm); (case k6 => k_is); (case k7 => k_is); (case k8 => k_room); (case k9 => first | exact BindsTo.of_eq rfl | exact binds_K (by k_in) rfl (by k_is) rfl rfl rfl | fail "k_enter: no rule for these arguments"); (case kB => exact rfl); (case kD => decide +kernel); (case c2 => exact rfl); (case c3 => exact rfl); (case c4 => exact rfl); k_whole; intro g' L' h' tk' cells' FG' F' N' Y' B' X' T' l1; (try k_lt l1); k_cells Y')
  rename (_ = Data.cell _) => hcell
  with_unfolding_all replace hcell : _ = Data.cell (some (Value.str (c1) _)) := hcell
  k_steps
  refine unheld ?_
  rename (∀ p ∈ [(L' + 1, _)] ++ _, p.1 < _) => l2
  have hnl : ∀ p ∈ t.led ++ LED, @LT.lt Nat _ p.1 _ := fun p hp => l2 p (.tail _ (.tail _ hp))
  have hn9 : @LT.lt Nat _ 159 _ := l2 (159, tabObj ps) (.tail _ (.head _))
  have hnc : @LT.lt Nat _ (L' + 1) _ := l2 (L' + 1, _) (.head _)
  have hL : ∀ p ∈ t.led ++ LED, @LT.lt Nat _ p.1 L' := ktn_ltOf l1.2
  have h9L : @LT.lt Nat _ 159 L' := l1.1
  with_unfolding_all refine' unc_while (t := t) (LED := (L' + 1, _) :: LED) (by assumption) (by assumption) (by assumption) (by omega) (by omega) (CH.keeps FG'.keep) hcv hcell ?F ?G ?U hn9 htab hwt (.head _) hnd ?dis ?g1 ?g2 ?N ?Q
  case G => exact G
  case F => assumption
  case U => exact ⟨rfl, rfl, ⟨_, rfl⟩, _, rfl⟩
  case dis => exact fun p hp => ac (Nat.ne_of_lt (Nat.lt_succ_of_lt (hL p (List.mem_append_left _ hp)))) (hdis p hp)
  case g1 => exact fun p hp => ⟨hg1 p hp, Nat.ne_of_lt (hnl p (List.mem_append_left _ hp))⟩
  case g2 => exact ac ⟨Nat.ne_of_gt (Nat.lt_succ_of_lt h9L), Nat.ne_of_lt hnc⟩ fun p hp => ⟨hg2 p hp, Nat.ne_of_lt (hnl p (List.mem_append_right _ hp))⟩
  case N =>
    rename News g' _ _ _ => N9
    rw [hv]
    obtain ⟨N1, N2⟩ := uc N9
    obtain ⟨N2, N3⟩ := uc N2
    obtain ⟨N3, N4⟩ := uc N3
    refine ac N1 (ac N3 fun p hp => ?_)
    rcases List.mem_append.mp hp with hp | hp
    · exact N4 p (List.mem_append_left _ hp)
    · rcases List.mem_cons.mp hp with rfl | hp
      · exact N2
      · exact N4 p (List.mem_append_right _ hp)
  case Q =>
    intro t' s' m' n' ps' hp G' os' F9 U' tab' N9
    k_steps
    rename News h₀ L s'.heap _ => kN
    rename Fr h₀ L s'.heap _ => kF
    have post := PostE.of hdis hp
    have kN' : News h₀ L s'.heap ((159, tabObj ps') :: (t'.led ++ LED)) := by
      obtain ⟨_, N2⟩ := uc kN
      obtain ⟨N2, N3⟩ := uc N2
      refine ac N2 fun p hp => ?_
      rcases List.mem_append.mp hp with hp | hp
      · exact N3 p (List.mem_append_left _ hp)
      · exact N3 p (List.mem_append_right _ (.tail _ hp))
    with_unfolding_all exact hret t' s' ps' post G' os' kF tab' kN'
end
end
end
section
section
open PyProof.Rows.LCg
set_option maxRecDepth 100000
theorem small_up {n : Nat} (h : n ≤ 1000000) : Builtin.Range.small 0 (n : Int) 1 = true := by
  refine small_one ?_ ?_ ?_ ?_ <;> omega
theorem size_up (n : Nat) : Builtin.Range.rangeSize 0 (n : Int) 1 = (n : Int) := by
  rw [rangeSize_nat]; omega
section
variable {prog : Program} {w : World} {A : Around} {E : Value → Shared → Prop} {s : Shared} {h₀ : Heap} {L : Addr} {m : Str → Option Value} {env : Env}
/-- the source of a comprehension is a range from nought up -/
def SrcUp (prog : Program) (w : World) (A : Around) (h₀ : Heap) (L : Addr) (m : Str → Option Value) (env : Env) (elt : Expr) (x : Str) (scope : Scope) (cl : List (Str × Addr)) (Q : Value → Shared → Prop) (xv : Value) (s₁ : Shared) : Prop :=
  ∃ (r : Addr) (n : Nat) (t u v : Tok) (news : List (Addr × Obj)), xv = .ref r ∧ A.handled = none ∧ Fr h₀ L s₁.heap m ∧ News h₀ L s₁.heap news ∧ IsRange s₁.heap r 0 (n : Int) 1 t u v ∧ n ≤ 1000000 ∧
    ∀ s₂ : Shared, (∃ h, s₂ = { s₁ with heap := h }) → CompRest prog w A h₀ L m env elt x scope cl s₂ (fun _ => True) (fun (i : Nat) (v : Value) => ∃ t, v = .int (i : Int) t) (FinE h₀ L m s₂ Q) n 0 [] news

theorem comp_up {elt iter : Expr} {x : Str} {px : Pos} {scope : Scope} {cl : List (Str × Addr)} {pos : Pos} {Q : Value → Shared → Prop} (_F₀ : Fr h₀ L s.heap m)
    (hclos : closureFor scope env = pure cl) (hcell : ∀ y ∈ scope.names, y.2 ≠ .cell) (hkind : scope.kind = .function)
    (hnames : ∀ y ∈ scope.names, y.2 = .local → scope.names.lookup y.1 = some .local) (hx : scope.names.lookup x = some .local)
    (h : wpAny (model prog w) A (eval iter env) (SrcUp prog w A h₀ L m env elt x scope cl Q) E s)
    (hs : ∀ x, foldedSetIterable iter env x = pure x := by intro _; rfl) :
    wpAny (model prog w) A (eval (.ListComp elt [⟨.Name x px, iter, [], 0⟩] scope pos) env) Q E s := by
  rw [eval_ListComp]
  refine wpAny_comprehension_free (use := none) rfl hs hclos hkind hnames (wpAny_mono h (fun xv s₁ h₁ => ?_) fun _ _ e => e)
  obtain ⟨r, n, t, u, v, news, rfl, hh, F, N, hr, hn, R⟩ := h₁
  refine wpAny_pyIter_range hr (small_up hn) ?_
  rw [size_up]
  have up : ∀ b o, s₁.heap.get? b = some o → (s₁.heap.push { cls := .type "range_iterator", data := .fields #[rawInt 0, rawInt (n : Int), rawInt 1] }).get? b = some o := fun b o e => Heap.get?_push_of_some _ e
  have R' := R { s₁ with heap := s₁.heap.push { cls := .type "range_iterator", data := .fields #[rawInt 0, rawInt (n : Int), rawInt 1] } } ⟨_, rfl⟩
  have e0 : (fun (i : Nat) (v : Value) => ∃ t, v = .int (i : Int) t) = (fun (i : Nat) (v : Value) => ∃ t, v = .int ((0 : Int) + (i : Int) * 1) t) := by funext i v; simp
  rw [e0] at R'
  refine block_U (n := n) (Walks.range hh s₁.heap.objs.size 0 1 n) (Nat.le_trans hn (by decide)) (fun i h st => ⟨_, st⟩)
    (fun i h h' o nw st e e' k N S => by rw [show h.get? _ = _ from st] at e; cases e; exact e') hcell hkind hx ?_ (fun b hb => ?_)
    (F.keeps up) (N.grown up) (Nat.ne_of_lt F.ns.lt) (next_is_new F) (fun p hp => Nat.ne_of_lt (Heap.lt_size (N p hp).1)) trivial R' ?_
  · show IsRangeIter (s₁.heap.push _) _ _ _ _
    have e1 : (0 : Int) + ((0 : Nat) : Int) * 1 = 0 := by omega
    have e2 : (n : Int) - ((0 : Nat) : Int) = n := by omega
    rw [e1, e2]
    exact Heap.get?_push_size _ rfl
  · show b < (s₁.heap.push _).objs.size
    rw [Heap.size_push, List.mem_singleton.mp hb]
    exact Nat.lt_succ_self _
  · intro D C h tk m' ys news' F' N' o1 hn hC₀ hD₀ hCL hDL hCD offC fin
    refine ⟨m', hn, fun h'' hs'' => fin D h'' tk (F'.change hs'' hCL hC₀) (fun p hp => ?_) o1⟩
    refine ⟨hs''.extBut _ _ ?_ (N' p hp).1, (N' p hp).2⟩
    rcases List.mem_cons.mp hp with rfl | hp
    · exact Ne.symm hCD
    · exact offC p hp
end
theorem for_atE {prog : Program} {w : World} {A : Around} {s : Shared} {h₀ : Heap} {env : Env} {x : Str} {px pos : Pos} {iter : Expr} {body : List Stmt} {Q : Flow → Shared → Prop} {E : Value → Shared → Prop} {m : Str → Option Value} (_F : Fr h₀ env.locals s.heap m)
    (hx : env.kindOf x = some .local) (hp : (env.scope.kind == .class || (env.scope.kind == .module && env.locals != env.globals)) = false)
    (h : wpAny (model prog w) A (eval iter env) (fun xv s₁ => Held (wpAny (model prog w) A (pyIter xv) (ForAt prog w A h₀ env x body Q) (fun _ _ => False) s₁)) (fun _ _ => False) s)
    (hs : ∀ x, foldedSetIterable iter env x = pure x) :
    wpAny (model prog w) A (exec (.For (.Name x px) iter body [] pos) env) Q E s :=
  wpAny_mono (for_at _F hx hp h hs) (fun _ _ x => x) fun _ _ e => e.elim
section
variable {prog : Program} {w : World} {A : Around} {s : Shared} {h₀ : Heap} {env : Env} {x : Str} {body : List Stmt} {Q : Flow → Shared → Prop}
/-- over the letters of a text -/
theorem for_text {t : Str} {tk : Tok} {m : Str → Option Value} {nx : List (Addr × Obj)} (R0 : Shared → Prop) (J : Nat → (Str → Option Value) → List (Addr × Obj) → Prop)
    (hh : A.handled = none) (F : Fr h₀ env.locals s.heap m) (N : News h₀ env.locals s.heap nx) (r0 : R0 s) (hR0 : ∀ s h tk, R0 s → R0 { s with heap := h, toks := tk })
    (hJ : J 0 m nx)
    (turn : ∀ I i c u m₁ nx s₁ oI, R0 s₁ → t.cps[i]? = some c → J i m₁ nx → (∀ p ∈ nx, p.1 ≠ I) → Fr h₀ env.locals s₁.heap (fun y => if y = x then some (.str ⟨#[c]⟩ u) else m₁ y) → News h₀ env.locals s₁.heap ((I, oI) :: nx) →
      wpAny (model prog w) A (execs body env) (ForPost h₀ env.locals I oI R0 (J (i + 1)) Q) (fun _ _ => False) s₁)
    (done : ∀ m₁ nx s₁, R0 s₁ → J t.cps.size m₁ nx → Fr h₀ env.locals s₁.heap m₁ → News h₀ env.locals s₁.heap nx → Q .next s₁) :
    wpAny (model prog w) A (pyIter (.str t tk)) (ForAt prog w A h₀ env x body Q) (fun _ _ => False) s := by
  have hLlt := F.ns.lt
  have go : ∀ (ty : String) , Walks prog w A s.heap.objs.size [s.heap.objs.size] [s.heap.objs.size] t.cps.size (SignAt t) (fun i h => h.IsStrIter s.heap.objs.size ty t tk i) → ∀ o, Heap.IsStrIter (s.heap.push o) s.heap.objs.size ty t tk 0 →
      (s.heap.push o).get? s.heap.objs.size = some o → ForAt prog w A h₀ env x body Q (.ref s.heap.objs.size) { s with heap := s.heap.push o } := by
    intro ty W o st0 ho
    refine ⟨s.heap.objs.size, [s.heap.objs.size], t.cps.size, SignAt t, _, fun _ => True, R0, J, m, nx, o, rfl, W, ?_, next_is_new F, fun i h st => let ⟨o, e, _⟩ := st; ⟨o, e⟩, ?_, hR0, st0, ho, ?_, F.push _, N.grown fun b o e => Heap.get?_push_of_some _ e, fun p hp => Nat.ne_of_lt (Heap.lt_size (N p hp).1), fun _ _ _ _ => trivial, hJ, ?_, done⟩
    · intro hm
      exact absurd hLlt (by rw [List.mem_singleton.mp hm]; exact Nat.lt_irrefl _)
    · intro i h h' o nw st e e' k N S
      obtain ⟨o', q, r⟩ := st
      rw [e] at q; cases q
      exact ⟨o, e', r⟩
    · exact hR0 s _ s.toks r0
    · rintro i v m₁ nx s₁ oI r hi ⟨c, u, hc, rfl⟩ hJ
      exact turn _ i c u m₁ nx s₁ oI r hc hJ
  cases ha : t.cps.all (· < 128)
  · exact wpAny_pyIter_wide ha (go "str_iterator" (Walks.strWide hh _ t tk) _ ⟨_, Heap.get?_push_size _ rfl, rfl, rfl⟩ (Heap.get?_push_size _ rfl))
  · exact wpAny_pyIter_ascii ha (go "str_ascii_iterator" (Walks.strAscii hh _ t tk) _ ⟨_, Heap.get?_push_size _ rfl, rfl, rfl⟩ (Heap.get?_push_size _ rfl))
/-- over a range -/
theorem for_range {r : Addr} {a b c : Int} {n : Nat} {t u v : Tok} {m : Str → Option Value} {nx : List (Addr × Obj)} (R0 : Shared → Prop) (J : Nat → (Str → Option Value) → List (Addr × Obj) → Prop)
    (hh : A.handled = none) (F : Fr h₀ env.locals s.heap m) (N : News h₀ env.locals s.heap nx) (hr : IsRange s.heap r a b c t u v) (hsm : Builtin.Range.small a b c = true) (hsz : Builtin.Range.rangeSize a b c = (n : Int)) (r0 : R0 s) (hR0 : ∀ s h tk, R0 s → R0 { s with heap := h, toks := tk })
    (hJ : J 0 m nx)
    (turn : ∀ I i u m₁ nx s₁ oI, R0 s₁ → i < n → J i m₁ nx → (∀ p ∈ nx, p.1 ≠ I) → Fr h₀ env.locals s₁.heap (fun y => if y = x then some (.int (a + (i : Int) * c) u) else m₁ y) → News h₀ env.locals s₁.heap ((I, oI) :: nx) →
      wpAny (model prog w) A (execs body env) (ForPost h₀ env.locals I oI R0 (J (i + 1)) Q) (fun _ _ => False) s₁)
    (done : ∀ m₁ nx s₁, R0 s₁ → J n m₁ nx → Fr h₀ env.locals s₁.heap m₁ → News h₀ env.locals s₁.heap nx → Q .next s₁) :
    wpAny (model prog w) A (pyIter (.ref r)) (ForAt prog w A h₀ env x body Q) (fun _ _ => False) s := by
  have hLlt := F.ns.lt
  refine wpAny_pyIter_range hr hsm ?_
  rw [hsz]
  refine ⟨s.heap.objs.size, [s.heap.objs.size], n, fun i v => ∃ t, v = .int (a + (i : Int) * c) t, _, fun _ => True, R0, J, m, nx, _, rfl, Walks.range hh s.heap.objs.size a c n, ?_, next_is_new F, fun i h st => ⟨_, st⟩, ?_, hR0, ?_, Heap.get?_push_size _ rfl, ?_, F.push _, N.grown fun b o e => Heap.get?_push_of_some _ e, fun p hp => Nat.ne_of_lt (Heap.lt_size (N p hp).1), fun _ _ _ _ => trivial, hJ, ?_, done⟩
  · intro hm
    exact absurd hLlt (by rw [List.mem_singleton.mp hm]; exact Nat.lt_irrefl _)
  · intro i h h' o nw st e e' k N S
    rw [show h.get? _ = _ from st] at e; cases e; exact e'
  · show IsRangeIter (s.heap.push _) _ _ _ _
    have e1 : a + ((0 : Nat) : Int) * c = a := by simp
    have e2 : (n : Int) - ((0 : Nat) : Int) = n := by omega
    rw [e1, e2]
    exact Heap.get?_push_size _ rfl
  · exact hR0 s _ s.toks r0
  · rintro i v m₁ nx s₁ oI r hi ⟨u, rfl⟩ hJ
    exact turn _ i u m₁ nx s₁ oI r hi hJ
end
section
variable {prog : Program} {w : World} {A : Around} {E : Value → Shared → Prop} {s : Shared} {h₀ : Heap} {L : Addr} {m : Str → Option Value}
theorem tuple_ofK {l : Addr} {items : Array Value} {news : List (Addr × Obj)} {Q : Value → Shared → Prop} (F : Fr h₀ L s.heap m) (N : News h₀ L s.heap news) (hl : s.heap.IsList l items)
    (h : ∀ D h', Fr h₀ L h' m → News h₀ L h' ((D, { cls := .type "tuple", data := .seq items }) :: news) → (∀ q ∈ news, q.1 < D) → Q (.ref D) { s with heap := h' }) (hsz : items.size ≤ sizeLine) :
    wpAny (model prog w) A (call (.type "tuple") [.ref l]) Q E s := by
  refine call_tuple_list hl (fun h' hk => ?_) hsz
  have N' := N.grown hk
  have F' := F.keeps hk
  refine h _ _ (F'.push _) (fun p hp => ?_) fun q hq => Heap.lt_size (N' q hq).1
  rcases List.mem_cons.mp hp with rfl | hp
  · exact ⟨Heap.get?_push_size _ rfl, Nat.ne_of_gt F'.ns.lt, next_is_new F'⟩
  · exact ⟨Heap.get?_push_of_some _ (N' p hp).1, (N' p hp).2⟩
end
end
section
local macro_rules | `(tactic| walk_at "call builtin:list.append") => `(tactic| (k_here; (with_reducible show wpAny _ _ (call (Value.builtin _) [Value.ref _, _]) _ _ _); k_dflt (refine' append_K ?k1 ?k2 ?k3 ?_ ?z; (case k1 => k_asm); (case k2 => k_asm); (case k3 => k_upd); (case z => first | assumption | ((try simp only [List.size_toArray, List.length_append, List.length_cons, List.length_nil, List.length_reverse, List.length_take]); omega)); k_whole); intro h' F' N'; (try k_sweep)))
local macro_rules | `(tactic| walk_at "call type:tuple") => `(tactic| (k_here; (with_reducible show wpAny _ _ (call (Value.type "tuple") [Value.ref _]) _ _ _); k_dflt (refine' tuple_ofK ?k1 ?k2 ?k3 ?_ ?z; (case k1 => k_asm); (case k2 => k_asm); (case k3 => exact News.isList (by k_asm) (by k_mem)); (case z => (first | assumption | size_fits)); k_whole); intro D' h' F' N' l1; (try k_lt l1); (try k_sweep)))
local macro_rules | `(tactic| walk_at "call builtin:len") => `(tactic| (k_here; (with_reducible show wpAny _ _ (call (Value.builtin "len") [Value.ref _]) _ _ _); k_dflt (refine' KM.len_K ?k1 ?k2 ?k3 ?k4 ?_; (case k1 => k_asm); (case k2 => k_mem); (case k3 => rfl); (case k4 => (simp only [List.size_toArray, sizeLine] at *; omega)))))
section
open PyProof.Rows.LCg
local macro_rules | `(tactic| walk_at "eval ListComp") => `(tactic| (k_here; (with_reducible rename Fr _ _ _ _ => kF); with_unfolding_all refine' comp_up kF ?k1 ?k2 ?k3 ?k4 ?k5 ?_ ?k6; (case k1 => rfl); (case k2 => decide); (case k3 => rfl); (case k4 => decide); (case k5 => rfl); (case k6 => intro _; rfl)))
local macro_rules | `(tactic| walk_at "call ref") => `(tactic| ((with_reducible show wpAny _ _ (call (Value.ref 193) _ _) _ _ _); refine held ?_))
local macro_rules | `(tactic| walk_at "call type:range") => `(tactic| (k_here; (with_reducible show wpAny _ _ (call (Value.type _) [Value.int _ _]) _ _ _); (with_reducible rename Fr _ _ _ _ => kF); (with_reducible rename News _ _ _ _ => kN); (refine range1_rows kF kN ?_); intro hR tkR t1R u1R v1R kR F' N' upR))
theorem item_i {prog : Program} {w : World} {A : Around} {E : Value → Shared → Prop} {s : Shared} {value slice : PySem.Expr} {l : Addr} {vs : List Value} {i : Nat} {v : Value} {u : Tok} {Q : Value → Shared → Prop} (hl : s.heap.IsList l vs.toArray) (hx : vs[i]? = some v) (hfit : i < 2 ^ 62) (h : Q v s)
    (hs : subscripted slice false (.ref l) (.int (i : Int) u) = operate [.ref l, .int (i : Int) u] (getItem (.ref l) (.int (i : Int) u)) := by with_unfolding_all rfl) :
    wpAny (model prog w) A (subscriptTail value slice (.ref l) (.int (i : Int) u)) Q E s :=
  tail_any hl.typeIs slot_list_getitem.lookup (wpAny_getItem_list hl (by omega) (by omega) (by simpa using hx) h) hs
local macro_rules | `(tactic| walk_at "subscriptTail") => `(tactic| (k_here; (with_reducible show wpAny _ _ (subscriptTail _ _ (Value.ref _) (Value.int _ _)) _ _ _); (with_unfolding_all refine' item_i ?k1 ?k2 ?k3 ?_ ?k6; (case k1 => exact News.isList (by k_asm) (by k_mem)); (case k2 => assumption); (case k3 => omega); (case k6 => with_unfolding_all rfl); k_whole)))
theorem AT.head {v : Value} {vs : List Value} : ∀ {rest : AT}, rest.vals = v :: vs → ∃ d r : AT, rest.fo = d.fo.app r.fo ∧ d.vals = [v] ∧ r.vals = vs ∧ (∀ q ∈ d.led, q ∈ rest.led) ∧ (∀ q ∈ r.led, q ∈ rest.led) ∧ d.fo.count + r.fo.count = rest.fo.count
  | .nil, h => by simp [AT.vals] at h
  | .leaf s tk r, h => by
    simp only [AT.vals, List.cons.injEq] at h
    exact ⟨.leaf s tk .nil, r, rfl, by rw [← h.1]; rfl, h.2, fun q hq => by simp [AT.led] at hq, fun q hq => hq, by simp only [AT.fo, Fo.count]; omega⟩
  | .node p lab k r, h => by
    simp only [AT.vals, List.cons.injEq] at h
    exact ⟨.node p lab k .nil, r, rfl, by rw [← h.1]; rfl, h.2, fun q hq => by simp only [AT.led, List.append_nil] at hq ⊢; exact (List.mem_append.mp hq).elim (fun h => List.mem_append_left _ h) (fun h => List.mem_append_right _ (List.mem_append_left _ h)), fun q hq => by rw [AT.led]; exact List.mem_append_right _ (List.mem_append_right _ hq), by simp only [AT.fo, Fo.count]; omega⟩
def ShapeOut (d : Fo) (tl : List (Addr × Obj)) (r : Value) : Prop := MI tl [r] d
theorem pair_end {h₀ h : Heap} {L D1 D2 D : Addr} {oD : Obj} {lab : Str} {tkl : Tok} {ys : List Value} {k : Fo} {news news1 tl : List (Addr × Obj)} {n1 n2 : Nat}
    (N : News h₀ L h ((D2, tup [.str lab tkl, .ref D1] n2) :: (D1, tup ys n1) :: (D, oD) :: (news1 ++ tl))) (hsub : ∀ q ∈ news, q ∈ news1) (hord : ∀ q ∈ news1, ∀ p ∈ tl, q.1 < p.1) (hA : AllLt D1 (news1 ++ tl)) (h12 : @LT.lt Nat _ D1 D2) (hmi : MI tl ys k) :
    ∃ tl', News h₀ L h (news ++ tl') ∧ (∀ q ∈ news, ∀ p ∈ tl', q.1 < p.1) ∧ MI tl' [.ref D2] (.node lab k .nil) := by
  have hlt := ktn_ltOf hA
  refine ⟨(D2, tup [.str lab tkl, .ref D1] n2) :: (D1, tup ys n1) :: tl, fun q hq => ?_, fun q hq => ?_, .node (.head _) (.tail _ (.head _)) (hmi.mono fun p hp => .tail _ (.tail _ hp)) .nil⟩
  · rcases List.mem_append.mp hq with hq | hq
    · exact N q (.tail _ (.tail _ (.tail _ (List.mem_append_left _ (hsub q hq)))))
    · rcases List.mem_cons.mp hq with rfl | hq
      · exact N _ (.head _)
      · rcases List.mem_cons.mp hq with rfl | hq
        · exact N _ (.tail _ (.head _))
        · exact N q (.tail _ (.tail _ (.tail _ (List.mem_append_right _ hq))))
  · have hq1 := hlt q (List.mem_append_left _ (hsub q hq))
    exact List.forall_mem_cons.2 ⟨Nat.lt_trans hq1 h12, List.forall_mem_cons.2 ⟨hq1, fun p hp => hord q (hsub q hq) p hp⟩⟩
def ShapeJ (news : List (Addr × Obj)) (k : AT) (i : Nat) (ys : List Value) (nw : List (Addr × Obj)) : Prop :=
  ∃ (d : Fo) (rest : AT) (tl : List (Addr × Obj)), rest.vals = k.vals.drop i ∧ d.app rest.fo = k.fo ∧ (∀ p ∈ rest.led, p ∈ news) ∧ MI tl ys d ∧ nw = news ++ tl ∧ (∀ q ∈ news, ∀ p ∈ tl, q.1 < p.1)
set_option maxRecDepth 100000 in
set_option maxHeartbeats 8000000 in
theorem shape_node : ∀ (w : World) (p : NP) (lab : Str) (k : AT) (news : List (Addr × Obj)), (p.x, instObj 145 p.dx) ∈ news → (p.dx, p.dict lab) ∈ news → (p.l, listOf k.vals.toArray p.ln) ∈ news → (∀ q ∈ k.led, q ∈ news) →
   (IH : ∀ (d : AT) (nw : List (Addr × Obj)) (v : Value), d.fo.count ≤ k.fo.count → d.vals = [v] → (∀ q ∈ d.led, q ∈ nw) → CallOk w 193 [v] nw (4 * d.fo.count) (20 * d.fo.count) (ShapeOut d.fo)) →
   CallOk w 193 [.ref p.x] news (4 * (k.fo.count + 1)) (20 * (k.fo.count + 1)) (ShapeOut (.node lab k.fo .nil)) := by
  intro w p lab k news hx hdx hl hk IH
  unfold CallOk
  k_fill
  intro mean mg mb dp un gd cn cs a ccd cl outer A₀ base h₀ L m s Q E B F X N T hkf hdp hu hret
  obtain ⟨x, dx, l, ln, dn, e1, e2, u1, u2, tkl⟩ := p
  dsimp only [NP.dict] at hx hdx hl hret ⊢
  refine wpAny_call ?_
  k_dflt (refine' code_defC ?k1 ?k2 ?k3 ?k4 ?k5 ?kA ?kF ?kK ?k6 ?k7 ?k8 ?k9 ?kB ?kD ?_ ?c2 ?c3 ?c4; (case kA => exact rfl); (case kF => exact rfl); (case kK => assumption); (case k1 => k_asm); (case k2 => k_asm); (case k3 => k_asm); (case k4 => k_asm); (case k5 => k_asm); (case k6 => k_is); (case k7 => k_is); (case k8 => k_room); (case k9 => first | exact BindsTo.of_eq rfl | exact binds_K (by k_in) rfl (by k_is) rfl rfl rfl | fail "k_enter: no rule for these arguments"); (case kB => exact rfl); (case kD => decide +kernel); (case c2 => exact rfl); (case c3 => exact rfl); (case c4 => exact rfl); k_whole; intro g' L' h' tk' cells' FG' F' N' Y' B' X' T' l1; (try k_lt l1); k_cells Y')
  rename (_ = Data.cell _) => hcell
  rename Obj => oc
  with_unfolding_all replace hcell : _ = Data.cell (some (Value.ref x)) := hcell
  have hlen : k.vals.length ≤ k.fo.count := k.vals_length
  have hsz : k.vals.toArray.size ≤ sizeLine := by simp only [recursionLimit, sizeLine, List.size_toArray] at *; omega
  have hsz2 : k.vals.length ≤ 1000000 := by simp only [recursionLimit] at *; omega
  have hsz63 : (k.vals.toArray.size : Int) < 2 ^ 63 := by simp only [List.size_toArray]; omega
  k_steps
  (with_reducible rename News _ _ _ ([(L' + 1, oc)] ++ news) => N1); (rename Fr g' _ _ _ => F1); (rename IsRange _ _ _ _ _ _ _ _ => R1)
  obtain ⟨news1, hn1⟩ : ∃ n1, n1 = (L' + 1, oc) :: news := ⟨_, rfl⟩
  have hsub : ∀ q ∈ news, q ∈ news1 := fun q hq => by rw [hn1]; exact .tail _ hq
  have hc1 : (L' + 1, oc) ∈ news1 := by rw [hn1]; exact .head _
  rw [show [(L' + 1, oc)] ++ news = news1 from hn1.symm] at N1
  clear N
  refine ⟨_, k.vals.toArray.size, _, _, _, news1, rfl, rfl, F1, N1, R1, by simpa using hsz2, fun s₂ hs₂ => ?_⟩
  obtain ⟨g2, rfl⟩ := hs₂
  refine compRest_ind (ShapeJ news1 k) ⟨.nil, k, [], by simp, rfl, fun q hq => hsub q (hk q hq), .nil, by simp, by simp⟩ ?_ ?_
  · clear hret
    rintro i ys nw hi ⟨d, rest, tl, hrest, hfo, hled, hmi, rfl, hord⟩ v I oI C oC D m₂ h tk' E' ⟨tki, rfl⟩ hoC hm₂ F₂ N₂ o3 hne
    have hx2 : (x, instObj 145 dx) ∈ news1 ++ tl := List.mem_append_left _ (hsub _ hx)
    have hdx2 := List.mem_append_left tl (hsub _ hdx)
    have hl2 := List.mem_append_left tl (hsub _ hl)
    have hc2 := List.mem_append_left tl hc1
    obtain ⟨v', hv⟩ : ∃ v, k.vals[i]? = some v := ⟨_, List.getElem?_eq_getElem (by simpa using hi)⟩
    have hi62 : i < 2 ^ 62 := by simp only [List.size_toArray] at hi; omega
    have hr2 : rest.vals = v' :: k.vals.drop (i + 1) := by
      rw [hrest]
      obtain ⟨hi, rfl⟩ := List.getElem?_eq_some_iff.mp hv
      exact List.drop_eq_getElem_cons hi
    obtain ⟨d2, r, e2, v2, vr, l2, lr, c2⟩ := AT.head hr2
    have hcnt : d.count + rest.fo.count = k.fo.count := by rw [← hfo, Fo.count_app]
    k_steps
    (with_reducible rename News g' L' _ ((I, oI) :: _) => N5)
    refine callOk_use (IH d2 ((I, oI) :: (C, oC) :: (D, lst ys) :: (news1 ++ tl)) v' (by omega) v2 (fun q hq => by have := hled q (l2 q hq); simp [this])) (by assumption) (by assumption) (by assumption) N5 (by assumption) rfl ?_ ?_ ?_
    · show dp + 1 + 4 * d2.fo.count < recursionLimit
      omega
    · show un + 3 + 20 * d2.fo.count < cLine
      omega
    intro y tl9 h9 tk9 F9 N9 hord9 ho9
    refine CompEnd.intro F9 N9 (news1 ++ (tl ++ tl9)) (fun p hp => by simpa [or_assoc] using hp) ?_ trivial ?_
    · refine Off3.of fun p hp => ?_
      rw [← List.append_assoc] at hp
      rcases List.mem_append.mp hp with hp | hp
      · exact o3.mem p hp
      · exact ⟨Nat.ne_of_gt (hord9 (I, oI) (by simp) p hp), Nat.ne_of_gt (hord9 (C, oC) (by simp) p hp), Nat.ne_of_gt (hord9 (D, lst ys) (by simp) p hp)⟩
    · refine ⟨d.app d2.fo, r, tl ++ tl9, vr, ?_, fun q hq => hled q (lr q hq), (hmi.mono fun p hp => List.mem_append_left _ hp).app (ho9.mono fun p hp => List.mem_append_right _ hp), rfl, ?_⟩
      · rw [Fo.app_assoc, ← e2, hfo]
      · intro q hq p hp
        rcases List.mem_append.mp hp with hp | hp
        · exact hord q hq p hp
        · exact hord9 q (by simp [hq]) p hp
  · rintro ys nw ⟨d, rest, tl, hrest, hfo, hled, hmi, rfl, hord⟩
    have hrn : rest.fo = .nil := by
      have h0 : rest.vals = [] := by rw [hrest]; simp
      cases rest with
      | nil => rfl
      | leaf _ _ _ => simp [AT.vals] at h0
      | node _ _ _ _ => simp [AT.vals] at h0
    rw [hrn, Fo.app_nil] at hfo
    subst hfo
    intro D h tk9 F9 N9 o1
    have hts : ys.toArray.size ≤ sizeLine := by
      have h1 := hmi.length
      simp only [List.size_toArray, sizeLine]
      simp only [recursionLimit] at hdp
      omega
    k_steps
    (with_reducible rename News h₀ L _ _ => kN); (rename Fr h₀ L _ _ => kF)
    with_reducible rename (_ ∧ _ ∧ AllLt _ _) => lb
    with_reducible rename (_ ∧ AllLt _ _) => la
    obtain ⟨tl', e1', e2', e3'⟩ := pair_end kN hsub hord la.2 lb.1 hmi
    exact hret _ tl' _ _ kF e1' e2' e3'
set_option maxRecDepth 100000 in
set_option maxHeartbeats 8000000 in
theorem shape_leaf : ∀ (w : World) (s : Str) (tk : Tok) (news : List (Addr × Obj)), CallOk w 193 [.str s tk] news 4 20 (ShapeOut (.leaf s .nil)) := by
  intro w sx tkx
  unfold CallOk
  k_fill
  intro news mean mg mb dp un gd cn cs a ccd cl outer A₀ base h₀ L m s Q E B F X N T hkf hdp hu hret
  refine wpAny_call ?_
  k_dflt (refine' code_defC ?k1 ?k2 ?k3 ?k4 ?k5 ?kA ?kF ?kK ?k6 ?k7 ?k8 ?k9 ?kB ?kD ?_ ?c2 ?c3 ?c4; (case kA => exact rfl); (case kF => exact rfl); (case kK => assumption); (case k1 => k_asm); (case k2 => k_asm); (case k3 => k_asm); (case k4 => k_asm); (case k5 => k_asm); (case k6 => k_is); (case k7 => k_is); (case k8 => k_room); (case k9 => first | exact BindsTo.of_eq rfl | exact binds_K (by k_in) rfl (by k_is) rfl rfl rfl | fail "k_enter: no rule for these arguments"); (case kB => exact rfl); (case kD => decide +kernel); (case c2 => exact rfl); (case c3 => exact rfl); (case c4 => exact rfl); k_whole; intro g' L' h' tk' cells' FG' F' N' Y' B' X' T' l1; (try k_lt l1); k_cells Y')
  rename (_ = Data.cell _) => hcell
  rename Obj => oc
  with_unfolding_all replace hcell : _ = Data.cell (some (Value.str sx tkx)) := hcell
  k_steps
  (with_reducible rename News h₀ L _ _ => N9); (rename Fr h₀ L _ _ => F9)
  exact hret _ [] _ _ F9 (by rw [List.append_nil]; exact fun q hq => N9 q (.tail _ hq)) (fun _ _ _ h => nomatch h) (.leaf .nil)
theorem shape_spec (w : World) : ∀ (N : Nat) (d : AT) (news : List (Addr × Obj)) (v : Value), d.fo.count ≤ N → d.vals = [v] → (∀ q ∈ d.led, q ∈ news) → CallOk w 193 [v] news (4 * d.fo.count) (20 * d.fo.count) (ShapeOut d.fo) := by
  intro N
  induction N with
  | zero =>
    intro d news v hd h _
    have := d.vals_length
    rw [h] at this
    simp only [List.length_cons] at this
    omega
  | succ N ih =>
    intro d news v hd h hl
    cases d with
    | nil => simp [AT.vals] at h
    | leaf s tk r =>
      simp only [AT.vals, List.cons.injEq] at h
      have hr : r = .nil := by cases r <;> simp [AT.vals] at h ⊢
      subst hr
      obtain ⟨rfl, _⟩ := h
      exact shape_leaf w _ _ _
    | node p lab k r =>
      simp only [AT.vals, List.cons.injEq] at h
      have hr : r = .nil := by cases r <;> simp [AT.vals] at h ⊢
      subst hr
      obtain ⟨rfl, _⟩ := h
      simp only [AT.fo, Fo.count] at hd ⊢
      simp only [AT.led, List.append_nil] at hl
      exact shape_node w p lab k news (hl _ (by simp [NP.led])) (hl _ (by simp [NP.led])) (hl _ (by simp [NP.led])) (fun q hq => hl q (List.mem_append_right _ hq)) fun d' nw v' h1 h2 h3 => ih d' nw v' (by omega) h2 h3
end
section
open PyProof.Rows.LCg
section
local macro_rules | `(tactic| walk_at "call ref") => `(tactic| ((with_reducible show wpAny _ _ (call (Value.ref 200) _ _) _ _ _); refine held ?_))
local macro_rules | `(tactic| walk_at "exec For Name Name cons nil") => `(tactic| (k_here; (with_reducible rename Fr _ _ _ _ => kF); with_unfolding_all refine' for_atE kF ?k1 ?k2 ?_ ?k3; (case k1 => rfl); (case k2 => rfl); (case k3 => intro _; rfl)))
theorem has_occ (lab c : Str) : hasC lab c = !(Builtin.Str.occurrences lab c 0 lab.length 1).isEmpty := by
  unfold hasC Txt.find
  cases Builtin.Str.occurrences lab c 0 lab.length 1 with
  | nil => rfl
  | cons i r =>
    simp only [List.isEmpty_cons, Bool.not_false, bne_iff_ne]
    omega
theorem MI.uncons {news : List (Addr × Obj)} {v : Value} {vs : List Value} {f : Fo} (h : MI news (v :: vs) f) : (∃ s tk r, v = .str s tk ∧ f = .leaf s r ∧ MI news vs r) ∨
    (∃ a b n n2 tk ws lab k r, v = .ref a ∧ f = .node lab k r ∧ (a, tup [.str lab tk, .ref b] n) ∈ news ∧ (b, tup ws n2) ∈ news ∧ MI news ws k ∧ MI news vs r) := by
  cases h with
  | leaf h => exact .inl ⟨_, _, _, rfl, rfl, h⟩
  | node h1 h2 h3 h4 => exact .inr ⟨_, _, _, _, _, _, _, _, _, rfl, rfl, h1, h2, h3, h4⟩
theorem Fo.kept_app (c : Str) : ∀ a b : Fo, (a.app b).kept c = (a.kept c).app (b.kept c)
  | .nil, _ => rfl
  | .leaf _ r, b => by simp only [Fo.app, Fo.kept, r.kept_app]
  | .node lab k r, b => by
    simp only [Fo.app, Fo.kept, r.kept_app]
    split
    · rw [Fo.app_assoc]
    · rfl
theorem Fo.kept_count (c : Str) : ∀ a : Fo, (a.kept c).count ≤ a.count
  | .nil => Nat.le_refl _
  | .leaf _ r => by have := r.kept_count c; simp only [Fo.kept, Fo.count]; omega
  | .node lab k r => by
    have h1 := k.kept_count c
    have h2 := r.kept_count c
    simp only [Fo.kept]
    split
    · rw [Fo.count_app, Fo.count]; omega
    · simp only [Fo.count]; omega
theorem add_L {prog : Program} {w : World} {A : Around} {E : Value → Shared → Prop} {s : Shared} {h₀ : Heap} {L a b : Addr} {m : Str → Option Value} {news : List (Addr × Obj)} {vs ws : List Value} {n1 n2 : Nat} {Q : Value → Shared → Prop} (F : Fr h₀ L s.heap m) (N : News h₀ L s.heap news) (ha : (a, listOf vs.toArray n1) ∈ news) (hb : (b, listOf ws.toArray n2) ∈ news)
    (h : ∀ D h', Fr h₀ L h' m → News h₀ L h' ((D, listOf (vs ++ ws).toArray 0) :: news) → (∀ p ∈ news, p.1 < D) → Q (.ref D) { s with heap := h' })
    (hz : vs.length + ws.length ≤ sizeLine) : wpAny (model prog w) A (binaryOp .Add (.ref a) (.ref b)) Q E s :=
  kmk_add_lit (its := vs.toArray) (its2 := ws.toArray) F N (N.isList ha) (N.isList hb) (by simp) h (by simpa using hz)
local macro_rules | `(tactic| walk_at "binaryOp Add ref ref") => `(tactic| (k_here; (with_reducible show wpAny _ _ (binaryOp _ (Value.ref _) (Value.ref _)) _ _ _); k_dflt (refine' add_L ?F ?N ?a ?b ?_ ?z; (case F => k_asm); (case N => k_asm); (case a => k_mem); (case b => k_mem); (case z => first | assumption | omega)); intro D' h' F' N' l1; (try k_sweep)))
def KeptOut (news : List (Addr × Obj)) (d : Fo) (tl : List (Addr × Obj)) (r : Value) : Prop := ∃ (l : Addr) (vs : List Value) (n : Nat), r = .ref l ∧ (l, listOf vs.toArray n) ∈ tl ∧ MI news vs d
def KeptJ (c : Str) (tkc : Tok) (ws : List Value) (f : Fo) (news0 news : List (Addr × Obj)) (i : Nat) (m₁ : Str → Option Value) (nx : List (Addr × Obj)) : Prop :=
  ∃ (l : Addr) (vs : List Value) (n : Nat) (dn rest : Fo), m₁ (Str.ofString "kept") = some (.ref l) ∧ m₁ (Str.ofString "new") = some (.str c tkc) ∧ nx = (l, listOf vs.toArray n) :: news ∧ (∀ q ∈ news, q.1 < l) ∧
    MI news0 vs (dn.kept c) ∧ MI news0 (ws.drop i) rest ∧ dn.app rest = f
set_option maxRecDepth 100000 in
set_option maxHeartbeats 8000000 in
theorem kept_all : ∀ (w : World) (f : Fo) (news0 news : List (Addr × Obj)) (b : Addr) (ws : List Value) (n : Nat) (cv : Nat) (tkc : Tok), (∀ p ∈ news0, p ∈ news) → (b, tup ws n) ∈ news0 → MI news0 ws f →
   (IH : ∀ (d : Fo) (nw : List (Addr × Obj)) (b : Addr) (ws : List Value) (n : Nat), d.count < f.count → (∀ p ∈ news0, p ∈ nw) → (b, tup ws n) ∈ news0 → MI news0 ws d → CallOk w 200 [.ref b, .str (mkS [cv]) tkc] nw (4 * (d.count + 1)) (20 * (d.count + 1)) (KeptOut news0 (d.kept (mkS [cv])))) →
   CallOk w 200 [.ref b, .str (mkS [cv]) tkc] news (4 * (f.count + 1)) (20 * (f.count + 1)) (KeptOut news0 (f.kept (mkS [cv]))) := by
  intro w f news0 news b ws n cv tkc hs0 hb0 hmi IH
  have hb := hs0 _ hb0
  unfold CallOk
  k_fill
  intro mean mg mb dp un gd cn cs a ccd cl outer A₀ base h₀ L m s Q E B F X N T hkf hdp hu hret
  refine wpAny_call ?_
  k_dflt ktr_enter
  k_steps
  have hwl := hmi.length
  have hsl : sizeLine = 16777216 := rfl
  have hrl : recursionLimit = 1000 := rfl
  have hcl : cLine = 9900 := rfl
  (with_reducible rename News _ _ _ (_ :: news) => N1); (with_reducible rename Fr _ _ _ (fun y => if y = Str.ofString "kept" then _ else _) => F1)
  rename (∀ p ∈ news, p.1 < _) => hl1
  refine unheld (for_tuple (fun s' => ∃ h tk, s' = { s with heap := h, toks := tk }) (KeptJ (mkS [cv]) tkc ws f news0 news) rfl F1 N1 (.tail _ hb) ⟨_, _, rfl⟩ ?_ ?_ ?_ ?_ ?_)
  · rintro _ h tk ⟨_, _, rfl⟩
    exact ⟨h, tk, rfl⟩
  · rintro i m₁ nx ⟨l, vs, n', dn, rest, _, _, rfl, _⟩
    exact .tail _ hb
  · exact ⟨_, [], 0, .nil, f, rfl, rfl, rfl, hl1, .nil, by simpa using hmi, rfl⟩
  · rintro I i v m₁ nx s₁ oI ⟨h1, tk1, rfl⟩ hi hv ⟨l, vs, n', dn, rest, mk, mn, rfl, hlt, hvs, hrest, happ⟩ hI F2 N2
    have hIl : @Ne Nat l I := hI _ (.head _)
    have hIn : ∀ p ∈ news, @Ne Nat p.1 I := fun p hp => hI p (.tail _ hp)
    have hln : ∀ p ∈ news, @Ne Nat p.1 l := fun p hp => Nat.ne_of_lt (hlt p hp)
    rw [know2 mk mn] at F2
    have hvl := hvs.length
    have hkc : (dn.kept (mkS [cv])).count ≤ dn.count := Fo.kept_count _ _
    have hcnt : dn.count + rest.count = f.count := by rw [← happ, Fo.count_app]
    have e : ws.drop i = v :: ws.drop (i + 1) := by
      obtain ⟨hi, rfl⟩ := List.getElem?_eq_some_iff.mp hv
      exact List.drop_eq_getElem_cons hi
    rw [e] at hrest
    clear hret
    rcases hrest.uncons with ⟨sx, tkx, r, rfl, rfl, hr⟩ | ⟨a2, b2, n2, n3, tk2, ws2, lab, k, r, rfl, rfl, ha0, hb20, hk, hr⟩
    · k_steps
      (with_reducible rename News _ _ _ _ => N3); (with_reducible rename Fr _ _ _ _ => F3)
      exact .intro ⟨_, _, rfl⟩ F3 N3 (List.forall_mem_cons.2 ⟨hIl, hIn⟩) ⟨l, vs ++ [.str sx tkx], n' + 1, dn.app (.leaf sx .nil), r, rfl, rfl, by simp, hlt, by rw [Fo.kept_app]; exact hvs.app (.leaf .nil), hr, by rw [Fo.app_assoc]; exact happ⟩
    · have ha := hs0 _ ha0
      have hb2 := hs0 _ hb20
      simp only [Fo.count] at hcnt
      k_steps
      · (with_reducible rename News _ _ _ _ => N3); (with_reducible rename Fr _ _ _ _ => F3)
        have hno : hasC lab (mkS [cv]) = false := by rw [has_occ]; simp_all
        refine .intro ⟨_, _, rfl⟩ F3 N3 (List.forall_mem_cons.2 ⟨hIl, hIn⟩) ⟨l, vs ++ [.ref a2], n' + 1, dn.app (.node lab k .nil), r, rfl, rfl, by simp, hlt, ?_, hr, by rw [Fo.app_assoc]; exact happ⟩
        rw [Fo.kept_app, Fo.kept, hno]
        exact hvs.app (.node ha0 hb20 hk .nil)
      · have hyes : hasC lab (mkS [cv]) = true := by rw [has_occ]; simp_all
        (with_reducible rename News _ _ _ ((I, oI) :: _) => N5)
        refine callOk_use (IH k ((I, oI) :: (l, listOf vs.toArray n') :: news) b2 ws2 n3 (by omega) (fun p hp => .tail _ (.tail _ (hs0 p hp))) hb20 hk) (by assumption) (by assumption) (by assumption) N5 (by assumption) rfl ?_ ?_ ?_
        · show dp + 1 + 4 * (k.count + 1) < recursionLimit
          omega
        · show un + 3 + 20 * (k.count + 1) < cLine
          omega
        rintro _ tl9 h9 tk9 F9 N9 hord9 ⟨l2, vs2, n4, rfl, hl2, hmi2⟩
        simp only [List.cons_append] at N9
        have hl2' := List.mem_append_right news hl2
        have hc2 : vs2.length ≤ k.count := Nat.le_trans hmi2.length (Fo.kept_count _ _)
        have hz9 : vs.length + vs2.length ≤ sizeLine := by omega
        k_steps
        (with_reducible rename News _ _ _ ((_, listOf (vs ++ vs2).toArray 0) :: _) => N3); (with_reducible rename Fr _ _ _ _ => F3)
        rename (∀ p : Addr × Obj, p ∈ (I, oI) :: _ → p.1 < _) => l9
        refine .intro (nx := (_, listOf (vs ++ vs2).toArray 0) :: news) ⟨_, _, rfl⟩ F3 (fun p hp => N3 p ?_) (List.forall_mem_cons.2 ⟨Nat.ne_of_gt (l9 (I, oI) (.head _)), hIn⟩) ⟨_, vs ++ vs2, 0, dn.app (.node lab k .nil), r, rfl, rfl, rfl, fun q hq => l9 q (.tail _ (.tail _ (List.mem_append_left _ hq))), ?_, hr, by rw [Fo.app_assoc]; exact happ⟩
        · simp only [List.mem_cons, List.mem_append] at hp ⊢
          rcases hp with h | h | h <;> simp [h]
        · rw [Fo.kept_app, Fo.kept, hyes, if_pos rfl, Fo.kept, Fo.app_nil]
          exact hvs.app hmi2
  · rintro m₁ nx s₁ ⟨h1, tk1, rfl⟩ ⟨l, vs, n', dn, rest, mk, mn, rfl, hlt, hvs, hrest, happ⟩ F2 N2
    rw [know2 mk mn] at F2
    k_steps
    (with_reducible rename News h₀ L _ _ => kN); (rename Fr h₀ L _ _ => kF)
    have hrn : rest = .nil := by
      rw [List.drop_length] at hrest
      cases hrest; rfl
    rw [hrn, Fo.app_nil] at happ
    subst happ
    refine hret _ [(l, listOf vs.toArray n')] _ _ kF (fun q hq => ?_) (fun q hq p hp => ?_) ⟨l, vs, n', rfl, .head _, hvs⟩
    · rcases List.mem_append.mp hq with hq | hq
      · exact kN q (.tail _ hq)
      · rw [List.mem_singleton.mp hq]; exact kN _ (.head _)
    · rw [List.mem_singleton.mp hp]; exact hlt q hq
theorem kept_spec (w : World) (cv : Nat) (tkc : Tok) (news0 : List (Addr × Obj)) : ∀ (N : Nat) (f : Fo) (news : List (Addr × Obj)) (b : Addr) (ws : List Value) (n : Nat), f.count ≤ N → (∀ p ∈ news0, p ∈ news) → (b, tup ws n) ∈ news0 → MI news0 ws f →
    CallOk w 200 [.ref b, .str (mkS [cv]) tkc] news (4 * (f.count + 1)) (20 * (f.count + 1)) (KeptOut news0 (f.kept (mkS [cv]))) := by
  intro N
  induction N with
  | zero => exact fun f news b ws n hf hs hb hm => kept_all w f news0 news b ws n cv tkc hs hb hm fun d _ _ _ _ hd => by omega
  | succ N ih => exact fun f news b ws n hf hs hb hm => kept_all w f news0 news b ws n cv tkc hs hb hm fun d nw b2 ws2 n2 hd h1 h2 h3 => ih d nw b2 ws2 n2 (by omega) h1 h2 h3
end
end
section
open PyProof.Rows.LCg
section
local macro_rules | `(tactic| walk_at "exec For Name Name cons nil") => `(tactic| (k_here; (with_reducible rename Fr _ _ _ _ => kF); with_unfolding_all refine' for_atE kF ?k1 ?k2 ?_ ?k3; (case k1 => rfl); (case k2 => rfl); (case k3 => intro _; rfl)))
section
variable {prog : Program} {w : World} {A : Around} {E : Value → Shared → Prop} {s : Shared} {h₀ : Heap} {L D : Addr} {m : Str → Option Value} {news news' : List (Addr × Obj)} {vs : List Value} {y : Value} {n : Nat} {t : Tok}
theorem setL_last (v : Value) : ∀ vs : List Value, ki_setL (vs ++ [y]) vs.length v = some (vs ++ [v])
  | [] => rfl
  | a :: r => by
    simp only [List.cons_append, List.length_cons, ki_setL, setL_last v r]
theorem seq_last (k : Nat) : seqIndex? (-1) (k + 1) = some k := by
  unfold seqIndex?
  have h : ((-1 : Int) < 0) := by decide
  simp only [h, if_true]
  rw [if_pos (by simp only [Bool.and_eq_true, decide_eq_true_eq]; omega)]
  congr 1; omega
theorem set_last {v : Value} {Q : Unit → Shared → Prop} (F : Fr h₀ L s.heap m) (N : News h₀ L s.heap news) (U : Upd D (listOf (vs ++ [y]).toArray n) (listOf (vs ++ [v]).toArray n) news news')
    (h : ∀ h', Fr h₀ L h' m → News h₀ L h' news' → Q () { s with heap := h' }) : wpAny (model prog w) A (setItem (.ref D) (.int (-1) t) v) Q E s :=
  ki_setNeg (j := vs.length) F N (by decide) (by decide) (by rw [List.size_toArray, List.length_append]; exact seq_last _) (by rw [List.toList_toArray]; exact setL_last v vs) U h
theorem item_last {value slice : PySem.Expr} {Q : Value → Shared → Prop} (hl : s.heap.IsList D (vs ++ [y]).toArray) (h : Q y s)
    (hs : subscripted slice false (.ref D) (.int (-1) t) = operate [.ref D, .int (-1) t] (getItem (.ref D) (.int (-1) t)) := by with_unfolding_all rfl) :
    wpAny (model prog w) A (subscriptTail value slice (.ref D) (.int (-1) t)) Q E s :=
  tail_any hl.typeIs slot_list_getitem.lookup (wpAny_getItem_list_neg hl (by decide) (by simp; omega) (by decide) (by
    have : ((-1 : Int) + ((vs ++ [y]).toArray.size : Nat)).toNat = vs.length := by simp; omega
    rw [this]; simp) h) hs
end
local macro_rules | `(tactic| walk_at "subscriptTail") => `(tactic| (k_here; (with_reducible show wpAny _ _ (subscriptTail _ _ (Value.ref _) (Value.int _ _)) _ _ _); (with_unfolding_all refine' item_last ?k1 ?_ ?k6; (case k1 => exact News.isList (by k_asm) (by k_mem)); (case k6 => with_unfolding_all rfl); k_whole)))
local macro_rules | `(tactic| walk_at "subscriptTail Name UnaryOp ref int") => `(tactic| walk_at "subscriptTail")
local macro_rules | `(tactic| walk_at "setItem ref int") => `(tactic| (k_here; k_dflt (refine' set_last ?F ?N ?U ?_; (case F => k_asm); (case N => k_asm); (case U => k_upd)); intro h' F' N'; (try k_sweep)))
/-- the labels that the page makes of a label -/
def labs (a j : Nat) : List Nat → List (List Nat) → List Nat → List (List Nat)
  | [], pre, x => pre ++ [x]
  | c :: r, pre, x => if c = a then pre ++ [x] else if c = j then labs a j r (pre ++ [x]) [] else labs a j r pre (x ++ [c])
inductive Texts : List Value → List (List Nat) → Prop
  | nil : Texts [] []
  | cons {x : List Nat} {t : Tok} {vs : List Value} {ls : List (List Nat)} : Texts vs ls → Texts (.str (mkS x) t :: vs) (x :: ls)
theorem Texts.snoc {vs : List Value} {ls : List (List Nat)} (h : Texts vs ls) (x : List Nat) (t : Tok) : Texts (vs ++ [.str (mkS x) t]) (ls ++ [x]) := by
  induction h with
  | nil => exact .cons .nil
  | cons _ ih => exact .cons ih
theorem Texts.length {vs : List Value} {ls : List (List Nat)} (h : Texts vs ls) : vs.length = ls.length := by
  induction h with
  | nil => rfl
  | cons _ ih => simp [ih]
def LabOut (ls : List (List Nat)) (tl : List (Addr × Obj)) (r : Value) : Prop := ∃ (l : Addr) (vs : List Value) (n : Nat), r = .ref l ∧ (l, listOf vs.toArray n) ∈ tl ∧ Texts vs ls
def LabJ (av jv : Nat) (ta tj : Tok) (lab : List Nat) (news : List (Addr × Obj)) (i : Nat) (m₁ : Str → Option Value) (nx : List (Addr × Obj)) : Prop :=
  ∃ (l : Addr) (vs : List Value) (n : Nat) (t : Tok) (pre : List (List Nat)) (x : List Nat), m₁ (Str.ofString "labels") = some (.ref l) ∧ m₁ (Str.ofString "above") = some (.str (mkS [av]) ta) ∧ m₁ (Str.ofString "joined") = some (.str (mkS [jv]) tj) ∧
    nx = (l, listOf (vs ++ [Value.str (mkS x) t]).toArray n) :: news ∧ (∀ q ∈ news, q.1 < l) ∧ Texts vs pre ∧ labs av jv (lab.drop i) pre x = labs av jv lab [] [] ∧ pre.length ≤ i ∧ x.length ≤ i
set_option maxRecDepth 100000 in
set_option maxHeartbeats 8000000 in
theorem labels_spec : ∀ (w : World) (lab : List Nat) (av jv : Nat) (tl ta tj : Tok) (news : List (Addr × Obj)), lab.length ≤ 100 →
   CallOk w 207 [.str (mkS lab) tl, .str (mkS [av]) ta, .str (mkS [jv]) tj] news 4 20 (LabOut (labs av jv lab [] [])) := by
  intro w lab av jv tlx ta tj news hlen
  unfold CallOk
  k_fill
  intro mean mg mb dp un gd cn cs a ccd cl outer A₀ base h₀ L m s Q E B F X N T hkf hdp hu hret
  refine wpAny_call ?_
  k_dflt ktr_enter
  k_steps
  have hsl : sizeLine = 16777216 := rfl
  (with_reducible rename News _ _ _ (_ :: news) => N1); (with_reducible rename Fr _ _ _ (fun y => if y = Str.ofString "labels" then _ else _) => F1)
  rename (∀ p ∈ news, p.1 < _) => hl1
  refine unheld (for_text (fun s' => ∃ h tk, s' = { s with heap := h, toks := tk }) (LabJ av jv ta tj lab news) rfl F1 N1 ⟨_, _, rfl⟩ ?_ ?_ ?_ ?_)
  · rintro _ h tk ⟨_, _, rfl⟩
    exact ⟨h, tk, rfl⟩
  · exact ⟨_, [], 0, _, [], [], rfl, rfl, rfl, rfl, hl1, .nil, rfl, Nat.le_refl _, Nat.le_refl _⟩
  · rintro I i c u m₁ nx s₁ oI ⟨h1, tk1, rfl⟩ hc ⟨l, vs, n', t, pre, x, ml, ma, mj, rfl, hlt, htx, hlabs, hpl, hxl⟩ hI F2 N2
    have hIl : @Ne Nat l I := hI _ (.head _)
    have hIn : ∀ p ∈ news, @Ne Nat p.1 I := fun p hp => hI p (.tail _ hp)
    have hln : ∀ p ∈ news, @Ne Nat p.1 l := fun p hp => Nat.ne_of_lt (hlt p hp)
    rw [know3 ml ma mj] at F2
    have hil : i < lab.length := by
      have := (Array.getElem?_eq_some_iff.mp hc).1
      simpa using this
    have hvl := htx.length
    have hz1 : (vs ++ [Value.str (mkS x) t]).toArray.size + 1 ≤ sizeLine := by simp; omega
    have hz2 : (vs ++ [Value.str (mkS x) t]).toArray.toList.length + 1 ≤ sizeLine := by simp; omega
    have hxs : (mkS x).length ≤ 100 := by rw [mkS_len]; omega
    have hcs : (⟨#[c]⟩ : Str).length = 1 := rfl
    have hd : lab.drop i = c :: lab.drop (i + 1) := by
      have : lab[i]? = some c := by simpa using hc
      obtain ⟨hi, rfl⟩ := List.getElem?_eq_some_iff.mp this
      exact List.drop_eq_getElem_cons hi
    rw [hd, labs] at hlabs
    have eqs : ∀ {v : Nat}, ((⟨#[c]⟩ : Str) == mkS [v]) = decide (c = v) := by
      intro v
      by_cases h : c = v
      · subst h; simp [mkS]
      · rw [decide_eq_false h]
        refine beq_eq_false_iff_ne.mpr fun e => h ?_
        simpa [mkS] using e
    k_steps
    · rename (_ == mkS [av]) = true => hb
      rw [eqs, decide_eq_true_eq] at hb
      rw [if_pos hb] at hlabs
      dsimp only [ForPost]
      k_steps
      (with_reducible rename News h₀ L _ _ => kN); (rename Fr h₀ L _ _ => kF)
      refine hret _ [(l, listOf (vs ++ [Value.str (mkS x) t]).toArray n')] _ _ kF (fun q hq => ?_) (fun q hq p hp => ?_) ⟨l, vs ++ [Value.str (mkS x) t], n', rfl, .head _, by rw [← hlabs]; exact htx.snoc _ _⟩
      · rcases List.mem_append.mp hq with hq | hq
        · exact kN q (.tail _ (.tail _ hq))
        · rw [List.mem_singleton.mp hq]; exact kN _ (.tail _ (.head _))
      · rw [List.mem_singleton.mp hp]; exact hlt q hq
    · rename (_ == mkS [av]) = false => hb
      rename (_ == mkS [jv]) = true => hb2
      rw [eqs] at hb hb2
      rw [if_neg (of_decide_eq_false hb), if_pos (of_decide_eq_true hb2)] at hlabs
      (with_reducible rename News _ _ _ _ => N3); (with_reducible rename Fr _ _ _ _ => F3)
      have e0 : Str.ofString "" = mkS [] := by decide +kernel
      simp only [e0, List.push_toArray] at N3
      exact .intro ⟨_, _, rfl⟩ F3 N3 (List.forall_mem_cons.2 ⟨hIl, hIn⟩) ⟨l, vs ++ [Value.str (mkS x) t], n' + 1, _, pre ++ [x], [], rfl, rfl, rfl, rfl, hlt, htx.snoc _ _, hlabs, by simp; omega, by simp⟩
    · rename (_ == mkS [av]) = false => hb
      rename (_ == mkS [jv]) = false => hb2
      rw [eqs] at hb hb2
      rw [if_neg (of_decide_eq_false hb), if_neg (of_decide_eq_false hb2)] at hlabs
      (with_reducible rename News _ _ _ _ => N3); (with_reducible rename Fr _ _ _ _ => F3)
      have e0 : mkS x ++ (⟨#[c]⟩ : Str) = mkS (x ++ [c]) := by
        show (⟨x.toArray ++ #[c]⟩ : Str) = _
        simp [mkS]
      rw [e0] at N3
      exact .intro ⟨_, _, rfl⟩ F3 N3 (List.forall_mem_cons.2 ⟨hIl, hIn⟩) ⟨l, vs, n', _, pre, x ++ [c], rfl, rfl, rfl, rfl, hlt, htx, hlabs, by omega, by simp; omega⟩
  · rintro m₁ nx s₁ ⟨h1, tk1, rfl⟩ ⟨l, vs, n', t, pre, x, ml, ma, mj, rfl, hlt, htx, hlabs, hpl, hxl⟩ F2 N2
    rw [know3 ml ma mj] at F2
    k_steps
    (with_reducible rename News h₀ L _ _ => kN); (rename Fr h₀ L _ _ => kF)
    have hl2 : labs av jv lab [] [] = pre ++ [x] := by
      rw [← hlabs, List.drop_of_length_le (by simp)]; rfl
    refine hret _ [(l, listOf (vs ++ [Value.str (mkS x) t]).toArray n')] _ _ kF (fun q hq => ?_) (fun q hq p hp => ?_) ⟨l, vs ++ [Value.str (mkS x) t], n', rfl, .head _, by rw [hl2]; exact htx.snoc _ _⟩
    · rcases List.mem_append.mp hq with hq | hq
      · exact kN q (.tail _ hq)
      · rw [List.mem_singleton.mp hq]; exact kN _ (.head _)
    · rw [List.mem_singleton.mp hp]; exact hlt q hq
end
end
section
open PyProof.Rows.LCg
/-- a row of single children -/
def wrap : List (List Nat) → Fo → Fo → Fo
  | [], _, r => r
  | [x], k, r => .node (mkS x) k r
  | x :: y :: l, k, r => .node (mkS x) (wrap (y :: l) k .nil) r
/-- what the page makes of a forest -/
inductive Und (cv av jv : Nat) (b : Bool) : Fo → Fo → Prop
  | nil : Und cv av jv b .nil .nil
  | leaf {s : Str} {r r' : Fo} : Und cv av jv b r r' → Und cv av jv b (.leaf s r) (.leaf s r')
  | node {l : List Nat} {k k' r r' : Fo} : Und cv av jv b (k.kept (mkS [cv])) k' → Und cv av jv b r r' → Und cv av jv b (.node (mkS l) k r) (wrap (labs av (if b then jv else av) l [] []) k' r')
theorem labs_ne (a j : Nat) : ∀ (l : List Nat) (pre : List (List Nat)) (x : List Nat), labs a j l pre x ≠ []
  | [], pre, x => by simp [labs]
  | c :: r, pre, x => by
    simp only [labs]
    split
    · simp
    · split
      · exact labs_ne a j r _ _
      · exact labs_ne a j r _ _
theorem wrap_app : ∀ (ls : List (List Nat)) (k r b : Fo), (wrap ls k r).app b = wrap ls k (r.app b)
  | [], _, _, _ => rfl
  | [_], _, _, _ => rfl
  | _ :: _ :: _, _, _, _ => rfl
theorem Und.app {cv av jv : Nat} {b : Bool} {f f' g g' : Fo} (h : Und cv av jv b f f') (h2 : Und cv av jv b g g') : Und cv av jv b (f.app g) (f'.app g') := by
  induction h with
  | nil => exact h2
  | leaf _ ih => exact .leaf ih
  | node h _ _ i2 => rw [wrap_app]; exact .node h i2
section
local macro_rules | `(tactic| walk_at "call ref") => `(tactic| ((with_reducible show wpAny _ _ (call (Value.ref 200) _ _) _ _ _); refine held ?_))
local macro_rules | `(tactic| walk_at "call ref") => `(tactic| ((with_reducible show wpAny _ _ (call (Value.ref 207) _ _) _ _ _); refine held ?_))
local macro_rules | `(tactic| walk_at "call ref") => `(tactic| ((with_reducible show wpAny _ _ (call (Value.ref 212) _ _) _ _ _); refine held ?_))
local macro_rules | `(tactic| walk_at "eval ListComp") => `(tactic| (k_here; (with_reducible rename Fr _ _ _ _ => kF); with_unfolding_all refine' comp_list kF ?k1 ?k2 ?k3 ?k4 ?k5 ?_ ?k6; (case k1 => rfl); (case k2 => decide); (case k3 => rfl); (case k4 => decide); (case k5 => rfl); (case k6 => intro _; rfl)))
theorem Texts.last {vs : List Value} {ls : List (List Nat)} (h : Texts vs ls) (hne : ls ≠ []) : ∃ vp pre x t, vs = vp ++ [Value.str (mkS x) t] ∧ ls = pre ++ [x] ∧ Texts vp pre := by
  induction h with
  | nil => exact absurd rfl hne
  | @cons x t vs ls h ih =>
    cases ls with
    | nil => cases h; exact ⟨[], [], x, t, rfl, rfl, .nil⟩
    | cons y l =>
      obtain ⟨vp, pre, x', t', rfl, e, hp⟩ := ih (by simp)
      exact ⟨_ :: vp, x :: pre, x', t', rfl, by rw [e]; rfl, .cons hp⟩
theorem labs_len (a j : Nat) : ∀ (l : List Nat) (pre : List (List Nat)) (x : List Nat), (labs a j l pre x).length ≤ l.length + pre.length + 1
  | [], pre, x => by simp [labs]
  | c :: r, pre, x => by
    simp only [labs]
    split
    · simp only [List.length_append, List.length_cons, List.length_nil]; omega
    · split
      · have := labs_len a j r (pre ++ [x]) []
        simp at this ⊢; omega
      · have := labs_len a j r pre (x ++ [c])
        simp at this ⊢; omega
local macro_rules | `(tactic| walk_at "subscriptTail Name UnaryOp ref int") => `(tactic| (k_here; (with_reducible show wpAny _ _ (subscriptTail _ _ (Value.ref _) (Value.int _ _)) _ _ _); (with_unfolding_all refine' item_last ?k1 ?_ ?k6; (case k1 => exact News.isList (by k_asm) (by k_mem)); (case k6 => with_unfolding_all rfl); k_whole)))
local macro_rules | `(tactic| walk_at "call type:range") => `(tactic| (k_here; (with_reducible show wpAny _ _ (call (Value.type _) [Value.int _ _, Value.int _ _, Value.int _ _]) _ _ _); (with_reducible rename Fr _ _ _ _ => kF); (with_reducible rename News _ _ _ _ => kN); (refine range3_rows kF kN (by decide) ?_); intro hR tkR t1R u1R v1R kR F' N' upR))
local macro_rules | `(tactic| walk_at "exec For Name Call cons nil") => `(tactic| (k_here; (with_reducible rename Fr _ _ _ _ => kF); with_unfolding_all refine' for_atE kF ?k1 ?k2 ?_ ?k3; (case k1 => rfl); (case k2 => rfl); (case k3 => intro _; rfl)))
theorem Texts.get {vs : List Value} {ls : List (List Nat)} (h : Texts vs ls) : ∀ {j : Nat} {x : List Nat}, ls[j]? = some x → ∃ t, vs[j]? = some (Value.str (mkS x) t) := by
  induction h with
  | nil => intro j x h; simp at h
  | @cons y t vs ls h ih =>
    intro j x hj
    cases j with
    | zero => simp at hj; subst hj; exact ⟨t, rfl⟩
    | succ j => exact ih (by simpa using hj)
local macro_rules | `(tactic| walk_at "subscriptTail Name Name ref int") => `(tactic| (k_here; (with_reducible show wpAny _ _ (subscriptTail _ _ (Value.ref _) (Value.int _ _)) _ _ _); (with_unfolding_all refine' item_i ?k1 ?k2 ?k3 ?_ ?k6; (case k1 => exact News.isList (by k_asm) (by k_mem)); (case k2 => assumption); (case k3 => omega); (case k6 => with_unfolding_all rfl); k_whole)))
/-- the loop that lays the row of single children -/
def UndL (ll D1 : Addr) (ys : List Value) (dn' : Fo) (pre : List (List Nat)) (xl : List Nat) (tl news news4 : List (Addr × Obj)) (i : Nat) (m₁ : Str → Option Value) (nx : List (Addr × Obj)) : Prop :=
  ∃ (fv : Addr) (tp : List (Addr × Obj)), m₁ (Str.ofString "found") = some (.ref fv) ∧ m₁ (Str.ofString "labels") = some (.ref ll) ∧ nx = tp ++ news4 ∧ MI (tp ++ (D1, tup ys 0) :: tl) [.ref fv] (wrap ((pre ++ [xl]).drop (pre.length - i)) dn' .nil) ∧ (∀ q ∈ news, ∀ p ∈ tp, q.1 < p.1)
theorem undl_step {g h : Heap} {L I D2 D3 fv D1 : Addr} {oI : Obj} {ys : List Value} {dn' : Fo} {pre : List (List Nat)} {xl x : List Nat} {t : Tok} {tp tl news news4 : List (Addr × Obj)} {i j : Nat} {n2 n3 : Nat}
    (N : News g L h ((D3, tup [.str (mkS x) t, .ref D2] n3) :: (D2, tup [.ref fv] n2) :: (I, oI) :: (tp ++ news4))) (hI : ∀ p ∈ tp ++ news4, @Ne Nat p.1 I) (lb : @LT.lt Nat _ D2 D3) (la : @LT.lt Nat _ I D2) (lc : AllLt D2 (tp ++ news4)) (hnn : ∀ p ∈ news, p ∈ news4)
    (hmi : MI (tp ++ (D1, tup ys 0) :: tl) [.ref fv] (wrap ((pre ++ [xl]).drop (pre.length - i)) dn' .nil)) (hord : ∀ q ∈ news, ∀ p ∈ tp, q.1 < p.1) (hi : i < pre.length) (hj : j = pre.length - 1 - i) (hx : (pre ++ [xl])[j]? = some x) :
    ∃ tp', News g L h ((I, oI) :: (tp' ++ news4)) ∧ (∀ p ∈ tp' ++ news4, @Ne Nat p.1 I) ∧ MI (tp' ++ (D1, tup ys 0) :: tl) [.ref D3] (wrap ((pre ++ [xl]).drop (pre.length - (i + 1))) dn' .nil) ∧ (∀ q ∈ news, ∀ p ∈ tp', q.1 < p.1) := by
  have hlt := ktn_ltOf lc
  refine ⟨(D3, tup [.str (mkS x) t, .ref D2] n3) :: (D2, tup [.ref fv] n2) :: tp, fun p hp => N p ?_, ?_, ?_, ?_⟩
  · simp only [List.mem_cons, List.cons_append] at hp ⊢
    rcases hp with h | h | h | h <;> simp [h]
  · exact List.forall_mem_cons.2 ⟨Nat.ne_of_gt (Nat.lt_trans la lb), List.forall_mem_cons.2 ⟨Nat.ne_of_gt la, hI⟩⟩
  · have e1 : (pre ++ [xl]).drop (pre.length - (i + 1)) = x :: (pre ++ [xl]).drop (pre.length - i) := by
      obtain ⟨hj2, rfl⟩ := List.getElem?_eq_some_iff.mp hx
      have e2 : pre.length - (i + 1) = j := by omega
      have e3 : pre.length - i = j + 1 := by omega
      rw [e2, e3]
      exact List.drop_eq_getElem_cons hj2
    rw [e1]
    have e4 : ∃ y l, (pre ++ [xl]).drop (pre.length - i) = y :: l := by
      cases h : (pre ++ [xl]).drop (pre.length - i) with
      | nil =>
        have := congrArg List.length h
        simp at this; omega
      | cons y l => exact ⟨y, l, rfl⟩
    obtain ⟨y, l, e4⟩ := e4
    rw [e4] at hmi ⊢
    exact .node (.head _) (.tail _ (.head _)) (hmi.mono fun p hp => .tail _ (.tail _ hp)) .nil
  · intro q hq
    have h2 := hlt q (List.mem_append_right _ (hnn q hq))
    exact List.forall_mem_cons.2 ⟨Nat.lt_trans h2 lb, List.forall_mem_cons.2 ⟨h2, hord q hq⟩⟩
def UndJ (cv av jv : Nat) (b : Bool) (news0 news : List (Addr × Obj)) (vs : List Value) (kf : Fo) (i : Nat) (ys : List Value) (nw : List (Addr × Obj)) : Prop :=
  ∃ (dn dn' rest : Fo) (tl : List (Addr × Obj)), MI news0 (vs.drop i) rest ∧ dn.app rest = kf ∧ Und cv av jv b dn dn' ∧ MI tl ys dn' ∧ ys.length = i ∧ nw = news ++ tl ∧ (∀ q ∈ news, ∀ p ∈ tl, q.1 < p.1)
def UndOut (cv av jv : Nat) (b : Bool) (d : Fo) (tl : List (Addr × Obj)) (r : Value) : Prop := ∃ d', MI tl [r] d' ∧ Und cv av jv b d d'
set_option maxRecDepth 100000 in
set_option maxHeartbeats 8000000 in
theorem und_node : ∀ (w : World) (cv av jv : Nat) (t1 t2 t3 : Tok) (part : Bool) (va vb : Addr) (n n2 : Nat) (lab : List Nat) (tkl : Tok) (ws : List Value) (k : Fo) (news0 news : List (Addr × Obj)), (∀ p ∈ news0, p ∈ news) → (va, tup [.str (mkS lab) tkl, .ref vb] n) ∈ news0 → (vb, tup ws n2) ∈ news0 → MI news0 ws k → lab.length + k.wt ≤ 100 →
   (IH : ∀ (d : Fo) (nw : List (Addr × Obj)) (v : Value), d.count ≤ k.count → d.wt ≤ 100 → (∀ p ∈ news0, p ∈ nw) → MI news0 [v] d → CallOk w 212 [v, .str (mkS [cv]) t1, .str (mkS [av]) t2, .str (mkS [jv]) t3, .bool part] nw (4 * (d.count + 1)) (20 * (d.count + 1)) (UndOut cv av jv part d)) →
   CallOk w 212 [.ref va, .str (mkS [cv]) t1, .str (mkS [av]) t2, .str (mkS [jv]) t3, .bool part] news (4 * (k.count + 2)) (20 * (k.count + 2)) (UndOut cv av jv part (.node (mkS lab) k .nil)) := by
  intro w cv av jv t1 t2 t3 part va vb n n2 lab tkl ws k news0 news hs0 hva0 hvb0 hk hwt IH
  have hva := hs0 _ hva0
  have hvb := hs0 _ hvb0
  unfold CallOk
  k_fill
  intro mean mg mb dp un gd cn cs a ccd cl outer A₀ base h₀ L m s Q E B F X N T hkf hdp hu hret
  refine wpAny_call ?_
  k_dflt (refine' code_defC ?k1 ?k2 ?k3 ?k4 ?k5 ?kA ?kF ?kK ?k6 ?k7 ?k8 ?k9 ?kB ?kD ?_ ?c2 ?c3 ?c4; (case kA => exact rfl); (case kF => exact rfl); (case kK => assumption); (case k1 => k_asm); (case k2 => k_asm); (case k3 => k_asm); (case k4 => k_asm); (case k5 => k_asm); (case k6 => k_is); (case k7 => k_is); (case k8 => k_room); (case k9 => first | exact BindsTo.of_eq rfl | exact binds_K (by k_in) rfl (by k_is) rfl rfl rfl | fail "k_enter: no rule for these arguments"); (case kB => exact rfl); (case kD => decide +kernel); (case c2 => exact rfl); (case c3 => exact rfl); (case c4 => exact rfl); k_whole; intro g' L' h' tk' cells' FG' F' N' Y' B' X' T' l1; (try k_lt l1); k_cells Y')

  (with_reducible rename News g' L' h' _ => oN)
  have key : ∃ o1 o2 o3 o4 : Obj, o1.data = .cell (some (.bool part)) ∧ o2.data = .cell (some (.str (mkS [jv]) t3)) ∧ o3.data = .cell (some (.str (mkS [av]) t2)) ∧ o4.data = .cell (some (.str (mkS [cv]) t1)) ∧ News g' L' h' ((L' + 1 + 1 + 1 + 1, o1) :: (L' + 1 + 1 + 1, o2) :: (L' + 1 + 1, o3) :: (L' + 1, o4) :: news) := by
    refine ⟨_, _, _, _, ?_, ?_, ?_, ?_, oN⟩ <;> with_unfolding_all assumption
  clear oN
  obtain ⟨o1, o2, o3, o4, d1, d2, d3, d4, N1⟩ := key
  have hrl : recursionLimit = 1000 := rfl
  have hcl : cLine = 9900 := rfl
  have hsl : sizeLine = 16777216 := rfl
  k_steps
  refine callOk_use (kept_spec w cv t1 news0 k.count k ((L' + 1 + 1 + 1 + 1, o1) :: (L' + 1 + 1 + 1, o2) :: (L' + 1 + 1, o3) :: (L' + 1, o4) :: news) vb ws n2 (Nat.le_refl _) (fun p hp => .tail _ (.tail _ (.tail _ (.tail _ (hs0 p hp))))) hvb0 hk) (by assumption) (by assumption) (by assumption) N1 (by assumption) rfl ?_ ?_ ?_
  · show dp + 1 + 4 * (k.count + 1) < recursionLimit
    omega
  · show un + 3 + 20 * (k.count + 1) < cLine
    omega
  rintro _ tlk h9 tk9 F9 N9 hord9 ⟨lk, vs, nk, rfl, hlk, hmik⟩
  have hm1 := List.mem_append_left tlk (List.Mem.head (a := (L' + 1 + 1 + 1 + 1, o1)) ((L' + 1 + 1 + 1, o2) :: (L' + 1 + 1, o3) :: (L' + 1, o4) :: news))
  have hm2 : (L' + 1 + 1 + 1, o2) ∈ ((L' + 1 + 1 + 1 + 1, o1) :: (L' + 1 + 1 + 1, o2) :: (L' + 1 + 1, o3) :: (L' + 1, o4) :: news) ++ tlk := by simp
  have hm3 : (L' + 1 + 1, o3) ∈ ((L' + 1 + 1 + 1 + 1, o1) :: (L' + 1 + 1 + 1, o2) :: (L' + 1 + 1, o3) :: (L' + 1, o4) :: news) ++ tlk := by simp
  have hm4 : (L' + 1, o4) ∈ ((L' + 1 + 1 + 1 + 1, o1) :: (L' + 1 + 1 + 1, o2) :: (L' + 1 + 1, o3) :: (L' + 1, o4) :: news) ++ tlk := by simp
  have hml : (lk, listOf vs.toArray nk) ∈ ((L' + 1 + 1 + 1 + 1, o1) :: (L' + 1 + 1 + 1, o2) :: (L' + 1 + 1, o3) :: (L' + 1, o4) :: news) ++ tlk := List.mem_append_right _ hlk
  have hmn : ∀ p ∈ news, p ∈ ((L' + 1 + 1 + 1 + 1, o1) :: (L' + 1 + 1 + 1, o2) :: (L' + 1 + 1, o3) :: (L' + 1, o4) :: news) ++ tlk := fun p hp => by simp [hp]
  generalize ((L' + 1 + 1 + 1 + 1, o1) :: (L' + 1 + 1 + 1, o2) :: (L' + 1 + 1, o3) :: (L' + 1, o4) :: news) ++ tlk = news2 at N9 hm1 hm2 hm3 hm4 hml hmn
  clear hlk hord9 N1
  have hvl := hmik.length
  have hkc := Fo.kept_count (mkS [cv]) k
  have hkw : (k.kept (mkS [cv])).wt ≤ k.wt := Fo.kept_wt _ _
  refine unheld (CompSrc.ledger (its := vs.toArray) (k := nk) rfl F9 N9 hml (by rw [List.size_toArray]; omega) fun g2 => ?_)
  refine compRest_ind (UndJ cv av jv part news0 news2 vs (k.kept (mkS [cv]))) ⟨.nil, .nil, _, [], by simpa using hmik, rfl, .nil, .nil, rfl, by simp, by simp⟩ ?_ ?_
  · clear hret
    rintro i ys nw hi ⟨dn, dn', rest, tl, hrest, happ, hund, hmi, hyi, rfl, hord⟩ v I oI C oC D m₂ h tk' E' hv hoC hm₂ F₂ N₂ o3' hne
    have hv' : vs[i]? = some v := by simpa using hv
    obtain ⟨d, r, hdr, hd, hr, hc⟩ := hrest.head hv'
    have hcnt : d.count + r.count + dn.count = (k.kept (mkS [cv])).count := by rw [← happ, Fo.count_app]; omega
    have hwd : d.wt ≤ (k.kept (mkS [cv])).wt := by rw [← happ, hdr, Fo.wt_app, Fo.wt_app]; omega
    have hn1 := List.mem_append_left tl hm1
    have hn2 := List.mem_append_left tl hm2
    have hn3 := List.mem_append_left tl hm3
    have hn4 := List.mem_append_left tl hm4
    k_steps
    refine callOk_use (IH d ((I, oI) :: (C, oC) :: (D, lst ys) :: (news2 ++ tl)) v (by omega) (by omega) (fun p hp => by have := hmn p (hs0 p hp); simp [this]) hd) (by assumption) (by assumption) (by assumption) (by assumption) (by assumption) rfl ?_ ?_ ?_
    · show dp + 1 + 4 * (d.count + 1) < recursionLimit
      omega
    · show un + 3 + 20 * (d.count + 1) < cLine
      omega
    rintro y tl9 h9 tk9 F9 N9 hord9 ⟨d', hmi9, hund9⟩
    refine CompEnd.intro F9 N9 (news2 ++ (tl ++ tl9)) (fun p hp => by simpa [or_assoc] using hp) ?_ (.inr ⟨listOf vs.toArray nk, by simp [hml], rfl, _, rfl⟩) ?_
    · refine Off3.of fun p hp => ?_
      rw [← List.append_assoc] at hp
      rcases List.mem_append.mp hp with hp | hp
      · exact o3'.mem p hp
      · exact ⟨Nat.ne_of_gt (hord9 (I, oI) (by simp) p hp), Nat.ne_of_gt (hord9 (C, oC) (by simp) p hp), Nat.ne_of_gt (hord9 (D, lst ys) (by simp) p hp)⟩
    · refine ⟨dn.app d, dn'.app d', r, tl ++ tl9, hr, ?_, hund.app hund9, (hmi.mono fun p hp => List.mem_append_left _ hp).app (hmi9.mono fun p hp => List.mem_append_right _ hp), by simp [hyi], rfl, ?_⟩
      · rw [Fo.app_assoc, ← hdr, happ]
      · intro q hq p hp
        rcases List.mem_append.mp hp with hp | hp
        · exact hord q hq p hp
        · exact hord9 q (by simp [hq]) p hp
  · rintro ys nw ⟨dn, dn', rest, tl, hrest, happ, hund, hmi, hyi, rfl, hord⟩
    rw [List.size_toArray, List.drop_length] at hrest
    cases hrest
    rw [Fo.app_nil] at happ
    subst happ
    intro D h tk9 F9 N9 o1'
    have hts : ys.toArray.size ≤ sizeLine := by simp only [List.size_toArray] at hyi ⊢; omega
    have hn1 := List.mem_append_left tl hm1
    have hn2 := List.mem_append_left tl hm2
    have hn3 := List.mem_append_left tl hm3
    have hn4 := List.mem_append_left tl hm4
    have hva2 := List.mem_append_left tl (hmn _ hva)
    cases part
    · k_steps
      (with_reducible rename News g' L' _ (_ :: _) => N5)
      (with_reducible rename (_ ∧ AllLt _ _) => lD1)
      rename_i D1 hh0 hh1 FF1
      replace N5 : News g' L' _ ((D1, tup ys 0) :: (D, lst ys) :: (news2 ++ tl)) := N5
      refine unheld ?_
      refine callOk_use (labels_spec w lab av av tkl t2 t2 _ (by omega)) (by assumption) (by assumption) (by assumption) N5 (by assumption) rfl ?_ ?_ ?_
      · show dp + 1 + 4 < recursionLimit
        omega
      · show un + 3 + 20 < cLine
        omega
      rintro _ tll h8 tk8 F8 N8 hord8 ⟨ll, ws9, n9, rfl, hll, htx⟩
      obtain ⟨vpre, pre, xl, txl, rfl, hLs, htp⟩ := htx.last (labs_ne _ _ _ _ _)
      have hpl : pre.length ≤ 100 := by
        have := labs_len av av lab [] []
        rw [hLs] at this
        simp at this; omega
      have hvp := htp.length
      have hltD := ktn_ltOf lD1.2
      have hD1 : (D1, tup ys 0) ∈ ((D1, tup ys 0) :: (D, lst ys) :: (news2 ++ tl)) ++ tll := by simp
      have hll' : (ll, listOf (vpre ++ [Value.str (mkS xl) txl]).toArray n9) ∈ ((D1, tup ys 0) :: (D, lst ys) :: (news2 ++ tl)) ++ tll := List.mem_append_right _ hll
      have htl' : ∀ p ∈ tl, p ∈ ((D1, tup ys 0) :: (D, lst ys) :: (news2 ++ tl)) ++ tll := fun p hp => by simp [hp]
      have hnn' : ∀ p ∈ news, p ∈ ((D1, tup ys 0) :: (D, lst ys) :: (news2 ++ tl)) ++ tll := fun p hp => by have := hmn p hp; simp [this]
      generalize ((D1, tup ys 0) :: (D, lst ys) :: (news2 ++ tl)) ++ tll = news4 at N8 hD1 hll' htl' hnn'
      have hsz9 : (vpre ++ [Value.str (mkS xl) txl]).toArray.size = pre.length + 1 := by simp [hvp]
      k_steps
      rename (∀ p ∈ news4, p.1 < _) => lD2
      (with_reducible rename News g' L' _ (_ :: news4) => N6); (with_reducible rename Fr g' L' _ _ => F6); (rename IsRange _ _ _ _ _ _ _ _ => R6)
      rw [hsz9, show ((pre.length + 1 : Nat) : Int) - 2 = (pre.length : Int) - 1 by omega] at R6
      refine unheld (for_range (n := pre.length) (fun s' => ∃ h tk, s' = { s with heap := h, toks := tk }) (UndL ll D1 ys dn' pre xl tl news news4) rfl F6 N6 R6 (small_down (by omega) (by omega) (by omega) (by omega)) (by rw [rangeSize_downNat]; omega) ⟨_, _, rfl⟩ ?_ ?_ ?_ ?_)
      · rintro _ h tk ⟨_, _, rfl⟩
        exact ⟨h, tk, rfl⟩
      · refine ⟨_, [_], rfl, rfl, rfl, ?_, fun q hq p hp => by rw [List.mem_singleton.mp hp]; exact lD2 q (hnn' q hq)⟩
        rw [Nat.sub_zero, List.drop_left]
        exact .node (.head _) (.tail _ (.head _)) (hmi.mono fun p hp => .tail _ (.tail _ hp)) .nil
      · rintro I i u m₁ nx s₁ oI ⟨h1, tk1, rfl⟩ hi ⟨fv, tp, mf, ml, rfl, hmi2, hord2⟩ hI F2 N2
        have hii : ((pre.length : Int) - 1) + (i : Int) * (-1) = ((pre.length - 1 - i : Nat) : Int) := by omega
        rw [hii, know2 mf ml] at F2
        obtain ⟨x2, hx2⟩ : ∃ x, (pre ++ [xl])[pre.length - 1 - i]? = some x := ⟨_, List.getElem?_eq_getElem (by simp; omega)⟩
        obtain ⟨t9, hg9⟩ := (htp.snoc xl txl).get hx2
        have hl6 := List.mem_append_right tp hll'
        clear hret
        k_steps
        (with_reducible rename News g' L' _ (_ :: _ :: (I, oI) :: _) => N3); (with_reducible rename Fr g' L' _ _ => F3)
        with_reducible rename (_ ∧ _ ∧ AllLt _ _) => lb
        with_reducible rename (_ ∧ AllLt _ _) => la
        obtain ⟨tp', a1, a2, a3, a4⟩ := undl_step N3 hI lb.1 la.1 la.2 hnn' hmi2 hord2 hi rfl hx2
        exact .intro ⟨_, _, rfl⟩ F3 a1 a2 ⟨_, tp', rfl, rfl, rfl, a3, a4⟩
      · rintro m₁ nx s₁ ⟨h1, tk1, rfl⟩ ⟨fv, tp, mf, ml, rfl, hmi2, hord2⟩ F2 N2
        rw [know2 mf ml] at F2
        k_steps
        (with_reducible rename News h₀ L _ _ => kN); (rename Fr h₀ L _ _ => kF)
        rw [Nat.sub_self, List.drop_zero, ← hLs] at hmi2
        refine hret _ (tp ++ (D1, tup ys 0) :: tl) _ _ kF (fun q hq => ?_) (fun q hq p hp => ?_) ⟨_, hmi2, Und.node (b := false) hund .nil⟩
        · rcases List.mem_append.mp hq with hq | hq
          · exact kN q (List.mem_append_right _ (hnn' q hq))
          · rcases List.mem_append.mp hq with hq | hq
            · exact kN q (List.mem_append_left _ hq)
            · rcases List.mem_cons.mp hq with rfl | hq
              · exact kN _ (List.mem_append_right _ hD1)
              · exact kN q (List.mem_append_right _ (htl' q hq))
        · rcases List.mem_append.mp hp with hp | hp
          · exact hord2 q hq p hp
          · rcases List.mem_cons.mp hp with rfl | hp
            · exact hltD q (List.mem_append_left _ (hmn q hq))
            · exact hord q (hmn q hq) p hp
    · k_steps
      (with_reducible rename News g' L' _ (_ :: _) => N5)
      (with_reducible rename (_ ∧ AllLt _ _) => lD1)
      rename_i D1 hh0 hh1 FF1
      replace N5 : News g' L' _ ((D1, tup ys 0) :: (D, lst ys) :: (news2 ++ tl)) := N5
      refine unheld ?_
      refine callOk_use (labels_spec w lab av jv tkl t2 t3 _ (by omega)) (by assumption) (by assumption) (by assumption) N5 (by assumption) rfl ?_ ?_ ?_
      · show dp + 1 + 4 < recursionLimit
        omega
      · show un + 3 + 20 < cLine
        omega
      rintro _ tll h8 tk8 F8 N8 hord8 ⟨ll, ws9, n9, rfl, hll, htx⟩
      obtain ⟨vpre, pre, xl, txl, rfl, hLs, htp⟩ := htx.last (labs_ne _ _ _ _ _)
      have hpl : pre.length ≤ 100 := by
        have := labs_len av jv lab [] []
        rw [hLs] at this
        simp at this; omega
      have hvp := htp.length
      have hltD := ktn_ltOf lD1.2
      have hD1 : (D1, tup ys 0) ∈ ((D1, tup ys 0) :: (D, lst ys) :: (news2 ++ tl)) ++ tll := by simp
      have hll' : (ll, listOf (vpre ++ [Value.str (mkS xl) txl]).toArray n9) ∈ ((D1, tup ys 0) :: (D, lst ys) :: (news2 ++ tl)) ++ tll := List.mem_append_right _ hll
      have htl' : ∀ p ∈ tl, p ∈ ((D1, tup ys 0) :: (D, lst ys) :: (news2 ++ tl)) ++ tll := fun p hp => by simp [hp]
      have hnn' : ∀ p ∈ news, p ∈ ((D1, tup ys 0) :: (D, lst ys) :: (news2 ++ tl)) ++ tll := fun p hp => by have := hmn p hp; simp [this]
      generalize ((D1, tup ys 0) :: (D, lst ys) :: (news2 ++ tl)) ++ tll = news4 at N8 hD1 hll' htl' hnn'
      have hsz9 : (vpre ++ [Value.str (mkS xl) txl]).toArray.size = pre.length + 1 := by simp [hvp]
      k_steps
      rename (∀ p ∈ news4, p.1 < _) => lD2
      (with_reducible rename News g' L' _ (_ :: news4) => N6); (with_reducible rename Fr g' L' _ _ => F6); (rename IsRange _ _ _ _ _ _ _ _ => R6)
      rw [hsz9, show ((pre.length + 1 : Nat) : Int) - 2 = (pre.length : Int) - 1 by omega] at R6
      refine unheld (for_range (n := pre.length) (fun s' => ∃ h tk, s' = { s with heap := h, toks := tk }) (UndL ll D1 ys dn' pre xl tl news news4) rfl F6 N6 R6 (small_down (by omega) (by omega) (by omega) (by omega)) (by rw [rangeSize_downNat]; omega) ⟨_, _, rfl⟩ ?_ ?_ ?_ ?_)
      · rintro _ h tk ⟨_, _, rfl⟩
        exact ⟨h, tk, rfl⟩
      · refine ⟨_, [_], rfl, rfl, rfl, ?_, fun q hq p hp => by rw [List.mem_singleton.mp hp]; exact lD2 q (hnn' q hq)⟩
        rw [Nat.sub_zero, List.drop_left]
        exact .node (.head _) (.tail _ (.head _)) (hmi.mono fun p hp => .tail _ (.tail _ hp)) .nil
      · rintro I i u m₁ nx s₁ oI ⟨h1, tk1, rfl⟩ hi ⟨fv, tp, mf, ml, rfl, hmi2, hord2⟩ hI F2 N2
        have hii : ((pre.length : Int) - 1) + (i : Int) * (-1) = ((pre.length - 1 - i : Nat) : Int) := by omega
        rw [hii, know2 mf ml] at F2
        obtain ⟨x2, hx2⟩ : ∃ x, (pre ++ [xl])[pre.length - 1 - i]? = some x := ⟨_, List.getElem?_eq_getElem (by simp; omega)⟩
        obtain ⟨t9, hg9⟩ := (htp.snoc xl txl).get hx2
        have hl6 := List.mem_append_right tp hll'
        clear hret
        k_steps
        (with_reducible rename News g' L' _ (_ :: _ :: (I, oI) :: _) => N3); (with_reducible rename Fr g' L' _ _ => F3)
        with_reducible rename (_ ∧ _ ∧ AllLt _ _) => lb
        with_reducible rename (_ ∧ AllLt _ _) => la
        obtain ⟨tp', a1, a2, a3, a4⟩ := undl_step N3 hI lb.1 la.1 la.2 hnn' hmi2 hord2 hi rfl hx2
        exact .intro ⟨_, _, rfl⟩ F3 a1 a2 ⟨_, tp', rfl, rfl, rfl, a3, a4⟩
      · rintro m₁ nx s₁ ⟨h1, tk1, rfl⟩ ⟨fv, tp, mf, ml, rfl, hmi2, hord2⟩ F2 N2
        rw [know2 mf ml] at F2
        k_steps
        (with_reducible rename News h₀ L _ _ => kN); (rename Fr h₀ L _ _ => kF)
        rw [Nat.sub_self, List.drop_zero, ← hLs] at hmi2
        refine hret _ (tp ++ (D1, tup ys 0) :: tl) _ _ kF (fun q hq => ?_) (fun q hq p hp => ?_) ⟨_, hmi2, Und.node (b := true) hund .nil⟩
        · rcases List.mem_append.mp hq with hq | hq
          · exact kN q (List.mem_append_right _ (hnn' q hq))
          · rcases List.mem_append.mp hq with hq | hq
            · exact kN q (List.mem_append_left _ hq)
            · rcases List.mem_cons.mp hq with rfl | hq
              · exact kN _ (List.mem_append_right _ hD1)
              · exact kN q (List.mem_append_right _ (htl' q hq))
        · rcases List.mem_append.mp hp with hp | hp
          · exact hord2 q hq p hp
          · rcases List.mem_cons.mp hp with rfl | hp
            · exact hltD q (List.mem_append_left _ (hmn q hq))
            · exact hord q (hmn q hq) p hp
set_option maxRecDepth 100000 in
set_option maxHeartbeats 8000000 in
theorem und_leaf : ∀ (w : World) (cv av jv : Nat) (t1 t2 t3 : Tok) (part : Bool) (sx : Str) (tkx : Tok) (news : List (Addr × Obj)),
   CallOk w 212 [.str sx tkx, .str (mkS [cv]) t1, .str (mkS [av]) t2, .str (mkS [jv]) t3, .bool part] news 4 20 (UndOut cv av jv part (.leaf sx .nil)) := by
  intro w cv av jv t1 t2 t3 part sx tkx news
  unfold CallOk
  k_fill
  intro mean mg mb dp un gd cn cs a ccd cl outer A₀ base h₀ L m s Q E B F X N T hkf hdp hu hret
  refine wpAny_call ?_
  k_dflt (refine' code_defC ?k1 ?k2 ?k3 ?k4 ?k5 ?kA ?kF ?kK ?k6 ?k7 ?k8 ?k9 ?kB ?kD ?_ ?c2 ?c3 ?c4; (case kA => exact rfl); (case kF => exact rfl); (case kK => assumption); (case k1 => k_asm); (case k2 => k_asm); (case k3 => k_asm); (case k4 => k_asm); (case k5 => k_asm); (case k6 => k_is); (case k7 => k_is); (case k8 => k_room); (case k9 => first | exact BindsTo.of_eq rfl | exact binds_K (by k_in) rfl (by k_is) rfl rfl rfl | fail "k_enter: no rule for these arguments"); (case kB => exact rfl); (case kD => decide +kernel); (case c2 => exact rfl); (case c3 => exact rfl); (case c4 => exact rfl); k_whole; intro g' L' h' tk' cells' FG' F' N' Y' B' X' T' l1; (try k_lt l1); k_cells Y')

  k_steps
  (with_reducible rename News h₀ L _ _ => N9); (rename Fr h₀ L _ _ => F9)
  exact hret _ [] _ _ F9 (by rw [List.append_nil]; exact fun q hq => N9 q (.tail _ (.tail _ (.tail _ (.tail _ hq))))) (fun _ _ _ h => nomatch h) ⟨_, .leaf .nil, .leaf .nil⟩
theorem und_spec (w : World) (cv av jv : Nat) (t1 t2 t3 : Tok) (part : Bool) (news0 : List (Addr × Obj)) : ∀ (N : Nat) (d : Fo) (news : List (Addr × Obj)) (v : Value), d.count ≤ N → d.wt ≤ 100 → (∀ p ∈ news0, p ∈ news) → MI news0 [v] d →
    CallOk w 212 [v, .str (mkS [cv]) t1, .str (mkS [av]) t2, .str (mkS [jv]) t3, .bool part] news (4 * (d.count + 1)) (20 * (d.count + 1)) (UndOut cv av jv part d) := by
  intro N
  induction N with
  | zero =>
    intro d news v hd _ _ h
    have := h.length
    simp only [List.length_cons] at this
    omega
  | succ N ih =>
    intro d news v hd hw hs h
    rcases h.uncons with ⟨sx, tkx, r, rfl, rfl, hr⟩ | ⟨a2, b2, n2, n3, tk2, ws2, lab, k, r, rfl, rfl, ha0, hb20, hk, hr⟩
    · cases hr
      refine (und_leaf w cv av jv t1 t2 t3 part sx tkx news).weaken (by omega) (by omega) fun _ _ h => h
    · cases hr
      obtain ⟨l, rfl⟩ := mkS_surj lab
      simp only [Fo.count, Fo.wt, mkS_len] at hd hw
      simp only [Fo.count]
      exact und_node w cv av jv t1 t2 t3 part a2 b2 n2 n3 l tk2 ws2 k news0 news hs ha0 hb20 hk (by omega) fun d' nw v' h1 h2 h3 h4 => ih d' nw v' (by omega) h2 h3 h4
end
end
section
open PyProof.Rows.LCg
/-- how many nodes a forest may grow to, when labels are parted at j -/
def Fo.jw (j : Nat) : Fo → Nat
  | .nil => 0
  | .leaf _ r => r.jw j
  | .node lab k r => 1 + lab.cps.toList.count j + k.jw j + r.jw j
/-- all signs are plain -/
def Fo.ok : Fo → Prop
  | .nil => True
  | .leaf s r => (∀ c ∈ s.cps.toList, c < 128) ∧ r.ok
  | .node lab k r => (∀ c ∈ lab.cps.toList, c < 128) ∧ k.ok ∧ r.ok
theorem Fo.ok_app : ∀ {a b : Fo}, a.ok → b.ok → (a.app b).ok
  | .nil, _, _, h => h
  | .leaf _ r, _, h, h2 => ⟨h.1, Fo.ok_app (a := r) h.2 h2⟩
  | .node _ _ r, _, h, h2 => ⟨h.1, h.2.1, Fo.ok_app (a := r) h.2.2 h2⟩
def NameOk (v : Value) : Prop := ∃ lab t, v = .str (mkS lab) t ∧ lab.length ≤ 5 ∧ (∀ j, lab.count j ≤ 2) ∧ ∀ c ∈ lab, c < 128
def NamesOut (tl : List (Addr × Obj)) (r : Value) : Prop := ∃ (l : Addr) (vs : List Value) (n : Nat), r = .ref l ∧ (l, listOf vs.toArray n) ∈ tl ∧ vs.length = 11 ∧ ∀ v ∈ vs, NameOk v
theorem nameOk_of {s : Str} {t : Tok} (l : List Nat) (e : s = mkS l) (h : l.length ≤ 5) (h2 : l.all (fun c => l.count c ≤ 2) = true) (h3 : l.all (fun c => c < 128) = true) : NameOk (.str s t) := by
  subst e
  refine ⟨l, t, rfl, h, fun j => ?_, fun c hc => by simpa using List.all_eq_true.mp h3 c hc⟩
  by_cases hj : j ∈ l
  · simpa using List.all_eq_true.mp h2 j hj
  · rw [List.count_eq_zero_of_not_mem hj]; omega
theorem names_end {h₀ h : Heap} {L l : Addr} {vs : List Value} {n : Nat} {news : List (Addr × Obj)} (N : News h₀ L h ((l, listOf vs.toArray n) :: news)) (hl1 : ∀ p ∈ news, p.1 < l) (hlen : vs.length = 11) (hv : ∀ v ∈ vs, NameOk v) :
    ∃ tl, News h₀ L h (news ++ tl) ∧ (∀ q ∈ news, ∀ p ∈ tl, q.1 < p.1) ∧ NamesOut tl (.ref l) := by
  refine ⟨[(l, listOf vs.toArray n)], fun q hq => ?_, fun q hq p hp => ?_, l, vs, n, rfl, .head _, hlen, hv⟩
  · rcases List.mem_append.mp hq with hq | hq
    · exact N q (.tail _ hq)
    · rw [List.mem_singleton.mp hq]; exact N _ (.head _)
  · rw [List.mem_singleton.mp hp]; exact hl1 q hq
section
set_option maxRecDepth 100000 in
set_option maxHeartbeats 8000000 in
theorem names_spec : ∀ (w : World) (news : List (Addr × Obj)), CallOk w 169 [] news 4 20 NamesOut := by
  intro w news
  unfold CallOk
  k_fill
  intro mean mg mb dp un gd cn cs a ccd cl outer A₀ base h₀ L m s Q E B F X N T hkf hdp hu hret
  refine wpAny_call ?_
  k_dflt ktr_enter
  k_steps
  (with_reducible rename News h₀ L _ _ => kN); (rename Fr h₀ L _ _ => kF)
  rename (∀ p : Addr × Obj, p ∈ news → p.1 < _) => hl1
  refine (names_end kN hl1 rfl ?_).elim fun tl h => hret _ tl _ _ kF h.1 h.2.1 h.2.2
  · simp only [List.forall_mem_cons]
    refine ⟨?_, ?_, ?_, ?_, ?_, ?_, ?_, ?_, ?_, ?_, ?_, fun _ h => nomatch h⟩
    · exact nameOk_of [65] (by decide +kernel) (by decide) (by decide) (by decide)
    · exact nameOk_of [66] (by decide +kernel) (by decide) (by decide) (by decide)
    · exact nameOk_of [65, 124, 66] (by decide +kernel) (by decide) (by decide) (by decide)
    · exact nameOk_of [65, 94, 66] (by decide +kernel) (by decide) (by decide) (by decide)
    · exact nameOk_of [65, 43, 66] (by decide +kernel) (by decide) (by decide) (by decide)
    · exact nameOk_of [65, 43, 66, 43, 65] (by decide +kernel) (by decide) (by decide) (by decide)
    · exact nameOk_of [66, 94, 65, 43, 66] (by decide +kernel) (by decide) (by decide) (by decide)
    · exact nameOk_of [124] (by decide +kernel) (by decide) (by decide) (by decide)
    · exact nameOk_of [94, 124, 43] (by decide +kernel) (by decide) (by decide) (by decide)
    · exact nameOk_of [43, 65] (by decide +kernel) (by decide) (by decide) (by decide)
    · exact nameOk_of [65, 43, 94, 124] (by decide +kernel) (by decide) (by decide) (by decide)
local macro_rules | `(tactic| walk_at "exec While") => `(tactic| (refine held ?_))
local macro_rules | `(tactic| walk_at "exec While Compare") => `(tactic| (refine held ?_))
local macro_rules | `(tactic| walk_at "call ref") => `(tactic| ((with_reducible show wpAny _ _ (call (Value.ref 169) _ _) _ _ _); refine held ?_))
local macro_rules | `(tactic| walk_at "call ref") => `(tactic| ((with_reducible show wpAny _ _ (call (Value.ref 183) _ _) _ _ _); refine held ?_))
local macro_rules | `(tactic| walk_at "subscriptTail") => `(tactic| ((with_reducible show wpAny _ _ (subscriptTail _ (PySem.Expr.BinOp _ _ _ _) (Value.ref _) (Value.int _ _)) _ _ _); refine held ?_))
theorem item_k {prog : Program} {w : World} {A : Around} {E : Value → Shared → Prop} {s : Shared} {value slice : PySem.Expr} {l : Addr} {vs : List Value} {k : Int} {u : Tok} {Q : Value → Shared → Prop} (hl : s.heap.IsList l vs.toArray) (h0 : 0 ≤ k) (h1 : k < vs.length) (hfit : vs.length < 2 ^ 62) (h : ∀ v ∈ vs, Q v s)
    (hs : subscripted slice false (.ref l) (.int k u) = operate [.ref l, .int k u] (getItem (.ref l) (.int k u)) := by with_unfolding_all rfl) :
    wpAny (model prog w) A (subscriptTail value slice (.ref l) (.int k u)) Q E s := by
  have hk : k.toNat < vs.length := by omega
  exact tail_any hl.typeIs slot_list_getitem.lookup (wpAny_getItem_list hl h0 (by omega) (x := vs[k.toNat]) (by simp [hk]) (h _ (List.getElem_mem hk))) hs
def WhStep (h₀ : Heap) (L : Addr) (s : Shared) (J : Nat → (Str → Option Value) → List (Addr × Obj) → Prop) (Q : Flow → Shared → Prop) (n : Nat) (f : Flow) (s₃ : Shared) : Prop :=
  match f with
  | .ret v => Q (.ret v) s₃
  | _ => WhileStep h₀ L s J n f s₃
theorem WhStep.intro {h₀ h' : Heap} {L : Addr} {s : Shared} {J : Nat → (Str → Option Value) → List (Addr × Obj) → Prop} {Q : Flow → Shared → Prop} {n n' tk : Nat} {m₂ : Str → Option Value} {news₂ : List (Addr × Obj)}
    (F : Fr h₀ L h' m₂) (N : News h₀ L h' news₂) (hn : n' < n) (hJ : J n' m₂ news₂) : WhStep h₀ L s J Q n .next { s with heap := h', toks := tk } := WhileStep.intro F N hn hJ
theorem While_ret {prog : Program} {w : World} {A : Around} {Q : Flow → Shared → Prop} {s : Shared} {env : Env} {h₀ : Heap} {L : Addr} {test : PySem.Expr} {body : List Stmt} {pos : Pos} {m : Str → Option Value} {news : List (Addr × Obj)} (J : Nat → (Str → Option Value) → List (Addr × Obj) → Prop) {n₀ : Nat}
    (F : Fr h₀ L s.heap m) (N : News h₀ L s.heap news) (hJ : J n₀ m news)
    (turn : ∀ n m₁ news₁ h₁ tk₁, Fr h₀ L h₁ m₁ → News h₀ L h₁ news₁ → J n m₁ news₁ →
      wpAny (model prog w) A (isTrue test env (eval test env)) (fun b s₂ => if b = true then wpAny (model prog w) A (execs body env) (WhStep h₀ L s J Q n) (fun _ _ => False) s₂ else Q .next s₂) (fun _ _ => False) { s with heap := h₁, toks := tk₁ }) :
    wpAny (model prog w) A (exec (.While test body [] pos) env) Q (fun _ _ => False) s := by
  have all : ∀ n m₁ news₁ h₁ tk₁, Fr h₀ L h₁ m₁ → News h₀ L h₁ news₁ → J n m₁ news₁ → WhlRest prog w A (fun _ _ => False) env test body [] Q 0 { s with heap := h₁, toks := tk₁ } := by
    intro n
    induction n using Nat.strongRecOn with
    | _ n ih =>
      intro m₁ news₁ h₁ tk₁ F₁ N₁ hJ₁
      refine whl_turn (k := 0) .never (wpAny_mono (turn n m₁ news₁ h₁ tk₁ F₁ N₁ hJ₁) (fun b s₂ h => ?_) fun _ _ e => e)
      cases b with
      | false => exact .no rfl (wpAny_execs_nil (by simpa using h))
      | true =>
        refine .yes rfl (wpAny_mono (by simpa using h) (fun f s₃ h => ?_) fun _ _ e => e)
        cases f with
        | ret v => exact h
        | brk => exact absurd h.1 (by simp)
        | cont => exact absurd h.1 (by simp)
        | next =>
          obtain ⟨_, h', tk, m₂, news₂, n', rfl, F2, N2, hn, hJ2⟩ := h
          exact ih n' hn m₂ news₂ h' tk F2 N2 hJ2
  exact whl_start 0 (all n₀ m news s.heap s.toks F N hJ)
def ChOut (p len : Nat) (tl : List (Addr × Obj)) (r : Value) : Prop := ∃ (D l : Addr) (n : Nat) (vs : List Value) (n2 : Nat) (p' : Nat) (t : Tok) (f : Fo), r = .ref D ∧ (D, tup [.ref l, .int (p' : Int) t] n2) ∈ tl ∧ (l, listOf vs.toArray n) ∈ tl ∧ MI tl vs f ∧ p ≤ p' ∧ p' ≤ len ∧ f.wt ≤ 7 * (p' - p) ∧ f.count ≤ p' - p ∧ (∀ j, f.jw j ≤ 3 * (p' - p)) ∧ f.ok
def ChJ (d : Nat) (td : Tok) (p0 len : Nat) (nl : Addr) (news : List (Addr × Obj)) (n : Nat) (m₁ : Str → Option Value) (nx : List (Addr × Obj)) : Prop :=
  ∃ (l : Addr) (vs : List Value) (n' p : Nat) (t : Tok) (f : Fo) (tl : List (Addr × Obj)), m₁ (Str.ofString "children") = some (.ref l) ∧ m₁ (Str.ofString "place") = some (.int (p : Int) t) ∧ m₁ (Str.ofString "numbers") = some (.ref nl) ∧ m₁ (Str.ofString "deep") = some (.int (d : Int) td) ∧
    n = len - p ∧ p0 ≤ p ∧ p ≤ len ∧ nx = (l, listOf vs.toArray n') :: (news ++ tl) ∧ MI tl vs f ∧ f.wt ≤ 7 * (p - p0) ∧ f.count ≤ p - p0 ∧ (∀ j, f.jw j ≤ 3 * (p - p0)) ∧ f.ok ∧ (∀ q ∈ news, q.1 < l) ∧ (∀ q ∈ news, ∀ p ∈ tl, q.1 < p.1) ∧ (∀ q ∈ tl, @Ne Nat q.1 l)
theorem Fo.jw_app (j : Nat) : ∀ a b : Fo, (a.app b).jw j = a.jw j + b.jw j
  | .nil, _ => by simp [Fo.app, Fo.jw]
  | .leaf _ r, b => by simp only [Fo.app, Fo.jw, r.jw_app]
  | .node _ _ r, b => by simp only [Fo.app, Fo.jw, r.jw_app]; omega
theorem ch_ret {h₀ h : Heap} {L D l : Addr} {vs : List Value} {n n2 p0 p' len : Nat} {t : Tok} {f : Fo} {news tl : List (Addr × Obj)} (N : News h₀ L h ((D, tup [.ref l, .int (p' : Int) t] n2) :: (l, listOf vs.toArray n) :: (news ++ tl))) (lD : @LT.lt Nat _ l D)
    (hmi : MI tl vs f) (hp0 : p0 ≤ p') (hp1 : p' ≤ len) (hwt : f.wt ≤ 7 * (p' - p0)) (hct : f.count ≤ p' - p0) (hjw : ∀ j, f.jw j ≤ 3 * (p' - p0)) (hok : f.ok) (ho1 : ∀ q ∈ news, q.1 < l) (ho2 : ∀ q ∈ news, ∀ p ∈ tl, q.1 < p.1) :
    ∃ tl', News h₀ L h (news ++ tl') ∧ (∀ q ∈ news, ∀ p ∈ tl', q.1 < p.1) ∧ ChOut p0 len tl' (.ref D) := by
  refine ⟨(D, tup [.ref l, .int (p' : Int) t] n2) :: (l, listOf vs.toArray n) :: tl, fun q hq => N q ?_, fun q hq => ?_, D, l, n, vs, n2, p', t, f, rfl, .head _, .tail _ (.head _), hmi.mono fun p hp => .tail _ (.tail _ hp), hp0, hp1, hwt, hct, hjw, hok⟩
  · simp only [List.mem_append, List.mem_cons] at hq ⊢
    rcases hq with h | h | h | h <;> simp [h]
  · exact List.forall_mem_cons.2 ⟨Nat.lt_trans (ho1 q hq) lD, List.forall_mem_cons.2 ⟨ho1 q hq, ho2 q hq⟩⟩
theorem ch_step {g h : Heap} {L D1 D2 l : Addr} {lab : List Nat} {tlb : Tok} {vs vs2 : List Value} {n n1 n2 : Nat} {f f2 : Fo} {news tl tlc : List (Addr × Obj)}
    (N : News g L h ((D2, tup [.str (mkS lab) tlb, .ref D1] n2) :: (D1, tup vs2 n1) :: (l, listOf (vs ++ [Value.ref D2]).toArray n) :: (news ++ tl ++ tlc))) (l12 : @LT.lt Nat _ D1 D2) (l1 : @LT.lt Nat _ l D1) (lA : AllLt D1 (news ++ tl ++ tlc))
    (hmi : MI tl vs f) (hmi2 : MI tlc vs2 f2) (ho2 : ∀ q ∈ news, ∀ p ∈ tl, q.1 < p.1) (ho3 : ∀ q ∈ tl, @Ne Nat q.1 l) {oL : Obj} (ho4 : ∀ q ∈ (l, oL) :: (news ++ tl), ∀ p ∈ tlc, q.1 < p.1) :
    ∃ tl', News g L h ((l, listOf (vs ++ [Value.ref D2]).toArray n) :: (news ++ tl')) ∧ MI tl' (vs ++ [Value.ref D2]) (f.app (.node (mkS lab) f2 .nil)) ∧ (∀ q ∈ news, ∀ p ∈ tl', q.1 < p.1) ∧ (∀ q ∈ tl', @Ne Nat q.1 l) := by
  have hlt := ktn_ltOf lA
  refine ⟨(D2, tup [.str (mkS lab) tlb, .ref D1] n2) :: (D1, tup vs2 n1) :: (tl ++ tlc), fun q hq => N q ?_, ?_, fun q hq => ?_, ?_⟩
  · simp only [List.mem_append, List.mem_cons] at hq ⊢
    rcases hq with h | h | h | h | h | h <;> simp [h]
  · exact (hmi.mono fun p hp => by simp [hp]).app (.node (.head _) (.tail _ (.head _)) (hmi2.mono fun p hp => by simp [hp]) .nil)
  · have h1 := hlt q (by simp [hq])
    refine List.forall_mem_cons.2 ⟨Nat.lt_trans h1 l12, List.forall_mem_cons.2 ⟨h1, fun p hp => ?_⟩⟩
    exact (List.mem_append.mp hp).elim (ho2 q hq p) (ho4 q (by simp [hq]) p)
  · refine List.forall_mem_cons.2 ⟨Nat.ne_of_gt (Nat.lt_trans l1 l12), List.forall_mem_cons.2 ⟨Nat.ne_of_gt l1, fun q hq => ?_⟩⟩
    exact (List.mem_append.mp hq).elim (ho3 q) (fun h => Nat.ne_of_gt (ho4 _ (.head _) q h))
set_option maxRecDepth 100000 in
set_option maxHeartbeats 8000000 in
theorem ch_all : ∀ (w : World) (nl : Addr) (vsn : List Value) (nn : Nat) (ns : List Int) (p d : Nat) (tp td : Tok) (news : List (Addr × Obj)), IntsAre vsn ns → vsn.length ≤ 8 → (nl, listOf vsn.toArray nn) ∈ news → p ≤ vsn.length → d ≤ 4 →
   (IH : ∀ (p : Nat) (tp td : Tok) (nw : List (Addr × Obj)), d < 4 → (nl, listOf vsn.toArray nn) ∈ nw → p ≤ vsn.length → CallOk w 183 [.ref nl, .int (p : Int) tp, .int ((d + 1 : Nat) : Int) td] nw (4 * (6 - (d + 1))) (40 * (6 - (d + 1))) (ChOut p vsn.length)) →
   CallOk w 183 [.ref nl, .int (p : Int) tp, .int (d : Int) td] news (4 * (6 - d)) (40 * (6 - d)) (ChOut p vsn.length) := by
  intro w nl vsn nn ns p d tp td news hi hlen hnl hp hd IH
  unfold CallOk
  k_fill
  intro mean mg mb dp un gd cn cs a ccd cl outer A₀ base h₀ L m s Q E B F X N T hkf hdp hu hret
  refine wpAny_call ?_
  k_dflt ktr_enter
  k_steps
  have hsl : sizeLine = 16777216 := rfl
  have hrl : recursionLimit = 1000 := rfl
  have hcl : cLine = 9900 := rfl
  (with_reducible rename News _ _ _ (_ :: news) => N1); (with_reducible rename Fr _ _ _ (fun y => if y = Str.ofString "children" then _ else _) => F1)
  rename (∀ p ∈ news, p.1 < _) => hl1
  refine unheld (wpAny_mono (E := fun _ _ => False) (While_ret (ChJ d td p vsn.length nl news) F1 N1 ⟨_, [], 0, p, tp, .nil, [], rfl, rfl, rfl, rfl, rfl, Nat.le_refl _, hp, by simp, .nil, by simp [Fo.wt], by simp [Fo.count], by simp [Fo.jw], trivial, hl1, by simp, by simp⟩ ?_) (fun _ _ x => x) (fun _ _ e => e.elim))
  rintro n m₁ news₁ h₁ tk₁ F₁ N₁ ⟨l, vs, n', p1, t1, f, tl, mc, mp, mn, md, rfl, hp0, hp1, rfl, hmi, hwt, hct, hjw, hok, ho1, ho2, ho3⟩
  rw [know4 mc mp mn md] at F₁
  have hnl2 := List.mem_append_left tl hnl
  have hsz : (vsn.toArray.size : Int) = (vsn.length : Int) := by simp
  have hil := hi.length
  k_steps
  · (with_reducible rename News _ _ _ _ => N2)
    refine callOk_use (names_spec w _) (by assumption) (by assumption) (by assumption) N2 (by assumption) rfl ?_ ?_ ?_
    · show dp + 1 + 4 < recursionLimit
      omega
    · show un + 3 + 20 < cLine
      omega
    rintro _ tln h8 tk8 F8 N8 hord8 ⟨ll, vsm, nm, rfl, hll, hlen11, hname⟩
    have hll2 := List.mem_append_right ((l, listOf vs.toArray n') :: (news ++ tl)) hll
    k_steps
    have N8l := N8.isList hll2
    replace N8 : News _ _ _ ((l, listOf vs.toArray n') :: (news ++ tl)) := fun p hp => N8 p (List.mem_append_left _ hp)
    clear N2
    have hne : ∀ q ∈ news ++ tl, @Ne Nat q.1 l := fun q hq => (List.mem_append.mp hq).elim (fun h => Nat.ne_of_lt (ho1 q h)) (ho3 q)
    have hvl := hmi.length
    have hpl : p1 < vsn.length := by omega
    refine unheld (item_k N8l (fmod_lo _ (by decide)) (by rw [hlen11]; exact fmod_hi _ (by decide)) (by rw [hlen11]; decide) ?_)
    intro vname hvn
    obtain ⟨lab, tlb, rfl, hlab5, hlab2, hlabc⟩ := hname vname hvn
    have hzz : vs.toArray.size + 1 ≤ sizeLine := by simp; omega
    have hzl : vs.toArray.toList.length + 1 ≤ sizeLine := by simp; omega
    have ep : (p1 : Int) + 1 = ((p1 + 1 : Nat) : Int) := by omega
    have ed : (d : Int) + 1 = ((d + 1 : Nat) : Int) := by omega
    k_steps
    · rw [ep, ed]
      (with_reducible rename News _ _ _ (_ :: _) => N3)
      refine unheld ?_
      refine callOk_use (IH (p1 + 1) _ _ ((l, listOf vs.toArray n') :: (news ++ tl)) (by omega) (.tail _ hnl2) (by omega)) (by assumption) (by assumption) (by assumption) N3 (by assumption) rfl ?_ ?_ ?_
      · show dp + 1 + 4 * (6 - (d + 1)) < recursionLimit
        omega
      · show un + 3 + 40 * (6 - (d + 1)) < cLine
        omega
      rintro _ tlc h9 tk9 F9 N9 hord9 ⟨D, l2, n2, vs2, n3, p2, t2, f2, rfl, hD, hl2, hmi2, hp2, hp3, hw2, hc2, hj2, hok2⟩
      have hD' := List.mem_append_right ((l, listOf vs.toArray n') :: (news ++ tl)) hD
      have hl2' := List.mem_append_right (news ++ tl) hl2
      simp only [List.cons_append] at N9
      have hvl2 := hmi2.length
      have hts2 : vs2.toArray.size ≤ sizeLine := by simp; omega
      have hne2 : ∀ q ∈ news ++ tl ++ tlc, @Ne Nat q.1 l := fun q hq => (List.mem_append.mp hq).elim (hne q) (fun h => Nat.ne_of_gt (hord9 _ (.head _) q h))
      k_steps
      (with_reducible rename News _ _ _ (_ :: _ :: _) => N4); (with_reducible rename Fr _ _ _ _ => F4)
      simp only [List.push_toArray] at N4
      with_reducible rename (_ ∧ _ ∧ AllLt _ _) => lb
      with_reducible rename (_ ∧ AllLt _ _) => la
      obtain ⟨tl', a1, a2, a3, a4⟩ := ch_step N4 lb.1 la.1 la.2 hmi hmi2 ho2 ho3 hord9
      refine .intro F4 a1 ?_ ⟨l, _, _, p2, t2, _, tl', rfl, rfl, rfl, rfl, rfl, by omega, by omega, rfl, a2, ?_, ?_, ?_, Fo.ok_app hok ⟨by simpa using hlabc, hok2, trivial⟩, ho1, a3, a4⟩
      · omega
      · rw [Fo.wt_app]; simp only [Fo.wt, mkS_len]; omega
      · rw [Fo.count_app]; simp only [Fo.count]; omega
      · intro j
        have h1 := hjw j
        have h2 := hj2 j
        have h3 := hlab2 j
        rw [Fo.jw_app]; simp only [Fo.jw]; omega
    · (with_reducible rename News _ _ _ (_ :: _) => N3); (with_reducible rename Fr _ _ _ _ => F3)
      simp only [List.push_toArray] at N3
      refine .intro F3 N3 ?_ ⟨l, vs ++ [Value.str (mkS lab) tlb], n' + 1, p1 + 1, _, f.app (.leaf (mkS lab) .nil), tl, rfl, (by rw [← ep]; rfl), rfl, rfl, rfl, by omega, by omega, rfl, hmi.app (.leaf .nil), by rw [Fo.wt_app]; simp only [Fo.wt]; omega, by rw [Fo.count_app]; simp only [Fo.count]; omega, fun j => by have := hjw j; rw [Fo.jw_app]; simp only [Fo.jw]; omega, Fo.ok_app hok ⟨by simpa using hlabc, trivial⟩, ho1, ho2, ho3⟩
      omega
    · (with_reducible rename News _ _ _ (_ :: _) => N3); (with_reducible rename Fr _ _ _ _ => F3)
      simp only [List.push_toArray] at N3
      refine .intro F3 N3 ?_ ⟨l, vs ++ [Value.str (mkS lab) tlb], n' + 1, p1 + 1, _, f.app (.leaf (mkS lab) .nil), tl, rfl, (by rw [← ep]; rfl), rfl, rfl, rfl, by omega, by omega, rfl, hmi.app (.leaf .nil), by rw [Fo.wt_app]; simp only [Fo.wt]; omega, by rw [Fo.count_app]; simp only [Fo.count]; omega, fun j => by have := hjw j; rw [Fo.jw_app]; simp only [Fo.jw]; omega, Fo.ok_app hok ⟨by simpa using hlabc, trivial⟩, ho1, ho2, ho3⟩
      omega
    · dsimp only [WhStep]
      k_steps
      (with_reducible rename News h₀ L _ _ => kN); (rename Fr h₀ L _ _ => kF)
      with_reducible rename (_ ∧ AllLt _ _) => la
      rw [ep] at kN
      refine (ch_ret (p0 := p) (len := vsn.length) kN la.1 hmi (by omega) (by omega) (by omega) (by omega) (fun j => by have := hjw j; omega) hok ho1 ho2).elim fun tl' h => hret _ tl' _ _ kF h.1 h.2.1 h.2.2
    · (with_reducible rename News _ _ _ (_ :: _) => N3); (with_reducible rename Fr _ _ _ _ => F3)
      refine .intro F3 N3 ?_ ⟨l, vs, n', p1 + 1, _, f, tl, rfl, (by rw [← ep]; rfl), rfl, rfl, rfl, by omega, by omega, rfl, hmi, by omega, by omega, fun j => by have := hjw j; omega, hok, ho1, ho2, ho3⟩
      omega
  · (with_reducible rename News h₀ L _ _ => kN); (rename Fr h₀ L _ _ => kF)
    with_reducible rename (_ ∧ AllLt _ _) => la
    refine (ch_ret (p0 := p) (len := vsn.length) kN la.1 hmi hp0 hp1 hwt hct hjw hok ho1 ho2).elim fun tl' h => hret _ tl' _ _ kF h.1 h.2.1 h.2.2
theorem ch_spec (w : World) (nl : Addr) (vsn : List Value) (nn : Nat) (ns : List Int) (hi : IntsAre vsn ns) (hlen : vsn.length ≤ 8) : ∀ (K d p : Nat) (tp td : Tok) (news : List (Addr × Obj)), d + K = 4 → (nl, listOf vsn.toArray nn) ∈ news → p ≤ vsn.length →
    CallOk w 183 [.ref nl, .int (p : Int) tp, .int (d : Int) td] news (4 * (6 - d)) (40 * (6 - d)) (ChOut p vsn.length) := by
  intro K
  induction K with
  | zero => exact fun d p tp td news hd hnl hp => ch_all w nl vsn nn ns p d tp td news hi hlen hnl hp (by omega) fun _ _ _ _ h => by omega
  | succ K ih => exact fun d p tp td news hd hnl hp => ch_all w nl vsn nn ns p d tp td news hi hlen hnl hp (by omega) fun p' tp' td' nw _ h1 h2 => ih (d + 1) p' tp' td' nw (by omega) h1 h2
end
end
section
theorem tw_append {a b : List Nat} {v : Nat} (h : v ∉ a) : (a ++ v :: b).takeWhile (· != v) = a := by
  induction a with
  | nil => simp
  | cons x a ih =>
    simp only [List.mem_cons, not_or] at h
    have : (x != v) = true := bne_iff_ne.mpr fun e => h.1 e.symm
    simp [List.takeWhile, this, ih h.2]
theorem tw_all {a : List Nat} {v : Nat} (h : v ∉ a) : a.takeWhile (· != v) = a := by
  induction a with
  | nil => rfl
  | cons x a ih =>
    simp only [List.mem_cons, not_or] at h
    have : (x != v) = true := bne_iff_ne.mpr fun e => h.1 e.symm
    simp [List.takeWhile, this, ih h.2]
theorem cutA_eq (l : List Nat) (v : Nat) : cutA (mkS l) (mkS [v]) = mkS (l.takeWhile (· != v)) := by
  unfold cutA
  rcases find1 l v with ⟨h1, h2⟩ | ⟨a, b, rfl, h1, h2⟩
  · rw [if_pos h1, tw_all h2]
  · rw [if_neg (by omega), h2, slice_to _ _ (by simp), tw_append h1]
    simp
/-- the labels of a label that is cut already -/
theorem labs_cut (a j : Nat) : ∀ (l : List Nat) (pre : List (List Nat)) (x : List Nat), labs a j l pre x = labs a j (l.takeWhile (· != a)) pre x
  | [], _, _ => rfl
  | c :: r, pre, x => by
    by_cases h : c = a
    · have : (c != a) = false := by simp [h]
      simp [labs, h]
    · have : (c != a) = true := by simp [h]
      simp only [labs, if_neg h, List.takeWhile, this]
      split
      · exact labs_cut a j r _ _
      · exact labs_cut a j r _ _
theorem labs_self (a : Nat) : ∀ (l : List Nat) (pre : List (List Nat)) (x : List Nat), labs a a l pre x = pre ++ [x ++ l.takeWhile (· != a)]
  | [], _, _ => by simp [labs]
  | c :: r, pre, x => by
    by_cases h : c = a
    · simp [labs, h]
    · have : (c != a) = true := by simp [h]
      simp only [labs, if_neg h, List.takeWhile, this]
      rw [labs_self a r]
      simp
theorem labs_none (a j : Nat) : ∀ (l : List Nat) (pre : List (List Nat)) (x : List Nat), a ∉ l → j ∉ l → labs a j l pre x = pre ++ [x ++ l]
  | [], _, _, _, _ => by simp [labs]
  | c :: r, pre, x, h1, h2 => by
    simp only [List.mem_cons, not_or] at h1 h2
    rw [labs, if_neg (fun e => h1.1 e.symm), if_neg (fun e => h2.1 e.symm), labs_none a j r _ _ h1.2 h2.2]
    simp
theorem labs_pre (a j : Nat) : ∀ (l : List Nat) (pre : List (List Nat)) (x : List Nat), labs a j l pre x = pre ++ labs a j l [] x
  | [], pre, x => by simp [labs]
  | c :: r, pre, x => by
    simp only [labs]
    split
    · simp
    · split
      · rw [labs_pre a j r (pre ++ [x]) [], labs_pre a j r ([] ++ [x]) []]; simp
      · rw [labs_pre a j r pre]
theorem labs_split (a j : Nat) (hne : a ≠ j) : ∀ (h t : List Nat) (x : List Nat), a ∉ h → j ∉ h → labs a j (h ++ j :: t) [] x = (x ++ h) :: labs a j t [] []
  | [], t, x, _, _ => by
    rw [List.nil_append, labs, if_neg (fun e => hne e.symm), if_pos rfl, labs_pre]
    simp
  | c :: r, t, x, h1, h2 => by
    simp only [List.mem_cons, not_or] at h1 h2
    rw [List.cons_append, labs, if_neg (fun e => h1.1 e.symm), if_neg (fun e => h2.1 e.symm), labs_split a j hne r t _ h1.2 h2.2]
    simp
theorem not_mem_tw (v : Nat) : ∀ l : List Nat, v ∉ l.takeWhile (· != v)
  | [] => by simp
  | c :: r => by
    by_cases h : c = v
    · simp [h]
    · have : (c != v) = true := by simp [h]
      simp only [List.takeWhile, this, List.mem_cons, not_or]
      exact ⟨fun e => h e.symm, not_mem_tw v r⟩
theorem tw_idem {v : Nat} {l : List Nat} (h : v ∉ l) : l.takeWhile (· != v) = l := tw_all h
theorem kept_kept (c : Str) : ∀ f : Fo, (f.kept c).kept c = f.kept c
  | .nil => rfl
  | .leaf _ r => by simp only [Fo.kept, kept_kept c r]
  | .node lab k r => by
    simp only [Fo.kept]
    split
    · rw [Fo.kept_app, kept_kept c k, kept_kept c r]
    · rename_i h
      rw [Fo.kept, if_neg h, kept_kept c r]
theorem und_wrap_one {x : List Nat} {k r : Fo} : wrap [x] k r = .node (mkS x) k r := rfl
theorem wrap_cons {x : List Nat} {ls : List (List Nat)} {k r : Fo} (h : ls ≠ []) : wrap (x :: ls) k r = .node (mkS x) (wrap ls k .nil) r := by
  cases ls with
  | nil => exact absurd rfl h
  | cons y l => rfl
theorem unc_und {cv av jv : Nat} {b : Bool} (hne : av ≠ jv) {f f1 : Fo} (h : Unc (mkS [cv]) (mkS [av]) (mkS [jv]) b f f1) : ∀ f2, Und cv av jv b f f2 → f1 = f2 := by
  induction h with
  | nil => intro f2 h2; cases h2; rfl
  | leaf _ ih => intro f2 h2; cases h2 with | leaf h => rw [ih _ h]
  | @node lab k k' r r' hc _ _ i1 i2 =>
    intro f2 h2
    obtain ⟨l, rfl⟩ := mkS_surj lab
    cases h2 with
    | @node _ _ k2 _ r2 hk hr =>
      rw [i1 _ hk, i2 _ hr, cutA_eq]
      have e : labs av (if b then jv else av) l [] [] = [l.takeWhile (· != av)] := by
        cases b with
        | false => rw [if_neg (by simp), labs_self]; simp
        | true =>
          rw [if_pos rfl, labs_cut]
          rcases hc with hc | hc
          · cases hc
          · rw [cutA_eq] at hc
            rcases find1 (l.takeWhile (· != av)) jv with ⟨_, h2⟩ | ⟨a, b, _, _, h2⟩
            · rw [labs_none _ _ _ _ _ (not_mem_tw _ _) h2]; simp
            · omega
      rw [e, und_wrap_one]
  | @split lab k k' r r' hb hf _ _ i1 i2 =>
    intro f2 h2
    obtain ⟨l, rfl⟩ := mkS_surj lab
    cases h2 with
    | @node _ _ k2 _ r2 hk hr =>
      subst hb
      rw [cutA_eq] at hf i1 ⊢
      rcases find1 (l.takeWhile (· != av)) jv with ⟨h1, _⟩ | ⟨a, t, e1, hja, e2⟩
      · exact absurd h1 hf
      have hav := not_mem_tw av l
      rw [e1] at hav
      simp only [List.mem_append, List.mem_cons, not_or] at hav
      rw [e2, e1] at i1 ⊢
      have es : Txt.slice (mkS (a ++ jv :: t)) (some ((a.length : Int) + 1)) none = mkS t := by
        have := slice_from (a ++ jv :: t) (a.length + 1) (by simp)
        rw [Int.natCast_add] at this
        rw [show (a.length : Int) + 1 = (a.length : Int) + ((1 : Nat) : Int) from rfl, this]
        congr 1
        rw [← List.drop_drop, List.drop_left]
        rfl
      have eh : Txt.slice (mkS (a ++ jv :: t)) none (some (a.length : Int)) = mkS a := by
        rw [slice_to _ _ (by simp), List.take_left]
      rw [es] at i1
      rw [eh, if_pos rfl, labs_cut, e1, labs_split av jv hne a t [] hav.1 hja, List.nil_append, wrap_cons (labs_ne _ _ _ _ _), ← i2 _ hr]
      congr 1
      refine i1 _ ?_
      have hk' : Und cv av jv true ((k.kept (mkS [cv])).kept (mkS [cv])) k2 := by rw [kept_kept]; exact hk
      have := Und.node (l := t) hk' (Und.nil (cv := cv) (av := av) (jv := jv) (b := true))
      rwa [if_pos rfl] at this
end
section
theorem Fo.kept_jw (j : Nat) (c : Str) : ∀ a : Fo, (a.kept c).jw j ≤ a.jw j
  | .nil => Nat.le_refl _
  | .leaf _ r => by have := r.kept_jw j c; simp only [Fo.kept, Fo.jw]; omega
  | .node lab k r => by
    have h1 := k.kept_jw j c
    have h2 := r.kept_jw j c
    simp only [Fo.kept]
    split
    · rw [Fo.jw_app, Fo.jw]; omega
    · simp only [Fo.jw]; omega
/-- the sum of the lengths, and of the signs j, of a row of labels -/
def sumL : List (List Nat) → Nat
  | [] => 0
  | x :: l => x.length + sumL l
def sumJ (j : Nat) : List (List Nat) → Nat
  | [] => 0
  | x :: l => x.count j + sumJ j l
theorem sumL_app : ∀ a b, sumL (a ++ b) = sumL a + sumL b
  | [], b => by simp [sumL]
  | x :: a, b => by simp only [List.cons_append, sumL, sumL_app a b]; omega
theorem sumJ_app (j : Nat) : ∀ a b, sumJ j (a ++ b) = sumJ j a + sumJ j b
  | [], b => by simp [sumJ]
  | x :: a, b => by simp only [List.cons_append, sumJ, sumJ_app j a b]; omega
/-- parted at j: no longer than before, and as many parts as signs, and one -/
theorem labs_part (a j : Nat) : ∀ (l : List Nat) (pre : List (List Nat)) (x : List Nat),
    sumL (labs a j l pre x) + (labs a j l pre x).length ≤ sumL pre + x.length + l.length + pre.length + 1 ∧
    sumJ j (labs a j l pre x) + (labs a j l pre x).length ≤ sumJ j pre + x.count j + l.count j + pre.length + 1
  | [], pre, x => by
    simp only [labs, sumL_app, sumJ_app, sumL, sumJ, List.length_append, List.length_cons, List.length_nil, List.count_nil]
    omega
  | c :: r, pre, x => by
    simp only [labs]
    split
    · simp only [sumL_app, sumJ_app, sumL, sumJ, List.length_append, List.length_cons, List.length_nil]
      omega
    · split
      · rename_i h
        have := labs_part a j r (pre ++ [x]) []
        subst h
        simp only [sumL_app, sumJ_app, sumL, sumJ, List.length_append, List.length_cons, List.length_nil, List.count_nil, List.count_cons_self] at this ⊢
        omega
      · rename_i h
        have := labs_part a j r pre (x ++ [c])
        have hc : (c :: r).count j = r.count j := List.count_cons_of_ne h
        have hc2 : (x ++ [c]).count j = x.count j := by rw [List.count_append, List.count_cons_of_ne h]; simp
        simp only [List.length_append, List.length_cons, List.length_nil, hc, hc2] at this ⊢
        omega
theorem wrap_wt : ∀ (ls : List (List Nat)) (k r : Fo), ls ≠ [] → (wrap ls k r).wt = sumL ls + 2 * ls.length + k.wt + r.wt
  | [], _, _, h => absurd rfl h
  | [x], k, r, _ => by simp only [wrap, Fo.wt, sumL, List.length_cons, List.length_nil, mkS_len]; omega
  | x :: y :: l, k, r, _ => by
    have := wrap_wt (y :: l) k .nil (by simp)
    simp only [wrap, Fo.wt, mkS_len, this]
    simp only [sumL, List.length_cons, Fo.wt]
    omega
theorem wrap_jw (j : Nat) : ∀ (ls : List (List Nat)) (k r : Fo), ls ≠ [] → (wrap ls k r).jw j = sumJ j ls + ls.length + k.jw j + r.jw j
  | [], _, _, h => absurd rfl h
  | [x], k, r, _ => by simp only [wrap, Fo.jw, sumJ, List.length_cons, List.length_nil]; omega
  | x :: y :: l, k, r, _ => by
    have := wrap_jw j (y :: l) k .nil (by simp)
    simp only [wrap, Fo.jw, this]
    simp only [sumJ, List.length_cons, Fo.jw]
    omega
theorem tw_len (v : Nat) (l : List Nat) : (l.takeWhile (· != v)).length ≤ l.length := (List.takeWhile_sublist _).length_le
theorem und_bounds {cv av jv : Nat} {b : Bool} {f f' : Fo} (h : Und cv av jv b f f') : f'.wt ≤ f.wt + f.jw jv ∧ f'.jw jv ≤ f.jw jv := by
  induction h with
  | nil => exact ⟨Nat.le_add_right _ _, Nat.le_refl _⟩
  | leaf _ ih => simp only [Fo.wt, Fo.jw]; omega
  | @node l k k' r r' _ _ i1 i2 =>
    have hk1 := Fo.kept_wt (mkS [cv]) k
    have hk2 := Fo.kept_jw jv (mkS [cv]) k
    have e : (mkS l).cps.toList.count jv = l.count jv := by simp
    rw [wrap_wt _ _ _ (labs_ne _ _ _ _ _), wrap_jw _ _ _ _ (labs_ne _ _ _ _ _)]
    simp only [Fo.wt, Fo.jw, mkS_len, e]
    cases b with
    | true =>
      rw [if_pos rfl]
      have h1 := labs_part av jv l [] []
      simp only [sumL, sumJ, List.length_nil, List.count_nil] at h1
      omega
    | false =>
      rw [if_neg (by simp), labs_self]
      have h1 := tw_len av l
      have h2 : (l.takeWhile (· != av)).count jv ≤ l.count jv := (List.takeWhile_sublist _).count_le _
      simp only [sumL, sumJ, List.nil_append, List.length_cons, List.length_nil]
      omega
end
section
theorem Fo.kept_ok (c : Str) : ∀ {a : Fo}, a.ok → (a.kept c).ok
  | .nil, h => h
  | .leaf _ r, h => ⟨h.1, Fo.kept_ok c (a := r) h.2⟩
  | .node lab k r, h => by
    simp only [Fo.kept]
    split
    · exact Fo.ok_app (Fo.kept_ok c h.2.1) (Fo.kept_ok c h.2.2)
    · exact ⟨h.1, h.2.1, Fo.kept_ok c h.2.2⟩
theorem labs_ok (a j : Nat) : ∀ (l : List Nat) (pre : List (List Nat)) (x : List Nat), (∀ c ∈ l, c < 128) → (∀ y ∈ pre, ∀ c ∈ y, c < 128) → (∀ c ∈ x, c < 128) → ∀ y ∈ labs a j l pre x, ∀ c ∈ y, c < 128
  | [], pre, x, _, h2, h3 => by
    intro y hy
    simp only [labs, List.mem_append, List.mem_singleton] at hy
    rcases hy with hy | rfl
    · exact h2 y hy
    · exact h3
  | c :: r, pre, x, h1, h2, h3 => by
    have snoc : ∀ y ∈ pre ++ [x], ∀ c ∈ y, c < 128 := by
      intro y hy
      simp only [List.mem_append, List.mem_singleton] at hy
      rcases hy with hy | rfl
      · exact h2 y hy
      · exact h3
    have h1' : ∀ c ∈ r, c < 128 := fun d hd => h1 d (.tail _ hd)
    simp only [labs]
    split
    · exact snoc
    · split
      · exact labs_ok a j r _ _ h1' snoc (fun _ h => nomatch h)
      · refine labs_ok a j r _ _ h1' h2 fun d hd => ?_
        rcases List.mem_append.mp hd with hd | hd
        · exact h3 d hd
        · rw [List.mem_singleton.mp hd]; exact h1 c (.head _)
theorem wrap_ok : ∀ (ls : List (List Nat)) (k r : Fo), (∀ y ∈ ls, ∀ c ∈ y, c < 128) → k.ok → r.ok → (wrap ls k r).ok
  | [], _, _, _, _, h => h
  | [x], k, r, h, hk, hr => ⟨by simpa using h x (.head _), hk, hr⟩
  | x :: y :: l, k, r, h, hk, hr => ⟨by simpa using h x (.head _), wrap_ok (y :: l) k .nil (fun z hz => h z (.tail _ hz)) hk trivial, hr⟩
theorem und_ok {cv av jv : Nat} {b : Bool} {f f' : Fo} (h : Und cv av jv b f f') : f.ok → f'.ok := by
  induction h with
  | nil => exact id
  | leaf _ ih => exact fun h => ⟨h.1, ih h.2⟩
  | @node l k k' r r' _ _ i1 i2 =>
    intro h
    exact wrap_ok _ _ _ (labs_ok _ _ _ _ _ (by simpa using h.1) (fun _ h => nomatch h) (fun _ h => nomatch h)) (i1 (Fo.kept_ok _ h.2.1)) (i2 h.2.2)
/-- the data of a forest -/
def Fo.pd : Fo → List PyData
  | .nil => []
  | .leaf s r => .str s :: r.pd
  | .node lab k r => .tuple [.str lab, .tuple k.pd] :: r.pd
theorem MI.reads {h : Heap} {tl : List (Addr × Obj)} (ht : ∀ p ∈ tl, h.get? p.1 = some p.2) {vs : List Value} {f : Fo} (hm : MI tl vs f) : ∃ as, ReadsAll h vs f.pd as := by
  induction hm with
  | nil => exact ⟨_, .nil⟩
  | leaf _ ih => obtain ⟨as, h⟩ := ih; exact ⟨_, .cons (.str _ _) h⟩
  | node h1 h2 _ _ i1 i2 =>
    obtain ⟨as, r1⟩ := i1
    obtain ⟨bs, r2⟩ := i2
    exact ⟨_, .cons (.tuple (ht _ h1) rfl rfl (.cons (.str _ _) (.cons (.tuple (ht _ h2) rfl rfl r1) .nil))) r2⟩
theorem Fo.pd_lay : ∀ {f : Fo}, f.ok → PyData.canLayAll0 f.pd = true
  | .nil, _ => by simp [Fo.pd, PyData.canLayAll0]
  | .leaf s r, h => by
    have h1 : PyData.strOk s = true := by
      unfold PyData.strOk
      rw [Array.all_eq_true_iff_forall_mem]
      intro c hc
      have := h.1 c (by simpa using hc)
      simp; omega
    simp [Fo.pd, PyData.canLayAll0, PyData.canLay0, h1, Fo.pd_lay (f := r) h.2]
  | .node lab k r, h => by
    have h1 : PyData.strOk lab = true := by
      unfold PyData.strOk
      rw [Array.all_eq_true_iff_forall_mem]
      intro c hc
      have := h.1 c (by simpa using hc)
      simp; omega
    simp [Fo.pd, PyData.canLayAll0, PyData.canLay0, h1, Fo.pd_lay (f := r) h.2.2, Fo.pd_lay (f := k) h.2.1]
theorem Fo.pd_depth (j : Nat) : ∀ f : Fo, PyData.depthAll f.pd ≤ 2 * f.jw j
  | .nil => by simp [Fo.pd, PyData.depthAll]
  | .leaf s r => by have := Fo.pd_depth j r; simp [Fo.pd, PyData.depthAll, PyData.depth, Fo.jw]; omega
  | .node lab k r => by
    have h1 := Fo.pd_depth j k
    have h2 := Fo.pd_depth j r
    simp [Fo.pd, PyData.depthAll, PyData.depth, Fo.jw]; omega
theorem MI.one {h : Heap} {tl : List (Addr × Obj)} (ht : ∀ p ∈ tl, h.get? p.1 = some p.2) {v : Value} {lab : Str} {k : Fo} {j : Nat} (hm : MI tl [v] (.node lab k .nil)) (hok : (Fo.node lab k .nil).ok) (hj : (Fo.node lab k .nil).jw j ≤ 32) :
    ∃ d as, d = PyData.tuple [.str lab, .tuple k.pd] ∧ Reads h v d as ∧ SeqAt.shaped d = true := by
  obtain ⟨as, hr⟩ := hm.reads ht
  have h1 := Fo.pd_lay hok
  have h2 := Fo.pd_depth j (.node lab k .nil)
  simp only [Fo.pd] at hr h1 h2
  cases hr with
  | cons r _ =>
    refine ⟨_, _, rfl, r, ?_⟩
    simp only [PyData.canLayAll0, Bool.and_true] at h1
    simp only [PyData.depthAll] at h2
    unfold SeqAt.shaped
    rw [h1, Bool.true_and, decide_eq_true_eq]
    omega
end
section
open PyProof.Rows.LCg
def RoleOk (tl : List (Addr × Obj)) (v : Value) : Prop := ∃ a c p j t1 t2 t3 n, v = .ref a ∧ (a, tup [.str (mkS [c]) t1, .str (mkS [p]) t2, .str (mkS [j]) t3] n) ∈ tl ∧ p ≠ j ∧ (c = 124 → p = 94 → j = 43)
def RolesOut (tl : List (Addr × Obj)) (r : Value) : Prop := ∃ (l : Addr) (vs : List Value) (n : Nat), r = .ref l ∧ (l, listOf vs.toArray n) ∈ tl ∧ vs.length = 6 ∧ ∀ v ∈ vs, RoleOk tl v
theorem e43 : Str.ofString "+" = mkS [43] := by decide +kernel
theorem e94 : Str.ofString "^" = mkS [94] := by decide +kernel
theorem e124 : Str.ofString "|" = mkS [124] := by decide +kernel
theorem roles_end {h₀ h : Heap} {L l d1 d2 d3 d4 d5 d6 : Addr} {n n1 n2 n3 n4 n5 n6 : Nat} {t1a t1b t1c : Tok} {t2a t2b t2c : Tok} {t3a t3b t3c : Tok} {t4a t4b t4c : Tok} {t5a t5b t5c : Tok} {t6a t6b t6c : Tok} {news : List (Addr × Obj)}
    (N : News h₀ L h ((l, listOf #[Value.ref d1, Value.ref d2, Value.ref d3, Value.ref d4, Value.ref d5, Value.ref d6] n) :: (d6, tup [.str (Str.ofString "+") t6a, .str (Str.ofString "^") t6b, .str (Str.ofString "|") t6c] n6) :: (d5, tup [.str (Str.ofString "+") t5a, .str (Str.ofString "|") t5b, .str (Str.ofString "^") t5c] n5) :: (d4, tup [.str (Str.ofString "^") t4a, .str (Str.ofString "+") t4b, .str (Str.ofString "|") t4c] n4) :: (d3, tup [.str (Str.ofString "^") t3a, .str (Str.ofString "|") t3b, .str (Str.ofString "+") t3c] n3) :: (d2, tup [.str (Str.ofString "|") t2a, .str (Str.ofString "+") t2b, .str (Str.ofString "^") t2c] n2) :: (d1, tup [.str (Str.ofString "|") t1a, .str (Str.ofString "^") t1b, .str (Str.ofString "+") t1c] n1) :: news))
    (h1 : ∀ p ∈ news, p.1 < d1) (h12 : @LT.lt Nat _ d1 d2) (h23 : @LT.lt Nat _ d2 d3) (h34 : @LT.lt Nat _ d3 d4) (h45 : @LT.lt Nat _ d4 d5) (h56 : @LT.lt Nat _ d5 d6) (h6 : @LT.lt Nat _ d6 l) :
    ∃ tl, News h₀ L h (news ++ tl) ∧ (∀ q ∈ news, ∀ p ∈ tl, q.1 < p.1) ∧ RolesOut tl (.ref l) := by
  rw [e43, e94, e124] at N
  refine ⟨[(l, listOf [Value.ref d1, Value.ref d2, Value.ref d3, Value.ref d4, Value.ref d5, Value.ref d6].toArray n), (d6, tup [.str (mkS [43]) t6a, .str (mkS [94]) t6b, .str (mkS [124]) t6c] n6), (d5, tup [.str (mkS [43]) t5a, .str (mkS [124]) t5b, .str (mkS [94]) t5c] n5), (d4, tup [.str (mkS [94]) t4a, .str (mkS [43]) t4b, .str (mkS [124]) t4c] n4), (d3, tup [.str (mkS [94]) t3a, .str (mkS [124]) t3b, .str (mkS [43]) t3c] n3), (d2, tup [.str (mkS [124]) t2a, .str (mkS [43]) t2b, .str (mkS [94]) t2c] n2), (d1, tup [.str (mkS [124]) t1a, .str (mkS [94]) t1b, .str (mkS [43]) t1c] n1)], fun q hq => N q ?_, fun q hq => ?_, l, [Value.ref d1, Value.ref d2, Value.ref d3, Value.ref d4, Value.ref d5, Value.ref d6], n, rfl, .head _, rfl, ?_⟩
  · simp only [List.mem_append, List.mem_cons, List.not_mem_nil, or_false] at hq ⊢
    rcases hq with h | h | h | h | h | h | h | h <;> simp only [h, true_or, or_true]
  · have a1 : @LT.lt Nat _ q.1 d1 := h1 q hq
    have a2 := Nat.lt_trans a1 h12
    have a3 := Nat.lt_trans a2 h23
    have a4 := Nat.lt_trans a3 h34
    have a5 := Nat.lt_trans a4 h45
    have a6 := Nat.lt_trans a5 h56
    simp only [List.forall_mem_cons]
    exact ⟨Nat.lt_trans a6 h6, a6, a5, a4, a3, a2, a1, fun _ h => nomatch h⟩
  · simp only [List.forall_mem_cons]
    exact ⟨⟨d1, _, _, _, _, _, _, _, rfl, .tail _ (.tail _ (.tail _ (.tail _ (.tail _ (.tail _ (.head _)))))), by decide, by decide⟩, ⟨d2, _, _, _, _, _, _, _, rfl, .tail _ (.tail _ (.tail _ (.tail _ (.tail _ (.head _))))), by decide, by decide⟩, ⟨d3, _, _, _, _, _, _, _, rfl, .tail _ (.tail _ (.tail _ (.tail _ (.head _)))), by decide, by decide⟩, ⟨d4, _, _, _, _, _, _, _, rfl, .tail _ (.tail _ (.tail _ (.head _))), by decide, by decide⟩, ⟨d5, _, _, _, _, _, _, _, rfl, .tail _ (.tail _ (.head _)), by decide, by decide⟩, ⟨d6, _, _, _, _, _, _, _, rfl, .tail _ (.head _), by decide, by decide⟩, fun _ h => nomatch h⟩
section
set_option maxRecDepth 100000 in
set_option maxHeartbeats 8000000 in
theorem roles_spec : ∀ (w : World) (news : List (Addr × Obj)), CallOk w 176 [] news 4 20 RolesOut := by
  intro w news
  unfold CallOk
  k_fill
  intro mean mg mb dp un gd cn cs a ccd cl outer A₀ base h₀ L m s Q E B F X N T hkf hdp hu hret
  refine wpAny_call ?_
  k_dflt ktr_enter
  k_steps
  (with_reducible rename News h₀ L _ _ => kN); (rename Fr h₀ L _ _ => kF)
  rename (∀ p : Addr × Obj, p ∈ news → p.1 < _) => hl1
  refine (roles_end kN hl1 (by omega) (by omega) (by omega) (by omega) (by omega) (by omega)).elim fun tl h => hret _ tl _ _ kF h.1 h.2.1 h.2.2
end
end
section
open PyProof.Rows.LCg
/-- the law, as the text has it -/
def lawDef : Stmt := (PySem.Challenge.pw_ao0012_01.main.body.filter fun st => match st with | .FunctionDef n .. => n == (Str.ofString "law") | _ => false).headD (.Pass default)
def lawScope : Scope := scopeOf lawDef
def lawBody : List Stmt := bodyOf lawDef
abbrev lawEnv (L fa : Addr) (cd : Value) : Env := envOf (Str.ofString "law") lawScope L fa cd
def forBodyOf : Stmt → List Stmt
  | .For _ _ b _ _ => b
  | _ => []
def lawFor : Stmt := lawBody.getD 6 (.Pass default)
def lawTurn : List Stmt := forBodyOf lawFor
theorem know5 {m : Str → Option Value} {x1 x2 x3 x4 x5 : Str} {v1 v2 v3 v4 v5 : Value} (e1 : m x1 = some v1) (e2 : m x2 = some v2) (e3 : m x3 = some v3) (e4 : m x4 = some v4) (e5 : m x5 = some v5) :
    m = (fun y => if y = x1 then some v1 else if y = x2 then some v2 else if y = x3 then some v3 else if y = x4 then some v4 else if y = x5 then some v5 else m y) := by
  funext y; (repeat' split) <;> simp_all
theorem know6 {m : Str → Option Value} {x1 x2 x3 x4 x5 x6 : Str} {v1 v2 v3 v4 v5 v6 : Value} (e1 : m x1 = some v1) (e2 : m x2 = some v2) (e3 : m x3 = some v3) (e4 : m x4 = some v4) (e5 : m x5 = some v5) (e6 : m x6 = some v6) :
    m = (fun y => if y = x1 then some v1 else if y = x2 then some v2 else if y = x3 then some v3 else if y = x4 then some v4 else if y = x5 then some v5 else if y = x6 then some v6 else m y) := by
  funext y; (repeat' split) <;> simp_all
theorem unc_shape {c1 c2 c3 : Str} {b : Bool} {lab : Str} {k f : Fo} (h : Unc c1 c2 c3 b (.node lab k .nil) f) : ∃ lab' k', f = .node lab' k' .nil := by
  cases h with
  | node _ _ h => cases h; exact ⟨_, _, rfl⟩
  | split _ _ _ h => cases h; exact ⟨_, _, rfl⟩
theorem MI.same {h : Heap} {tl tl2 : List (Addr × Obj)} (ht : ∀ p ∈ tl, h.get? p.1 = some p.2) (ht2 : ∀ p ∈ tl2, h.get? p.1 = some p.2) {v v2 : Value} {f : Fo} {lab : Str} {k : Fo} {j : Nat} (e : f = .node lab k .nil) (hm : MI tl [v] f) (hm2 : MI tl2 [v2] f) (hok : f.ok) (hj : f.jw j ≤ 32) :
    ∃ d as as2, Reads h v d as ∧ Reads h v2 d as2 ∧ SeqAt.shaped d = true ∧ PyData.eqv d d = true := by
  subst e
  obtain ⟨d, as, e1, r1, h1⟩ := hm.one ht hok hj
  obtain ⟨d2, as2, e2, r2, _⟩ := hm2.one ht2 hok hj
  subst e1; subst e2
  refine ⟨_, as, as2, r1, r2, h1, SeqAt.eqv_refl _ ?_⟩
  unfold SeqAt.shaped at h1
  exact (Bool.and_eq_true_iff.mp h1).1
section
local macro_rules | `(tactic| walk_at "call ref") => `(tactic| ((with_reducible show wpAny _ _ (call (Value.ref 162) _ _) _ _ _); refine held ?_))
local macro_rules | `(tactic| walk_at "call ref") => `(tactic| ((with_reducible show wpAny _ _ (call (Value.ref 193) _ _) _ _ _); refine held ?_))
local macro_rules | `(tactic| walk_at "call ref") => `(tactic| ((with_reducible show wpAny _ _ (call (Value.ref 212) _ _) _ _ _); refine held ?_))
local macro_rules | `(tactic| walk_at "compareOp NotEq ref ref") => `(tactic| (refine held ?_))
set_option maxRecDepth 100000 in
set_option maxHeartbeats 8000000 in
theorem law_tail : ∀ {w : World} {mean : ExcName → Option Value} {mg mb : Str → Option Value} {g : Heap} {L fa x : Addr} {cd r : Value} {m : Str → Option Value} {s : Shared} {Q : Flow → Shared → Prop} {cv av jv : Nat} {tn1 tn2 tn3 : Tok} {b : Bool} {t : AT} {d : Fo} {lab : Str} {k : Fo} {LED : List (Addr × Obj)},
   Below callerA g [] g → Fr g L s.heap m → (hd.heap_39 w.params).In g → Top topProg LV mean mg mb g →
   m (Str.ofString "tree") = some (.ref x) → m (Str.ofString "model") = some r → m (Str.ofString "new") = some (.str (mkS [cv]) tn1) → m (Str.ofString "above") = some (.str (mkS [av]) tn2) → m (Str.ofString "joined") = some (.str (mkS [jv]) tn3) → m (Str.ofString "part") = some (.bool b) →
   t.vals = [.ref x] → News g L s.heap (t.led ++ LED) → MI LED [r] d → d = .node lab k .nil → d.ok → d.wt ≤ 90 → d.jw jv ≤ 27 → av ≠ jv → Unc (mkS [cv]) (mkS [av]) (mkS [jv]) b d t.fo →
   (∀ h' tk' m' r' tl, Fr g L h' m' → (∀ y, y ≠ Str.ofString "model" → m' y = m y) → m' (Str.ofString "model") = some r' → News g L h' (t.led ++ LED ++ tl) → (∀ q ∈ t.led ++ LED, ∀ p ∈ tl, q.1 < p.1) → MI tl [r'] t.fo → t.fo.ok → t.fo.wt ≤ d.wt + d.jw jv → t.fo.jw jv ≤ d.jw jv → Q .next { s with heap := h', toks := tk' }) →
   wpAny (model PySem.Challenge.rw_ao0012_01.row.prog w) (callerA.deeper (lawEnv L fa cd)) (execs (lawTurn.drop 1) (lawEnv L fa cd)) Q (fun _ _ => False) s := by
  k_fill
  intro w mean mg mb g L fa x cd r m s Q cv av jv tn1 tn2 tn3 b t d lab k LED B F X T mt mm mn ma mj mp hv N hmi hd1 hok hwt hjw hne hunc hQ
  generalize hT : lawTurn.drop 1 = tT
  (with_unfolding_all conv at hT => lhs; whnf)
  subst hT
  rw [know6 mt mm mn ma mj mp] at F
  have hrl : recursionLimit = 1000 := rfl
  have hcl : cLine = 9900 := rfl
  have hcw := Fo.count_wt d
  k_steps
  refine unheld ?_
  refine callOk_use (und_spec w cv av jv tn1 tn2 tn3 b LED d.count d (t.led ++ LED) r (Nat.le_refl _) (by omega) (fun p hp => List.mem_append_right _ hp) hmi) (by assumption) (by assumption) (by assumption) N (by assumption) rfl ?_ ?_ ?_
  · show 302 + 4 * (d.count + 1) < recursionLimit
    omega
  · show 7 + 20 * (d.count + 1) < cLine
    omega
  rintro r' tl h8 tk8 F8 N8 hord8 ⟨d', hmi8, hund⟩
  have hb := und_bounds hund
  have hok' := und_ok hund hok
  obtain rfl := unc_und hne hunc d' hund
  have hcw' := Fo.count_wt t.fo
  k_steps
  (with_reducible rename News _ _ _ _ => N9)
  refine unheld ?_
  refine callOk_use (shape_spec w t.fo.count t (t.led ++ LED ++ tl) (.ref x) (Nat.le_refl _) hv (fun p hp => List.mem_append_left _ (List.mem_append_left _ hp))) (by assumption) (by assumption) (by assumption) N9 (by assumption) rfl ?_ ?_ ?_
  · show 302 + 4 * t.fo.count < recursionLimit
    omega
  · show 7 + 20 * t.fo.count < cLine
    omega
  rintro r2 tl2 h9 tk9 F9 N10 hord9 hmi9
  k_steps
  obtain ⟨lab', k', he⟩ := unc_shape (hd1 ▸ hunc)
  obtain ⟨dd, as, as2, hr1, hr2, hsh, heq⟩ := MI.same (h := h9) (fun p hp => (N10 p (List.mem_append_right _ hp)).1) (fun p hp => (N10 p (List.mem_append_left _ (List.mem_append_right _ hp))).1) he hmi9 hmi8 hok' (j := jv) (by omega)
  refine ne_dataH hr1 hr2 hsh hsh (by show 7 + 64 < cLine; omega) ?_
  rw [heq]
  k_steps
  refine hQ h9 tk9 _ r' tl F9 (fun y hy => ?_) (if_pos rfl) (fun p hp => N10 p (List.mem_append_left _ hp)) hord8 hmi8 hok' hb.1 hb.2
  conv => rhs; rw [know6 mt mm mn ma mj mp]
  exact if_neg hy
/-- what holds between the turns -/
def LawJ (cv av jv : Nat) (b : Bool) (i : Nat) (m₁ : Str → Option Value) (nx : List (Addr × Obj)) : Prop :=
  ∃ (x : Addr) (r : Value) (t : AT) (ps : Array Value) (LED : List (Addr × Obj)) (tn1 tn2 tn3 : Tok) (lab : Str) (k : Fo),
   m₁ (Str.ofString "tree") = some (.ref x) ∧ m₁ (Str.ofString "model") = some r ∧ m₁ (Str.ofString "new") = some (.str (mkS [cv]) tn1) ∧ m₁ (Str.ofString "above") = some (.str (mkS [av]) tn2) ∧ m₁ (Str.ofString "joined") = some (.str (mkS [jv]) tn3) ∧ m₁ (Str.ofString "part") = some (.bool b) ∧
   nx = (159, tabObj ps) :: (t.led ++ LED) ∧ TabOk (posOf uncGen) ps ∧ t.vals = [.ref x] ∧ t.ND ∧ (∀ p ∈ t.led, ∀ q ∈ LED, @Ne Nat p.1 q.1) ∧ (∀ p ∈ t.led, @Ne Nat p.1 159) ∧ (∀ p ∈ LED, @Ne Nat p.1 159) ∧
   MI LED [r] t.fo ∧ t.fo = .node lab k .nil ∧ t.fo.ok ∧ t.fo.wt ≤ 63 + 27 * i ∧ t.fo.jw jv ≤ 27
def lawIf : Stmt := lawTurn.getD 0 (.Pass default)
theorem mkS_one {a c : Nat} (h : (mkS [a] == mkS [c]) = true) : a = c := by
  have := congrArg (fun s : Str => s.cps.toList) (eq_of_beq h)
  simpa using this
theorem LawJ.if_post {cv av jv : Nat} {b : Bool} {t t' : AT} {LED : List (Addr × Obj)} {b' : Bool} (h1 : (mkS [cv] == Str.ofString "|") = true) (h2 : (mkS [av] == Str.ofString "^") = true) (hcv : cv = 124 → av = 94 → jv = 43) (hb : b = b') (p : PostE (Str.ofString "|") (Str.ofString "^") (Str.ofString "+") b' t t' LED) : PostE (mkS [cv]) (mkS [av]) (mkS [jv]) b t t' LED := by
  subst hb
  rw [e124] at h1 p
  rw [e94] at h2 p
  rw [e43] at p
  obtain rfl := mkS_one h1
  obtain rfl := mkS_one h2
  obtain rfl := hcv rfl rfl
  exact p
set_option maxRecDepth 100000 in
set_option maxHeartbeats 8000000 in
theorem law_if : ∀ {w : World} {mean : ExcName → Option Value} {mg mb : Str → Option Value} {g : Heap} {L fa x : Addr} {cd : Value} {m : Str → Option Value} {s : Shared} {Q : Flow → Shared → Prop} {cv av jv : Nat} {b : Bool} {ps : Array Value} {t : AT} {LED : List (Addr × Obj)} {tn1 tn2 tn3 : Tok},
   Below callerA g [] g → (hd.heap_39 w.params).In g → Top topProg LV mean mg mb g → CodeHd g 161 159 → (cv = 124 → av = 94 → jv = 43) → AllBare s.gens →
   m (Str.ofString "tree") = some (.ref x) → m (Str.ofString "new") = some (.str (mkS [cv]) tn1) → m (Str.ofString "above") = some (.str (mkS [av]) tn2) → m (Str.ofString "joined") = some (.str (mkS [jv]) tn3) → m (Str.ofString "part") = some (.bool b) →
   TabOk (posOf uncGen) ps → t.vals = [.ref x] → t.ND → (∀ p ∈ t.led, ∀ q ∈ LED, @Ne Nat p.1 q.1) → (∀ p ∈ t.led, @Ne Nat p.1 159) → (∀ p ∈ LED, @Ne Nat p.1 159) → t.fo.wt ≤ 100 →
   Fr g L s.heap m → News g L s.heap ((159, tabObj ps) :: (t.led ++ LED)) →
   (∀ t' s' ps', PostE (mkS [cv]) (mkS [av]) (mkS [jv]) b t t' LED → AllBare s'.gens → s'.os = s.os → Fr g L s'.heap m → TabOk (posOf uncGen) ps' → News g L s'.heap ((159, tabObj ps') :: (t'.led ++ LED)) → Q .next s') →
   wpAny (model PySem.Challenge.rw_ao0012_01.row.prog w) (callerA.deeper (lawEnv L fa cd)) (exec lawIf (lawEnv L fa cd)) Q (fun _ _ => False) s := by
  k_fill
  intro w mean mg mb g L fa x cd m s Q cv av jv b ps t LED tn1 tn2 tn3 B X T CH hcv G mt mn ma mj mp tab hv hnd hdis hg1 hg2 hwt F N hQ
  generalize hT : lawIf = tT
  (with_unfolding_all conv at hT => lhs; whnf)
  subst hT
  have em : m = _ := know5 mt mn ma mj mp
  rw [em] at F
  k_steps
  · rename (_ = true) => hb1
    refine unheld ?_
    refine unc_callA (t := t) (LED := LED) B F X T rfl (by decide) (by decide) CH G hv tab hwt hnd hdis hg1 hg2 N ?_
    intro t' s' ps' post G' os' F' tab' N'
    have K := hQ t' s' ps' (LawJ.if_post (by assumption) (by assumption) hcv hb1 post) G' os' (by rw [em]; exact F') tab' N'
    clear hQ
    k_steps
    exact K
  · rename (b = false) => hb0
    refine unheld ?_
    refine unc_callB (t := t) (LED := LED) B F X T rfl (by decide) (by decide) CH G hv tab hwt hnd hdis hg1 hg2 N ?_
    intro t' s' ps' post G' os' F' tab' N'
    have K := hQ t' s' ps' (LawJ.if_post (by assumption) (by assumption) hcv hb0 post) G' os' (by rw [em]; exact F') tab' N'
    clear hQ
    k_steps
    exact K
  all_goals
    refine unheld ?_
    refine unc_callC (t := t) (LED := LED) rfl B F X T rfl (by decide) (by decide) CH G hv tab hwt hnd hdis hg1 hg2 N ?_
    intro t' s' ps' post G' os' F' tab' N'
    have K := hQ t' s' ps' post G' os' (by rw [em]; exact F') tab' N'
    clear hQ
    k_steps
    exact K
set_option maxRecDepth 100000 in
set_option maxHeartbeats 8000000 in
theorem law_turn : ∀ {w : World} {mean : ExcName → Option Value} {mg mb : Str → Option Value} {g : Heap} {L fa I : Addr} {cd : Value} {m₁ : Str → Option Value} {s₀ s : Shared} {Q : Flow → Shared → Prop} {cv av jv : Nat} {b : Bool} {nx : List (Addr × Obj)} {i : Nat} {oI : Obj} {u : Tok},
   Below callerA g [] g → (hd.heap_39 w.params).In g → Top topProg LV mean mg mb g → CodeHd g 161 159 → av ≠ jv → (cv = 124 → av = 94 → jv = 43) → AllBare s.gens → s.os = s₀.os → i < 2 → LawJ cv av jv b i m₁ nx → (∀ p ∈ nx, p.1 ≠ I) →
   Fr g L s.heap (fun y => if y = Str.ofString "turn" then some (.int ((0 : Int) + (i : Int) * 1) u) else m₁ y) → News g L s.heap ((I, oI) :: nx) →
   wpAny (model PySem.Challenge.rw_ao0012_01.row.prog w) (callerA.deeper (lawEnv L fa cd)) (execs lawTurn (lawEnv L fa cd)) (ForPost g L I oI (fun s' => AllBare s'.gens ∧ s'.os = s₀.os) (LawJ cv av jv b (i + 1)) Q) (fun _ _ => False) s := by
  k_fill
  intro w mean mg mb g L fa I cd m₁ s₀ s Q cv av jv b nx i oI u B X T CH hne hcv G hos hi hJ hI F N
  obtain ⟨x, r, t, ps, LED, tn1, tn2, tn3, lab, k, mt, mm, mn, ma, mj, mp, rfl, tab, hv, hnd, hdis, hg1, hg2, hmi, hd1, hok, hwt, hjw⟩ := hJ
  have eT : lawTurn = lawIf :: lawTurn.drop 1 := by with_unfolding_all rfl
  rw [eT]
  refine wpAny_execs_cons ?_
  obtain ⟨N_I, N⟩ := uc N
  obtain ⟨N_9, N⟩ := uc N
  obtain ⟨hI9, hI⟩ := uc hI
  generalize hm2 : (fun y => if y = Str.ofString "turn" then some (.int ((0 : Int) + (i : Int) * 1) u) else m₁ y) = m2 at F
  have kt : ∀ {z : Str} {v : Value}, z ≠ Str.ofString "turn" → m₁ z = some v → m2 z = some v := fun hz e => by subst hm2; exact (if_neg hz).trans e
  refine law_if (t := t) (ps := ps) (LED := (I, oI) :: LED) B X T CH hcv G (kt (by decide) mt) (kt (by decide) mn) (kt (by decide) ma) (kt (by decide) mj) (kt (by decide) mp) tab hv hnd ?_ hg1 ?_ (by omega) F ?_ ?_
  · exact fun p hp => ac (hI p (List.mem_append_left _ hp)) (hdis p hp)
  · exact ac (Ne.symm hI9) hg2
  · refine ac N_9 fun p hp => ?_
    rcases List.mem_append.mp hp with hp | hp
    · exact N p (List.mem_append_left _ hp)
    · rcases List.mem_cons.mp hp with rfl | hp
      · exact N_I
      · exact N p (List.mem_append_right _ hp)
  intro t' s' ps' post G' os' F' tab' N'
  obtain ⟨N_9', N'⟩ := uc N'
  refine law_tail (t := t') (d := t.fo) (LED := (159, tabObj ps') :: (I, oI) :: LED) B F' X T (kt (by decide) mt) (kt (by decide) mm) (kt (by decide) mn) (kt (by decide) ma) (kt (by decide) mj) (kt (by decide) mp) (post.vals.trans hv) ?_ (hmi.mono fun p hp => .tail _ (.tail _ hp)) hd1 hok (by omega) hjw hne post.unc ?_
  · intro p hp
    rcases List.mem_append.mp hp with hp | hp
    · exact N' p (List.mem_append_left _ hp)
    · rcases List.mem_cons.mp hp with rfl | hp
      · exact N_9'
      · exact N' p (List.mem_append_right _ hp)
  intro h9 tk9 m9 r9 tl F9 hm9 hr9 N9 hord hmi9 hok9 hwt9 hjw9
  have mk : ∀ {z : Str} {v : Value}, z ≠ Str.ofString "model" → z ≠ Str.ofString "turn" → m₁ z = some v → m9 z = some v := fun h1 h2 e => (hm9 _ h1).trans (kt h2 e)
  obtain ⟨lab', k', he⟩ := unc_shape (hd1 ▸ post.unc)
  refine .intro (nx := (159, tabObj ps') :: (t'.led ++ (LED ++ tl))) ⟨G', os'.trans hos⟩ F9 ?_ ?_ ⟨x, r9, t', ps', LED ++ tl, tn1, tn2, tn3, lab', k', mk (by decide) (by decide) mt, hr9, mk (by decide) (by decide) mn, mk (by decide) (by decide) ma, mk (by decide) (by decide) mj, mk (by decide) (by decide) mp, rfl, tab', post.vals.trans hv, post.nd, ?_, post.good, ?_, hmi9.mono fun p hp => List.mem_append_right _ hp, he, ?_, ?_, ?_⟩
  · refine ac (N9 _ (List.mem_append_left _ (List.mem_append_right _ (.tail _ (.head _))))) (ac (N9 _ (List.mem_append_left _ (List.mem_append_right _ (.head _)))) fun p hp => ?_)
    rcases List.mem_append.mp hp with hp | hp
    · exact N9 p (List.mem_append_left _ (List.mem_append_left _ hp))
    · rcases List.mem_append.mp hp with hp | hp
      · exact N9 p (List.mem_append_left _ (List.mem_append_right _ (.tail _ (.tail _ hp))))
      · exact N9 p (List.mem_append_right _ hp)
  · refine ac hI9 fun p hp => ?_
    rcases List.mem_append.mp hp with hp | hp
    · exact post.dis p hp _ (.head _)
    · rcases List.mem_append.mp hp with hp | hp
      · exact hI p (List.mem_append_right _ hp)
      · exact Nat.ne_of_gt (hord (I, oI) (List.mem_append_right _ (.tail _ (.head _))) p hp)
  · intro p hp q hq
    rcases List.mem_append.mp hq with hq | hq
    · exact post.dis p hp q (.tail _ hq)
    · exact Nat.ne_of_lt (hord p (List.mem_append_left _ hp) q hq)
  · intro p hp
    rcases List.mem_append.mp hp with hp | hp
    · exact hg2 p hp
    · exact Nat.ne_of_gt (hord (159, tabObj ps') (List.mem_append_right _ (.head _)) p hp)
  · exact hok9
  · omega
  · omega
end
end
section
open PyProof.Rows.LCg
section
local macro_rules | `(tactic| walk_at "exec For Name Call cons nil") => `(tactic| (k_here; (with_reducible rename Fr _ _ _ _ => kF); with_unfolding_all refine' for_atE kF ?k1 ?k2 ?_ ?k3; (case k1 => rfl); (case k2 => rfl); (case k3 => intro _; rfl)))
set_option maxRecDepth 100000 in
set_option maxHeartbeats 8000000 in
theorem law_for : ∀ {w : World} {mean : ExcName → Option Value} {mg mb : Str → Option Value} {g : Heap} {L fa : Addr} {cd : Value} {m : Str → Option Value} {s : Shared} {Q : Flow → Shared → Prop} {cv av jv : Nat} {b : Bool} {nx : List (Addr × Obj)},
   Below callerA g [] g → (hd.heap_39 w.params).In g → Top topProg LV mean mg mb g → CodeHd g 161 159 → av ≠ jv → (cv = 124 → av = 94 → jv = 43) → AllBare s.gens → LawJ cv av jv b 0 m nx → Fr g L s.heap m → News g L s.heap nx →
   (∀ s' m' nx ps, AllBare s'.gens → s'.os = s.os → Fr g L s'.heap m' → TabOk (posOf uncGen) ps → News g L s'.heap ((159, tabObj ps) :: nx) → Q .next s') →
   wpAny (model PySem.Challenge.rw_ao0012_01.row.prog w) (callerA.deeper (lawEnv L fa cd)) (exec lawFor (lawEnv L fa cd)) Q (fun _ _ => False) s := by
  k_fill
  intro w mean mg mb g L fa cd m s Q cv av jv b nx B X T CH hne hcv G hJ F N hQ
  generalize hT : lawFor = tT
  (with_unfolding_all conv at hT => lhs; whnf)
  subst hT
  k_steps
  rename IsRange _ _ _ _ _ _ _ _ => R6
  rename (Fr g L _ m) => F6
  rename (News g L _ nx) => N6
  refine unheld (for_range (n := 2) (fun s' => AllBare s'.gens ∧ s'.os = s.os) (LawJ cv av jv b) rfl F6 N6 R6 (by decide) (by decide) ⟨G, rfl⟩ (fun _ _ _ h => h) hJ ?_ ?_)
  · rintro I i u m₁ nx s₁ oI ⟨G1, o1⟩ hi hJ1 hI F2 N2
    with_unfolding_all exact law_turn (s₀ := s) (L := L) (fa := fa) (cd := cd) (u := u) B X T CH hne hcv G1 o1 hi hJ1 hI F2 N2
  · rintro m₁ nx s₁ ⟨G1, o1⟩ ⟨x, r, t, ps, LED, tn1, tn2, tn3, lab, k, mt, mm, mn, ma, mj, mp, rfl, tab, hv, hnd, hdis, hg1, hg2, hmi, hd1, hok, hwt, hjw⟩ F2 N2
    exact hQ _ _ _ _ G1 o1 F2 tab N2
end
end
section
open PyProof.Rows.LCg
theorem AT.ND_of : ∀ t : AT, (t.led.map (·.1)).Nodup → t.ND
  | .nil, _ => trivial
  | .leaf _ _ r, h => r.ND_of h
  | .node p lab k r, h => by
    simp only [AT.led, NP.led, List.cons_append, List.nil_append, List.map_cons, List.map_append, List.nodup_cons, List.mem_cons, not_or, List.mem_append, List.nodup_append] at h
    obtain ⟨⟨h1, h2, h3, h4⟩, ⟨h5, h6, h7⟩, ⟨h8, h9⟩, h10, h11, h12⟩ := h
    have key : ∀ {a : Addr} {l : List (Addr × Obj)}, a ∉ l.map (·.1) → ∀ q ∈ l, @Ne Nat q.1 a := fun h q hq e => h (List.mem_map.mpr ⟨q, hq, e⟩)
    exact ⟨⟨h1, h2, h5⟩, fun q hq => ⟨key h3 q hq, key h6 q hq, key h8 q hq⟩, fun q hq => ⟨key h4 q hq, key h7 q hq, key h9 q hq⟩, k.ND_of h10, r.ND_of h11, fun q hq q' hq' e => h12 q.1 (List.mem_map.mpr ⟨q, hq, rfl⟩) q'.1 (List.mem_map.mpr ⟨q', hq', rfl⟩) e⟩
theorem AT.node_of {t : AT} {lab : Str} {k : Fo} {r : Value} (h : t.fo = .node lab k .nil) (hv : t.vals = [r]) : ∃ x, r = .ref x := by
  cases t with
  | nil => cases h
  | leaf _ _ _ => cases h
  | node p l k2 r2 =>
    simp only [AT.vals, List.cons.injEq] at hv
    exact ⟨_, hv.1.symm⟩
/-- the state ahead of the turns -/
theorem law_start {g h : Heap} {L D' D1 : Addr} {n1 n2 : Nat} {lab : List Nat} {tlb : Tok} {vs1 : List Value} {f : Fo} {tlc tl : List (Addr × Obj)} {r : Value} {cv av jv p1 : Nat} {b : Bool} {tn1 tn2 tn3 : Tok} {m : Str → Option Value}
    (_ : Fr g L h m) (N : News g L h ((D', tup [.str (mkS lab) tlb, .ref D1] n2) :: (D1, tup vs1 n1) :: (159, tabObj #[]) :: tlc ++ tl)) (ho : ∀ q ∈ (D', tup [.str (mkS lab) tlb, .ref D1] n2) :: (D1, tup vs1 n1) :: (159, tabObj #[]) :: tlc, ∀ p ∈ tl, q.1 < p.1)
    (hD1 : @LT.lt Nat _ 159 D1) (hD' : @LT.lt Nat _ 159 D') (h9 : ∀ p ∈ tlc, @LT.lt Nat _ 159 p.1) (hmi : MI tlc vs1 f) (hok : f.ok) (hlabc : ∀ c ∈ lab, c < 128) (hlab5 : lab.length ≤ 5) (hlab2 : ∀ j, lab.count j ≤ 2) (hp8 : p1 ≤ 8) (hwt : f.wt ≤ 7 * (p1 - 0)) (hjw : ∀ j, f.jw j ≤ 3 * (p1 - 0))
    (tab : TabOk (posOf uncGen) #[]) (hout : TreeOut (.node (mkS lab) f .nil) tl r)
    (mt : m (Str.ofString "tree") = some r) (mm : m (Str.ofString "model") = some (.ref D')) (mn : m (Str.ofString "new") = some (.str (mkS [cv]) tn1)) (ma : m (Str.ofString "above") = some (.str (mkS [av]) tn2)) (mj : m (Str.ofString "joined") = some (.str (mkS [jv]) tn3)) (mp : m (Str.ofString "part") = some (.bool b)) :
    ∃ nx, News g L h nx ∧ LawJ cv av jv b 0 m nx := by
  obtain ⟨t, hv, hf, hled, hnd⟩ := hout
  obtain ⟨x, rfl⟩ := AT.node_of hf hv
  refine ⟨(159, tabObj #[]) :: (t.led ++ ((D', tup [.str (mkS lab) tlb, .ref D1] n2) :: (D1, tup vs1 n1) :: tlc)), ?_, x, _, t, #[], _, tn1, tn2, tn3, mkS lab, f, mt, mm, mn, ma, mj, mp, rfl, tab, hv, t.ND_of hnd, ?_, ?_, ?_, ?_, hf, ?_, ?_, ?_⟩
  · intro q hq
    simp only [List.mem_append, List.mem_cons] at hq
    rcases hq with rfl | hq | rfl | rfl | hq
    · exact N _ (.tail _ (.tail _ (.head _)))
    · exact N _ (.tail _ (.tail _ (.tail _ (List.mem_append_right _ (hled q hq)))))
    · exact N _ (.head _)
    · exact N _ (.tail _ (.head _))
    · exact N _ (.tail _ (.tail _ (.tail _ (List.mem_append_left _ hq))))
  · intro p hp q hq
    refine Nat.ne_of_gt (ho q ?_ p (hled p hp))
    simp only [List.mem_cons] at hq ⊢
    rcases hq with h | h | h <;> simp [h]
  · exact fun p hp => Nat.ne_of_gt (ho (159, tabObj #[]) (.tail _ (.tail _ (.head _))) p (hled p hp))
  · exact ac (Nat.ne_of_gt hD') (ac (Nat.ne_of_gt hD1) fun p hp => Nat.ne_of_gt (h9 p hp))
  · rw [hf]
    exact .node (.head _) (.tail _ (.head _)) (hmi.mono fun p hp => .tail _ (.tail _ hp)) .nil
  · rw [hf]
    exact ⟨by simpa using hlabc, hok, trivial⟩
  · rw [hf]
    simp only [Fo.wt, mkS_len]
    omega
  · rw [hf]
    have h1 := hlab2 jv
    have h2 := hjw jv
    simp only [Fo.jw]
    omega
section
local macro_rules | `(tactic| walk_at "call ref") => `(tactic| ((with_reducible show wpAny _ _ (call (Value.ref 162) _ _) _ _ _); refine held ?_))
local macro_rules | `(tactic| walk_at "call ref") => `(tactic| ((with_reducible show wpAny _ _ (call (Value.ref 169) _ _) _ _ _); refine held ?_))
local macro_rules | `(tactic| walk_at "call ref") => `(tactic| ((with_reducible show wpAny _ _ (call (Value.ref 176) _ _) _ _ _); refine held ?_))
local macro_rules | `(tactic| walk_at "call ref") => `(tactic| ((with_reducible show wpAny _ _ (call (Value.ref 183) _ _) _ _ _); refine held ?_))
local macro_rules | `(tactic| walk_at "call ref") => `(tactic| ((with_reducible show wpAny _ _ (call (Value.ref 188) _ _) _ _ _); refine held ?_))
local macro_rules | `(tactic| walk_at "call ref") => `(tactic| ((with_reducible show wpAny _ _ (call (Value.ref 193) _ _) _ _ _); refine held ?_))
local macro_rules | `(tactic| walk_at "call ref") => `(tactic| ((with_reducible show wpAny _ _ (call (Value.ref 212) _ _) _ _ _); refine held ?_))
local macro_rules | `(tactic| walk_at "subscriptTail") => `(tactic| ((with_reducible show wpAny _ _ (subscriptTail _ (PySem.Expr.BinOp _ _ _ _) (Value.ref _) (Value.int _ _)) _ _ _); refine held ?_))
local macro_rules | `(tactic| walk_at "exec For") => `(tactic| (refine held ?_))
local macro_rules | `(tactic| walk_at "exec For Name") => `(tactic| (refine held ?_))
local macro_rules | `(tactic| walk_at "exec For Name Call cons nil") => `(tactic| (refine held ?_))
set_option maxRecDepth 100000 in
set_option maxHeartbeats 8000000 in
theorem law_rest : ∀ {w : World} {mean : ExcName → Option Value} {mg mb : Str → Option Value} {g : Heap} {L fa sl : Addr} {cd : Value} {m : Str → Option Value} {s : Shared} {Q : Flow → Shared → Prop} {k : Int} {tk : Tok} {vs : List Value} {ns : List Int},
   Below callerA g [] g → Fr g L s.heap m → (hd.heap_39 w.params).In g → Top topProg LV mean mg mb g → CodeHd g 161 159 → g.IsList sl vs.toArray → IntsAre vs ns → ns.length ≤ 63 → m (Str.ofString "script") = some (.ref sl) → m (Str.ofString "way") = some (.int k tk) → 0 ≤ k → k < 132 →
   @LT.lt Nat _ 159 L → News g L s.heap [(159, tabObj #[])] → AllBare s.gens →
   (∀ s' m' nx ps, AllBare s'.gens → s'.os = s.os → Fr g L s'.heap m' → TabOk (posOf uncGen) ps → News g L s'.heap ((159, tabObj ps) :: nx) → Q (.ret (.bool true)) s') →
   wpAny (model PySem.Challenge.rw_ao0012_01.row.prog w) (callerA.deeper (lawEnv L fa cd)) (execs (lawBody.drop 1) (lawEnv L fa cd)) Q (fun _ _ => False) s := by
  k_fill
  intro w mean mg mb g L fa sl cd m s Q k tk vs ns B F X T CH hsl hi hlen ms mw hk0 hk1 h159 N G hQ
  generalize hT : lawBody.drop 1 = tT
  (with_unfolding_all conv at hT => lhs; whnf)
  subst hT
  rw [know2 ms mw] at F
  k_steps
  (with_reducible rename News _ _ _ _ => N2)
  refine unheld ?_
  refine callOk_use (roles_spec w _) (by assumption) (by assumption) (by assumption) N2 (by assumption) rfl ?_ ?_ ?_
  · decide
  · decide
  rintro _ tlr h8 tk8 F8 N8 hord8 ⟨lr, vsr, nr, rfl, hlr, hlen6, hroles⟩
  have hlr2 := List.mem_append_right [(159, tabObj #[])] hlr
  k_steps
  have N8l := N8.isList hlr2
  refine unheld (item_k N8l (fmod_lo _ (by decide)) (by rw [hlen6]; exact fmod_hi _ (by decide)) (by rw [hlen6]; decide) ?_)
  intro vrole hvr
  obtain ⟨ra, cv, av, jv, tn1, tn2, tn3, nrr, rfl, hra, hpj, hcpj⟩ := hroles vrole hvr
  have hra2 := List.mem_append_right [(159, tabObj #[])] hra
  clear N2 N8l hroles hvr
  k_steps
  (with_reducible rename News _ _ _ _ => N3)
  rename IntsAre _ (List.take _ _) => hi3
  rename (∀ p : Addr × Obj, p ∈ [(159, tabObj #[])] ++ tlr → p.1 < _) => hl3
  rename (List.length (List.take _ _) = _) => hc3
  refine unheld ?_
  have hlen8 := hi3.length
  refine callOk_use (ch_spec w _ _ _ _ hi3 (by omega) 4 0 0 _ _ _ rfl (.head _) (Nat.zero_le _)) (by assumption) (by assumption) (by assumption) N3 (by assumption) rfl ?_ ?_ ?_
  · decide
  · decide
  rintro _ tlc h9 tk9 F9 N9 hord9 ⟨D1, l1, n1, vs1, n2, p1, t1, f, rfl, hD1, hl1, hmi, hp0, hp1, hwt, hct, hjw, hok⟩
  have hD1' := List.mem_cons_of_mem (159, tabObj #[]) hD1
  have hl1' := List.mem_cons_of_mem (159, tabObj #[]) hl1
  have ho9 : ∀ p ∈ tlc, @LT.lt Nat _ 159 p.1 := hord9 (159, tabObj #[]) (.tail _ (.head _))
  replace N9 : News g L h9 ((159, tabObj #[]) :: tlc) := ac (N9 _ (.tail _ (.head _))) fun p hp => N9 p (.tail _ (.tail _ (List.mem_append_right _ hp)))
  have hp8 : p1 ≤ 8 := by omega
  clear N3 hord9 hl3 hi3 hlen8 hc3 hord8 hlr hlr2 hlen6 hp1
  k_steps
  (with_reducible rename News _ _ _ _ => N4)
  refine unheld ?_
  refine callOk_use (names_spec w _) (by assumption) (by assumption) (by assumption) N4 (by assumption) rfl ?_ ?_ ?_
  · decide
  · decide
  rintro _ tln h10 tk10 F10 N10 hord10 ⟨ll, vsm, nm, rfl, hll, hlen11, hname⟩
  have hll2 := List.mem_append_right ((159, tabObj #[]) :: tlc) hll
  k_steps
  have N10l := N10.isList hll2
  replace N10 : News g L h10 ((159, tabObj #[]) :: tlc) := fun p hp => N10 p (List.mem_append_left _ hp)
  have hd12 : k.fdiv 12 = k / 12 := Int.fdiv_eq_ediv_of_nonneg _ (by decide)
  refine unheld (item_k N10l (by rw [hd12]; omega) (by rw [hd12, hlen11]; omega) (by rw [hlen11]; decide) ?_)
  intro vname hvn
  obtain ⟨lab, tlb, rfl, hlab5, hlab2, hlabc⟩ := hname vname hvn
  clear N4 N10l hname hvn hord10 hll hll2
  have hts : vs1.toArray.size ≤ sizeLine := by
    have h1 := hmi.length
    have h2 : sizeLine = 16777216 := rfl
    simp only [List.size_toArray]
    omega
  have hcw := hmi.length
  k_steps
  refine unheld ?_
  rename (@LT.lt Nat _ 159 _ ∧ AllLt _ tlc) => lD1
  rename (_ ∧ @LT.lt Nat _ 159 _ ∧ AllLt _ tlc) => lD2
  rename News _ _ _ ((_, _) :: (_, _) :: (159, _) :: tlc) => N5
  have hdc : (Fo.node (mkS lab) f .nil).count ≤ 9 := by simp only [Fo.count]; omega
  refine callOk_use (tree_spec w _ (.node (mkS lab) f .nil) _ _ (Nat.le_refl _) (.node (.head _) (.tail _ (.head _)) (hmi.mono fun p hp => .tail _ (.tail _ (.tail _ hp))) .nil)) (by assumption) (by assumption) (by assumption) N5 (by assumption) rfl ?_ ?_ ?_
  · show 302 + 4 * (Fo.node (mkS lab) f .nil).count < 1000
    omega
  · show 7 + 20 * (Fo.node (mkS lab) f .nil).count < 9900
    omega
  rintro rt tlt h11 tk11 F11 N11 hord11 hout
  k_steps
  rename News _ _ _ ((_, _) :: (_, _) :: (159, _) :: tlc ++ tlt) => N6
  rename Fr _ _ _ _ => F6
  obtain ⟨nx, N7, hJ⟩ := law_start (cv := cv) (av := av) (jv := jv) (b := k.fmod 2 == 0) F6 N6 hord11 lD1.1 lD2.2.1 ho9 hmi hok hlabc hlab5 hlab2 hp8 hwt hjw (.inl rfl) hout rfl rfl rfl rfl rfl rfl
  refine unheld ?_
  with_unfolding_all refine law_for (nx := nx) B X T CH hpj hcpj ?G hJ F6 N7 ?_
  case G => exact G
  intro s' m' nx' ps G' os' F' tab' N'
  have K := hQ s' m' nx' ps G' os' F' tab' N'
  clear hQ
  k_steps
  exact K
end
end
end
end
end
theorem post_G {M : Model} {A : Around} {cd : Code} {s s₁ : Shared} {cw : ClaimW} {cl : Str → Option Addr} {mean : ExcName → Option Value} {args : List WData} {tabs : List (Addr × Addr)} (hT : TabsAt tabs s₁.heap) (hr : ∀ a x, cw.raises a x = false)
    (h : codeAny M A cd (fun r s' => (∃ v d, r = .ok (.ret v) ∧ ReadsW cw.records cl s'.heap v d [] ∧ cw.post args d args = true) ∧ (∀ b o, (ghostOf s₁.heap tabs).get? b = some o → s'.heap.get? b = some o) ∧ GrownAll tabs s'.heap ∧ s'.os = s₁.os ∧ AllBare s'.gens) s) : codeAny M A cd (GoodWG cw cl mean args s₁) s :=
  codeAny_mono h fun r s' ⟨⟨v, d, r1, r3, r4⟩, hk, hgr, hos, hg⟩ => by
    have keep : ∀ b o, b ∉ tabs.map (·.2) → s₁.heap.get? b = some o → s'.heap.get? b = some o := fun b o hb e => hk b o (ghost_ne e hb)
    have grown : ∀ b o, b ∈ tabs.map (·.2) → s₁.heap.get? b = some o → isCodeTable s₁.heap b ∧ o = tabObj #[] ∧ ∃ ps, s'.heap.get? b = some (tabObj ps) := fun b o hb e => by
      obtain ⟨q, hq, rfl⟩ := List.mem_map.mp hb
      have e2 := (hT q hq).2
      rw [e] at e2
      exact ⟨((hT q hq).1.tab (hT q hq).2).isCodeTable, Option.some.inj e2, hgr.get q hq⟩
    refine ⟨.inl ⟨v, d, [], r1, fun cls => hr _ _, r3, r4, fun _ => ⟨List.nodup_nil, fun _ h => nomatch h⟩⟩, ⟨fun b o e => ?_, fun b o e => ?_⟩, hos, hg⟩
    · by_cases hb : b ∈ tabs.map (·.2)
      · obtain ⟨ht, rfl, ps, hP⟩ := grown b o hb e
        exact .inr (.inl ⟨ht, rfl, #[], ps, rfl, by rw [Array.empty_append]; exact hP⟩)
      · exact .inl (keep b o hb e)
    · by_cases hb : b ∈ tabs.map (·.2)
      · obtain ⟨_, _, ps, hP⟩ := grown b o hb e
        exact ⟨_, hP⟩
      · exact ⟨o, keep b o hb e⟩
end Mine
section
local macro_rules | `(tactic| walk_at "execs cons") => `(tactic| ((with_reducible show wpAny _ _ (execs (Stmt.Assign [PySem.Expr.Tuple _ _ _] _ _ :: _) _) _ _ _); refine Mine.held ?_))
set_option maxRecDepth 100000 in
set_option maxHeartbeats 8000000 in
theorem PySem.Challenge.cw_ao0012_01_holds : PySem.Challenge.rw_ao0012_01.Holds := by
  w_on
  refine Mine.hd ?_
  k_fill
  intro w s₀ s₁ mg mb G Y fa o pm cd doc dV kV ho hd' hcd hD hmg hg args vals as hpre hlay hrd hwl hlo
  have KX := km_in_of Y
  have hT8 := km_tabs_of Y
  have X := (Ground.X G).1
  have V := (Ground.X G).2
  refine Ground.open G ?_
  intro T B D TE TW
  try (refine guard_noD D (by decide +kernel) ?_; clear D)
  have hT9 : TabsAt [(161, 159)] s₁.heap := List.forall_mem_cons.mpr ⟨⟨codeHd_of_K (c := 161) (P := 159) KX (by kernel_rfl), hT8 159 (by simp)⟩, fun _ h => nomatch h⟩
  clear hmg
  wrow_args hpre hlay hrd hwl hlo
  all_goals (
    first | refine callC_kw (enter_call ?_) | refine enter_call ?_ | w_how
    w_top on
    refine Mine.post_G hT9 (fun _ _ => rfl) ?_
    w_call any ho hd' hcd hD T F)
  have l0 := ghost_lt hT9 F
  have C' := ghost_code hT9
  rename News _ _ _ _ => N
  have KX' := ghost_K hT9 KX (by kernel_rfl)
  have T' := ghost_top hT9 T
  have K' := ghost_below hT9
  have N' := ghost_news hT9 F N
  have F' := ghost_fr hT9 F
  simp only [tabNews, List.map_cons, List.map_nil, List.nil_append] at N'
  clear N F
  have CH := C'.1
  (rename Heap.IsList _ _ _ => hLs)
  have hLg := ghost_list hT9 hLs
  clear C' KX T hT9 hT8 Y
  k_drop
  k_steps
  all_goals (
    rename News _ _ _ [(159, tabObj #[])] => N9
    (with_reducible rename Fr _ _ _ _ => F9)
    rename IntsAre _ _ => hi9
    refine Mine.unheld (wpAny_mono (E := fun _ _ => False) ?_ (fun _ _ x => x) (fun _ _ e => e.elim))
    with_unfolding_all refine Mine.law_rest (mean := ExcName.means s₀.heap) (mg := mg) (mb := mb) ?B F9 ?X ?T CH hLg hi9 ?len rfl rfl ?k0 ?k1 ?l N9 ?G ?Q
    case B => assumption
    case X => assumption
    case T => assumption
    case len => omega
    case k0 => first | exact fmod_lo _ (by decide) | decide
    case k1 => first | exact fmod_hi _ (by decide) | decide
    case l => exact l0 _ (.head _)
    case G => exact AllBare.of_eq hg
    case Q => (
      intro s' m' nx ps G' os' F' tab' N'
      refine ⟨⟨.bool true, .bool true, rfl, ?_, ?_⟩, F'.keep, ?_, os', G'⟩
      · exact .bool true
      · first | with_unfolding_all rfl | kernel_rfl | exact same_self _
      · exact ⟨⟨ps, (N' _ (.head _)).1⟩, trivial⟩))
end
