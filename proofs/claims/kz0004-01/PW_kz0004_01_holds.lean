import PyProof.Rows.All
import Wide.All
import OpenK.AllK
import Wide.FinOn
import PySem.Challenge.RW_kz0004_01
open PySem PySem.W PyProof.Rows PySem.Calls
set_option Elab.async false
set_option maxRecDepth 100000
set_option maxHeartbeats 8000000
namespace Mine
local macro_rules | `(tactic| walk_at $s:str) => if s.getString.startsWith "subscriptTail Name BinOp" then `(tactic| first | k_extra $s | k_extra "subscriptTail") else `(tactic| k_extra $s)

/-! the top in one run: the heap as a tree, the states not written out -/
noncomputable def growT : List Obj → BT → Nat → Option (BT × Nat)
  | [], t, n => some (t, n)
  | o :: l, t, n => match ((t.ins n o).get n).isSome with
    | true => growT l (t.ins n o) (n + 1)
    | false => none
theorem growT_spec (life : Life) : ∀ (l : List Obj) (t : BT) (n : Nat) {t' : BT} {n' : Nat}, growT l t n = some (t', n') →
    absHeap t' n' life = ⟨(absHeap t n life).objs ++ l.toArray, life⟩
  | [], t, n, _, _, h => by
    cases h
    show absHeap t n life = _
    simp [absHeap]
  | o :: l, t, n, t', n', h => by
    unfold growT at h
    cases g : ((t.ins n o).get n).isSome with
    | false => rw [g] at h; cases h
    | true =>
      rw [g] at h
      rw [growT_spec life l _ _ h, absHeap_ins g]
      congr 1
      show (absHeap t n life).objs.push o ++ l.toArray = _
      simp
noncomputable def toT (s : Shared) : Option SharedT := (growT s.heap.objs.toList .nil 0).map fun x => ⟨x.1, x.2, s.heap.life, s.gens, s.drawn, s.toks, s.os⟩
theorem toT_spec {s : Shared} {t : SharedT} (h : toT s = some t) : t.abs = s := by
  obtain ⟨⟨b, n⟩, e, rfl⟩ := Option.map_eq_some_iff.mp h
  have := growT_spec s.heap.life _ _ _ e
  obtain ⟨⟨o, l⟩, g, d, k, os⟩ := s
  show Shared.mk (absHeap b n l) g d k os = _
  rw [this]
  congr 2
  simp [absHeap, BT.list]

noncomputable abbrev TyFO := (String → Option Builtin) → Program → World → Nat → Option Shared
noncomputable abbrev TyTG := (String → Option Builtin) → Program → World → Nat → Option Value → Nat → Shared → Thread → Option (Shared × Thread)
noncomputable abbrev TySR := (String → Option Builtin) → Program → World → Nat → Option Value → Nat → Nat → SharedT → Thread → Option (Flow × SharedT × Code × Pos)
noncomputable abbrev TyTR := (String → Option Builtin) → Program → World → Nat → Option Value → Nat → Shared → Thread → Option Shared
noncomputable abbrev bodyC (p : Program) (env : Env) : Code := .body (behindTheImports p) env
noncomputable def runAll {γ : Type} (fo : TyFO) (tg : TyTG) (sr : TySR) (tr : TyTR) (tb : String → Option Builtin) (p : Program) (w : World) (N m₀ : Nat) (ann : Option Value) (k1 k3 : Nat) (env : Env) (q : Pos) (look : Shared → Shared → γ) :
    Option (Thread × (Flow × Code) × γ) :=
  (fo tb p w N).bind fun s₀ => (tg tb p w m₀ ann k1 s₀ (topStub p)).bind fun x => (toT x.1).bind fun st =>
    (sr tb p w m₀ ann 1 k3 st (piecesOf (behindTheImports p) env (bodyC p env) q [topFrame q])).bind fun y =>
      (tr tb p w m₀ ann 2 y.2.1.abs ⟨doneF .next, bodyC p env, y.2.2.2, [topFrame q]⟩).map fun z => (x.2, (y.1, y.2.2.1), look s₀ z)

theorem left_of {p q : Program} {loose : List Str} {Xt : Shared → Bool} {α : Type} {Yf : Shared → α} {Ya : World → α} {N : Nat} {g0 : Bool} (m₀ : Nat) (ann : Option Value) (k1 k3 : Nat) (env : Env) (pos : Pos)
    (le : Nat.ble (k1 + (1 + (k3 + 2))) N = true)
    (hb : ∀ (w : World) (s : Shared), segRun treeTable p w m₀ ann 1 1 s (blockOf (behindTheImports p) env (bodyC p env) pos [topFrame pos]) = some (.next, s, bodyC p env, pos))
    (h : ∀ w : World, runAll fencedOpening topGo segRunT topRun treeTable p w N m₀ ann k1 k3 env pos (fun s₀ z =>
        ((s₀.heap.isNs mainGlobals && s₀.gens.size == 0, s₀.heap.objs.size, s₀.heap.nsMap mainGlobals "__annotations__"),
          (staticsOk (importedModules p.main.body) s₀.heap z.heap && namesBound p z.heap && gensDone z && laidKept s₀.heap z.heap),
          openSeen q loose (importedModules p.main.body) Xt g0 z, Yf z)) =
      some (⟨denote treeTable (bodyC p env), bodyC p env, pos, [topFrame pos]⟩, (.next, bodyC p env), ((true, m₀, ann), true, openGood q loose, Ya w))) : LeftO p q loose Xt Yf Ya N g0 := fun w => by
  have h := h w
  unfold runAll at h
  obtain ⟨s₀, h0, h⟩ := Option.bind_eq_some_iff.mp h
  obtain ⟨⟨s1, t1⟩, h1, h⟩ := Option.bind_eq_some_iff.mp h
  obtain ⟨st, h2, h⟩ := Option.bind_eq_some_iff.mp h
  obtain ⟨⟨f, s3, c3, p3⟩, h3, h⟩ := Option.bind_eq_some_iff.mp h
  obtain ⟨z, h4, h⟩ := Option.map_eq_some_iff.mp h
  simp only [Prod.mk.injEq] at h
  obtain ⟨rfl, ⟨rfl, rfl⟩, ⟨z1, z2, z3⟩, l1, l2, l3⟩ := h
  have a3 := segRun_of h3
  rw [toT_spec h2] at a3
  have k4 := piece_app (l := behindTheImports p) (rest := []) a3 (piece_nil h4)
  rw [List.append_nil] at k4
  have r := topRun_mono (N - (k1 + (1 + (k3 + 2)))) _ _ _ _ (go_top h1 (piece_block (hb w s1) k4))
  rw [show k1 + (1 + (k3 + 2)) + (N - (k1 + (1 + (k3 + 2)))) = N by have := Nat.le_of_ble_eq_true le; omega] at r
  have t : topFrom treeTable p w N s₀ = some z := by
    unfold topFrom
    rw [z1, z2, z3, r]
    show (match staticsOk (importedModules p.main.body) s₀.heap z.heap && namesBound p z.heap && gensDone z && laidKept s₀.heap z.heap with | true => _ | false => _) = _
    rw [l1]
  unfold openEnds
  rw [h0]
  show (topFrom treeTable p w N _).map _ = _
  rw [t]
  exact congrArg some (Prod.ext l2 l3)

section
/-! the head: the text's top, walked by the kernel in one run -/
noncomputable abbrev pw : Program := PySem.Challenge.rw_kz0004_01.row.prog
noncomputable def vw : Program := view pw [0, 1, 3, 4, 7, 8, 9, 10, 12, 13, 14, 15, 16, 17, 18, 19, 20, 22, 23, 24, 25, 26, 27, 28]
noncomputable def ls : List PySem.Str := ["_twin_re_1", "split_lines", "NodeOrLeaf", "Leaf", "BaseNode", "PythonLeaf", "_LeafWithoutNewlines", "PythonNode", "Name", "String", "Operator"]
noncomputable def topE : Env := { scope := pw.main.scope, locals := mainNs, globals := mainNs, cells := [], code := .ref 30, frame := some 31 }
theorem said : PySem.Challenge.rw_kz0004_01.wellSaid = true := by
  rw [PySem.W.Fast.te9446332074065402090]
  kernel_rfl
local macro_rules | `(tactic| o_law) => `(tactic| refine holds_law said fun said' => ?_)
noncomputable abbrev xt (s : Shared) : Bool := xlAt vw [] s && recOk (OpenRow.toRowW PySem.Challenge.rw_kz0004_01.row).records s
noncomputable def runP {α : Type} (ie : type_of% @importEnds) (st : type_of% @start) (fm : type_of% @fenceModules?) (tg : type_of% @topGo) (sr : type_of% @segRunT) (tr : type_of% @topRun) (tb : type_of% @treeTable) (ns : type_of% @Heap.nsMap) (im : type_of% @importedModules)
    (se : type_of% @openSeen) (dn : type_of% @denote) (Yf : Shared → α) (Ya : World → α) : Prop := ∀ w : World,
  runAll (fun tb p w N => (ie tb (opening p) w N (st (opening p)).1 (st (opening p)).2).bind (fm p)) tg sr tr tb pw w 9804 28 (some (.ref 6)) 12 6000 topE ⟨0, 0, 0, 0⟩ (fun s₀ z =>
        ((s₀.heap.isNs mainGlobals && s₀.gens.size == 0, s₀.heap.objs.size, ns s₀.heap mainGlobals "__annotations__"),
          (staticsOk (im pw.main.body) s₀.heap z.heap && namesBound pw z.heap && gensDone z && laidKept s₀.heap z.heap),
          se vw ls (im pw.main.body) xt true z, Yf z)) =
      some (⟨dn tb (bodyC pw topE), bodyC pw topE, ⟨0, 0, 0, 0⟩, [topFrame ⟨0, 0, 0, 0⟩]⟩, (.next, bodyC pw topE), ((true, 28, some (.ref 6)), true, openGood vw ls, Ya w))
theorem runP_fast {α : Type} {Yf : Shared → α} {Ya : World → α}
    (h : runP Fast.tw10274390034422433532 Fast.tw1435165496053646825 Fast.tw14289696077712309145 Fast.tw15667345088766844465 Fast.tw10110043849684766642 Fast.tw14082659384304107361 Fast.tw14364793385576792824
      Fast.tw8920871248978507458 Fast.tw5923862056798008813 Fast.tw4187177175401517315 Fast.tw11892475500146522536 Yf Ya) :
    runP @importEnds @start @fenceModules? @topGo @segRunT @topRun @treeTable @Heap.nsMap @importedModules @openSeen @denote Yf Ya := by
  rw [Fast.te10274390034422433532, Fast.te1435165496053646825, Fast.te14289696077712309145, Fast.te15667345088766844465, Fast.te10110043849684766642, Fast.te14082659384304107361, Fast.te14364793385576792824,
    Fast.te8920871248978507458, Fast.te5923862056798008813, Fast.te4187177175401517315, Fast.te11892475500146522536]
  exact h
theorem left_pw {α : Type} {Yf : Shared → α} {Ya : World → α} (h : runP Fast.tw10274390034422433532 Fast.tw1435165496053646825 Fast.tw14289696077712309145 Fast.tw15667345088766844465 Fast.tw10110043849684766642 Fast.tw14082659384304107361 Fast.tw14364793385576792824
      Fast.tw8920871248978507458 Fast.tw5923862056798008813 Fast.tw4187177175401517315 Fast.tw11892475500146522536 Yf Ya) : LeftO pw vw ls xt Yf Ya 9804 :=
  left_of 28 (some (.ref 6)) 12 6000 topE ⟨0, 0, 0, 0⟩ (by decide) (fun w s => by kernel_rfl) (runP_fast h)
theorem xt_xl (s : Shared) (e : xt s = true) : XL vw [] (s.heap.nsMap mainGlobals) s.heap := xl_of s (Bool.and_eq_true_iff.mp e).1
theorem xt_rec (s : Shared) (e : xt s = true) : RecFacts (OpenRow.toRowW PySem.Challenge.rw_kz0004_01.row).records s.heap := recFacts_of (Bool.and_eq_true_iff.mp e).2
local macro_rules | `(tactic| o_head (kHook $k $a $e)) => `(tactic| (
  refine holds_open (left_pw ?$(Lean.mkIdent `hl)) (Hook.of (kmHook $k $a $e [217])) (Hook.keeps (kmHook $k $a $e [217])) xt_xl XL.keeps (by rfl) (by rfl) (by rfl) xt_rec (by rfl) (by assumption) (by decide +kernel) ⟨rfl, rfl, rfl, rfl, rfl, by decide +kernel⟩ ?$(Lean.mkIdent `hw) ?$(Lean.mkIdent `hc)
  next => (intro w; kernel_rfl)))
open_top hd for PySem.Challenge.rw_kz0004_01
end

/-- the four classes of leaves, by their addresses in the written part -/
inductive LC where
  | plain | str | name | oper
inductive NC where
  | plain | py
noncomputable def LC.addr : LC → Nat
  | .plain => 176
  | .str => 384
  | .name => 360
  | .oper => 417
noncomputable def NC.addr : NC → Nat
  | .plain => 276
  | .py => 348
noncomputable def LC.isPlain : LC → Bool
  | .plain => true
  | _ => false
/-- classes whose end_pos looks for no line break -/
noncomputable def LC.flat : LC → Bool
  | .name => true
  | .oper => true
  | _ => false

structure LD where
  a : Addr
  d : Addr
  c : LC
  val : Str
  pre : Str
  line : Int
  col : Int
  tv : Tok
  tp : Tok
  tl : Tok
  tc : Tok
  k1 : Tok
  k2 : Tok
  k3 : Tok
  k4 : Tok
  k5 : Tok
structure ND where
  a : Addr
  d : Addr
  l : Addr
  c : NC
  kind : Str
  tk : Tok
  k1 : Tok
  k2 : Tok
  k3 : Tok
inductive Tr where
  | leaf (x : LD)
  | node (x : ND) (ts : List Tr)
noncomputable def Tr.addr : Tr → Addr
  | .leaf x => x.a
  | .node x _ => x.a

noncomputable def ent (P : Params) (n : String) (t : Tok) (v : Value) : DictEntry := ⟨PyData.keyHash P (Str.ofString n), .str (Str.ofString n) t, v⟩
noncomputable def leafDict (P : Params) (x : LD) (par : Value) : Obj :=
  dictOf [ent P "value" x.k1 (.str x.val x.tv), ent P "line" x.k2 (.int x.line x.tl), ent P "column" x.k3 (.int x.col x.tc), ent P "prefix" x.k4 (.str x.pre x.tp), ent P "parent" x.k5 par] 5
noncomputable def nodeDict (P : Params) (x : ND) (par : Value) : Obj :=
  dictOf [ent P "children" x.k1 (.ref x.l), ent P "parent" x.k2 par, ent P "type" x.k3 (.str x.kind x.tk)] 3

structure LeafAt (P : Params) (h : Heap) (x : LD) (par : Value) : Prop where
  inst : h.get? x.a = some (instObj x.c.addr x.d)
  dict : h.get? x.d = some (leafDict P x par)
structure NodeAt (P : Params) (h : Heap) (x : ND) (par : Value) (ks : List Value) : Prop where
  inst : h.get? x.a = some (instObj x.c.addr x.d)
  dict : h.get? x.d = some (nodeDict P x par)
  list : h.IsList x.l ks.toArray

mutual
noncomputable def TreeAt (P : Params) (h : Heap) : Tr → Value → Prop
  | .leaf x, par => LeafAt P h x par
  | .node x ts, par => NodeAt P h x par (ts.map fun t => .ref t.addr) ∧ KidsAt P h ts (.ref x.a)
noncomputable def KidsAt (P : Params) (h : Heap) : List Tr → Value → Prop
  | [], _ => True
  | t :: ts, par => TreeAt P h t par ∧ KidsAt P h ts par
end

section
variable {P : Params} {h h' : Heap}
theorem LeafAt.keeps {x : LD} {par : Value} (L : LeafAt P h x par) (k : ∀ b o, h.get? b = some o → h'.get? b = some o) : LeafAt P h' x par := ⟨k _ _ L.inst, k _ _ L.dict⟩
theorem isList_keeps {l : Addr} {its : Array Value} (L : h.IsList l its) (k : ∀ b o, h.get? b = some o → h'.get? b = some o) : h'.IsList l its := let ⟨o, e, r⟩ := L; ⟨o, k _ _ e, r⟩
theorem NodeAt.keeps {x : ND} {par : Value} {ks : List Value} (L : NodeAt P h x par ks) (k : ∀ b o, h.get? b = some o → h'.get? b = some o) : NodeAt P h' x par ks := ⟨k _ _ L.inst, k _ _ L.dict, isList_keeps L.list k⟩
mutual
theorem TreeAt.keeps (k : ∀ b o, h.get? b = some o → h'.get? b = some o) : ∀ (t : Tr) {par : Value}, TreeAt P h t par → TreeAt P h' t par
  | .leaf x, par, L => by
    unfold TreeAt at L ⊢
    exact LeafAt.keeps L k
  | .node x ts, par, L => by
    unfold TreeAt at L ⊢
    exact ⟨L.1.keeps k, KidsAt.keeps k ts L.2⟩
theorem KidsAt.keeps (k : ∀ b o, h.get? b = some o → h'.get? b = some o) : ∀ (ts : List Tr) {par : Value}, KidsAt P h ts par → KidsAt P h' ts par
  | [], _, _ => by unfold KidsAt; trivial
  | t :: ts, par, L => by
    unfold KidsAt at L ⊢
    exact ⟨TreeAt.keeps k t L.1, KidsAt.keeps k ts L.2⟩
end
end

section
variable (P : Params)
theorem leaf_ga (c : LC) : findIn (hd.heap_1 P) (.ref c.addr) "__getattribute__" = some (some (.builtin "object.__getattribute__")) := by cases c <;> kernel_rfl
theorem leaf_gb (c : LC) : findIn (hd.heap_1 P) (.ref c.addr) "__getattr__" = some none := by cases c <;> kernel_rfl
theorem node_ga (c : NC) : findIn (hd.heap_1 P) (.ref c.addr) "__getattribute__" = some (some (.builtin "object.__getattribute__")) := by cases c <;> kernel_rfl
theorem node_gb (c : NC) : findIn (hd.heap_1 P) (.ref c.addr) "__getattr__" = some none := by cases c <;> kernel_rfl
variable (x : LD) (y : ND) (par : Value)
theorem leaf_value : findObj (hd.heap_1 P) x.c.addr (some (leafDict P x par)) "value" = some (.value (.str x.val x.tv)) := by obtain ⟨a, d, c, _⟩ := x; cases c <;> kernel_rfl
theorem leaf_line : findObj (hd.heap_1 P) x.c.addr (some (leafDict P x par)) "line" = some (.value (.int x.line x.tl)) := by obtain ⟨a, d, c, _⟩ := x; cases c <;> kernel_rfl
theorem leaf_column : findObj (hd.heap_1 P) x.c.addr (some (leafDict P x par)) "column" = some (.value (.int x.col x.tc)) := by obtain ⟨a, d, c, _⟩ := x; cases c <;> kernel_rfl
theorem leaf_prefix : findObj (hd.heap_1 P) x.c.addr (some (leafDict P x par)) "prefix" = some (.value (.str x.pre x.tp)) := by obtain ⟨a, d, c, _⟩ := x; cases c <;> kernel_rfl
theorem leaf_parent : findObj (hd.heap_1 P) x.c.addr (some (leafDict P x par)) "parent" = some (.value par) := by obtain ⟨a, d, c, _⟩ := x; cases c <;> kernel_rfl
theorem node_children : findObj (hd.heap_1 P) y.c.addr (some (nodeDict P y par)) "children" = some (.value (.ref y.l)) := by obtain ⟨a, d, l, c, _⟩ := y; cases c <;> kernel_rfl
theorem node_parent : findObj (hd.heap_1 P) y.c.addr (some (nodeDict P y par)) "parent" = some (.value par) := by obtain ⟨a, d, l, c, _⟩ := y; cases c <;> kernel_rfl
theorem node_type : findObj (hd.heap_1 P) y.c.addr (some (nodeDict P y par)) "type" = some (.value (.str y.kind y.tk)) := by obtain ⟨a, d, l, c, _⟩ := y; cases c <;> kernel_rfl
end

section
variable {prog : Program} {w : World} {A : Around} {E : Value → Shared → Prop} {s : Shared} {expr : Bool} {Q : Value → Shared → Prop} {x : LD} {y : ND} {par : Value} {ks : List Value}
theorem LeafAt.at {P : Params} {h : Heap} (L : LeafAt P h x par) : InstAt h x.a (instObj x.c.addr x.d) x.c.addr (some (leafDict P x par)) := ⟨L.inst, rfl, rfl, L.dict⟩
theorem NodeAt.at {P : Params} {h : Heap} (L : NodeAt P h y par ks) : InstAt h y.a (instObj y.c.addr y.d) y.c.addr (some (nodeDict P y par)) := ⟨L.inst, rfl, rfl, L.dict⟩
theorem ga_value (X : (hd.heap_1 w.params).In s.heap) (L : LeafAt w.params s.heap x par) (h : Q (.str x.val x.tv) { s with toks := s.toks + 1 }) : wpAny (model prog w) A (getAttr (.ref x.a) "value" expr) Q E s :=
  get_value X L.at (leaf_ga _ _) (leaf_value _ _ _) rfl h
theorem ga_line (X : (hd.heap_1 w.params).In s.heap) (L : LeafAt w.params s.heap x par) (h : Q (.int x.line x.tl) { s with toks := s.toks + 1 }) : wpAny (model prog w) A (getAttr (.ref x.a) "line" expr) Q E s :=
  get_value X L.at (leaf_ga _ _) (leaf_line _ _ _) rfl h
theorem ga_column (X : (hd.heap_1 w.params).In s.heap) (L : LeafAt w.params s.heap x par) (h : Q (.int x.col x.tc) { s with toks := s.toks + 1 }) : wpAny (model prog w) A (getAttr (.ref x.a) "column" expr) Q E s :=
  get_value X L.at (leaf_ga _ _) (leaf_column _ _ _) rfl h
theorem ga_prefix (X : (hd.heap_1 w.params).In s.heap) (L : LeafAt w.params s.heap x par) (h : Q (.str x.pre x.tp) { s with toks := s.toks + 1 }) : wpAny (model prog w) A (getAttr (.ref x.a) "prefix" expr) Q E s :=
  get_value X L.at (leaf_ga _ _) (leaf_prefix _ _ _) rfl h
theorem ga_children (X : (hd.heap_1 w.params).In s.heap) (L : NodeAt w.params s.heap y par ks) (h : Q (.ref y.l) { s with toks := s.toks + 1 }) : wpAny (model prog w) A (getAttr (.ref y.a) "children" expr) Q E s :=
  get_value X L.at (node_ga _ _) (node_children _ _ _) rfl h
theorem ga_type (X : (hd.heap_1 w.params).In s.heap) (L : NodeAt w.params s.heap y par ks) (h : Q (.str y.kind y.tk) { s with toks := s.toks + 1 }) : wpAny (model prog w) A (getAttr (.ref y.a) "type" expr) Q E s :=
  get_value X L.at (node_ga _ _) (node_type _ _ _) rfl h
theorem ga_parentL (hp : handedIn par = true) (X : (hd.heap_1 w.params).In s.heap) (L : LeafAt w.params s.heap x par) (h : Q par { s with toks := s.toks + 1 }) : wpAny (model prog w) A (getAttr (.ref x.a) "parent" expr) Q E s :=
  get_value X L.at (leaf_ga _ _) (leaf_parent _ _ _) hp h
theorem ga_parentN (hp : handedIn par = true) (X : (hd.heap_1 w.params).In s.heap) (L : NodeAt w.params s.heap y par ks) (h : Q par { s with toks := s.toks + 1 }) : wpAny (model prog w) A (getAttr (.ref y.a) "parent" expr) Q E s :=
  get_value X L.at (node_ga _ _) (node_parent _ _ _) hp h
theorem ga_parent {t : Tr} (hp : handedIn par = true) (X : (hd.heap_1 w.params).In s.heap) (L : TreeAt w.params s.heap t par) (h : Q par { s with toks := s.toks + 1 }) : wpAny (model prog w) A (getAttr (.ref t.addr) "parent" expr) Q E s := by
  cases t with
  | leaf x => unfold TreeAt at L; exact ga_parentL hp X L h
  | node x ts => unfold TreeAt at L; exact ga_parentN hp X L.1 h
end

theorem enterX {prog : Program} {w : World} {A : Around} {s : Shared} {K : Frag} {R : Result → Shared → Prop} {name qual : Str} {params : Arguments} {body : List Stmt} {scope : Scope} {cl : List (Str × Addr)} {dV kV doc pm cdv ct oc : Value} {an od : Option Addr} {osl : Array (Option Value)} {f : Addr} {args : Args} (binds : List (Str × Value))
    (X : K.In s.heap) (hlim : s.heap.NoLimit)
    (ho : K.lookup f = some ⟨oc, od, .func (fnX name qual params body scope cl dV kV doc pm an cdv ct), osl⟩) (hcd : codeIn K cdv qual = true) (hroom : A.depth < recursionLimit)
    (hbind : BindsTo s (fnX name qual params body scope cl dV kV doc pm an cdv ct) args binds) (hloc : ∀ y ∈ binds, scope.names.lookup y.1 = some .local)
    (hcell : ∀ x ∈ scope.names, x.2 ≠ .cell) (hco : scope.isCoroutine = false) (hgen : scope.isGenerator = false) (hk : scope.kind = .function)
    (h : ∀ L' h₁ tk, Fr s.heap L' h₁ (fun y => binds.reverse.lookup y) → News s.heap L' h₁ [] →
      wpAny (model prog w) (A.deeper (envX qual scope L' f cdv cl)) (execs body (envX qual scope L' f cdv cl))
        (fun fl s' => R (.ok (.ret (match fl with | .ret v => v | _ => .none))) s') (fun _ _ => False) { s with heap := h₁, toks := tk }) :
    codeAny (model prog w) A (.call (.ref f) args) R s := by
  refine codeAny_call_def (fd := fnX name qual params body scope cl dV kV doc pm an cdv ct) (body := body) (binds := binds) hroom (X _ _ ho) rfl hlim (codeRec_of X hcd) rfl hbind hcell hloc (fun h₁ hns hk₁ => ?_) hco hgen hk
  exact wpAny_noRaise (h s.heap.objs.size h₁ _ ⟨hns, hk₁, Nat.le_refl _⟩ News.nil)

/-- room on the stacks -/
structure Rm (A : Around) (n : Nat) : Prop where
  hh : A.handled = none
  depth : A.depth + n < recursionLimit
  units : A.units + 8 * n < cLine
theorem Rm.mono {A : Around} {n k : Nat} (r : Rm A n) (h : k ≤ n) : Rm A k := ⟨r.hh, by have := r.depth; omega, by have := r.units; omega⟩
theorem Rm.deeper {A : Around} {n k : Nat} {env : Env} (r : Rm A n) (h : k + 1 ≤ n) : Rm (A.deeper env) k := ⟨r.hh, by have := r.depth; show A.depth + 1 + k < _; omega, by have := r.units; show A.units + 3 + 8 * k < _; omega⟩
theorem Rm.in1 {A : Around} {n k : Nat} (r : Rm A n) (h : k + 1 ≤ n) : Rm A.in1 k := ⟨r.hh, by have := r.depth; show A.depth + k < _; omega, by have := r.units; show A.units + 1 + 8 * k < _; omega⟩
theorem Rm.lt {A : Around} {n : Nat} (r : Rm A n) : A.depth < recursionLimit := by have := r.depth; omega

/-- what stands at the top stands here -/
noncomputable def St (w : World) (h : Heap) : Prop := (hd.heap_1 w.params).In h ∧ ∃ p loose mg mb, TopRead p loose mg mb h ∧ ∃ bm ob, BMod h mainGlobals mg bm ob
theorem St.keeps {w : World} {h h' : Heap} (S : St w h) (k : ∀ b o, h.get? b = some o → h'.get? b = some o) : St w h' := let ⟨X, p, l, mg, mb, T, bm, ob, M⟩ := S; ⟨X.keeps k, p, l, mg, mb, T.keeps k, bm, ob, M.keeps k⟩
theorem st_of {w : World} {g h : Heap} {L : Addr} {m : Str → Option Value} (F : Fr g L h m) (S : St w g) : St w h := S.keeps F.keep

theorem while_fr {prog : Program} {w : World} {A : Around} {s : Shared} {Q : Flow → Shared → Prop} {env : Env} {test : Expr} {body : List Stmt} {pos : Pos} {g : Heap} {L : Addr} {m : Str → Option Value} {news : List (Addr × Obj)}
    (J : Nat → (Str → Option Value) → Prop) (n : Nat) (hJ : J n m) (F : Fr g L s.heap m) (N : News g L s.heap news)
    (turn : ∀ n m₁ h₁ tk₁, J n m₁ → Fr g L h₁ m₁ → News g L h₁ news → wpAny (model prog w) A (isTrue test env (eval test env)) (fun b s₂ =>
        if b then wpAny (model prog w) A (execs body env) (fun f s₃ => match f with
            | .next | .cont => ∃ n' m₂ h₂ tk₂, s₃ = { s with heap := h₂, toks := tk₂ } ∧ n' < n ∧ J n' m₂ ∧ Fr g L h₂ m₂ ∧ News g L h₂ news
            | .brk => Q .next s₃
            | .ret v => Q (.ret v) s₃) (fun _ _ => False) s₂
        else Q .next s₂) (fun _ _ => False) { s with heap := h₁, toks := tk₁ }) (hA : A.handled = none) :
    wpAny (model prog w) A (exec (.While test body [] pos) env) Q (fun _ _ => False) s := by
  rw [exec_While]
  refine wpAny_bind (wpAny_standAt (wpAny_runOwn ?_))
  have e : A.mark none = A := by cases A; rfl
  rw [e]
  refine codeAny_whileLoop (fun n s' => ∃ m₁ h₁ tk₁, s' = { s with heap := h₁, toks := tk₁ } ∧ J n m₁ ∧ Fr g L h₁ m₁ ∧ News g L h₁ news) ?_ n ⟨m, s.heap, s.toks, rfl, hJ, F, N⟩
  rintro n s' ⟨m₁, h₁, tk₁, rfl, hJ₁, F₁, N₁⟩
  refine wpAny_mono (turn n m₁ h₁ tk₁ hJ₁ F₁ N₁) (fun b s₂ h₂ => ?_) fun _ _ x => x.elim
  cases b with
  | false =>
    simp only [Bool.false_eq_true, if_false] at h₂ ⊢
    exact wpAny_execs_nil h₂
  | true =>
    simp only [if_true] at h₂ ⊢
    refine wpAny_mono h₂ (fun f s₃ h₃ => ?_) fun _ _ x => x.elim
    cases f with
    | next => obtain ⟨n', m₂, h₂', tk₂, rfl, hlt, hJ', F', N'⟩ := h₃; exact ⟨n', hlt, m₂, h₂', tk₂, rfl, hJ', F', N'⟩
    | cont => obtain ⟨n', m₂, h₂', tk₂, rfl, hlt, hJ', F', N'⟩ := h₃; exact ⟨n', hlt, m₂, h₂', tk₂, rfl, hJ', F', N'⟩
    | brk => exact h₃
    | ret v => exact h₃

section
variable {prog : Program} {w : World} {A : Around} {E : Value → Shared → Prop} {s : Shared} {expr : Bool} {Q : Value → Shared → Prop} {x : LD} {y : ND} {par : Value} {ks : List Value} {t : Tr} {g : Heap} {L : Addr} {m : Str → Option Value} {pl : Sem Bool}
theorem w_value (F : Fr g L s.heap m) (X : (hd.heap_1 w.params).In g) (T : LeafAt w.params g x par) (h : Q (.str x.val x.tv) { s with toks := s.toks + 1 }) : wpAny (model prog w) A (getAttr (.ref x.a) "value" expr) Q E s := ga_value (X.keeps F.keep) (T.keeps F.keep) h
theorem w_line (F : Fr g L s.heap m) (X : (hd.heap_1 w.params).In g) (T : LeafAt w.params g x par) (h : Q (.int x.line x.tl) { s with toks := s.toks + 1 }) : wpAny (model prog w) A (getAttr (.ref x.a) "line" expr) Q E s := ga_line (X.keeps F.keep) (T.keeps F.keep) h
theorem w_column (F : Fr g L s.heap m) (X : (hd.heap_1 w.params).In g) (T : LeafAt w.params g x par) (h : Q (.int x.col x.tc) { s with toks := s.toks + 1 }) : wpAny (model prog w) A (getAttr (.ref x.a) "column" expr) Q E s := ga_column (X.keeps F.keep) (T.keeps F.keep) h
theorem w_prefix (F : Fr g L s.heap m) (X : (hd.heap_1 w.params).In g) (T : LeafAt w.params g x par) (h : Q (.str x.pre x.tp) { s with toks := s.toks + 1 }) : wpAny (model prog w) A (getAttr (.ref x.a) "prefix" expr) Q E s := ga_prefix (X.keeps F.keep) (T.keeps F.keep) h
theorem w_children (F : Fr g L s.heap m) (X : (hd.heap_1 w.params).In g) (T : NodeAt w.params g y par ks) (h : Q (.ref y.l) { s with toks := s.toks + 1 }) : wpAny (model prog w) A (getAttr (.ref y.a) "children" expr) Q E s := ga_children (X.keeps F.keep) (T.keeps F.keep) h
theorem w_type (F : Fr g L s.heap m) (X : (hd.heap_1 w.params).In g) (T : NodeAt w.params g y par ks) (h : Q (.str y.kind y.tk) { s with toks := s.toks + 1 }) : wpAny (model prog w) A (getAttr (.ref y.a) "type" expr) Q E s := ga_type (X.keeps F.keep) (T.keeps F.keep) h
theorem w_parent (hp : handedIn par = true) (F : Fr g L s.heap m) (X : (hd.heap_1 w.params).In g) (T : TreeAt w.params g t par) (h : Q par { s with toks := s.toks + 1 }) : wpAny (model prog w) A (getAttr (.ref t.addr) "parent" expr) Q E s := ga_parent hp (X.keeps F.keep) (T.keeps F.keep) h

noncomputable def LC.fPref : LC → Nat
  | .plain => 143
  | _ => 313
noncomputable def Tr.fFirst : Tr → Nat
  | .leaf _ => 150
  | .node .. => 245
noncomputable def Tr.fLast : Tr → Nat
  | .leaf _ => 157
  | .node .. => 252
noncomputable def Tr.fCode : Tr → Nat
  | .leaf _ => 165
  | .node .. => 230
noncomputable def Tr.fPref : Tr → Nat
  | .leaf x => x.c.fPref
  | .node .. => 207

theorem gm_tree0 {name : Str} {f : Tr → Nat} (hl : ∀ x : LD, findIn (hd.heap_1 w.params) (.ref x.c.addr) name = some (some (.ref (f (.leaf x)))) ∧ typeIn (hd.heap_1 w.params) (.ref (f (.leaf x))) = some (.type "function") ∧ shadowIn (some (leafDict w.params x par)) name = some false)
    (hn : ∀ (x : ND) ts, findIn (hd.heap_1 w.params) (.ref x.c.addr) name = some (some (.ref (f (.node x ts)))) ∧ typeIn (hd.heap_1 w.params) (.ref (f (.node x ts))) = some (.type "function") ∧ shadowIn (some (nodeDict w.params x par)) name = some false)
    (X' : (hd.heap_1 w.params).In s.heap) (T' : TreeAt w.params s.heap t par) {Q : Value × List Value → Shared → Prop} (h : Q (.ref (f t), [.ref t.addr]) s) : wpAny (model prog w) A (getMethod (.ref t.addr) name pl) Q E s := by
  cases t with
  | leaf x => unfold TreeAt at T'; exact method_fn X' T'.at (leaf_ga _ _) (leaf_gb _ _) (hl x).1 (hl x).2.1 (hl x).2.2 h
  | node x ts => unfold TreeAt at T'; exact method_fn X' T'.1.at (node_ga _ _) (node_gb _ _) (hn x ts).1 (hn x ts).2.1 (hn x ts).2.2 h
theorem gm_tree {name : Str} {f : Tr → Nat} (hl : ∀ x : LD, findIn (hd.heap_1 w.params) (.ref x.c.addr) name = some (some (.ref (f (.leaf x)))) ∧ typeIn (hd.heap_1 w.params) (.ref (f (.leaf x))) = some (.type "function") ∧ shadowIn (some (leafDict w.params x par)) name = some false)
    (hn : ∀ (x : ND) ts, findIn (hd.heap_1 w.params) (.ref x.c.addr) name = some (some (.ref (f (.node x ts)))) ∧ typeIn (hd.heap_1 w.params) (.ref (f (.node x ts))) = some (.type "function") ∧ shadowIn (some (nodeDict w.params x par)) name = some false)
    (F : Fr g L s.heap m) (X : (hd.heap_1 w.params).In g) (T : TreeAt w.params g t par) {Q : Value × List Value → Shared → Prop} (h : Q (.ref (f t), [.ref t.addr]) s) : wpAny (model prog w) A (getMethod (.ref t.addr) name pl) Q E s :=
  gm_tree0 hl hn (X.keeps F.keep) (T.keeps F.keep) h

theorem gm_first (F : Fr g L s.heap m) (X : (hd.heap_1 w.params).In g) (T : TreeAt w.params g t par) {Q : Value × List Value → Shared → Prop} (h : Q (.ref t.fFirst, [.ref t.addr]) s) : wpAny (model prog w) A (getMethod (.ref t.addr) "get_first_leaf" pl) Q E s :=
  gm_tree (par := par) (f := Tr.fFirst) (fun x => by obtain ⟨_, _, c, _⟩ := x; cases c <;> exact ⟨by kernel_rfl!, by kernel_rfl!, by kernel_rfl!⟩) (fun x ts => by obtain ⟨_, _, _, c, _⟩ := x; cases c <;> exact ⟨by kernel_rfl!, by kernel_rfl!, by kernel_rfl!⟩) F X T h
end

mutual
noncomputable def ht : Tr → Nat
  | .leaf _ => 0
  | .node _ ts => hts ts + 1
noncomputable def hts : List Tr → Nat
  | [] => 0
  | t :: ts => max (ht t) (hts ts)
end
mutual
/-- no node without children -/
noncomputable def full : Tr → Prop
  | .leaf _ => True
  | .node _ ts => ts ≠ [] ∧ fulls ts
noncomputable def fulls : List Tr → Prop
  | [] => True
  | t :: ts => full t ∧ fulls ts
end
noncomputable def noLeaf : LD := ⟨0, 0, .plain, Str.empty, Str.empty, 0, 0, 0, 0, 0, 0, 0, 0, 0, 0, 0⟩
mutual
noncomputable def Tr.leaves : Tr → List LD
  | .leaf x => [x]
  | .node _ ts => leavesL ts
noncomputable def leavesL : List Tr → List LD
  | [] => []
  | t :: ts => t.leaves ++ leavesL ts
end
mutual
noncomputable def firstOf : Tr → LD
  | .leaf x => x
  | .node _ ts => firstL ts
noncomputable def firstL : List Tr → LD
  | [] => noLeaf
  | t :: _ => firstOf t
end
mutual
noncomputable def lastOf : Tr → LD
  | .leaf x => x
  | .node _ ts => lastL ts
noncomputable def lastL : List Tr → LD
  | [] => noLeaf
  | t :: ts => if ts.isEmpty then lastOf t else lastL ts
end
theorem ht_kid {t : Tr} {ts : List Tr} (h : t ∈ ts) : ht t ≤ hts ts := by
  induction ts with
  | nil => cases h
  | cons a r ih =>
    unfold hts
    rcases List.mem_cons.mp h with rfl | h
    · exact Nat.le_max_left ..
    · exact Nat.le_trans (ih h) (Nat.le_max_right ..)
theorem full_kid {t : Tr} {ts : List Tr} (hf : fulls ts) (h : t ∈ ts) : full t := by
  induction ts with
  | nil => cases h
  | cons a r ih =>
    unfold fulls at hf
    rcases List.mem_cons.mp h with rfl | h
    · exact hf.1
    · exact ih hf.2 h
theorem kid_at {P : Params} {h : Heap} {par : Value} {t : Tr} {ts : List Tr} (K : KidsAt P h ts par) (hm : t ∈ ts) : TreeAt P h t par := by
  induction ts with
  | nil => cases hm
  | cons a r ih =>
    unfold KidsAt at K
    rcases List.mem_cons.mp hm with rfl | hm
    · exact K.1
    · exact ih K.2 hm
theorem lastL_is {ts : List Tr} (h : ts ≠ []) : lastL ts = lastOf (ts.getLast h) := by
  induction ts with
  | nil => exact absurd rfl h
  | cons a r ih =>
    unfold lastL
    cases r with
    | nil => rfl
    | cons b q => simp only [List.isEmpty_cons, Bool.false_eq_true, if_false]; rw [ih (by simp)]; simp

section
variable {prog : Program} {w : World} {A : Around} {E : Value → Shared → Prop} {s : Shared} {Q : Value → Shared → Prop} {y : ND} {par v : Value} {ks : List Value} {g : Heap} {L : Addr} {m : Str → Option Value} {value slice : Expr} {u : Tok}
theorem sub_first (F : Fr g L s.heap m) (T : NodeAt w.params g y par (v :: ks)) (h : Q v s)
    (hs : subscripted slice false (.ref y.l) (.int 0 u) = operate [.ref y.l, .int 0 u] (getItem (.ref y.l) (.int 0 u)) := by with_unfolding_all rfl) :
    wpAny (model prog w) A (subscriptTail value slice (.ref y.l) (.int 0 u)) Q E s :=
  have hl := isList_keeps T.list F.keep
  tail_any hl.typeIs slot_list_getitem.lookup (wpAny_getItem_list hl (by decide) (by decide) rfl h) hs
theorem sub_last (F : Fr g L s.heap m) (T : NodeAt w.params g y par ks) (hv : ks.getLast? = some v) (h : Q v s)
    (hs : subscripted slice false (.ref y.l) (.int (-1) u) = operate [.ref y.l, .int (-1) u] (getItem (.ref y.l) (.int (-1) u)) := by with_unfolding_all rfl) :
    wpAny (model prog w) A (subscriptTail value slice (.ref y.l) (.int (-1) u)) Q E s := by
  have hl := isList_keeps T.list F.keep
  have hne : ks ≠ [] := by rintro rfl; cases hv
  have hlen : 0 < ks.length := List.length_pos_iff.mpr hne
  have hx : ks.toArray[(-1 + (ks.toArray.size : Int)).toNat]? = some v := by
    have e : (-1 + (ks.toArray.size : Int)).toNat = ks.length - 1 := by simp; omega
    rw [e]; simpa [List.getLast?_eq_getElem?] using hv
  exact tail_any hl.typeIs slot_list_getitem.lookup (wpAny_getItem_list_neg hl (by decide) (by simp; omega) (by decide) hx h) hs
end

section
variable {prog : Program} {w : World} {A : Around} {E : Value → Shared → Prop} {s : Shared} {par : Value} {t : Tr} {g : Heap} {L : Addr} {m : Str → Option Value} {pl : Sem Bool}
theorem gm_last (F : Fr g L s.heap m) (X : (hd.heap_1 w.params).In g) (T : TreeAt w.params g t par) {Q : Value × List Value → Shared → Prop} (h : Q (.ref t.fLast, [.ref t.addr]) s) : wpAny (model prog w) A (getMethod (.ref t.addr) "get_last_leaf" pl) Q E s :=
  gm_tree (par := par) (f := Tr.fLast) (fun x => by obtain ⟨_, _, c, _⟩ := x; cases c <;> exact ⟨by kernel_rfl, by kernel_rfl, by kernel_rfl⟩) (fun x ts => by obtain ⟨_, _, _, c, _⟩ := x; cases c <;> exact ⟨by kernel_rfl, by kernel_rfl, by kernel_rfl⟩) F X T h
theorem gm_code0 (X : (hd.heap_1 w.params).In s.heap) (T : TreeAt w.params s.heap t par) {Q : Value × List Value → Shared → Prop} (h : Q (.ref t.fCode, [.ref t.addr]) s) : wpAny (model prog w) A (getMethod (.ref t.addr) "get_code" pl) Q E s :=
  gm_tree0 (par := par) (f := Tr.fCode) (fun x => by obtain ⟨_, _, c, _⟩ := x; cases c <;> exact ⟨by kernel_rfl, by kernel_rfl, by kernel_rfl⟩) (fun x ts => by obtain ⟨_, _, _, c, _⟩ := x; cases c <;> exact ⟨by kernel_rfl, by kernel_rfl, by kernel_rfl⟩) X T h
theorem gm_code (F : Fr g L s.heap m) (X : (hd.heap_1 w.params).In g) (T : TreeAt w.params g t par) {Q : Value × List Value → Shared → Prop} (h : Q (.ref t.fCode, [.ref t.addr]) s) : wpAny (model prog w) A (getMethod (.ref t.addr) "get_code" pl) Q E s :=
  gm_code0 (X.keeps F.keep) (T.keeps F.keep) h
theorem gm_pref (F : Fr g L s.heap m) (X : (hd.heap_1 w.params).In g) (T : TreeAt w.params g t par) {Q : Value × List Value → Shared → Prop} (h : Q (.ref t.fPref, [.ref t.addr]) s) : wpAny (model prog w) A (getMethod (.ref t.addr) "get_start_pos_of_prefix" pl) Q E s :=
  gm_tree (par := par) (f := Tr.fPref) (fun x => by obtain ⟨_, _, c, _⟩ := x; cases c <;> exact ⟨by kernel_rfl, by kernel_rfl, by kernel_rfl⟩) (fun x ts => by obtain ⟨_, _, _, c, _⟩ := x; cases c <;> exact ⟨by kernel_rfl, by kernel_rfl, by kernel_rfl⟩) F X T h
theorem gm_same {name : Str} {f : Nat} (hl : ∀ (c : LC) (P : Params), findIn (hd.heap_1 P) (.ref c.addr) name = some (some (.ref f)) ∧ typeIn (hd.heap_1 P) (.ref f) = some (.type "function")) (hn : ∀ (c : NC) (P : Params), findIn (hd.heap_1 P) (.ref c.addr) name = some (some (.ref f)))
    (sl : ∀ x : LD, shadowIn (some (leafDict w.params x par)) name = some false) (sn : ∀ x : ND, shadowIn (some (nodeDict w.params x par)) name = some false)
    (F : Fr g L s.heap m) (X : (hd.heap_1 w.params).In g) (T : TreeAt w.params g t par) {Q : Value × List Value → Shared → Prop} (h : Q (.ref f, [.ref t.addr]) s) : wpAny (model prog w) A (getMethod (.ref t.addr) name pl) Q E s :=
  gm_tree (par := par) (f := fun _ => f) (fun x => ⟨(hl x.c w.params).1, (hl x.c w.params).2, sl x⟩) (fun x _ => ⟨hn x.c w.params, (hl .plain w.params).2, sn x⟩) F X T h
theorem gm_prevLeaf (F : Fr g L s.heap m) (X : (hd.heap_1 w.params).In g) (T : TreeAt w.params g t par) {Q : Value × List Value → Shared → Prop} (h : Q (.ref 85, [.ref t.addr]) s) : wpAny (model prog w) A (getMethod (.ref t.addr) "get_previous_leaf" pl) Q E s :=
  gm_same (fun c P => by cases c <;> exact ⟨by kernel_rfl, by kernel_rfl⟩) (fun c P => by cases c <;> kernel_rfl) (fun x => by kernel_rfl) (fun x => by kernel_rfl) F X T h
end
theorem keep_first (P : Params) (t : Tr) : keepIn (hd.heap_1 P) (.ref t.fFirst) = true := by cases t <;> kernel_rfl
theorem keep_last (P : Params) (t : Tr) : keepIn (hd.heap_1 P) (.ref t.fLast) = true := by cases t <;> kernel_rfl
theorem keep_code (P : Params) (t : Tr) : keepIn (hd.heap_1 P) (.ref t.fCode) = true := by cases t <;> kernel_rfl
theorem keep_pref (P : Params) (t : Tr) : keepIn (hd.heap_1 P) (.ref t.fPref) = true := by
  cases t with
  | leaf x => obtain ⟨_, _, c, _⟩ := x; cases c <;> kernel_rfl
  | node => kernel_rfl

/-- the table of the code that bears the generator expressions -/
noncomputable def TabOk (h : Heap) : Prop := ∃ ps, h.IsCode 221 217 ps ∧ h.TableAt 221 217 ps
theorem TabOk.at {h h' : Heap} (T : TabOk h) (k1 : ∀ o, h.get? 221 = some o → h'.get? 221 = some o) (k2 : ∀ o, h.get? 217 = some o → h'.get? 217 = some o) : TabOk h' := by
  obtain ⟨ps, ⟨o, vs, file, tf, flags, tg, inF, text, tt, op, a, r1, r2, r3, r4, r5, r6, b, r⟩, ⟨o', vs', e, q⟩, t⟩ := T
  exact ⟨ps, ⟨o, vs, file, tf, flags, tg, inF, text, tt, op, k1 _ a, r1, r2, r3, r4, r5, r6, k2 _ b, r⟩, ⟨o', vs', k1 _ e, q⟩, k2 _ t⟩
theorem TabOk.keeps {h h' : Heap} (T : TabOk h) (k : ∀ b o, h.get? b = some o → h'.get? b = some o) : TabOk h' := T.at (k _) (k _)

/-- a run that makes new things, leaves ended generators, and spares all but ex -/
structure KX (ex : List Addr) (s s' : Shared) : Prop where
  heap : ∀ b o, b ∉ ex → s.heap.get? b = some o → s'.heap.get? b = some o
  gsz : s.gens.size ≤ s'.gens.size
  gold : ∀ k, k < s.gens.size → s'.gens[k]? = s.gens[k]?
  gnew : ∀ k y, s.gens.size ≤ k → s'.gens[k]? = some y → y.bare = true
  drawn : s'.drawn = s.drawn
  os : s'.os = s.os

theorem KX.of_heap {ex : List Addr} {s : Shared} {h' : Heap} {tk : Nat} (k : ∀ b o, b ∉ ex → s.heap.get? b = some o → h'.get? b = some o) : KX ex s { s with heap := h', toks := tk } :=
  ⟨k, Nat.le_refl _, fun _ _ => rfl, (fun k y hk e => by rw [Array.getElem?_eq_none hk] at e; cases e), rfl, rfl⟩
theorem KX.refl {ex : List Addr} {s : Shared} : KX ex s s := KX.of_heap (tk := s.toks) fun _ _ _ e => e
theorem KX.trans {ex : List Addr} {s s' s'' : Shared} (x : KX ex s s') (y : KX ex s' s'') : KX ex s s'' :=
  ⟨fun b o hb e => y.heap b o hb (x.heap b o hb e), Nat.le_trans x.gsz y.gsz, fun k hk => (y.gold k (Nat.lt_of_lt_of_le hk x.gsz)).trans (x.gold k hk),
   fun k z hk e => by
    by_cases h : k < s'.gens.size
    · rw [y.gold k h] at e; exact x.gnew k z hk e
    · exact y.gnew k z (Nat.le_of_not_lt h) e,
   y.drawn.trans x.drawn, y.os.trans x.os⟩
theorem KX.mono {ex ex' : List Addr} {s s' : Shared} (x : KX ex s s') (h : ∀ b ∈ ex, b ∈ ex') : KX ex' s s' := ⟨fun b o hb e => x.heap b o (fun q => hb (h b q)) e, x.gsz, x.gold, x.gnew, x.drawn, x.os⟩

/-- what may come of the generators' states while generator g is walked -/
noncomputable def GX (g : Nat) (a b : Array GenState) : Prop := a.size ≤ b.size ∧ (∀ k, k < a.size → k ≠ g → b[k]? = a[k]?) ∧ (∀ k y, a.size ≤ k → k ≠ g → b[k]? = some y → y.bare = true) ∧ (b[g]? = a[g]? ∨ ∀ y, b[g]? = some y → y.bare = true)
theorem GX.refl (g : Nat) (a : Array GenState) : GX g a a := ⟨Nat.le_refl _, fun _ _ _ => rfl, (fun k y hk _ e => by rw [Array.getElem?_eq_none hk] at e; cases e), .inl rfl⟩
theorem GX.trans {g : Nat} {a b c : Array GenState} (x : GX g a b) (y : GX g b c) : GX g a c :=
  ⟨Nat.le_trans x.1 y.1, fun k hk hg => (y.2.1 k (Nat.lt_of_lt_of_le hk x.1) hg).trans (x.2.1 k hk hg), fun k z hk hg e => by
    by_cases h : k < b.size
    · rw [y.2.1 k h hg] at e; exact x.2.2.1 k z hk hg e
    · exact y.2.2.1 k z (Nat.le_of_not_lt h) hg e,
   by
    rcases y.2.2.2 with e | e
    · rw [e]; exact x.2.2.2
    · exact .inr e⟩
theorem GX.of {ex : List Addr} {g : Nat} {s s₁ : Shared} {x y : GenState} (hg : g < s.gens.size) (k : KX ex (s.setGen g x) s₁) (hy : y.bare = true) : GX g s.gens (s₁.setGen g y).gens := by
  have hsz : (s.setGen g x).gens.size = s.gens.size := by simp [Shared.setGen]
  have h1 := k.gsz
  rw [hsz] at h1
  refine ⟨by simp [Shared.setGen]; exact h1, fun j hj hjg => ?_, fun j z hj hjg e => ?_, .inr fun z e => ?_⟩
  · have := k.gold j (by rw [hsz]; exact hj)
    simp only [Shared.setGen] at this ⊢
    rw [Array.getElem?_setIfInBounds_ne (Ne.symm hjg)] at this ⊢
    exact this
  · simp only [Shared.setGen] at e
    rw [Array.getElem?_setIfInBounds_ne (Ne.symm hjg)] at e
    exact k.gnew j z (by rw [hsz]; exact hj) e
  · have hlt : g < s₁.gens.size := Nat.lt_of_lt_of_le hg h1
    simp [Shared.setGen, hlt] at e
    rw [← e]; exact hy

section
variable {prog : Program} {w : World} {A : Around}

theorem Rm.over {n k : Nat} {elt : Expr} {gens : List Comprehension} {scope : Scope} {pos : Pos} {it acc : Value} {env : Env} (r : Rm A n) (h : k + 1 ≤ n) : Rm (A.over (.compLoop (.GeneratorExp elt gens scope pos) 0 it acc env) []) k := by
  refine ⟨r.hh, ?_, ?_⟩
  · have := r.depth
    show A.depth + 0 + 1 + k < _
    omega
  · have := r.units
    show A.units + 0 + 3 + 8 * k < _
    omega

/-- what the walk of the generator stands on, at item i -/
structure GI (href : Heap) (C I l : Addr) (items : Array Value) (i : Nat) (m : Str → Option Value) (h : Heap) : Prop where
  it : h.IsListIter I l i
  list : h.IsList l items
  ns : h.Ns C m
  base : ∀ b o, b ∉ [C, I] → href.get? b = some o → h.get? b = some o

noncomputable def protoX (C I : Addr) (N n : Nat) (F : Nat → Value → Prop) : Protocol := fun m s₀ v s kap =>
  F (n - 1 - m) v ∧ KX [C, I] s₀ s ∧ ∀ s'' : Shared, (∀ b, (b = C ∨ b < N) → ∀ o, s.heap.get? b = some o → s''.heap.get? b = some o) → kap (.send .none) s''

structure EltOk (prog : Program) (w : World) (nr : Nat) (cenv : Env) (x : Str) (elt : Expr) (href : Heap) (I : Addr) (items : Array Value) (F : Nat → Value → Prop) : Prop where
  elt : ∀ (A' : Around) i v (s₂ : Shared) m₂, Rm A' nr → items[i]? = some v → s₂.heap.Ns cenv.locals m₂ → m₂ x = some v → (∀ b o, b ∉ [cenv.locals, I] → href.get? b = some o → s₂.heap.get? b = some o) →
    wpAny (model prog w) A' (eval elt cenv) (fun y s₃ => F i y ∧ KX [] s₂ s₃) (fun _ _ => False) s₂

theorem seg_loopX {elt iter : Expr} {x : Str} {px : Pos} {scope : Scope} {pos : Pos} {I l : Addr} {items : Array Value} {cenv : Env} {nr : Nat} {F : Nat → Value → Prop} {href : Heap} {N : Nat}
    (hr : Rm A (nr + 1)) (hx : cenv.kindOf x = some .local) (hp : (cenv.scope.kind == .class || (cenv.scope.kind == .module && cenv.locals != cenv.globals)) = false)
    (hco : cenv.scope.isCoroutine = false) (hIC : I ≠ cenv.locals) (hlC : l ≠ cenv.locals) (hlI : l ≠ I) (hIN : I < N) (hlN : l < N) (hhref : ∀ b o, href.get? b = some o → b = cenv.locals ∨ b < N)
    (hq : EltOk prog w nr cenv x elt href I items F) :
    ∀ (k i : Nat) (s₀ s : Shared) (m : Str → Option Value), items.size - i = k → i ≤ items.size → GI href cenv.locals I l items i m s.heap → KX [cenv.locals, I] s₀ s →
      Seg (model prog w) A (fun n s₀ r s₁ => r = .ok .next ∧ (n = 0 ∧ KX [cenv.locals, I] s₀ s₁)) (protoX cenv.locals I N items.size F) k s₀
        (.compLoop (.GeneratorExp elt [⟨.Name x px, iter, [], 0⟩] scope pos) 0 (.ref I) .none cenv)
        ((model prog w).den (.compLoop (.GeneratorExp elt [⟨.Name x px, iter, [], 0⟩] scope pos) 0 (.ref I) .none cenv)) [] s := by
  have hr' : Rm (A.over (.compLoop (.GeneratorExp elt [⟨.Name x px, iter, [], 0⟩] scope pos) 0 (.ref I) .none cenv) []) nr := hr.over (Nat.le_refl _)
  have W := Walks.list (prog := prog) (w := w) hr'.hh I l hlI items
  intro k
  induction k with
  | zero =>
    intro i s₀ s m hk hi g hsince
    have hin : i = items.size := by omega
    subst hin
    show Seg _ A _ _ _ s₀ _ ((compTurn (.GeneratorExp elt [⟨.Name x px, iter, [], 0⟩] scope pos) 0 (.ref I) .none cenv).onRaise (leaving cenv)) [] s
    rw [compTurn_gen, Sem.onRaise_eq_wrap]
    refine seg_bind_wrap (wpAny_standAt ?_)
    refine seg_bind_wrap (W.done s _ _ ⟨g.it, g.list⟩ fun h' tk hk' => ?_)
    have hk2 : ∀ b o, b ≠ I → s.heap.get? b = some o → h'.get? b = some o := fun b o hb e => hk' b o (by simpa using hb) e
    refine seg_end (.ok .next) ⟨rfl, rfl, hsince.trans (KX.of_heap fun b o hb e => hk2 b o (fun q => hb (by simp [q])) e)⟩
  | succ k ih =>
    intro i s₀ s m hk hi g hsince
    have hlt : i < items.size := by omega
    show Seg _ A _ _ _ s₀ _ ((compTurn (.GeneratorExp elt [⟨.Name x px, iter, [], 0⟩] scope pos) 0 (.ref I) .none cenv).onRaise (leaving cenv)) [] s
    rw [compTurn_gen, Sem.onRaise_eq_wrap]
    refine seg_bind_wrap (wpAny_standAt ?_)
    refine seg_bind_wrap (W.item i s _ _ hlt ⟨g.it, g.list⟩ fun v h₁ tk₁ hPv hst₁ hk₁ => ?_)
    have hk1 : ∀ b o, b ≠ I → s.heap.get? b = some o → h₁.get? b = some o := fun b o hb e => hk₁ b o (by simpa using hb) e
    refine seg_bind_wrap (wpAny_of_eq (rfl : letOwnedTupleGo (.Name x px) (.ref I) v = pure ()) ?_)
    refine seg_bind_wrap (wpAny_assign_Name (wpAny_storeName_local hx (g.ns.at' fun o e => hk1 _ o (Ne.symm hIC) e) (fun h₂ hn₂ hs₂ => ?_) hp))
    have up₂ : ∀ b o, b ≠ cenv.locals → b ≠ I → s.heap.get? b = some o → h₂.get? b = some o := fun b o hbC hbI e => hs₂.extBut b o hbC (hk1 b o hbI e)
    have b₂ : ∀ b o, b ∉ [cenv.locals, I] → href.get? b = some o → h₂.get? b = some o := fun b o hb e => up₂ b o (fun q => hb (by simp [q])) (fun q => hb (by simp [q])) (g.base b o hb e)
    simp only [List.forIn_nil]
    refine seg_bind_wrap (wpAny_pure ?_)
    simp only [if_true]
    have hy : ∀ v, yieldOut cenv v = yieldValue v := fun v => by simp only [yieldOut, hco, Bool.false_eq_true, if_false]
    simp only [hy]
    rw [Sem.bind_eq_wrap', Sem.bind_eq_wrap', Sem.wrap_wrap, Sem.wrap_wrap]
    refine seg_wrap (wpAny_mono (hq.elt _ i v _ _ hr' hPv hn₂ (by simp) b₂) (fun y s₄ h₄ => ?_) fun _ _ e => e.elim)
    obtain ⟨hFy, k₄⟩ := h₄
    have hsum : KX [cenv.locals, I] s₀ s₄ := (hsince.trans (KX.of_heap (tk := _) fun b o hb e => up₂ b o (fun q => hb (by simp [q])) (fun q => hb (by simp [q])) e)).trans (k₄.mono (by simp))
    refine seg_at (seg_yield rfl rfl rfl ⟨by rw [show items.size - 1 - k = i by omega]; exact hFy, hsum, fun s'' hal => ?_⟩)
    have it₄ : s₄.heap.IsListIter I l (i + 1) := (hst₁.1.extBut hs₂.extBut hIC).at fun o e => k₄.heap _ o (by simp) e
    have li₄ : s₄.heap.IsList l items := (hst₁.2.extBut hs₂.extBut hlC).at fun o e => k₄.heap _ o (by simp) e
    have ns₄ := hn₂.at' (h' := s₄.heap) fun o e => k₄.heap _ o (by simp) e
    refine seg_again rfl (ih (i + 1) s'' s'' _ (by omega) hlt ⟨it₄.at fun o e => hal I (.inr hIN) o e, li₄.at fun o e => hal l (.inr hlN) o e, ns₄.at' fun o e => hal _ (.inl rfl) o e, fun b o hb e => ?_⟩ KX.refl)
    exact hal b (hhref b o e) o (k₄.heap b o (by simp) (b₂ b o hb e))
end

section
variable {prog : Program} {w : World} {A : Around}

theorem Rm.overS {n k : Nat} {elt : Expr} {gens : List Comprehension} {scope : Scope} {pos : Pos} {it acc : Value} {env : Env} (r : Rm A n) (h : k + 1 ≤ n) : Rm (A.over (.compStart (.GeneratorExp elt gens scope pos) 0 it acc env) []) k := by
  refine ⟨r.hh, ?_, ?_⟩
  · have := r.depth
    show A.depth + 0 + 1 + k < _
    omega
  · have := r.units
    show A.units + 0 + 3 + 8 * k < _
    omega

theorem seg_startX {elt iter : Expr} {x : Str} {px : Pos} {scope : Scope} {pos : Pos} {I l : Addr} {items : Array Value} {cenv : Env} {nr : Nat} {F : Nat → Value → Prop} {href : Heap} {N : Nat}
    (hr : Rm A (nr + 1)) (hx : cenv.kindOf x = some .local) (hp : (cenv.scope.kind == .class || (cenv.scope.kind == .module && cenv.locals != cenv.globals)) = false)
    (hco : cenv.scope.isCoroutine = false) (hIC : I ≠ cenv.locals) (hlC : l ≠ cenv.locals) (hlI : l ≠ I) (hIN : I < N) (hlN : l < N) (hhref : ∀ b o, href.get? b = some o → b = cenv.locals ∨ b < N)
    (hq : EltOk prog w nr cenv x elt href I items F) (s₀ s : Shared) (m : Str → Option Value) (g : GI href cenv.locals I l items 0 m s.heap) (hs : KX [cenv.locals, I] s₀ s) :
      Seg (model prog w) A (fun n s₀ r s₁ => r = .ok .next ∧ (n = 0 ∧ KX [cenv.locals, I] s₀ s₁)) (protoX cenv.locals I N items.size F) items.size s₀
        (.compStart (.GeneratorExp elt [⟨.Name x px, iter, [], 0⟩] scope pos) 0 (.ref I) .none cenv)
        ((model prog w).den (.compStart (.GeneratorExp elt [⟨.Name x px, iter, [], 0⟩] scope pos) 0 (.ref I) .none cenv)) [] s := by
  have hr' : Rm (A.over (.compStart (.GeneratorExp elt [⟨.Name x px, iter, [], 0⟩] scope pos) 0 (.ref I) .none cenv) []) nr := hr.overS (Nat.le_refl _)
  have W := Walks.list (prog := prog) (w := w) hr'.hh I l hlI items
  have loop := seg_loopX (iter := iter) (px := px) (scope := scope) (pos := pos) hr hx hp hco hIC hlC hlI hIN hlN hhref hq items.size 0 s₀ s m (Nat.sub_zero _) (Nat.zero_le _) g hs
  show Seg _ A _ _ _ s₀ _ ((compStart (.GeneratorExp elt [⟨.Name x px, iter, [], 0⟩] scope pos) 0 (.ref I) .none cenv).onRaise (leaving cenv)) [] s
  unfold compStart
  rw [Sem.onRaise_eq_wrap]
  show Seg _ A _ _ _ s₀ _ ((ask >>= _).wrap _ _ _ _) [] s
  refine seg_bind_wrap (wpAny_askSetting ?_)
  split
  · exact seg_again rfl loop
  · refine seg_bind_wrap (wpAny_rule ?_)
    show Seg _ A _ _ _ s₀ _ ((standAt iter.pos >>= _).wrap _ _ _ _) [] s
    exact seg_bind_wrap (wpAny_standAt (seg_bind_wrap (W.self 0 s _ _ ⟨g.it, g.list⟩ (seg_again rfl loop))))

/-- the generator a, its state g, its frame C, its iterator I, stands before item j -/
noncomputable def GenAtX (prog : Program) (w : World) (A : Around) (a : Addr) (g : Nat) (C I : Addr) (N n : Nat) (F : Nat → Value → Prop) (j : Nat) (s : Shared) : Prop :=
  s.heap.IsGen a g ∧ s.heap.NoLimit ∧ ∃ gs, s.gens[g]? = some gs ∧ ∀ s'' : Shared, (∀ b, (b = C ∨ b < N) → ∀ o, s.heap.get? b = some o → s''.heap.get? b = some o) →
    gs.Goes (model prog w) A.in1 (fun n s₀ r s₁ => r = .ok .next ∧ (n = 0 ∧ KX [C, I] s₀ s₁)) (protoX C I N n F) (n - j) (.send .none) s''

theorem WalksS.genX (hh : A.handled = none) (a : Addr) (g : Nat) (C I : Addr) (N n : Nat) (F : Nat → Value → Prop) (haC : a ≠ C) (haI : a ≠ I) (hIN : I < N) (hroom : A.depth < recursionLimit) (hcs : cStatics < N) (hcC : cStatics ≠ C) (hcI : cStatics ≠ I) :
    WalksS prog w A a (a :: C :: List.range N) [C, I] (GX g) n F (GenAtX prog w A a g C I N n F) where
  sub := fun b hb => by
    simp only [List.mem_cons, List.not_mem_nil, or_false] at hb
    rcases hb with rfl | rfl
    · simp
    · exact List.mem_cons_of_mem _ (List.mem_cons_of_mem _ (List.mem_range.mpr hIN))
  grefl := GX.refl g
  gtrans := fun _ _ _ x y => x.trans y
  frame := fun j s h' tk st _ hk => by
    have hk2 : ∀ b, (b = C ∨ b < N) → ∀ o, s.heap.get? b = some o → h'.get? b = some o := fun b hb o e => hk b (by rcases hb with rfl | hb; simp; exact List.mem_cons_of_mem _ (List.mem_cons_of_mem _ (List.mem_range.mpr hb))) o e
    refine ⟨let ⟨o, nm, qn, ho, r⟩ := st.1; ⟨o, nm, qn, hk a (List.mem_cons_self ..) o ho, r⟩, (let ⟨mc, hns, hnn⟩ := st.2.1; ⟨mc, hns.at' fun o e => hk2 cStatics (.inr hcs) o e, hnn⟩),
      let ⟨gs, hgs, hgo⟩ := st.2.2; ⟨gs, hgs, fun s'' hal => hgo s'' fun b hb o e => hal b hb o (hk2 b hb o e)⟩⟩
  item := fun j s Q E hj st hQ => by
    obtain ⟨hg, hl, gs, hgs, hgo⟩ := st
    obtain ⟨m, hm⟩ : ∃ m, n - j = m + 1 := ⟨n - j - 1, by omega⟩
    rw [hm] at hgo
    have hlt : g < s.gens.size := by
      rcases Nat.lt_or_ge g s.gens.size with h' | h'
      · exact h'
      · rw [Array.getElem?_eq_none h'] at hgs; cases hgs
    refine wpAny_with_toks (Nat.le_refl s.toks) ?_
    refine wpAny_pyNext_genexpQ (P := fun n s₀ s₁ => n = 0 ∧ KX [C, I] s₀ s₁) hh hl hroom hg hgs (hgo _ fun _ _ _ e => e) (fun v s₁ gs' hb hv => ?_) (fun s₁ hp h' hk => ?_)
    · obtain ⟨hF, k₁, hkap⟩ := hv
      have hidx : n - 1 - (m + 1 - 1) = j := by omega
      rw [hidx] at hF
      have hg1 : s₁.gens[g]? = some .running := (k₁.gold g (by simpa [Shared.setGen] using hlt)).trans (setGen_self hgs)
      intro htk
      refine hQ v _ hF ⟨let ⟨o, nm, qn, ho, r⟩ := hg; ⟨o, nm, qn, k₁.heap a o (by simp [haC, haI]) ho, r⟩, (let ⟨mc, hns, hnn⟩ := hl; ⟨mc, hns.at' fun o e => k₁.heap cStatics o (by simp [hcC, hcI]) e, hnn⟩), gs', setGen_self hg1, fun s'' hal => ?_⟩
        ⟨fun b o hb e => k₁.heap b o hb e, GX.of hlt k₁ hb, k₁.drawn, k₁.os, htk⟩
      have e : n - (j + 1) = m := by omega
      rw [e]
      exact hkap s'' hal
    · exact absurd hp.1 (Nat.succ_ne_zero m)
  done := fun s Q E st hQ => by
    obtain ⟨hg, hl, gs, hgs, hgo⟩ := st
    have hlt : g < s.gens.size := by
      rcases Nat.lt_or_ge g s.gens.size with h' | h'
      · exact h'
      · rw [Array.getElem?_eq_none h'] at hgs; cases hgs
    rw [Nat.sub_self] at hgo
    refine wpAny_with_toks (Nat.le_refl s.toks) ?_
    refine wpAny_pyNext_genexpQ (P := fun n s₀ s₁ => n = 0 ∧ KX [C, I] s₀ s₁) hh hl hroom hg hgs (hgo _ fun _ _ _ e => e) (fun v s₁ gs' hb hv => ?_) (fun s₁ hp h' hk => ?_)
    · obtain ⟨_, _, hkap⟩ := hv
      exact False.elim (hkap s₁ fun _ _ _ e => e)
    · obtain ⟨_, k₁⟩ := hp
      intro htk
      exact hQ _ ⟨fun b o hb e => hk b o (k₁.heap b o hb e), GX.of hlt k₁ rfl, k₁.drawn, k₁.os, htk⟩
  self := fun _ _ _ _ st hQ => wpAny_pyIter_gen st.1 hQ
end

theorem codeAmong_more (pos : Pos) (more : List Value) : ∀ (n : Nat) (l : List Value), l.length ≤ n → TriplesOk l → (codeAmong pos l).isSome = true → (codeAmong pos (l ++ more)).isSome = true := by
  intro n
  induction n with
  | zero =>
    intro l hl _ h
    have : l = [] := List.length_eq_zero_iff.mp (Nat.le_zero.mp hl)
    subst this
    cases h
  | succ n ih =>
    intro l hl ht h
    match l, ht, h, hl with
    | .int a ta :: .int b tb :: c :: rest, ht, h, hl =>
      simp only [List.cons_append, codeAmong] at h ⊢
      split
      · rfl
      · rename_i q
        rw [if_neg q] at h
        exact ih rest (by simp at hl; omega) ht h

/-- the table holds this place -/
noncomputable def TabHas (pos : Pos) (h : Heap) : Prop := ∃ ps, h.IsCode 221 217 ps ∧ h.TableAt 221 217 ps ∧ (codeAmong pos ps.toList).isSome = true
theorem TabHas.ok {pos : Pos} {h : Heap} (T : TabHas pos h) : TabOk h := let ⟨ps, a, b, _⟩ := T; ⟨ps, a, b⟩
theorem TabHas.keeps {pos : Pos} {h h' : Heap} (T : TabHas pos h) (k : ∀ b o, h.get? b = some o → h'.get? b = some o) : TabHas pos h' := let ⟨ps, a, b, c⟩ := T; ⟨ps, a.keeps k, b.keeps k, c⟩

section
variable {prog : Program} {w : World} {A : Around} {E : Value → Shared → Prop} {s : Shared}

theorem genCode {M : Model} {env : Env} {pos : Pos} {qn : Str} {scope : Scope} {Q : Value → Shared → Prop} (hc : env.code = .ref 221) (T : TabOk s.heap)
    (hQ : ∀ code h' tk, Heap.ExtBut 217 s.heap h' → (TabHas pos s.heap → h' = s.heap) → TabHas pos h' → (∀ p, TabHas p s.heap → TabHas p h') → Q code { s with heap := h', toks := tk }) :
    wpAny M A (genexprCode env pos qn scope) Q E s := by
  obtain ⟨ps, hok, htab⟩ := T
  cases hnf : codeAmong pos ps.toList with
  | none =>
    refine wpAny_genexprCodeX hc hok htab hnf fun c' h' tk hx _ _ hok' _ htab' _ => ?_
    have htr : TriplesOk ps.toList := by obtain ⟨_, _, _, _, _, _, _, _, _, _, _, _, _, _, _, _, _, _, _, h, _⟩ := hok; exact h
    have hl : (ps ++ #[rawInt pos.line, rawInt pos.col, Value.ref c']).toList = ps.toList ++ [rawInt pos.line, rawInt pos.col, .ref c'] := by simp
    refine hQ _ _ _ hx (fun ⟨ps', _, htab₂, hs⟩ => ?_) ⟨_, hok', htab', by rw [hl, codeAmong_snoc _ htr hnf]; rfl⟩ fun p ⟨ps', _, htab₂, hs⟩ => ⟨_, hok', htab', ?_⟩
    · have e : ps' = ps := by have := htab₂.2.symm.trans htab.2; injection this with q; injection q with _ _ q; injection q
      rw [e, hnf] at hs; cases hs
    · have e : ps' = ps := by have := htab₂.2.symm.trans htab.2; injection this with q; injection q with _ _ q; injection q
      rw [e] at hs
      rw [hl]
      exact codeAmong_more p _ _ _ (Nat.le_refl _) htr hs
  | some cv =>
    obtain ⟨o, vs, file, tf, flags, tg, inF, text, tt, op, ho, hd, h11, h2, h7, h9, h10, hop, hpd, htr, hne⟩ := id hok
    unfold genexprCode codeAt
    rw [hc, if_neg (show ¬ ((Value.ref 221 == Value.none) = true) from Bool.false_ne_true)]
    refine wpAny_bind (wpAny_fieldsOf ho hd ?_)
    rw [h11]
    refine wpAny_bind (wpAny_fieldsOf hop hpd ?_)
    rw [hnf]
    exact wpAny_pure (hQ cv s.heap s.toks (Heap.ExtBut.refl _ _) (fun _ => rfl) ⟨ps, hok, htab, by rw [hnf]; rfl⟩ fun _ h => h)

/-- a is a generator of n things, made in a state that came from s₁ -/
noncomputable def GenReady (prog : Program) (w : World) (A : Around) (a n : Nat) (F : Nat → Value → Prop) (pos : Pos) (s₁ s : Shared) : Prop :=
  ∃ fp wr G St, WalksS prog w A.in1.in1 a fp wr G n F St ∧ (∀ i s', St i s' → s'.TypeIs (.ref a) "generator") ∧ St 0 s ∧ (∀ b ∈ fp, b < s.heap.objs.size) ∧ a ∈ fp ∧
    ∀ s', Moved wr G s s' → KX [217] s₁ s' ∧ TabHas pos s'.heap ∧ (∀ p, TabHas p s₁.heap → TabHas p s'.heap) ∧ (TabHas pos s₁.heap → KX [] s₁ s')

theorem eval_gen {env : Env} {elt iter : Expr} {x : Str} {px : Pos} {scope : Scope} {cl : List (Str × Addr)} {pos : Pos} {Q : Value → Shared → Prop} {nr : Nat} {mg : Str → Option Value} {bm : Addr} {ob : Obj}
    (hr : Rm A (nr + 5)) (hcode : env.code = .ref 221) (hco : scope.isCoroutine = false) (hclos : closureFor scope env = pure cl) (hcell : ∀ y ∈ scope.names, y.2 ≠ .cell) (h0 : scope.names.lookup (".0" : Str) = some NameKind.local)
    (hx : scope.names.lookup x = some .local) (hkind : scope.kind = .function) (hs : ∀ x, genFold iter env x = pure x)
    (hit : wpAny (model prog w) A (eval iter env) (fun xv s₁ => ∃ l items F, xv = .ref l ∧ s₁.heap.IsList l items ∧ s₁.heap.NoLimit ∧ TabOk s₁.heap ∧ BMod s₁.heap env.globals mg bm ob ∧ env.globals ≠ 217 ∧ bm ≠ 217 ∧ cStatics ≠ 217 ∧ l ≠ 217 ∧
      (∀ (h₂ : Heap) (C I : Addr) (code : Value) (bi : Addr), (∀ b o, b ≠ 217 → s₁.heap.get? b = some o → h₂.get? b = some o) → TabHas pos h₂ → (∀ p, TabHas p s₁.heap → TabHas p h₂) → s₁.heap.get? C = none → s₁.heap.get? I = none → EltOk prog w nr (genEnv scope cl C code bi env) x elt h₂ I items F) ∧
      ∀ a s₂, GenReady prog w A a items.size F pos s₁ s₂ → Q (.ref a) s₂) E s) :
    wpAny (model prog w) A (eval (.GeneratorExp elt [⟨.Name x px, iter, [], 0⟩] scope pos) env) Q E s := by
  refine wpAny_GeneratorExp_make hco hclos hcell h0 hkind hr.lt (wpAny_mono hit (fun xv s₁ h₁ => ?_) fun _ _ e => e) hs
  obtain ⟨l, items, F, rfl, hl, hlim, hT, hM, hg217, hb217, hc217, hl217, helt, hQ⟩ := h₁
  refine wpAny_pyIter_list hl ?_
  generalize hI : s₁.heap.objs.size = I
  have hlI : l < I := by obtain ⟨_, e, _⟩ := hl; exact hI ▸ Heap.lt_size e
  have hnI : s₁.heap.get? I = none := by
    cases q : s₁.heap.get? I with
    | none => rfl
    | some o => exact absurd (Heap.lt_size q) (by rw [hI]; exact Nat.lt_irrefl _)
  generalize hh2 : (s₁.heap.push { cls := .type "list_iterator", data := .fields #[.ref l, .int 0 0] }) = h₂
  have hsz2 : h₂.objs.size = I + 1 := by rw [← hh2, Heap.size_push, hI]
  have k2 : ∀ b o, s₁.heap.get? b = some o → h₂.get? b = some o := fun b o e => hh2 ▸ Heap.get?_push_of_some _ e
  have it2 : h₂.IsListIter I l 0 := ⟨_, by rw [← hh2, ← hI]; exact Heap.get?_push_size _ rfl, rfl, rfl⟩
  refine ⟨hlim.keeps k2, ?_⟩
  refine genCode hcode (hT.keeps k2) fun code h₃ tk₃ hx₃ hsame hhas hmono => ?_
  have M₃ : BMod h₃ env.globals mg bm ob := ⟨(hM.ns.keeps k2).extBut hx₃ hg217, hM.name, hM.ne, hx₃ _ _ hb217 (k2 _ _ hM.obj), hM.cls, hM.dict, hM.data⟩
  refine wpAny_builtinsFor M₃.ns M₃.name M₃.ne M₃.obj M₃.cls M₃.dict M₃.data ?_
  intro h₄ hn₄ hs₄
  have k23 : ∀ b o, b ≠ 217 → s₁.heap.get? b = some o → h₃.get? b = some o := fun b o hb e => hx₃ b o hb (k2 b o e)
  generalize hC : h₃.objs.size = C at hn₄ hs₄ ⊢
  have hI217 : I ≠ 217 := fun e => by
    obtain ⟨ps, _, t⟩ := hT
    have := Heap.lt_size t.2
    rw [hI, e] at this
    exact absurd this (Nat.lt_irrefl _)
  have it3 : h₃.IsListIter I l 0 := it2.extBut hx₃ hI217
  have hIC : I < C := by obtain ⟨_, e, _⟩ := it3; exact hC ▸ Heap.lt_size e
  have hnC : s₁.heap.get? C = none := by
    cases q : s₁.heap.get? C with
    | none => rfl
    | some o => exact absurd (Nat.lt_trans (hI ▸ Heap.lt_size q) hIC) (Nat.lt_irrefl _)
  have hsz4 : h₄.objs.size = C + 1 := by rw [hs₄.1, Heap.size_push, hC]
  have k34 : ∀ b o, h₃.get? b = some o → h₄.get? b = some o := fun b o e => hs₄.extBut b o (Nat.ne_of_lt (hC ▸ Heap.lt_size e)) (Heap.get?_push_of_some _ e)
  generalize hh5 : (h₄.push ({ cls := .type "generator", data := .fields #[.int s₁.gens.size 0, .str "<genexpr>" (tk₃ + 1), .str (env.qual ++ "<genexpr>") (tk₃ + 1 + 1)] } : Obj)) = h₅
  have k45 : ∀ b o, h₄.get? b = some o → h₅.get? b = some o := fun b o e => hh5 ▸ Heap.get?_push_of_some _ e
  have hsz5 : h₅.objs.size = C + 1 + 1 := by rw [← hh5, Heap.size_push, hsz4]
  have k15 : ∀ b o, b ≠ 217 → s₁.heap.get? b = some o → h₅.get? b = some o := fun b o hb e => k45 b o (k34 b o (k23 b o hb e))
  have k35 : ∀ b o, h₃.get? b = some o → h₅.get? b = some o := fun b o e => k45 b o (k34 b o e)
  have hIC2 : I < C + 2 := Nat.lt_succ_of_lt (Nat.lt_succ_of_lt hIC)
  have hlC2 : l < C + 2 := Nat.lt_trans hlI hIC2
  have hcs : cStatics < C := let ⟨_, hn, _⟩ := hlim; Nat.lt_trans (hI ▸ hn.lt) hIC
  have hcsI : cStatics < I := let ⟨_, hn, _⟩ := hlim; hI ▸ hn.lt
  have hr2 : Rm A.in1.in1 (nr + 3) := (hr.in1 (k := nr + 4) (by omega)).in1 (by omega)
  have hr3 : Rm A.in1.in1.in1 (nr + 2) := hr2.in1 (by omega)
  have E₅ := helt h₅ C I code builtinsNs k15 (hhas.keeps k35) (fun p hp => (hmono p (hp.keeps k2)).keeps k35) hnC hnI
  rw [hsz4]
  have hlast : h₅.get? (C + 1) = some { cls := .type "generator", data := .fields #[.int s₁.gens.size 0, .str "<genexpr>" (tk₃ + 1), .str (env.qual ++ "<genexpr>") (tk₃ + 1 + 1)] } := by
    rw [← hh5, ← hsz4]; exact Heap.get?_push_size _ rfl
  have W := WalksS.genX (prog := prog) (w := w) hr2.hh (C + 1) s₁.gens.size C I (C + 2) items.size F (Nat.succ_ne_self C) (Nat.ne_of_gt (Nat.lt_succ_of_lt hIC)) hIC2 hr2.lt (Nat.lt_succ_of_lt (Nat.lt_succ_of_lt hcs)) (Nat.ne_of_lt hcs) (Nat.ne_of_lt hcsI)
  refine hQ (C + 1) _ ⟨_, _, _, _, W, (fun i s' st => st.1.typeIs), ?_, ?_, List.mem_cons_self, ?_⟩
  · refine ⟨⟨_, _, _, hlast, rfl, rfl, rfl⟩, (hlim.extBut (h' := h₅) (a := 217) (fun b o hb e => k15 b o hb e) hc217), _, Array.getElem?_push_size .., fun s'' hal => ⟨rfl, ?_⟩⟩
    have h5lt : ∀ b o, h₅.get? b = some o → b = C ∨ b < C + 2 := fun b o e => .inr (by have := Heap.lt_size e; rw [hsz5] at this; exact this)
    refine seg_startX (A := A.in1.in1.in1) (cenv := genEnv scope cl C code builtinsNs env) (nr := nr) (hr3.mono (by omega)) hx (by simp [genEnv, hkind]) hco (Nat.ne_of_lt hIC) (Nat.ne_of_lt (Nat.lt_trans hlI hIC)) (Nat.ne_of_lt hlI) hIC2 hlC2 h5lt E₅ s'' s'' (fun y => if y = (".0" : Str) then some (.ref I) else none) ⟨?_, ?_, ?_, ?_⟩ KX.refl
    · exact ((it3.extBut (h' := h₅) (b := 217) (fun b o _ e => k35 b o e) hI217)).at fun o e => hal I (.inr hIC2) o e
    · exact (hl.extBut (h' := h₅) (b := 217) (fun b o hb e => k15 b o hb e) hl217).at fun o e => hal l (.inr hlC2) o e
    · exact (hn₄.keeps k45).at' fun o e => hal C (.inl rfl) o e
    · intro b o hb e
      exact hal b (h5lt b o e) o e
  · intro b hb
    show b < h₅.objs.size
    rw [hsz5]
    rcases List.mem_cons.mp hb with rfl | hb
    · exact Nat.lt_succ_self _
    · rcases List.mem_cons.mp hb with rfl | hb
      · exact Nat.lt_succ_of_lt (Nat.lt_succ_self _)
      · exact List.mem_range.mp hb
  · intro s' hm
    have hb1 : ∀ b o, b ≠ 217 → s₁.heap.get? b = some o → s'.heap.get? b = some o := fun b o hb e =>
      hm.heap b o (by simp only [List.mem_cons, List.not_mem_nil, or_false, not_or]; exact ⟨(fun q => by rw [q, hnC] at e; cases e), (fun q => by rw [q, hnI] at e; cases e)⟩) (k15 b o hb e)
    have hG : GX s₁.gens.size (s₁.gens.push (.fresh (.compStart (.GeneratorExp elt [⟨.Name x px, iter, [], 0⟩] scope pos) 0 (.ref I) .none (genEnv scope cl C code builtinsNs env)))) s'.gens := hm.gens
    have t3 : ∀ p, TabHas p h₃ → TabHas p s'.heap := fun p ⟨ps, hok, htab, hs⟩ => by
      have hk : ∀ b, b < C → b ≠ I → ∀ o, h₃.get? b = some o → s'.heap.get? b = some o := fun b hb hbI o e => hm.heap b o (by simp only [List.mem_cons, List.not_mem_nil, or_false, not_or]; exact ⟨Nat.ne_of_lt hb, hbI⟩) (k35 b o e)
      have hC221 : (221 : Addr) < I ∧ (217 : Addr) < I := by
        obtain ⟨ps', hok', htab'⟩ := hT
        exact ⟨hI ▸ hok'.lt.1, hI ▸ hok'.lt.2⟩
      have ka := hk 221 (Nat.lt_trans hC221.1 hIC) (Nat.ne_of_lt hC221.1)
      have kb := hk 217 (Nat.lt_trans hC221.2 hIC) (Nat.ne_of_lt hC221.2)
      obtain ⟨o, vs, file, tf, flags, tg, inF, text, tt, op, a, r1, r2, r3, r4, r5, r6, b, r⟩ := hok
      obtain ⟨⟨o', vs', e, q⟩, t⟩ := htab
      exact ⟨ps, ⟨o, vs, file, tf, flags, tg, inF, text, tt, op, ka _ a, r1, r2, r3, r4, r5, r6, kb _ b, r⟩, ⟨⟨o', vs', ka _ e, q⟩, kb _ t⟩, hs⟩
    have kx : ∀ ex, (∀ b o, b ∉ ex → s₁.heap.get? b = some o → s'.heap.get? b = some o) → KX ex s₁ s' := fun ex hk => by
      refine ⟨hk, ?_, ?_, ?_, hm.drawn, hm.os⟩
      · have := hG.1; rw [Array.size_push] at this; omega
      · intro k hk
        have := hG.2.1 k (by rw [Array.size_push]; omega) (Nat.ne_of_lt hk)
        rw [this, Array.getElem?_push_lt hk, Array.getElem?_eq_getElem hk]
      · intro k y hk e
        by_cases hkg : k = s₁.gens.size
        · subst hkg
          rcases hG.2.2.2 with q | q
          · rw [q, Array.getElem?_push_size] at e; cases e; rfl
          · exact q y e
        · exact hG.2.2.1 k y (by rw [Array.size_push]; omega) hkg e
    refine ⟨kx _ fun b o hb e => hb1 b o (by simpa using hb) e, t3 _ hhas, fun p hp => t3 _ (hmono p (hp.keeps k2)), fun hp => kx _ fun b o _ e => ?_⟩
    by_cases hb : b = 217
    · subst hb
      have e3 : h₃ = h₂ := hsame (hp.keeps k2)
      have e4 : h₃.get? 217 = some o := by rw [e3]; exact k2 _ _ e
      exact hm.heap 217 o (by simp only [List.mem_cons, List.not_mem_nil, or_false, not_or]; exact ⟨Nat.ne_of_lt (hC ▸ Heap.lt_size e4), Ne.symm hI217⟩) (k35 _ _ e4)
    · exact hb1 b o hb e

theorem join_gen' {a n : Nat} {F : Nat → Value → Prop} {pos : Pos} {s₁ : Shared} {sep : Str} {t : Tok} {Q : Value → Shared → Prop} (tx : Nat → Str) (R : GenReady prog w A a n F pos s₁ s) (htx : ∀ j v, F j v → ∃ u, v = .str (tx j) u)
    (hok : JoinOk sep ((List.range n).map tx) = true)
    (hQ : ∀ s' t', KX [217] s₁ s' → TabHas pos s'.heap → (∀ p, TabHas p s₁.heap → TabHas p s'.heap) → (TabHas pos s₁.heap → KX [] s₁ s') → Q (.str (Txt.join sep ((List.range n).map tx)) t') s')
    (hsz : n ≤ sizeLine) : wpAny (model prog w) A (call (.builtin "str.join") [.str sep t, .ref a]) Q E s := by
  obtain ⟨fp, wr, G, St, W, hT, hst, hfp, ha, hend⟩ := R
  refine SC.joinGen W hT hst hfp ha (fun j v hv => let ⟨u, e⟩ := htx j v hv; ⟨_, u, e⟩) (fun s' lt hm hacc => ?_) hsz
  have hl : lt.map (·.1) = (List.range n).map tx := by
    apply List.ext_getElem?
    intro j
    have hsz : lt.length = n := by simpa [strValues] using hacc.1
    by_cases hj : j < n
    · have hj' : j < lt.length := hsz ▸ hj
      obtain ⟨u, hv⟩ := htx j _ (hacc.2 j (.str lt[j].1 lt[j].2) (by simp [strValues, List.getElem?_eq_getElem hj']))
      injection hv with h1 _
      simp [List.getElem?_eq_getElem hj', hj, h1]
    · rw [List.getElem?_eq_none (by simpa [hsz] using Nat.le_of_not_lt hj), List.getElem?_eq_none (by simpa using Nat.le_of_not_lt hj)]
  rw [hl]
  obtain ⟨e1, e2, e3, e4⟩ := hend s' hm
  refine ⟨hok, fun t' k => hQ { s' with toks := k } t' ?_ e2 e3 fun h => ?_⟩
  · exact e1.trans (KX.of_heap (h' := s'.heap) (tk := k) fun _ _ _ e => e)
  · exact (e4 h).trans (KX.of_heap (h' := s'.heap) (tk := k) fun _ _ _ e => e)
end

namespace Rx
open PySem.Builtin PySem.Builtin.Re
theorem plainAttrs_pat : PlainAttrs "re.Pattern" :=
  ⟨⟨"object.__getattribute__", by rw [typeLookup_type, builtinLookup_eq_fast]; kernel_rfl, by decide +kernel⟩, by rw [typeLookup_type, builtinLookup_eq_fast]; kernel_rfl⟩
theorem slot_split : Slot "re.Pattern" "split" "re.Pattern.split" :=
  .of (owner := "re.Pattern") (n := "split") (by rw [typeLookup_type, builtinLookup_eq_fast]; kernel_rfl) (by decide +kernel) (by decide +kernel) (by decide +kernel)
    (by first | exact .inl (by decide +kernel) | exact .inr (by decide +kernel)) (by rw [isSubtype_type]; kernel_rfl)
theorem type_split : typeOf (.builtin "re.Pattern.split") = pure (.type "method_descriptor") := by show builtinType _ = _; rw [builtinType_eq_fast]; kernel_rfl
theorem entry_split : entryFor table "re.Pattern.split" = some Builtin.«re.Pattern.split» := entryFor_of_tree (by kernel_rfl)
theorem args_split (a b : Value) : argsOk "re.Pattern.split" ⟨[a, b], []⟩ := by
  unfold argsOk; kernel_rfl

section
variable {prog : Program} {w : World} {A : Around} {E : Value → Shared → Prop} {s : Shared}

noncomputable def drive : Nat → Sre.M → Option Sre.M
  | 0, _ => none
  | n + 1, m => let m := m.runFor reTurnSteps; if m.outcome.isSome then some m else drive n m
theorem wp_drive {Q : Sre.M → Shared → Prop} {m' : Sre.M} (h : Q m' s) : ∀ (n k : Nat) (m : Sre.M), drive n m = some m' → n ≤ k → wpAny (model prog w) A (reDrive k m) Q E s := by
  intro n
  induction n with
  | zero => intro k m e; cases e
  | succ n ih =>
    intro k m e hk
    obtain ⟨k, rfl⟩ : ∃ j, k = j + 1 := ⟨k - 1, by omega⟩
    unfold drive at e
    unfold reDrive
    dsimp only at e ⊢
    split at e
    · rename_i q
      rw [if_pos q]
      injection e with e
      rw [e]
      exact wpAny_pure h
    · rename_i q
      rw [if_neg q]
      exact wpAny_bind (wpAny_rule (ih k _ e (by omega)))

theorem wp_rules {Q : Unit → Shared → Prop} {f : Nat → Unit → Sem (ForInStep Unit)} (hf : ∀ i (Q : ForInStep Unit → Shared → Prop), Q (.yield ()) s → wpAny (model prog w) A (f i ()) Q E s) (h : Q () s) : ∀ l : List Nat, wpAny (model prog w) A (forIn l () f) Q E s := by
  intro l
  induction l with
  | nil => exact wpAny_pure h
  | cons a r ih =>
    rw [List.forIn_cons]
    exact wpAny_bind (hf _ _ ih)

theorem wp_end {Q : Option Sre.M → Shared → Prop} {m m' : Sre.M} {n : Nat} (h : drive n m = some m') (hn : n ≤ 2 ^ 64) (r : Option Sre.M)
    (hr : m'.outcome = some .matched ∧ r = some m' ∨ m'.outcome = some .failed ∧ r = none) (hQ : Q r s) : wpAny (model prog w) A (reRunToEnd m) Q E s := by
  unfold reRunToEnd
  refine wpAny_bind (wp_drive ?_ n _ m h hn)
  refine wpAny_bind ?_
  refine wp_rules (fun i Q h => ?_) ?_ _
  · split
    · exact wpAny_bind (wpAny_rule (wpAny_pure h))
    · exact wpAny_pure h
  rcases hr with ⟨e, rfl⟩ | ⟨e, rfl⟩
  · simp only [e]; exact wpAny_pure hQ
  · simp only [e]; exact wpAny_pure hQ
end

/-- the pieces, as pairs of bounds -/
noncomputable def code0 : Array Nat := #[14, 9, 4, 1, 2, 16, 10, 16, 13, 0, 7, 5, 16, 10, 15, 14, 7, 16, 13, 16, 10, 15, 7, 5, 16, 13, 15, 2, 0, 1]
noncomputable def found (tx : Array Nat) (start : Nat) (must : Bool) : Option (Option Sre.M) :=
  if start > tx.size then some none else
  match drive 200 (Sre.forSearch code0 tx 0 start tx.size must) with
  | none => none
  | some m => match m.outcome with
    | some .matched => if m.handed ≤ tx.size then some (some m) else none
    | some .failed => some none
    | _ => none
noncomputable def pieces (tx : Array Nat) : Nat → Nat → Bool → Option (List (Nat × Nat))
  | 0, _, _ => none
  | n + 1, start, must => match found tx start must with
    | none => none
    | some none => some [(start, tx.size)]
    | some (some m) => (pieces tx n m.handed (m.handed == m.start)).map ((start, m.start) :: ·)
section
variable {prog : Program} {w : World} {A : Around} {E : Value → Shared → Prop} {s : Shared}
theorem found_le {tx : Array Nat} (a : Nat) (c : Bool) (m : Sre.M) (h : found tx a c = some (some m)) : m.handed ≤ tx.size := by
  unfold found at h
  split at h
  · injection h with h; cases h
  · split at h
    · cases h
    · split at h
      · split at h
        · rename_i q; injection h with h; injection h with h; subst h; exact q
        · cases h
      · injection h with h; cases h
      · cases h
theorem wp_found {Q : Option Sre.M → Shared → Prop} {tx : Array Nat} {start : Nat} {must : Bool} {r : Option Sre.M} {tg : ReTarget} (h : found tx start must = some r) (h1 : tg.code = code0) (h2 : tg.text = tx) (h3 : tg.groups = 0) (h4 : tg.lim = tx.size) (hle : start ≤ tx.size) (hQ : Q r s) :
    wpAny (model prog w) A (reNextFound tg start must) Q E s := by
  unfold reNextFound
  rw [h1, h2, h3, h4]
  unfold found at h
  rw [if_neg (by omega)] at h
  split at h
  · cases h
  · rename_i m e
    refine wp_end (n := 200) e (by decide) r ?_ hQ
    split at h
    · rename_i q
      split at h
      · injection h with h; exact .inl ⟨q, h.symm⟩
      · cases h
    · rename_i q; injection h with h; exact .inr ⟨q, h.symm⟩
    · cases h


noncomputable abbrev LS := Array Value × Nat × Nat × Bool × Int × Bool
theorem wp_over {f : Nat → LS → Sem (ForInStep LS)} (hover : ∀ i o a b c d s (Q : ForInStep LS → Shared → Prop), Q (.yield (o, a, b, c, d, true)) s → wpAny (model prog w) A (f i (o, a, b, c, d, true)) Q E s) :
    ∀ (l : List Nat) (o a b c d) (s : Shared) (Q : LS → Shared → Prop), Q (o, a, b, c, d, true) s → wpAny (model prog w) A (forIn l (o, a, b, c, d, true) f) Q E s := by
  intro l
  induction l with
  | nil => intro o a b c d s Q h; exact wpAny_pure h
  | cons x r ih =>
    intro o a b c d s Q h
    rw [List.forIn_cons]
    exact wpAny_bind (hover _ _ _ _ _ _ _ _ (ih _ _ _ _ _ _ _ h))
theorem wp_loop {tx : Array Nat} {f : Nat → LS → Sem (ForInStep LS)} (hover : ∀ i o a b c d s (Q : ForInStep LS → Shared → Prop), Q (.yield (o, a, b, c, d, true)) s → wpAny (model prog w) A (f i (o, a, b, c, d, true)) Q E s)
    (hturn : ∀ i o a c d r s (Q : ForInStep LS → Shared → Prop), found tx a c = some r → a ≤ tx.size → (match r with | none => Q (.yield (o, a, a, c, d, true)) s | some m => ∀ t k, Q (.yield (o.push (.str ⟨tx.extract a m.start⟩ t), m.handed, m.handed, m.handed == m.start, d + 1, false)) { s with toks := k }) →
      wpAny (model prog w) A (f i (o, a, a, c, d, false)) Q E s)
    (hb : ∀ a c m, found tx a c = some (some m) → m.handed ≤ tx.size) :
    ∀ (n : Nat) (l : List Nat) (o : List (Str × Tok)) (a : Nat) (c : Bool) (d : Int) (ps : List (Nat × Nat)) (s : Shared) (Q : LS → Shared → Prop), l.length = n → a ≤ tx.size → pieces tx n a c = some ps →
      (∀ (ts : List (Str × Tok)) a' c' d' tk, ps.map (fun p => (⟨tx.extract p.1 p.2⟩ : Str)) = ts.map (·.1) ++ [⟨tx.extract a' tx.size⟩] → Q ((strValues (o ++ ts)).toArray, a', a', c', d', true) { s with toks := tk }) →
      wpAny (model prog w) A (forIn l ((strValues o).toArray, a, a, c, d, false) f) Q E s := by
  intro n
  induction n with
  | zero => intro l o a c d ps s Q _ _ h; cases h
  | succ n ih =>
    intro l o a c d ps s Q hl ha h hQ
    cases l with
    | nil => cases hl
    | cons x r =>
    rw [List.forIn_cons]
    unfold pieces at h
    split at h
    · cases h
    · rename_i e
      injection h with h
      refine wpAny_bind (hturn _ _ _ _ _ _ _ _ e ha ?_)
      refine wp_over hover _ _ _ _ _ _ _ _ ?_
      have := hQ [] a c d s.toks (by subst h; simp)
      simpa using this
    · rename_i m e
      cases hp : pieces tx n m.handed (m.handed == m.start) with
      | none => rw [hp] at h; cases h
      | some ps' =>
        rw [hp] at h
        injection h with h
        refine wpAny_bind (hturn _ _ _ _ _ _ _ _ e ha ?_)
        intro t k
        have e1 : (strValues o).toArray.push (Value.str ⟨tx.extract a m.start⟩ t) = (strValues (o ++ [(⟨tx.extract a m.start⟩, t)])).toArray := by simp [strValues]
        dsimp only
        rw [e1]
        refine ih r _ _ _ _ ps' _ _ (by simpa using hl) (hb _ _ _ e) hp fun ts a' c' d' tk hts => ?_
        have := hQ ((⟨tx.extract a m.start⟩, t) :: ts) a' c' d' tk (by subst h; simp [hts])
        simpa using this

theorem wp_split0 {tx : Str} {t : Tok} {ps : List (Nat × Nat)} {Q : PySem.Fin → Shared → Prop} (X : (hd.heap_1 w.params).In s.heap) (hsz : tx.cps.size ≤ 1000)
    (hps : pieces tx.cps (2 * tx.cps.size + 3) 0 false = some ps) (hl : ps.length ≤ 1000)
    (hQ : ∀ (ts : List (Str × Tok)) tk, ts.map (·.1) = ps.map (fun p => (⟨tx.cps.extract p.1 p.2⟩ : Str)) → Q (.done (.ret (.ref s.heap.objs.size))) { s with heap := s.heap.push { cls := .type "list", data := .seq (strValues ts).toArray }, toks := tk }) :
   wpAny (model prog w) A (Builtin.«re.Pattern.split» ⟨[.ref 43, .str tx t], []⟩) Q E s := by
  have hsl : ∀ a b, (⟨tx.cps.extract a b⟩ : Str).length ≤ sizeLine := fun a b => by
    have e1 : (tx.cps.extract a b).size ≤ tx.cps.size := by rw [Array.size_extract]; omega
    have e2 : 1000 ≤ sizeLine := by decide
    exact Nat.le_trans e1 (Nat.le_trans hsz e2)
  unfold Builtin.«re.Pattern.split»
  dsimp only
  refine wpAny_bind ?_
  unfold reNamed
  simp
  refine wpAny_pure ?_
  dsimp only
  unfold reWholeTarget reTextOf reNoCollectionInside reRawItems
  simp
  have X43 := X 43 _ rfl
  have X42 := X 42 _ rfl
  refine wpAny_bind (wpAny_fieldsOf X43 rfl ?_)
  refine wpAny_bind (wpAny_of_eq (show asStr? (Value.str tx t) = pure (some tx) by rfl) ?_)
  dsimp only
  refine wpAny_bind (wpAny_pure ?_)
  refine wpAny_bind ?_
  rw [if_neg (fun h => Nat.zero_ne_one h.2), if_neg (fun h => absurd h.1 (by decide)), if_neg (fun h => Nat.zero_ne_one h)]
  refine wpAny_bind (wpAny_pure ?_)
  refine wpAny_map (wpAny_seqItems X42 rfl ?_)
  refine wpAny_bind ?_
  generalize hcode : (Array.map ((fun x => x.toNat) ∘ reRawOf) _) = code
  have hcode' : code = code0 := by rw [← hcode]; kernel_rfl!
  clear hcode X42 X43
  refine (wp_loop (tx := tx.cps) ?hover ?hturn found_le _ _ [] 0 false 0 ps _ _ rfl (Nat.zero_le _) ?hp ?hq)
  case hover =>
    intro i o a b c d s Q h
    simp
    exact wpAny_pure h
  case hturn =>
    intro i o a c d r s Q e hle h
    simp
    refine wpAny_bind (wp_found e hcode' rfl rfl rfl hle ?_)
    cases r with
    | none => exact wpAny_pure h
    | some m =>
      dsimp only at h ⊢
      unfold reSlice
      simp
      refine wpAny_bind (wpAny_mkStr ?_ (hsl _ _))
      have := h s.toks (s.toks + 1)
      exact wpAny_pure this
  case hp => simpa [reMostMatches] using hps
  case hq =>
    intro ts a' c' d' tk hts
    simp
    unfold reSlice
    simp
    refine wpAny_bind (wpAny_mkStr ?_ (hsl _ _))
    refine wpAny_bind (wpAny_newList ?_ ?_)
    · have h1 : ((ts ++ [((⟨tx.cps.extract a' tx.cps.size⟩ : Str), tk)]).map (·.1)) = ps.map (fun p => (⟨tx.cps.extract p.1 p.2⟩ : Str)) := by simp [hts]
      have := hQ _ (tk + 1) h1
      simp [strValues] at this ⊢
      exact wpAny_pure this
    · have e2 : 1001 ≤ sizeLine := by decide
      have := congrArg List.length hts
      simp [strValues] at this ⊢
      omega
end

end Rx

theorem lines_S1_1 : True := by
  k_with_none
  k_with "my enter" => ((refine' enterX ?bs_256 ?kX_256 ?kL_256 ?k6_256 ?k7_256 ?k8_256 ?k9_256 ?kB_256 ?c1_256 ?c2_256 ?c3_256 ?c4_256 ?_; (case kX_256 => assumption); (case kL_256 => exact TopRead.nolimit (by assumption)); (case k6_256 => k_is); (case k7_256 => k_is); (case k8_256 => exact Rm.lt (by assumption)); (case k9_256 => first | exact BindsTo.of_eq rfl | exact binds_K (by k_in) rfl (by k_is) rfl rfl rfl); (case kB_256 => exact locs rfl); (case c1_256 => decide); (case c2_256 => rfl); (case c3_256 => rfl); (case c4_256 => rfl)))
  trivial

noncomputable def Texts : List Str := [Str.ofString "", Str.ofString "+", Str.ofString "a", Str.ofString "ab\ncd", Str.ofString "\n", Str.ofString "x\ry", Str.ofString "a\r\n", Str.ofString "  ", Str.ofString "\n\nz", Str.ofString " ", Str.ofString "# c\n", Str.ofString "\n  ", Str.ofString "\r\n"]
/-- the lines of a text -/
noncomputable def linesOf (tx : Str) : List Str := ((Rx.pieces tx.cps (2 * tx.cps.size + 3) 0 false).getD []).map fun p => ⟨tx.cps.extract p.1 p.2⟩
theorem texts_lines : ∀ tx ∈ Texts, tx.cps.size ≤ 10 ∧ (∃ ps, Rx.pieces tx.cps (2 * tx.cps.size + 3) 0 false = some ps ∧ ps.length ≤ 3 ∧ ps.length ≠ 0) := by
  intro tx h
  have : ∀ tx ∈ Texts, decide (tx.cps.size ≤ 10) && (match Rx.pieces tx.cps (2 * tx.cps.size + 3) 0 false with | some ps => decide (ps.length ≤ 3) && ps.length != 0 | none => false) = true := by decide +kernel
  have := this tx h
  simp at this
  refine ⟨this.1, ?_⟩
  cases hp : Rx.pieces tx.cps (2 * tx.cps.size + 3) 0 false with
  | none => rw [hp] at this; simp at this
  | some ps => rw [hp] at this; simp at this; exact ⟨ps, rfl, this.2.1, by simpa using this.2.2⟩

section
variable {prog : Program} {w : World} {A : Around} {E : Value → Shared → Prop} {s : Shared} {g : Heap} {L : Addr} {m : Str → Option Value} {news : List (Addr × Obj)} {pl : Sem Bool}
theorem gm_split {Q : Value × List Value → Shared → Prop} (F : Fr g L s.heap m) (X : (hd.heap_1 w.params).In g) (h : Q (.builtin "re.Pattern.split", [.ref 43]) s) : wpAny (model prog w) A (getMethod (.ref 43) "split" pl) Q E s := by
  have X43 := X.keeps F.keep 43 _ rfl
  exact getMethod_builtin ⟨_, X43, rfl⟩ Rx.plainAttrs_pat Rx.slot_split Rx.type_split (fun a e => by cases e; exact ⟨_, X43, rfl⟩) h
theorem call_split {tx : Str} {t : Tok} {Q : Value → Shared → Prop} (ht : tx ∈ Texts) (F : Fr g L s.heap m) (N : News g L s.heap news) (X : (hd.heap_1 w.params).In g)
    (h : ∀ (ts : List (Str × Tok)) l h' tk, s.heap.objs.size ≤ l → (∀ b o, s.heap.get? b = some o → h'.get? b = some o) → ts.map (·.1) = linesOf tx → Fr g L h' m → News g L h' ((l, { cls := .type "list", data := .seq (strValues ts).toArray }) :: news) → Q (.ref l) { s with heap := h', toks := tk }) :
    wpAny (model prog w) A (call (.builtin "re.Pattern.split") [.ref 43, .str tx t]) Q E s := by
  have X43 := X.keeps F.keep 43 _ rfl
  obtain ⟨h1, ps, h2, h3, _⟩ := texts_lines tx ht
  refine wpAny_call_entry Rx.slot_split ⟨_, X43, rfl⟩ Rx.entry_split ?_ (Rx.args_split _ _)
  refine Rx.wp_split0 (X.keeps F.keep) (by omega) h2 (by omega) fun ts tk hts => ⟨_, rfl, ?_⟩
  refine h ts _ _ _ (Nat.le_refl _) (fun b o e => Heap.get?_push_of_some _ e) (by rw [hts, linesOf, h2]; rfl) (F.push _) (News.push F N _)
end

theorem lines_S1_9 : True := by
  k_with "getMethod ref" => (refine gm_split (by assumption) (by assumption) ?_)
  trivial
theorem split_lines_ {prog : Program} {w : World} {tx : Str} {t : Tok} {A : Around} {s : Shared} {R : Result → Shared → Prop} (ht : tx ∈ Texts) (hr : Rm A 2) (S : St w s.heap)
   (hR : ∀ (ts : List (Str × Tok)) l h' tk, s.heap.objs.size ≤ l → (∀ b o, s.heap.get? b = some o → h'.get? b = some o) → ts.map (·.1) = linesOf tx → h'.get? l = some { cls := .type "list", data := .seq (strValues ts).toArray } → R (.ok (.ret (.ref l))) { s with heap := h', toks := tk }) : codeAny (model prog w) A (.call (.ref 52) ⟨[.str tx t], []⟩) R s := by
  have ⟨X, p, loose, mg, mb, T, _⟩ := S
  refine' enterX [(Str.ofString "string", .str tx t), (Str.ofString "keepends", .bool false)] X T.nolimit ?k6 ?k7 ?k8 ?k9 ?kB ?c1 ?c2 ?c3 ?c4 ?_
  (case k6 => k_is)
  (case k7 => k_is)
  (case k8 => exact hr.lt)
  (case k9 => first | exact BindsTo.of_eq rfl | exact binds_K (by k_in) rfl (by k_is) rfl rfl rfl)
  (case kB => exact locs rfl)
  (case c1 => decide)
  (case c2 => rfl)
  (case c3 => rfl)
  (case c4 => rfl)
  intro L' h₁ tk F N
  try dsimp only
  k_fold
  k_steps
  refine call_split ht F N X fun ts l h' tk hl hk hts F' N' => ?_
  exact hR ts l h' tk (Nat.le_trans F.above (Nat.le_trans (Nat.le_of_lt F.ns.lt) hl)) (F'.keep) hts (N'.get (List.mem_cons_self ..))

noncomputable def PureRes (prog : Program) (w : World) (A : Around) (s : Shared) (c : Code) (P : Value → Heap → Prop) : Prop :=
  ∀ R : Result → Shared → Prop, (∀ v h' tk', (∀ b o, s.heap.get? b = some o → h'.get? b = some o) → P v h' → R (.ok (.ret v)) { s with heap := h', toks := tk' }) → codeAny (model prog w) A c R s

noncomputable def strList (ts : List (Str × Tok)) : Obj := { cls := .type "list", data := .seq (strValues ts).toArray }
theorem linesOf_cases {tx : Str} (ht : tx ∈ Texts) {ts : List (Str × Tok)} (e : ts.map (·.1) = linesOf tx) :
    (∃ a t, ts = [(a, t)] ∧ linesOf tx = [a]) ∨ (∃ a t b u, ts = [(a, t), (b, u)] ∧ linesOf tx = [a, b]) ∨ (∃ a t b u c v, ts = [(a, t), (b, u), (c, v)] ∧ linesOf tx = [a, b, c]) := by
  obtain ⟨_, ps, h2, h3, h4⟩ := texts_lines tx ht
  have hl : (linesOf tx).length = ps.length := by unfold linesOf; rw [h2]; simp
  have hl2 : ts.length = ps.length := by rw [← hl, ← e]; simp
  match ts, hl2, e with
  | [], h, e => exact absurd h.symm h4
  | [(a, t)], h, e => exact .inl ⟨a, t, rfl, e.symm⟩
  | [(a, t), (b, u)], h, e => exact .inr (.inl ⟨a, t, b, u, rfl, e.symm⟩)
  | [(a, t), (b, u), (c, v)], h, e => exact .inr (.inr ⟨a, t, b, u, c, v, rfl, e.symm⟩)
  | _ :: _ :: _ :: _ :: _, h, e => exfalso; simp at h; omega

section
variable {prog : Program} {w : World} {A : Around} {E : Value → Shared → Prop} {s : Shared} {g : Heap} {L : Addr} {m : Str → Option Value} {news : List (Addr × Obj)}
theorem lines_walk {tx : Str} {t : Tok} {Q : Value → Shared → Prop} (ht : tx ∈ Texts) (hr : Rm A 2) (S : St w g) (F : Fr g L s.heap m) (N : News g L s.heap news)
    (h : ∀ (ts : List (Str × Tok)) l h' tk, (∀ b o, s.heap.get? b = some o → h'.get? b = some o) → ts.map (·.1) = linesOf tx → Fr g L h' m → News g L h' ((l, strList ts) :: news) → Q (.ref l) { s with heap := h', toks := tk }) :
    wpAny (model prog w) A (call (.ref 52) [.str tx t]) Q E s := by
  refine wpAny_call (split_lines_ ht hr (st_of F S) fun ts l h' tk hl hk hts hg => ?_)
  refine h ts l h' tk hk hts (F.after hk) fun p hp => ?_
  rcases List.mem_cons.mp hp with rfl | hp
  · refine ⟨hg, ?_, ?_⟩
    · exact Nat.ne_of_gt (Nat.lt_of_lt_of_le F.ns.lt hl)
    · cases q : g.get? l with
      | none => rfl
      | some o => exact absurd (Heap.lt_size q) (Nat.not_lt_of_le (Nat.le_trans F.above (Nat.le_trans (Nat.le_of_lt F.ns.lt) hl)))
  · exact ⟨hk _ _ (N p hp).1, (N p hp).2⟩
end
section
variable {prog : Program} {w : World} {A : Around} {E : Value → Shared → Prop} {s : Shared} {g : Heap} {L : Addr} {news : List (Addr × Obj)}
theorem news_list {l : Addr} {its : Array Value} {n : Nat} (N : News g L s.heap news) (hm : (l, ({ cls := .type "list", data := .seq its n } : Obj)) ∈ news) : s.heap.IsList l its := ⟨_, N.get hm, rfl, n, rfl⟩
theorem my_len {l : Addr} {its : List Value} {n : Nat} {Q : Value → Shared → Prop} (N : News g L s.heap news) (hm : (l, ({ cls := .type "list", data := .seq its.toArray n } : Obj)) ∈ news) (hfit : its.length < 1000000)
    (h : Q (.int its.length (s.toks + 1)) { s with toks := s.toks + 1 + 1 }) : wpAny (model prog w) A (call (.builtin "len") [.ref l]) Q E s := len_list (news_list N hm) (by simp; omega) (by simpa using h)
theorem my_last {value slice : Expr} {u : Tok} {l : Addr} {its : List Value} {v : Value} {n : Nat} {Q : Value → Shared → Prop} (N : News g L s.heap news) (hm : (l, ({ cls := .type "list", data := .seq its.toArray n } : Obj)) ∈ news) (hv : its.getLast? = some v) (h : Q v s)
    (hs : subscripted slice false (.ref l) (.int (-1) u) = operate [.ref l, .int (-1) u] (getItem (.ref l) (.int (-1) u)) := by with_unfolding_all rfl) :
    wpAny (model prog w) A (subscriptTail value slice (.ref l) (.int (-1) u)) Q E s := by
  have hl := news_list N hm
  have hne : its ≠ [] := by rintro rfl; cases hv
  have hlen : 0 < its.length := List.length_pos_iff.mpr hne
  have hx : its.toArray[(-1 + (its.toArray.size : Int)).toNat]? = some v := by
    have e : (-1 + (its.toArray.size : Int)).toNat = its.length - 1 := by simp; omega
    rw [e]; simpa [List.getLast?_eq_getElem?] using hv
  exact tail_any hl.typeIs slot_list_getitem.lookup (wpAny_getItem_list_neg hl (by decide) (by simp; omega) (by decide) hx h) hs
end
theorem short_lines {tx : Str} (ht : tx ∈ Texts) : ∀ y ∈ linesOf tx, y.length ≤ 10 := by
  intro y hy
  obtain ⟨h1, ps, h2, _⟩ := texts_lines tx ht
  unfold linesOf at hy
  rw [h2] at hy
  simp at hy
  obtain ⟨p, q, _, rfl⟩ := hy
  show (tx.cps.extract p q).size ≤ 10
  rw [Array.size_extract]; omega
theorem short_text {tx : Str} (ht : tx ∈ Texts) : tx.length ≤ 10 := (texts_lines tx ht).1
theorem short_mem {tx y : Str} {l : List Str} (ht : tx ∈ Texts) (e : linesOf tx = l) (hy : y ∈ l) : y.length ≤ 10 := short_lines ht y (e ▸ hy)
theorem my_len_str {prog : Program} {w : World} {A : Around} {E : Value → Shared → Prop} {s : Shared} {x : Str} {t : Tok} {Q : Value → Shared → Prop} (hf : x.length ≤ 10) (h : Q (.int x.length (s.toks + 1)) { s with toks := s.toks + 1 + 1 }) : wpAny (model prog w) A (call (.builtin "len") [.str x t]) Q E s := len_str (by omega) h
theorem lines_E1_1 : True := by
  k_with_none
  k_with "call builtin:len" => (((with_reducible show wpAny _ _ (call _ [Value.str _ _]) _ _ _); (k_dflt (refine' my_len_str ?f_4ef ?_; (case f_4ef => first | exact short_text (by assumption) | exact short_mem (by assumption) (by assumption) (by simp)); k_whole))))
  k_with "call builtin:len" => ((k_dflt (refine' my_len ?N_e69 ?m_e69 ?f_e69 ?_; (case N_e69 => k_asm); (case m_e69 => k_mem); (case f_e69 => decide); k_whole)))
  k_with "subscriptTail" => (((with_reducible show wpAny _ _ (subscriptTail _ _ (Value.ref _) (Value.int (-1) _)) _ _ _); (k_dflt (refine' my_last ?N_9ef ?m_9ef ?V_9ef ?_; (case N_9ef => k_asm); (case m_9ef => k_mem); (case V_9ef => rfl); k_whole))))
  k_with "getAttr ref" => (((with_reducible show wpAny _ _ (getAttr (Value.ref _) (PySem.Str.ofString "value") _) _ _ _); (k_dflt (refine' w_value ?F_f33 ?X_f33 ?T_f33 ?_; (case F_f33 => k_asm); (case X_f33 => k_asm); (case T_f33 => assumption); k_whole))))
  k_with "getAttr ref" => (((with_reducible show wpAny _ _ (getAttr (Value.ref _) (PySem.Str.ofString "line") _) _ _ _); (k_dflt (refine' w_line ?F_ea4 ?X_ea4 ?T_ea4 ?_; (case F_ea4 => k_asm); (case X_ea4 => k_asm); (case T_ea4 => assumption); k_whole))))
  k_with "getAttr ref" => (((with_reducible show wpAny _ _ (getAttr (Value.ref _) (PySem.Str.ofString "column") _) _ _ _); (k_dflt (refine' w_column ?F_4e ?X_4e ?T_4e ?_; (case F_4e => k_asm); (case X_4e => k_asm); (case T_4e => assumption); k_whole))))
  k_with "call ref" => (((with_reducible show wpAny _ _ (call (Value.ref 52) _ _) _ _ _); (k_dflt (refine' lines_walk ?H_b7f ?R_b7f ?S_b7f ?F_b7f ?N_b7f ?_; (case F_b7f => k_asm); (case N_b7f => k_asm); (case S_b7f => assumption); (case H_b7f => assumption); (case R_b7f => exact Rm.deeper (by assumption) (by omega)); k_whole; intro _ _ _ _ _ x_hts _ x_N'; rcases linesOf_cases (by assumption) x_hts with ⟨a, t, e1, e⟩ | ⟨a, t, b, u, e1, e⟩ | ⟨a, t, b, u, c, v, e1, e⟩ <;> subst e1 <;> dsimp only [strList, strValues, List.map] at x_N'))))
  trivial

noncomputable def Tup2 (a b : Int) (v : Value) (h h0 : Heap) : Prop := ∃ l t u, v = .ref l ∧ h0.get? l = none ∧ h.get? l = some { cls := .type "tuple", data := .seq #[.int a t, .int b u] }
theorem tup2_of {h0 h : Heap} {L D : Addr} {a b a' b' : Int} {t u : Tok} {news : List (Addr × Obj)} (N : News h0 L h ((D, { cls := .type "tuple", data := .seq #[.int a t, .int b u] }) :: news)) (e1 : a = a') (e2 : b = b') : Tup2 a' b' (.ref D) h h0 :=
  ⟨_, t, u, rfl, N.fresh (List.mem_cons_self ..), by rw [← e1, ← e2]; exact N.get (List.mem_cons_self ..)⟩
noncomputable def brk (tx : Str) : Int := ((linesOf tx).length : Int) - 1
noncomputable def tailLen (tx : Str) : Int := (((linesOf tx).getLast?.getD Str.empty).length : Int)
noncomputable def pastLine (line : Int) (tx : Str) : Int := line + brk tx
noncomputable def pastCol (col : Int) (tx : Str) : Int := (if (linesOf tx).length = 1 then col else 0) + tailLen tx

theorem end_leaf {prog : Program} {w : World} {x : LD} {par : Value} {A : Around} {s : Shared} (hr : Rm A 4) (S : St w s.heap) (LL : LeafAt w.params s.heap x par) (ht : x.val ∈ Texts) :
   PureRes prog w A s (.call (.ref 172) ⟨[.ref x.a], []⟩) fun v h' => Tup2 (pastLine x.line x.val) (pastCol x.col x.val) v h' s.heap := by
  intro R hR
  have ⟨X, p, loose, mg, mb, T, _⟩ := S
  refine' enterX [(Str.ofString "self", .ref x.a)] X T.nolimit ?k6 ?k7 ?k8 ?k9 ?kB ?c1 ?c2 ?c3 ?c4 ?_
  (case k6 => k_is)
  (case k7 => k_is)
  (case k8 => exact hr.lt)
  (case k9 => exact BindsTo.of_eq rfl)
  (case kB => exact locs rfl)
  (case c1 => decide)
  (case c2 => rfl)
  (case c3 => rfl)
  (case c4 => rfl)
  intro L' h₁ tk F N
  try dsimp only
  k_fold
  k_steps
  all_goals refine hR _ _ _ (Fr.keep (by assumption)) (tup2_of (by assumption) ?_ ?_)
  all_goals (rename linesOf _ = _ => e)
  all_goals (first | (simp [pastLine, pastCol, brk, tailLen, e]; done) | (simp [pastLine, pastCol, brk, tailLen, e]; omega) | skip)

noncomputable def LC.fEnd : LC → Nat
  | .name => 332
  | .oper => 332
  | _ => 172
noncomputable def LC.pEnd : LC → Nat
  | .name => 333
  | .oper => 333
  | _ => 173
noncomputable def Tr.fStart : Tr → Nat
  | .leaf _ => 126
  | .node .. => 199
noncomputable def Tr.fEnd : Tr → Nat
  | .leaf x => x.c.fEnd
  | .node .. => 214
section
variable {prog : Program} {w : World} {A : Around} {E : Value → Shared → Prop} {s : Shared} {expr : Bool} {Q : Value → Shared → Prop} {par : Value} {t : Tr} {g : Heap} {L : Addr} {m : Str → Option Value} {news : List (Addr × Obj)}
theorem PureRes.walk {f : Value} {args : List Value} {kw : List (Str × Value)} {P : Value → Heap → Prop}
    (C : PureRes prog w A s (.call f ⟨args, kw⟩) P) (F : Fr g L s.heap m) (N : News g L s.heap news)
    (h : ∀ v h' tk', Fr g L h' m → News g L h' news → (∀ b o, s.heap.get? b = some o → h'.get? b = some o) → P v h' → Q v { s with heap := h', toks := tk' }) : wpAny (model prog w) A (call f args kw) Q E s :=
  wpAny_call (C _ fun v h' tk' k p => h v h' tk' (F.after k) (fun p hp => ⟨k _ _ (N p hp).1, (N p hp).2⟩) k p)
theorem prop_step {f : Nat} {P : Value → Heap → Prop} {name : Str} {x : Addr} (C : PureRes prog w A.in1 { s with toks := s.toks + 1 } (.call (.ref f) ⟨[.ref x], []⟩) P) (hP : ∀ v h', P v h' → handedIn v = true)
    (h : ∀ v h' tk', (∀ b o, s.heap.get? b = some o → h'.get? b = some o) → P v h' → Q v { s with heap := h', toks := tk' }) :
    codeAny (model prog w) A.in1 (.call (.ref f) ⟨[.ref x], []⟩) (fun r s' => match r with | .ok (.ret v) => wpAny (model prog w) A (handedOut v) Q E s' | .ok _ => False | .error e => wpAny (model prog w) A (noteIf true (.ref x) (.str name s.toks) e) (fun _ s'' => E e s'') E s') { s with toks := s.toks + 1 } :=
  C _ fun v h' tk' k p => handed_on (hP v h' p) (h v h' tk' k p)
theorem ga_start {P : Value → Heap → Prop} (F : Fr g L s.heap m) (N : News g L s.heap news) (X : (hd.heap_1 w.params).In g) (T : TreeAt w.params g t par)
    (C : PureRes prog w A.in1 { s with toks := s.toks + 1 } (.call (.ref t.fStart) ⟨[.ref t.addr], []⟩) P) (hP : ∀ v h', P v h' → handedIn v = true)
    (h : ∀ v h' tk', Fr g L h' m → News g L h' news → (∀ b o, s.heap.get? b = some o → h'.get? b = some o) → P v h' → Q v { s with heap := h', toks := tk' }) : wpAny (model prog w) A (getAttr (.ref t.addr) "start_pos" expr) Q E s := by
  have h2 : ∀ v h' tk', (∀ b o, s.heap.get? b = some o → h'.get? b = some o) → P v h' → Q v { s with heap := h', toks := tk' } := fun v h' tk' k p => h v h' tk' (F.after k) (fun p hp => ⟨k _ _ (N p hp).1, (N p hp).2⟩) k p
  cases t with
  | leaf x =>
    unfold TreeAt at T
    exact get_prop (p := 136) (fget := 126) (rest := [.ref 135, .none, .none, .str (Str.ofString "start_pos") 454, .bool false]) F X (T.keeps F.keep).at (by obtain ⟨_, _, c, _⟩ := x; cases c <;> kernel_rfl!) (by obtain ⟨_, _, c, _⟩ := x; cases c <;> kernel_rfl!) (by obtain ⟨_, _, c, _⟩ := x; cases c <;> kernel_rfl!) (by kernel_rfl!) (by kernel_rfl!) (by kernel_rfl!) (prop_step C hP h2)
  | node x ts =>
    unfold TreeAt at T
    exact get_prop (p := 200) (fget := 199) (rest := [.none, .none, .none, .str (Str.ofString "start_pos") 545, .bool false]) F X (T.1.keeps F.keep).at (by obtain ⟨_, _, _, c, _⟩ := x; cases c <;> kernel_rfl!) (by obtain ⟨_, _, _, c, _⟩ := x; cases c <;> kernel_rfl!) (by obtain ⟨_, _, _, c, _⟩ := x; cases c <;> kernel_rfl!) (by kernel_rfl!) (by kernel_rfl!) (by kernel_rfl!) (prop_step C hP h2)
theorem ga_end {P : Value → Heap → Prop} (F : Fr g L s.heap m) (N : News g L s.heap news) (X : (hd.heap_1 w.params).In g) (T : TreeAt w.params g t par)
    (C : PureRes prog w A.in1 { s with toks := s.toks + 1 } (.call (.ref t.fEnd) ⟨[.ref t.addr], []⟩) P) (hP : ∀ v h', P v h' → handedIn v = true)
    (h : ∀ v h' tk', Fr g L h' m → News g L h' news → (∀ b o, s.heap.get? b = some o → h'.get? b = some o) → P v h' → Q v { s with heap := h', toks := tk' }) : wpAny (model prog w) A (getAttr (.ref t.addr) "end_pos" expr) Q E s := by
  have h2 : ∀ v h' tk', (∀ b o, s.heap.get? b = some o → h'.get? b = some o) → P v h' → Q v { s with heap := h', toks := tk' } := fun v h' tk' k p => h v h' tk' (F.after k) (fun p hp => ⟨k _ _ (N p hp).1, (N p hp).2⟩) k p
  cases t with
  | leaf x =>
    unfold TreeAt at T
    have LL := (T.keeps F.keep).at
    obtain ⟨a, d, c, _⟩ := x
    cases c with
    | plain => exact get_prop (p := 173) (fget := 172) (rest := [.none, .none, .none, .str (Str.ofString "end_pos") 506, .bool false]) F X LL (by kernel_rfl!) (by kernel_rfl!) (by kernel_rfl!) (by kernel_rfl!) (by kernel_rfl!) (by kernel_rfl!) (prop_step C hP h2)
    | str => exact get_prop (p := 173) (fget := 172) (rest := [.none, .none, .none, .str (Str.ofString "end_pos") 506, .bool false]) F X LL (by kernel_rfl!) (by kernel_rfl!) (by kernel_rfl!) (by kernel_rfl!) (by kernel_rfl!) (by kernel_rfl!) (prop_step C hP h2)
    | name => exact get_prop (p := 333) (fget := 332) (rest := [.none, .none, .none, .str (Str.ofString "end_pos") 710, .bool false]) F X LL (by kernel_rfl!) (by kernel_rfl!) (by kernel_rfl!) (by kernel_rfl!) (by kernel_rfl!) (by kernel_rfl!) (prop_step C hP h2)
    | oper => exact get_prop (p := 333) (fget := 332) (rest := [.none, .none, .none, .str (Str.ofString "end_pos") 710, .bool false]) F X LL (by kernel_rfl!) (by kernel_rfl!) (by kernel_rfl!) (by kernel_rfl!) (by kernel_rfl!) (by kernel_rfl!) (prop_step C hP h2)
  | node x ts =>
    unfold TreeAt at T
    exact get_prop (p := 215) (fget := 214) (rest := [.none, .none, .none, .str (Str.ofString "end_pos") 560, .bool false]) F X (T.1.keeps F.keep).at (by obtain ⟨_, _, _, c, _⟩ := x; cases c <;> kernel_rfl!) (by obtain ⟨_, _, _, c, _⟩ := x; cases c <;> kernel_rfl!) (by obtain ⟨_, _, _, c, _⟩ := x; cases c <;> kernel_rfl!) (by kernel_rfl!) (by kernel_rfl!) (by kernel_rfl!) (prop_step C hP h2)
theorem Tup2.back {a b : Int} {v : Value} {h h0 h1 : Heap} (k : ∀ b o, h0.get? b = some o → h1.get? b = some o) (T : Tup2 a b v h h1) : Tup2 a b v h h0 := by
  obtain ⟨l, t, u, e, hn, hg⟩ := T
  refine ⟨l, t, u, e, ?_, hg⟩
  cases q : h0.get? l with
  | none => rfl
  | some o => rw [k _ _ q] at hn; cases hn
theorem Tup2.handed {a b : Int} {v : Value} {h h0 : Heap} (T : Tup2 a b v h h0) : handedIn v = true := by obtain ⟨_, _, _, e, _⟩ := T; subst e; rfl
theorem ga_startT {a b : Int} (F : Fr g L s.heap m) (N : News g L s.heap news) (X : (hd.heap_1 w.params).In g) (T : TreeAt w.params g t par)
    (C : PureRes prog w A.in1 { s with toks := s.toks + 1 } (.call (.ref t.fStart) ⟨[.ref t.addr], []⟩) fun v h' => Tup2 a b v h' s.heap)
    (h : ∀ v h' tk', Fr g L h' m → News g L h' news → (∀ b o, s.heap.get? b = some o → h'.get? b = some o) → Tup2 a b v h' g → Q v { s with heap := h', toks := tk' }) : wpAny (model prog w) A (getAttr (.ref t.addr) "start_pos" expr) Q E s :=
  ga_start F N X T C (fun _ _ h => h.handed) fun v h' tk' F' N' k p => h v h' tk' F' N' k (p.back F.keep)
theorem ga_endT {a b : Int} (F : Fr g L s.heap m) (N : News g L s.heap news) (X : (hd.heap_1 w.params).In g) (T : TreeAt w.params g t par)
    (C : PureRes prog w A.in1 { s with toks := s.toks + 1 } (.call (.ref t.fEnd) ⟨[.ref t.addr], []⟩) fun v h' => Tup2 a b v h' s.heap)
    (h : ∀ v h' tk', Fr g L h' m → News g L h' news → (∀ b o, s.heap.get? b = some o → h'.get? b = some o) → Tup2 a b v h' g → Q v { s with heap := h', toks := tk' }) : wpAny (model prog w) A (getAttr (.ref t.addr) "end_pos" expr) Q E s :=
  ga_end F N X T C (fun _ _ h => h.handed) fun v h' tk' F' N' k p => h v h' tk' F' N' k (p.back F.keep)
end
theorem lines_P1_1 : True := by
  k_with_none
  k_with "getAttr ref" => (((with_reducible show wpAny _ _ (getAttr (Value.ref _) (PySem.Str.ofString "value") _) _ _ _); (k_dflt (refine' w_value ?F_f33 ?X_f33 ?T_f33 ?_; (case F_f33 => k_asm); (case X_f33 => k_asm); (case T_f33 => assumption); k_whole))))
  k_with "getAttr ref" => (((with_reducible show wpAny _ _ (getAttr (Value.ref _) (PySem.Str.ofString "line") _) _ _ _); (k_dflt (refine' w_line ?F_ea4 ?X_ea4 ?T_ea4 ?_; (case F_ea4 => k_asm); (case X_ea4 => k_asm); (case T_ea4 => assumption); k_whole))))
  k_with "getAttr ref" => (((with_reducible show wpAny _ _ (getAttr (Value.ref _) (PySem.Str.ofString "column") _) _ _ _); (k_dflt (refine' w_column ?F_4e ?X_4e ?T_4e ?_; (case F_4e => k_asm); (case X_4e => k_asm); (case T_4e => assumption); k_whole))))
  k_with "getAttr ref" => (((with_reducible show wpAny _ _ (getAttr (Value.ref _) (PySem.Str.ofString "children") _) _ _ _); (k_dflt (refine' w_children ?F_c81 ?X_c81 ?T_c81 ?_; (case F_c81 => k_asm); (case X_c81 => k_asm); (case T_c81 => assumption); k_whole))))
  k_with "subscriptTail" => (((with_reducible show wpAny _ _ (subscriptTail _ _ (Value.ref _) (Value.int 0 _)) _ _ _); (k_dflt (refine' sub_first ?F_a78 ?T_a78 ?_; (case F_a78 => k_asm); (case T_a78 => assumption); k_whole))))
  k_with "subscriptTail" => (((with_reducible show wpAny _ _ (subscriptTail _ _ (Value.ref _) (Value.int (-1) _)) _ _ _); (k_dflt (refine' sub_last ?F_b5f ?T_b5f ?V_b5f ?_; (case F_b5f => k_asm); (case T_b5f => assumption); (case V_b5f => assumption); k_whole))))
  k_with "call builtin:len" => (((with_reducible show wpAny _ _ (call _ [Value.str _ _]) _ _ _); (k_dflt (refine' my_len_str ?f_4ef ?_; (case f_4ef => first | exact short_text (by assumption) | exact short_mem (by assumption) (by assumption) (by simp)); k_whole))))
  k_with "getMethod ref" => (((with_reducible show wpAny _ _ (getMethod (Value.ref _) (PySem.Str.ofString "get_first_leaf") _) _ _ _); (k_dflt (refine' gm_first ?F_b4b ?X_b4b ?T_b4b ?_; (case F_b4b => k_asm); (case X_b4b => k_asm); (case T_b4b => assumption); k_whole; try dsimp only))))
  k_with "getMethod ref" => (((with_reducible show wpAny _ _ (getMethod (Value.ref _) (PySem.Str.ofString "get_last_leaf") _) _ _ _); (k_dflt (refine' gm_last ?F_4a8 ?X_4a8 ?T_4a8 ?_; (case F_4a8 => k_asm); (case X_4a8 => k_asm); (case T_4a8 => assumption); k_whole; try dsimp only))))
  k_with "callWith ref" => (((k_dflt (refine' callWith_K0 ?k1_90 ?k2_90 ?_; (case k1_90 => k_in); (case k2_90 => first | exact keep_first _ _ | exact keep_last _ _); k_whole; try dsimp only [List.cons_append, List.nil_append]))))
  k_with "call ref" => ((k_dflt (refine' PureRes.walk ?C_57f ?F_57f ?N_57f ?_; (case F_57f => k_asm); (case N_57f => k_asm); (case C_57f => (first | (refine (by assumption : EndS _ _ _) _ _ _ ?_ (st_of (by assumption) (by assumption)) (TreeAt.keeps (Fr.keep (by assumption)) _ (by assumption)) (by assumption); first | exact Rm.deeper (by assumption) (by omega) | exact Rm.in1 (Rm.deeper (k := _ + 1) (by assumption) (by omega)) (Nat.le_refl _)) | (refine (by assumption : StartS _ _ _) _ _ _ ?_ (st_of (by assumption) (by assumption)) (TreeAt.keeps (Fr.keep (by assumption)) _ (by assumption)); first | exact Rm.deeper (by assumption) (by omega) | exact Rm.in1 (Rm.deeper (k := _ + 1) (by assumption) (by omega)) (Nat.le_refl _)) | (refine (by assumption : LastS _ _ _) _ _ _ ?_ (st_of (by assumption) (by assumption)) (TreeAt.keeps (Fr.keep (by assumption)) _ (by assumption)); first | exact Rm.deeper (by assumption) (by omega) | exact Rm.in1 (Rm.deeper (k := _ + 1) (by assumption) (by omega)) (Nat.le_refl _)) | (refine (by assumption : FirstS _ _ _) _ _ _ ?_ (st_of (by assumption) (by assumption)) (TreeAt.keeps (Fr.keep (by assumption)) _ (by assumption)); first | exact Rm.deeper (by assumption) (by omega) | exact Rm.in1 (Rm.deeper (k := _ + 1) (by assumption) (by omega)) (Nat.le_refl _)))); k_whole; intro _ _ _ _ _ _ _; (try dsimp only); (try k_sweep))))
  k_with "getAttr ref" => (((with_reducible show wpAny _ _ (getAttr (Value.ref _) (PySem.Str.ofString "start_pos") _) _ _ _); (k_dflt (refine' ga_startT ?F_375 ?N_375 ?X_375 ?T_375 ?C_375 ?_; (case F_375 => k_asm); (case N_375 => k_asm); (case X_375 => k_asm); (case T_375 => assumption); (case C_375 => (first | (refine (by assumption : EndS _ _ _) _ _ _ ?_ (st_of (by assumption) (by assumption)) (TreeAt.keeps (Fr.keep (by assumption)) _ (by assumption)) (by assumption); first | exact Rm.deeper (by assumption) (by omega) | exact Rm.in1 (Rm.deeper (k := _ + 1) (by assumption) (by omega)) (Nat.le_refl _)) | (refine (by assumption : StartS _ _ _) _ _ _ ?_ (st_of (by assumption) (by assumption)) (TreeAt.keeps (Fr.keep (by assumption)) _ (by assumption)); first | exact Rm.deeper (by assumption) (by omega) | exact Rm.in1 (Rm.deeper (k := _ + 1) (by assumption) (by omega)) (Nat.le_refl _)) | (refine (by assumption : LastS _ _ _) _ _ _ ?_ (st_of (by assumption) (by assumption)) (TreeAt.keeps (Fr.keep (by assumption)) _ (by assumption)); first | exact Rm.deeper (by assumption) (by omega) | exact Rm.in1 (Rm.deeper (k := _ + 1) (by assumption) (by omega)) (Nat.le_refl _)) | (refine (by assumption : FirstS _ _ _) _ _ _ ?_ (st_of (by assumption) (by assumption)) (TreeAt.keeps (Fr.keep (by assumption)) _ (by assumption)); first | exact Rm.deeper (by assumption) (by omega) | exact Rm.in1 (Rm.deeper (k := _ + 1) (by assumption) (by omega)) (Nat.le_refl _)))); k_whole; intro _ _ _ _ _ _ _; (try dsimp only); (try k_sweep)))))
  k_with "getAttr ref" => (((with_reducible show wpAny _ _ (getAttr (Value.ref _) (PySem.Str.ofString "end_pos") _) _ _ _); (k_dflt (refine' ga_endT ?F_9e9 ?N_9e9 ?X_9e9 ?T_9e9 ?C_9e9 ?_; (case F_9e9 => k_asm); (case N_9e9 => k_asm); (case X_9e9 => k_asm); (case T_9e9 => assumption); (case C_9e9 => (first | (refine (by assumption : EndS _ _ _) _ _ _ ?_ (st_of (by assumption) (by assumption)) (TreeAt.keeps (Fr.keep (by assumption)) _ (by assumption)) (by assumption); first | exact Rm.deeper (by assumption) (by omega) | exact Rm.in1 (Rm.deeper (k := _ + 1) (by assumption) (by omega)) (Nat.le_refl _)) | (refine (by assumption : StartS _ _ _) _ _ _ ?_ (st_of (by assumption) (by assumption)) (TreeAt.keeps (Fr.keep (by assumption)) _ (by assumption)); first | exact Rm.deeper (by assumption) (by omega) | exact Rm.in1 (Rm.deeper (k := _ + 1) (by assumption) (by omega)) (Nat.le_refl _)) | (refine (by assumption : LastS _ _ _) _ _ _ ?_ (st_of (by assumption) (by assumption)) (TreeAt.keeps (Fr.keep (by assumption)) _ (by assumption)); first | exact Rm.deeper (by assumption) (by omega) | exact Rm.in1 (Rm.deeper (k := _ + 1) (by assumption) (by omega)) (Nat.le_refl _)) | (refine (by assumption : FirstS _ _ _) _ _ _ ?_ (st_of (by assumption) (by assumption)) (TreeAt.keeps (Fr.keep (by assumption)) _ (by assumption)); first | exact Rm.deeper (by assumption) (by omega) | exact Rm.in1 (Rm.deeper (k := _ + 1) (by assumption) (by omega)) (Nat.le_refl _)))); k_whole; intro _ _ _ _ _ _ _; (try dsimp only); (try k_sweep)))))
  trivial
mutual
/-- all texts from the tables -/
noncomputable def texts : Tr → Prop
  | .leaf x => x.val ∈ Texts ∧ x.pre ∈ Texts
  | .node _ ts => textsL ts
noncomputable def textsL : List Tr → Prop
  | [] => True
  | t :: ts => texts t ∧ textsL ts
end
theorem texts_kid {t : Tr} {ts : List Tr} (hf : textsL ts) (h : t ∈ ts) : texts t := by
  induction ts with
  | nil => cases h
  | cons a r ih =>
    unfold textsL at hf
    rcases List.mem_cons.mp h with rfl | h
    · exact hf.1
    · exact ih hf.2 h
noncomputable def eLine (x : LD) : Int := if x.c.flat then x.line else pastLine x.line x.val
noncomputable def eCol (x : LD) : Int := if x.c.flat then x.col + x.val.length else pastCol x.col x.val
noncomputable def FirstS (prog : Program) (w : World) (t : Tr) : Prop :=
  ∀ (A : Around) (s : Shared) (par : Value), Rm A (2 * ht t + 6) → St w s.heap → TreeAt w.params s.heap t par → PureRes prog w A s (.call (.ref t.fFirst) ⟨[.ref t.addr], []⟩) (fun v h' => v = .ref (firstOf t).a)

noncomputable def LastS (prog : Program) (w : World) (t : Tr) : Prop :=
  ∀ (A : Around) (s : Shared) (par : Value), Rm A (2 * ht t + 6) → St w s.heap → TreeAt w.params s.heap t par → PureRes prog w A s (.call (.ref t.fLast) ⟨[.ref t.addr], []⟩) (fun v h' => v = .ref (lastOf t).a)

noncomputable def StartS (prog : Program) (w : World) (t : Tr) : Prop :=
  ∀ (A : Around) (s : Shared) (par : Value), Rm A (2 * ht t + 6) → St w s.heap → TreeAt w.params s.heap t par → PureRes prog w A s (.call (.ref t.fStart) ⟨[.ref t.addr], []⟩) (fun v h' => Tup2 (firstOf t).line (firstOf t).col v h' s.heap)

noncomputable def EndS (prog : Program) (w : World) (t : Tr) : Prop :=
  ∀ (A : Around) (s : Shared) (par : Value), Rm A (2 * ht t + 6) → St w s.heap → TreeAt w.params s.heap t par → texts t → PureRes prog w A s (.call (.ref t.fEnd) ⟨[.ref t.addr], []⟩) (fun v h' => Tup2 (eLine (lastOf t)) (eCol (lastOf t)) v h' s.heap)

theorem first_leaf {prog : Program} {w : World} {x : LD} : FirstS prog w (.leaf x) := by
  intro A s par hr S TT R hR
  have ⟨X, p, loose, mg, mb, T, _⟩ := S
  unfold TreeAt at TT
  show codeAny _ _ (.call (.ref 150) ⟨[.ref x.a], []⟩) _ _
  refine' enterX [(Str.ofString "self", .ref x.a)] X (TopRead.nolimit T) ?k6 ?k7 ?k8 ?k9 ?kB ?c1 ?c2 ?c3 ?c4 ?_
  (case k6 => k_is)
  (case k7 => k_is)
  (case k8 => exact (Rm.lt hr))
  (case k9 => first | exact BindsTo.of_eq rfl | exact binds_K (by k_in) rfl (by k_is) rfl rfl rfl)
  (case kB => exact locs rfl)
  (case c1 => decide)
  (case c2 => rfl)
  (case c3 => rfl)
  (case c4 => rfl)
  intro L' h₁ tk F N
  try dsimp only
  k_fold
  k_steps
  exact hR _ _ _ (Fr.keep (by assumption)) rfl
theorem last_leaf {prog : Program} {w : World} {x : LD} : LastS prog w (.leaf x) := by
  intro A s par hr S TT R hR
  have ⟨X, p, loose, mg, mb, T, _⟩ := S
  unfold TreeAt at TT
  show codeAny _ _ (.call (.ref 157) ⟨[.ref x.a], []⟩) _ _
  refine' enterX [(Str.ofString "self", .ref x.a)] X (TopRead.nolimit T) ?k6 ?k7 ?k8 ?k9 ?kB ?c1 ?c2 ?c3 ?c4 ?_
  (case k6 => k_is)
  (case k7 => k_is)
  (case k8 => exact (Rm.lt hr))
  (case k9 => first | exact BindsTo.of_eq rfl | exact binds_K (by k_in) rfl (by k_is) rfl rfl rfl)
  (case kB => exact locs rfl)
  (case c1 => decide)
  (case c2 => rfl)
  (case c3 => rfl)
  (case c4 => rfl)
  intro L' h₁ tk F N
  try dsimp only
  k_fold
  k_steps
  exact hR _ _ _ (Fr.keep (by assumption)) rfl
theorem start_leaf {prog : Program} {w : World} {x : LD} : StartS prog w (.leaf x) := by
  intro A s par hr S TT R hR
  have ⟨X, p, loose, mg, mb, T, _⟩ := S
  unfold TreeAt at TT
  show codeAny _ _ (.call (.ref 126) ⟨[.ref x.a], []⟩) _ _
  refine' enterX [(Str.ofString "self", .ref x.a)] X (TopRead.nolimit T) ?k6 ?k7 ?k8 ?k9 ?kB ?c1 ?c2 ?c3 ?c4 ?_
  (case k6 => k_is)
  (case k7 => k_is)
  (case k8 => exact (Rm.lt hr))
  (case k9 => first | exact BindsTo.of_eq rfl | exact binds_K (by k_in) rfl (by k_is) rfl rfl rfl)
  (case kB => exact locs rfl)
  (case c1 => decide)
  (case c2 => rfl)
  (case c3 => rfl)
  (case c4 => rfl)
  intro L' h₁ tk F N
  try dsimp only
  k_fold
  k_steps
  exact hR _ _ _ (Fr.keep (by assumption)) (tup2_of (by assumption) rfl rfl)
theorem end_flat {prog : Program} {w : World} {x : LD} {par : Value} {A : Around} {s : Shared} (hr : Rm A 4) (S : St w s.heap) (LL : LeafAt w.params s.heap x par) (ht : x.val ∈ Texts) :
   PureRes prog w A s (.call (.ref 332) ⟨[.ref x.a], []⟩) fun v h' => Tup2 x.line (x.col + x.val.length) v h' s.heap := by
  intro R hR
  have ⟨X, p, loose, mg, mb, T, _⟩ := S
  refine' enterX [(Str.ofString "self", .ref x.a)] X (TopRead.nolimit T) ?k6 ?k7 ?k8 ?k9 ?kB ?c1 ?c2 ?c3 ?c4 ?_
  (case k6 => k_is)
  (case k7 => k_is)
  (case k8 => exact (Rm.lt hr))
  (case k9 => first | exact BindsTo.of_eq rfl | exact binds_K (by k_in) rfl (by k_is) rfl rfl rfl)
  (case kB => exact locs rfl)
  (case c1 => decide)
  (case c2 => rfl)
  (case c3 => rfl)
  (case c4 => rfl)
  intro L' h₁ tk F N
  try dsimp only
  k_fold
  k_steps
  exact hR _ _ _ (Fr.keep (by assumption)) (tup2_of (by assumption) rfl rfl)
theorem end_leaf' {prog : Program} {w : World} {x : LD} : EndS prog w (.leaf x) := by
  intro A s par hr S TT TX
  unfold TreeAt at TT
  unfold texts at TX
  have hr' := hr.mono (k := 4) (by omega)
  obtain ⟨a, d, c, _⟩ := x
  cases c with
  | plain => exact end_leaf hr' S TT TX.1
  | str => exact end_leaf hr' S TT TX.1
  | name => exact end_flat hr' S TT TX.1
  | oper => exact end_flat hr' S TT TX.1
theorem first_node {prog : Program} {w : World} {x : ND} {t : Tr} {ts : List Tr} (ih : FirstS prog w t) : FirstS prog w (.node x (t :: ts)) := by
  intro A s par hr S TT R hR
  have ⟨X, p, loose, mg, mb, T, _⟩ := S
  unfold TreeAt at TT
  obtain ⟨NN, KK⟩ := TT
  have T1 := kid_at KK (t := t) (by simp)
  dsimp only [List.map] at NN
  have hh : ht t + 1 ≤ ht (.node x (t :: ts)) := by
    have := ht_kid (t := t) (ts := t :: ts) (by simp)
    rw [show ht (.node x (t :: ts)) = hts (t :: ts) + 1 by rw [ht]]; omega
  show codeAny _ _ (.call (.ref 245) ⟨[.ref x.a], []⟩) _ _
  refine' enterX [(Str.ofString "self", .ref x.a)] X (TopRead.nolimit T) ?k6 ?k7 ?k8 ?k9 ?kB ?c1 ?c2 ?c3 ?c4 ?_
  (case k6 => k_is)
  (case k7 => k_is)
  (case k8 => exact (Rm.lt hr))
  (case k9 => first | exact BindsTo.of_eq rfl | exact binds_K (by k_in) rfl (by k_is) rfl rfl rfl)
  (case kB => exact locs rfl)
  (case c1 => decide)
  (case c2 => rfl)
  (case c3 => rfl)
  (case c4 => rfl)
  intro L' h₁ tk F N
  try dsimp only
  k_fold
  k_steps
  exact hR _ _ _ (Fr.keep (by assumption)) (by assumption)
theorem last_node {prog : Program} {w : World} {x : ND} {ts : List Tr} (hne : ts ≠ []) (ih : LastS prog w (ts.getLast hne)) : LastS prog w (.node x ts) := by
  intro A s par hr S TT R hR
  have ⟨X, p, loose, mg, mb, T, _⟩ := S
  unfold TreeAt at TT
  obtain ⟨NN, KK⟩ := TT
  have hlo : lastOf (.node x ts) = lastOf (ts.getLast hne) := by rw [lastOf, lastL_is hne]
  rw [hlo] at hR
  have hv : (ts.map fun t => Value.ref t.addr).getLast? = some (.ref (ts.getLast hne).addr) := by rw [List.getLast?_map, List.getLast?_eq_some_getLast hne]; rfl
  have hm : ts.getLast hne ∈ ts := List.getLast_mem hne
  revert ih hm hv hR
  generalize ts.getLast hne = t
  intro ih hR hv hm
  have T1 := kid_at KK (t := t) hm
  have hh : ht t + 1 ≤ ht (.node x ts) := by
    have := ht_kid hm
    rw [show ht (.node x ts) = hts ts + 1 by rw [ht]]; omega
  show codeAny _ _ (.call (.ref 252) ⟨[.ref x.a], []⟩) _ _
  refine' enterX [(Str.ofString "self", .ref x.a)] X (TopRead.nolimit T) ?k6 ?k7 ?k8 ?k9 ?kB ?c1 ?c2 ?c3 ?c4 ?_
  (case k6 => k_is)
  (case k7 => k_is)
  (case k8 => exact (Rm.lt hr))
  (case k9 => first | exact BindsTo.of_eq rfl | exact binds_K (by k_in) rfl (by k_is) rfl rfl rfl)
  (case kB => exact locs rfl)
  (case c1 => decide)
  (case c2 => rfl)
  (case c3 => rfl)
  (case c4 => rfl)
  intro L' h₁ tk F N
  try dsimp only
  k_fold
  k_steps
  exact hR _ _ _ (Fr.keep (by assumption)) (by assumption)
theorem start_node {prog : Program} {w : World} {x : ND} {t : Tr} {ts : List Tr} (ih : StartS prog w t) : StartS prog w (.node x (t :: ts)) := by
  intro A s par hr S TT R hR
  have ⟨X, p, loose, mg, mb, T, _⟩ := S
  unfold TreeAt at TT
  obtain ⟨NN, KK⟩ := TT
  have T1 := kid_at KK (t := t) (by simp)
  dsimp only [List.map] at NN
  have hh : ht t + 1 ≤ ht (.node x (t :: ts)) := by
    have := ht_kid (t := t) (ts := t :: ts) (by simp)
    rw [show ht (.node x (t :: ts)) = hts (t :: ts) + 1 by rw [ht]]; omega
  show codeAny _ _ (.call (.ref 199) ⟨[.ref x.a], []⟩) _ _
  refine' enterX [(Str.ofString "self", .ref x.a)] X (TopRead.nolimit T) ?k6 ?k7 ?k8 ?k9 ?kB ?c1 ?c2 ?c3 ?c4 ?_
  (case k6 => k_is)
  (case k7 => k_is)
  (case k8 => exact (Rm.lt hr))
  (case k9 => first | exact BindsTo.of_eq rfl | exact binds_K (by k_in) rfl (by k_is) rfl rfl rfl)
  (case kB => exact locs rfl)
  (case c1 => decide)
  (case c2 => rfl)
  (case c3 => rfl)
  (case c4 => rfl)
  intro L' h₁ tk F N
  try dsimp only
  k_fold
  k_steps
  exact hR _ _ _ (Fr.keep (by assumption)) (by assumption)
theorem end_node {prog : Program} {w : World} {x : ND} {ts : List Tr} (hne : ts ≠ []) (ih : EndS prog w (ts.getLast hne)) : EndS prog w (.node x ts) := by
  intro A s par hr S TT TX R hR
  have ⟨X, p, loose, mg, mb, T, _⟩ := S
  unfold TreeAt at TT
  obtain ⟨NN, KK⟩ := TT
  have hlo : lastOf (.node x ts) = lastOf (ts.getLast hne) := by rw [lastOf, lastL_is hne]
  rw [hlo] at hR
  have hv : (ts.map fun t => Value.ref t.addr).getLast? = some (.ref (ts.getLast hne).addr) := by rw [List.getLast?_map, List.getLast?_eq_some_getLast hne]; rfl
  have hm : ts.getLast hne ∈ ts := List.getLast_mem hne
  revert ih hm hv hR
  generalize ts.getLast hne = t
  intro ih hR hv hm
  have T1 := kid_at KK (t := t) hm
  have hh : ht t + 1 ≤ ht (.node x ts) := by
    have := ht_kid hm
    rw [show ht (.node x ts) = hts ts + 1 by rw [ht]]; omega
  have TX1 : texts t := texts_kid (by unfold texts at TX; exact TX) hm
  show codeAny _ _ (.call (.ref 214) ⟨[.ref x.a], []⟩) _ _
  refine' enterX [(Str.ofString "self", .ref x.a)] X (TopRead.nolimit T) ?k6 ?k7 ?k8 ?k9 ?kB ?c1 ?c2 ?c3 ?c4 ?_
  (case k6 => k_is)
  (case k7 => k_is)
  (case k8 => exact (Rm.lt hr))
  (case k9 => first | exact BindsTo.of_eq rfl | exact binds_K (by k_in) rfl (by k_is) rfl rfl rfl)
  (case kB => exact locs rfl)
  (case c1 => decide)
  (case c2 => rfl)
  (case c3 => rfl)
  (case c4 => rfl)
  intro L' h₁ tk F N
  try dsimp only
  k_fold
  k_steps
  exact hR _ _ _ (Fr.keep (by assumption)) (by assumption)
theorem first_all {prog : Program} {w : World} : ∀ n t, ht t ≤ n → full t → FirstS prog w t := by
  intro n
  induction n with
  | zero =>
    intro t hn hf
    cases t with
    | leaf x => exact first_leaf
    | node x ts => rw [ht] at hn; omega
  | succ n ih =>
    intro t hn hf
    cases t with
    | leaf x => exact first_leaf
    | node x ts =>
      rw [ht] at hn
      unfold full at hf
      have hm := List.getLast_mem hf.1
      cases ts with
      | nil => exact absurd rfl hf.1
      | cons t ts => exact first_node (ih _ (by have := ht_kid (t := t) (ts := t :: ts) (by simp); omega) (full_kid hf.2 (by simp)))
theorem last_all {prog : Program} {w : World} : ∀ n t, ht t ≤ n → full t → LastS prog w t := by
  intro n
  induction n with
  | zero =>
    intro t hn hf
    cases t with
    | leaf x => exact last_leaf
    | node x ts => rw [ht] at hn; omega
  | succ n ih =>
    intro t hn hf
    cases t with
    | leaf x => exact last_leaf
    | node x ts =>
      rw [ht] at hn
      unfold full at hf
      have hm := List.getLast_mem hf.1
      exact last_node hf.1 (ih _ (by have := ht_kid hm; omega) (full_kid hf.2 hm))
theorem start_all {prog : Program} {w : World} : ∀ n t, ht t ≤ n → full t → StartS prog w t := by
  intro n
  induction n with
  | zero =>
    intro t hn hf
    cases t with
    | leaf x => exact start_leaf
    | node x ts => rw [ht] at hn; omega
  | succ n ih =>
    intro t hn hf
    cases t with
    | leaf x => exact start_leaf
    | node x ts =>
      rw [ht] at hn
      unfold full at hf
      have hm := List.getLast_mem hf.1
      cases ts with
      | nil => exact absurd rfl hf.1
      | cons t ts => exact start_node (ih _ (by have := ht_kid (t := t) (ts := t :: ts) (by simp); omega) (full_kid hf.2 (by simp)))
theorem end_all {prog : Program} {w : World} : ∀ n t, ht t ≤ n → full t → EndS prog w t := by
  intro n
  induction n with
  | zero =>
    intro t hn hf
    cases t with
    | leaf x => exact end_leaf'
    | node x ts => rw [ht] at hn; omega
  | succ n ih =>
    intro t hn hf
    cases t with
    | leaf x => exact end_leaf'
    | node x ts =>
      rw [ht] at hn
      unfold full at hf
      have hm := List.getLast_mem hf.1
      exact end_node hf.1 (ih _ (by have := ht_kid hm; omega) (full_kid hf.2 hm))

noncomputable def catS (l : List Str) : Str := ⟨(l.flatMap fun x => x.cps.toList).toArray⟩
theorem glued_fold (l : List Str) : ∀ acc : Array Nat, l.foldl (fun acc p => acc ++ (#[] : Array Nat) ++ p.cps) acc = acc ++ (l.flatMap fun x => x.cps.toList).toArray := by
  induction l with
  | nil => intro acc; simp
  | cons a r ih => intro acc; rw [List.foldl_cons, ih]; apply Array.ext'; simp
theorem join_cat (l : List Str) : Txt.join (Str.ofString "") l = catS l := by
  show Txt.join ⟨#[]⟩ l = _
  unfold Txt.join catS Builtin.Str.glued
  congr 1
  rw [glued_fold]
  cases l with
  | nil => rfl
  | cons a r => simp
theorem catS_append (a b : List Str) : catS (a ++ b) = catS a ++ catS b := by
  show _ = (⟨(catS a).cps ++ (catS b).cps⟩ : Str)
  simp [catS]
theorem catS_one (a : Str) : catS [a] = a := by simp [catS]
noncomputable def lcode (x : LD) : Str := x.pre ++ x.val
noncomputable def codeOf (t : Tr) : Str := catS (t.leaves.map lcode)
theorem codeOf_leaf (x : LD) : codeOf (.leaf x) = x.pre ++ x.val := by simp [codeOf, Tr.leaves, catS_one, lcode]
theorem cat_kids (ts : List Tr) : catS (ts.map codeOf) = catS ((leavesL ts).map lcode) := by
  induction ts with
  | nil => rfl
  | cons t r ih =>
    rw [leavesL, List.map_append, catS_append, ← ih, List.map_cons, show codeOf t :: r.map codeOf = [codeOf t] ++ r.map codeOf from rfl, catS_append, catS_one]
    rfl
theorem codeOf_node (x : ND) (ts : List Tr) : codeOf (.node x ts) = catS (ts.map codeOf) := by rw [cat_kids]; simp [codeOf, Tr.leaves]
mutual
/-- no node with many children -/
noncomputable def thin : Tr → Prop
  | .leaf _ => True
  | .node _ ts => ts.length ≤ 1000 ∧ thinL ts
noncomputable def thinL : List Tr → Prop
  | [] => True
  | t :: ts => thin t ∧ thinL ts
end
theorem thin_kid {t : Tr} {ts : List Tr} (hf : thinL ts) (h : t ∈ ts) : thin t := by
  induction ts with
  | nil => cases h
  | cons a r ih =>
    unfold thinL at hf
    rcases List.mem_cons.mp h with rfl | h
    · exact hf.1
    · exact ih hf.2 h
theorem length_append (x y : Str) : (x ++ y).length = x.length + y.length := by
  show (Array.size (x.cps ++ y.cps)) = _
  simp [Str.length]
theorem catS_length (l : List Str) : (catS l).length = (l.map (·.length)).sum := by
  induction l with
  | nil => rfl
  | cons a r ih => rw [show a :: r = [a] ++ r from rfl, catS_append, length_append, ih, catS_one]; simp
mutual
theorem leaves_texts : ∀ t, texts t → ∀ x ∈ t.leaves, x.val ∈ Texts ∧ x.pre ∈ Texts
  | .leaf x, h, y, hy => by
    unfold texts at h
    simp [Tr.leaves] at hy
    subst hy; exact h
  | .node x ts, h, y, hy => by
    unfold texts at h
    unfold Tr.leaves at hy
    exact leavesL_texts ts h y hy
theorem leavesL_texts : ∀ ts, textsL ts → ∀ x ∈ leavesL ts, x.val ∈ Texts ∧ x.pre ∈ Texts
  | [], _, y, hy => by simp [leavesL] at hy
  | t :: ts, h, y, hy => by
    unfold textsL at h
    unfold leavesL at hy
    rcases List.mem_append.mp hy with hy | hy
    · exact leaves_texts t h.1 y hy
    · exact leavesL_texts ts h.2 y hy
end
theorem lcode_le {x : LD} (h : x.val ∈ Texts ∧ x.pre ∈ Texts) : (lcode x).length ≤ 20 := by
  have h1 := short_text h.1
  have h2 := short_text h.2
  unfold lcode; rw [length_append]; omega
theorem sum_le20 (l : List LD) (h : ∀ x ∈ l, x.val ∈ Texts ∧ x.pre ∈ Texts) : ((l.map lcode).map (·.length)).sum ≤ 20 * l.length := by
  induction l with
  | nil => simp
  | cons a r ih =>
    have h1 := lcode_le (h a (by simp))
    have h2 := ih fun x hx => h x (by simp [hx])
    simp at h2 ⊢
    omega
theorem codeOf_le {t : Tr} (h : texts t) : (codeOf t).length ≤ 20 * t.leaves.length := by
  rw [codeOf, catS_length]
  exact sum_le20 _ (leaves_texts t h)
theorem leaves_kid {t : Tr} {ts : List Tr} (h : t ∈ ts) : t.leaves.length ≤ (leavesL ts).length := by
  induction ts with
  | nil => cases h
  | cons a r ih =>
    unfold leavesL
    rcases List.mem_cons.mp h with rfl | h
    · simp
    · simp; have := ih h; omega
theorem kids_sum {ts : List Tr} (h : textsL ts) : ((ts.map codeOf).map (·.length)).sum ≤ 20 * (leavesL ts).length := by
  rw [← catS_length, cat_kids, catS_length]
  exact sum_le20 _ (leavesL_texts ts h)

noncomputable abbrev hid (h : Heap) : Heap := hideAll h [217]
theorem hid_of {h : Heap} {b : Addr} {o : Obj} (e : (hid h).get? b = some o) : h.get? b = some o := of_hideAll _ e
theorem hid_ne {h : Heap} {b : Addr} {o : Obj} (e : (hid h).get? b = some o) : b ≠ 217 := fun q => by rw [q, hideAll_none [217] (by simp)] at e; cases e
theorem hid_get {h : Heap} {b : Addr} {o : Obj} (e : h.get? b = some o) (hb : b ≠ 217) : (hid h).get? b = some o := hideAll_get _ e (by simpa using hb)
theorem hid_mono {h h' : Heap} (k : ∀ b o, b ≠ 217 → h.get? b = some o → h'.get? b = some o) : ∀ b o, (hid h).get? b = some o → (hid h').get? b = some o := fun b o e => hid_get (k b o (hid_ne e) (hid_of e)) (hid_ne e)
theorem KX.hid0 {ex : List Addr} {s s' : Shared} (k : KX [] s s') : ∀ b o, s.heap.get? b = some o → s'.heap.get? b = some o := fun b o e => k.heap b o (by simp) e

noncomputable abbrev pos1 : Pos := ⟨181, 27, 181, 59⟩
noncomputable def Tr.isNode : Tr → Prop
  | .leaf _ => False
  | .node .. => True

/-- what get_code() gives -/
noncomputable def CodeR (R : Result → Shared → Prop) (s : Shared) (v : Str) (must : Prop) : Prop :=
  ∀ s' t, KX [217] s s' → (must → TabHas pos1 s'.heap) → (∀ p, TabHas p s.heap → TabHas p s'.heap) → (TabHas pos1 s.heap → KX [] s s') → R (.ok (.ret (.str v t))) s'
noncomputable def CodeS (prog : Program) (w : World) (t : Tr) : Prop :=
  ∀ (A : Around) (s : Shared) (par : Value) (R : Result → Shared → Prop), Rm A (10 * ht t + 10) → St w (hid s.heap) → TreeAt w.params (hid s.heap) t par → TabOk s.heap → CodeR R s (codeOf t) t.isNode →
    codeAny (model prog w) A (.call (.ref t.fCode) ⟨[.ref t.addr], []⟩) R s
theorem St.unhid {w : World} {h : Heap} (S : St w (hid h)) : St w h := S.keeps fun _ _ e => hid_of e

theorem lines_C1_1 : True := by
  k_with_none
  k_with "binaryOp Add str str" => ((k_dflt (refine' PyProof.Rows.add_str ?h_e4d ?z_e4d; (case z_e4d => assumption); k_whole; intro _ _)))
  k_with "getAttr ref" => (((with_reducible show wpAny _ _ (getAttr (Value.ref _) (PySem.Str.ofString "value") _) _ _ _); (k_dflt (refine' w_value ?F_f33 ?X_f33 ?T_f33 ?_; (case F_f33 => k_asm); (case X_f33 => k_asm); (case T_f33 => assumption); k_whole))))
  k_with "getAttr ref" => (((with_reducible show wpAny _ _ (getAttr (Value.ref _) (PySem.Str.ofString "prefix") _) _ _ _); (k_dflt (refine' w_prefix ?F_da7 ?X_da7 ?T_da7 ?_; (case F_da7 => k_asm); (case X_da7 => k_asm); (case T_da7 => assumption); k_whole))))
  k_with "getAttr ref" => (((with_reducible show wpAny _ _ (getAttr (Value.ref _) (PySem.Str.ofString "children") _) _ _ _); (k_dflt (refine' w_children ?F_c81 ?X_c81 ?T_c81 ?_; (case F_c81 => k_asm); (case X_c81 => k_asm); (case T_c81 => assumption); k_whole))))
  trivial

theorem code_leaf {prog : Program} {w : World} {x : LD} (hx : x.val ∈ Texts ∧ x.pre ∈ Texts) : CodeS prog w (.leaf x) := by
  intro A s par R hr S0 TT TO hR
  have S := S0.unhid
  have ⟨X, p, loose, mg, mb, T, _⟩ := S
  unfold TreeAt at TT
  replace TT := TT.keeps (h' := s.heap) fun _ _ e => hid_of e
  have hlen : x.pre.length + x.val.length ≤ sizeLine := by
    have h1 := short_text hx.1
    have h2 := short_text hx.2
    have h3 : 20 ≤ sizeLine := by decide
    omega
  show codeAny _ _ (.call (.ref 165) ⟨[.ref x.a], []⟩) _ _
  refine' enterX [(Str.ofString "self", .ref x.a), (Str.ofString "include_prefix", .bool true)] X (TopRead.nolimit T) ?k6 ?k7 ?k8 ?k9 ?kB ?c1 ?c2 ?c3 ?c4 ?_
  (case k6 => k_is)
  (case k7 => k_is)
  (case k8 => exact (Rm.lt hr))
  (case k9 => first | exact BindsTo.of_eq rfl | exact binds_K (by k_in) rfl (by k_is) rfl rfl rfl)
  (case kB => exact locs rfl)
  (case c1 => decide)
  (case c2 => rfl)
  (case c3 => rfl)
  (case c4 => rfl)
  intro L' h₁ tk F N
  try dsimp only
  k_fold
  k_steps
  rw [codeOf_leaf] at hR
  have k := Fr.keep (h₀ := s.heap) (by assumption)
  exact hR _ _ (KX.of_heap fun b o _ e => k b o e) (fun h => h.elim) (fun p hp => hp.keeps k) (fun _ => KX.of_heap fun b o _ e => k b o e)

/-- the children's codes, joined -/
noncomputable def KidsS (prog : Program) (w : World) (a : Addr) (l : Addr) (ts : List Tr) : Prop :=
  ∀ (A : Around) (s : Shared) (par : Value) (R : Result → Shared → Prop), Rm A (10 * hts ts + 18) → St w (hid s.heap) → KidsAt w.params (hid s.heap) ts par → (hid s.heap).IsList l (ts.map fun t => Value.ref t.addr).toArray → TabOk s.heap → CodeR R s (catS (ts.map codeOf)) True →
    codeAny (model prog w) A (.call (.ref 222) ⟨[.ref a, .ref l, .bool true], []⟩) R s

theorem code_elt1 {prog : Program} {w : World} {cenv : Env} {href h₁ : Heap} {I : Addr} {ts : List Tr} {par : Value} {n : Nat} (hcs : ∀ t ∈ ts, CodeS prog w t) (hn : ∀ t ∈ ts, 10 * ht t + 10 ≤ n)
    (hloc : cenv.kindOf (Str.ofString "c") = some .local) (hkind : cenv.scope.kind = .function)
    (h1 : ∀ b o, b ≠ 217 → h₁.get? b = some o → href.get? b = some o) (hC : h₁.get? cenv.locals = none) (hI : h₁.get? I = none) (S : St w (hid h₁)) (K : KidsAt w.params (hid h₁) ts par)
    (hT : TabHas pos1 href) (hC2 : cenv.locals ≠ 221 ∧ cenv.locals ≠ 217) (hI2 : I ≠ 221 ∧ I ≠ 217) :
    EltOk prog w n cenv (Str.ofString "c") (.Call (.Attribute (.Name (Str.ofString "c") ⟨181, 28, 181, 29⟩) (Str.ofString "get_code") ⟨181, 28, 181, 38⟩) [] [] ⟨181, 28, 181, 40⟩) href I (ts.map fun t => Value.ref t.addr).toArray (fun i y => ∃ u, y = .str ((ts.map codeOf).getD i Str.empty) u) := by
  constructor
  intro A' i v s₂ m₂ hr hi hns hm hk
  have hk2 : ∀ b o, b ≠ cenv.locals → b ≠ I → href.get? b = some o → s₂.heap.get? b = some o := fun b o a b' e => hk b o (by simp [a, b']) e
  have h12 : ∀ b o, b ≠ 217 → h₁.get? b = some o → s₂.heap.get? b = some o := fun b o hb e => hk2 b o (fun q => by rw [q, hC] at e; cases e) (fun q => by rw [q, hI] at e; cases e) (h1 b o hb e)
  have hh : ∀ b o, (hid h₁).get? b = some o → (hid s₂.heap).get? b = some o := hid_mono h12
  have S₂ : St w (hid s₂.heap) := S.keeps hh
  have TH : TabHas pos1 s₂.heap := by
    obtain ⟨ps, hok, htab, hs⟩ := hT
    obtain ⟨o, vs, file, tf, flags, tg, inF, text, tt, op, a, r1, r2, r3, r4, r5, r6, b, r⟩ := hok
    obtain ⟨⟨o', vs', e, q⟩, t⟩ := htab
    have ka : ∀ o, href.get? 221 = some o → s₂.heap.get? 221 = some o := fun o => hk2 221 o (Ne.symm hC2.1) (Ne.symm hI2.1)
    have kb : ∀ o, href.get? 217 = some o → s₂.heap.get? 217 = some o := fun o => hk2 217 o (Ne.symm hC2.2) (Ne.symm hI2.2)
    exact ⟨ps, ⟨o, vs, file, tf, flags, tg, inF, text, tt, op, ka _ a, r1, r2, r3, r4, r5, r6, kb _ b, r⟩, ⟨⟨o', vs', ka _ e, q⟩, kb _ t⟩, hs⟩
  have hti : ∃ t, ts[i]? = some t ∧ v = .ref t.addr := by
    simp at hi
    obtain ⟨t, e, q⟩ := hi
    exact ⟨t, e, q.symm⟩
  obtain ⟨t, hti, rfl⟩ := hti
  have hmem : t ∈ ts := List.mem_of_getElem? hti
  have T₂ := (kid_at K hmem).keeps hh
  refine MethodCall_ ?_
  refine wpAny_Name (wpAny_loadName_local hkind hloc hns hm ?_) (by decide)
  have X₂ := S₂.unhid.1
  refine gm_code0 X₂ (T₂.keeps fun _ _ e => hid_of e) ?_
  refine callWith_K0 X₂ (keep_code _ _) (wpAny_call ?_)
  refine hcs t hmem A' s₂ par _ (hr.mono (hn t hmem)) S₂ T₂ TH.ok ?_
  intro s' tk hx1 hx2 hx3 hx4
  refine ⟨⟨tk, ?_⟩, hx4 TH⟩
  rw [List.getD_eq_getElem?_getD, List.getElem?_map, hti]; rfl

theorem code_elt2 {prog : Program} {w : World} {cenv : Env} {href h₁ : Heap} {I : Addr} {ts : List Tr} {par : Value} {n : Nat} (hcs : ∀ t ∈ ts, CodeS prog w t) (hn : ∀ t ∈ ts, 10 * ht t + 10 ≤ n)
    (hloc : cenv.kindOf (Str.ofString "c") = some .local) (hkind : cenv.scope.kind = .function)
    (h1 : ∀ b o, b ≠ 217 → h₁.get? b = some o → href.get? b = some o) (hC : h₁.get? cenv.locals = none) (hI : h₁.get? I = none) (S : St w (hid h₁)) (K : KidsAt w.params (hid h₁) ts par)
    (hT : TabHas pos1 href) (hC2 : cenv.locals ≠ 221 ∧ cenv.locals ≠ 217) (hI2 : I ≠ 221 ∧ I ≠ 217) :
    EltOk prog w n cenv (Str.ofString "c") (.Call (.Attribute (.Name (Str.ofString "c") ⟨184, 36, 184, 37⟩) (Str.ofString "get_code") ⟨184, 36, 184, 46⟩) [] [] ⟨184, 36, 184, 48⟩) href I (ts.map fun t => Value.ref t.addr).toArray (fun i y => ∃ u, y = .str ((ts.map codeOf).getD i Str.empty) u) := by
  constructor
  intro A' i v s₂ m₂ hr hi hns hm hk
  have hk2 : ∀ b o, b ≠ cenv.locals → b ≠ I → href.get? b = some o → s₂.heap.get? b = some o := fun b o a b' e => hk b o (by simp [a, b']) e
  have h12 : ∀ b o, b ≠ 217 → h₁.get? b = some o → s₂.heap.get? b = some o := fun b o hb e => hk2 b o (fun q => by rw [q, hC] at e; cases e) (fun q => by rw [q, hI] at e; cases e) (h1 b o hb e)
  have hh : ∀ b o, (hid h₁).get? b = some o → (hid s₂.heap).get? b = some o := hid_mono h12
  have S₂ : St w (hid s₂.heap) := S.keeps hh
  have TH : TabHas pos1 s₂.heap := by
    obtain ⟨ps, hok, htab, hs⟩ := hT
    obtain ⟨o, vs, file, tf, flags, tg, inF, text, tt, op, a, r1, r2, r3, r4, r5, r6, b, r⟩ := hok
    obtain ⟨⟨o', vs', e, q⟩, t⟩ := htab
    have ka : ∀ o, href.get? 221 = some o → s₂.heap.get? 221 = some o := fun o => hk2 221 o (Ne.symm hC2.1) (Ne.symm hI2.1)
    have kb : ∀ o, href.get? 217 = some o → s₂.heap.get? 217 = some o := fun o => hk2 217 o (Ne.symm hC2.2) (Ne.symm hI2.2)
    exact ⟨ps, ⟨o, vs, file, tf, flags, tg, inF, text, tt, op, ka _ a, r1, r2, r3, r4, r5, r6, kb _ b, r⟩, ⟨⟨o', vs', ka _ e, q⟩, kb _ t⟩, hs⟩
  have hti : ∃ t, ts[i]? = some t ∧ v = .ref t.addr := by
    simp at hi
    obtain ⟨t, e, q⟩ := hi
    exact ⟨t, e, q.symm⟩
  obtain ⟨t, hti, rfl⟩ := hti
  have hmem : t ∈ ts := List.mem_of_getElem? hti
  have T₂ := (kid_at K hmem).keeps hh
  refine MethodCall_ ?_
  refine wpAny_Name (wpAny_loadName_local hkind hloc hns hm ?_) (by decide)
  have X₂ := S₂.unhid.1
  refine gm_code0 X₂ (T₂.keeps fun _ _ e => hid_of e) ?_
  refine callWith_K0 X₂ (keep_code _ _) (wpAny_call ?_)
  refine hcs t hmem A' s₂ par _ (hr.mono (hn t hmem)) S₂ T₂ TH.ok ?_
  intro s' tk hx1 hx2 hx3 hx4
  refine ⟨⟨tk, ?_⟩, hx4 TH⟩
  rw [List.getD_eq_getElem?_getD, List.getElem?_map, hti]; rfl

theorem TabOk.ne {h : Heap} {C : Addr} (T : TabOk h) (hC : h.get? C = none) : C ≠ 221 ∧ C ≠ 217 := by
  obtain ⟨ps, ⟨o, vs, file, tf, flags, tg, inF, text, tt, op, a, r1, r2, r3, r4, r5, r6, b, r⟩, ⟨o', vs', e, q⟩, t⟩ := T
  exact ⟨fun e => by rw [e, a] at hC; (cases hC), fun e => by rw [e, b] at hC; (cases hC)⟩
theorem code_kids {prog : Program} {w : World} {a l : Addr} {ts : List Tr} (hcs : ∀ t ∈ ts, CodeS prog w t) (hl : ts.length ≤ 1000) (hlv : (leavesL ts).length ≤ 1000) (htx : textsL ts) : KidsS prog w a l ts := by
  intro A s par R hr S0 KK IL TO hR
  have S := S0.unhid
  have ⟨X, p, loose, mg, mb, T, _⟩ := S
  have ⟨_, _, _, mg₀, _, _, bm, ob, BM⟩ := S0
  refine' enterX [(Str.ofString "self", .ref a), (Str.ofString "children", .ref l), (Str.ofString "include_prefix", .bool true)] X (TopRead.nolimit T) ?k6 ?k7 ?k8 ?k9 ?kB ?c1 ?c2 ?c3 ?c4 ?_
  (case k6 => k_is)
  (case k7 => k_is)
  (case k8 => exact (Rm.lt hr))
  (case k9 => first | exact BindsTo.of_eq rfl | exact binds_K (by k_in) rfl (by k_is) rfl rfl rfl)
  (case kB => exact locs rfl)
  (case c1 => decide)
  (case c2 => rfl)
  (case c3 => rfl)
  (case c4 => rfl)
  intro L' h₁ tk F N
  try dsimp only
  k_fold
  k_steps

  refine eval_gen (nr := 10 * hts ts + 10) (bm := bm) (ob := ob) (mg := mg₀) (hr.deeper (by omega)) rfl rfl rfl (by decide) rfl rfl rfl (fun _ => rfl) ?_
  rename_i F _
  refine wpAny_Name (wpAny_loadName_local rfl rfl F.ns rfl ?_)
  have hk := F.keep
  have hl217 : l ≠ 217 := by obtain ⟨_, e, _⟩ := IL; exact hid_ne e
  have IL2 : s.heap.IsList l (ts.map fun t => Value.ref t.addr).toArray := by obtain ⟨o, e, r⟩ := IL; exact ⟨o, hid_of e, r⟩
  have kh : ∀ b o, (hid s.heap).get? b = some o → (hid h₁).get? b = some o := hid_mono fun b o _ e => hk b o e
  refine ⟨l, _, (fun i y => ∃ u, y = .str ((ts.map codeOf).getD i Str.empty) u), rfl, isList_keeps IL2 hk, T.nolimit.keeps hk, TO.keeps hk, BM.keeps fun b o e => hk b o (hid_of e), (show (mainGlobals : Nat) ≠ 217 by decide), hid_ne BM.obj, (by decide), hl217, ?_, ?_⟩
  · intro h₂ C I code bi h1 hT _ hC hI
    refine code_elt1 hcs (fun t ht => by have := ht_kid ht; omega) rfl rfl h1 hC hI (S0.keeps kh) (KidsAt.keeps kh ts KK) hT ((TO.keeps hk).ne hC) ((TO.keeps hk).ne hI)
  · intro a' s₂ GR
    k_steps
    have e1 : (List.range (ts.map fun t => Value.ref t.addr).toArray.size).map (fun i => (ts.map codeOf).getD i Str.empty) = ts.map codeOf := by
      apply List.ext_getElem
      · simp
      · intro i h1 h2
        simp at h1 h2 ⊢
        rw [List.getElem?_eq_getElem (by omega)]; rfl
    have hw := kids_sum htx
    refine join_gen' (fun i => (ts.map codeOf).getD i Str.empty) GR (fun j v h => h) ?_ ?_ ?_
    · rw [e1]
      refine joinOk_of_weight ?_ (by decide)
      simp at hw ⊢
      omega
    · rw [e1, join_cat]
      intro s' t' k1 k2 k3 k4
      have k0 : ∀ ex n, KX ex s { heap := h₁, gens := s.gens, drawn := s.drawn, toks := n, os := s.os } := fun ex n => KX.of_heap (h' := h₁) (tk := n) fun b o _ e => hk b o e
      exact hR s' t' ((k0 _ _).trans k1) (fun _ => k2) (fun p hp => k3 p (hp.keeps hk)) (fun hp => (k0 _ _).trans (k4 (hp.keeps hk)))
    · have : 1000 ≤ sizeLine := by decide
      simp
      omega

theorem gm_kids {prog : Program} {w : World} {A : Around} {E : Value → Shared → Prop} {s : Shared} {par : Value} {y : ND} {ks : List Value} {g : Heap} {L : Addr} {m : Str → Option Value} {pl : Sem Bool} (F : Fr g L s.heap m) (X : (hd.heap_1 w.params).In g) (T : NodeAt w.params g y par ks) {Q : Value × List Value → Shared → Prop} (h : Q (.ref 222, [.ref y.a]) s) : wpAny (model prog w) A (getMethod (.ref y.a) "_get_code_for_children" pl) Q E s :=
  method_fn (X.keeps F.keep) (T.keeps F.keep).at (node_ga _ _) (node_gb _ _) (by obtain ⟨_, _, _, c, _⟩ := y; cases c <;> kernel_rfl!) (by kernel_rfl!) (by obtain ⟨_, _, _, c, _⟩ := y; cases c <;> kernel_rfl!) h
theorem lines_C1_2 : True := by
  k_with "getMethod ref" => (((with_reducible show wpAny _ _ (getMethod (Value.ref _) (PySem.Str.ofString "_get_code_for_children") _) _ _ _); (k_dflt (refine' gm_kids ?F_e5a ?X_e5a ?T_e5a ?_; (case F_e5a => k_asm); (case X_e5a => k_asm); (case T_e5a => assumption); k_whole; try dsimp only))))
  trivial
theorem code_node {prog : Program} {w : World} {x : ND} {ts : List Tr} (hcs : ∀ t ∈ ts, CodeS prog w t) (hl : ts.length ≤ 1000) (hlv : (leavesL ts).length ≤ 1000) (htx : textsL ts) : CodeS prog w (.node x ts) := by
  intro A s par R hr S0 TT TO hR
  have S := S0.unhid
  have ⟨X, p, loose, mg, mb, T, _⟩ := S
  unfold TreeAt at TT
  obtain ⟨NN0, KK⟩ := TT
  have NN := NN0.keeps (h' := s.heap) fun _ _ e => hid_of e
  have hh : ht (.node x ts) = hts ts + 1 := by rw [ht]
  rw [hh] at hr
  have ck := code_kids (a := x.a) (l := x.l) hcs hl hlv htx
  show codeAny _ _ (.call (.ref 230) ⟨[.ref x.a], []⟩) _ _
  refine' enterX [(Str.ofString "self", .ref x.a), (Str.ofString "include_prefix", .bool true)] X (TopRead.nolimit T) ?k6 ?k7 ?k8 ?k9 ?kB ?c1 ?c2 ?c3 ?c4 ?_
  (case k6 => k_is)
  (case k7 => k_is)
  (case k8 => exact (Rm.lt hr))
  (case k9 => first | exact BindsTo.of_eq rfl | exact binds_K (by k_in) rfl (by k_is) rfl rfl rfl)
  (case kB => exact locs rfl)
  (case c1 => decide)
  (case c2 => rfl)
  (case c3 => rfl)
  (case c4 => rfl)
  intro L' h₁ tk F N
  try dsimp only
  k_fold
  k_steps

  have hk := F.keep
  have kh : ∀ b o, (hid s.heap).get? b = some o → (hid h₁).get? b = some o := hid_mono fun b o _ e => hk b o e
  have k0 : ∀ ex n, KX ex s { heap := h₁, gens := s.gens, drawn := s.drawn, toks := n, os := s.os } := fun ex n => KX.of_heap (h' := h₁) (tk := n) fun b o _ e => hk b o e
  refine wpAny_call (ck _ _ (.ref x.a) _ (hr.deeper (by omega)) (S0.keeps kh) (KidsAt.keeps kh ts KK) (isList_keeps NN0.list kh) (TO.keeps hk) ?_)
  rw [codeOf_node] at hR
  intro s' t' k1 k2 k3 k4
  exact hR s' t' ((k0 _ _).trans k1) (fun _ => k2 trivial) (fun p hp => k3 p (hp.keeps hk)) (fun hp => (k0 _ _).trans (k4 (hp.keeps hk)))
theorem code_all {prog : Program} {w : World} : ∀ n t, ht t ≤ n → thin t → texts t → t.leaves.length ≤ 1000 → CodeS prog w t := by
  intro n
  induction n with
  | zero =>
    intro t hn hf htx hl
    cases t with
    | leaf x => unfold texts at htx; exact code_leaf htx
    | node x ts => rw [ht] at hn; omega
  | succ n ih =>
    intro t hn hf htx hl
    cases t with
    | leaf x => unfold texts at htx; exact code_leaf htx
    | node x ts =>
      rw [ht] at hn
      unfold thin at hf
      unfold texts at htx
      unfold Tr.leaves at hl
      refine code_node (fun t h => ih t (by have := ht_kid h; omega) (thin_kid hf.2 h) (texts_kid htx h) ?_) hf.1 hl htx
      exact Nat.le_trans (leaves_kid h) hl

/-- the first n things of a heap -/
noncomputable def cut (n : Nat) (h : Heap) : Heap := { h with objs := h.objs.extract 0 n }
theorem cut_size (n : Nat) (h : Heap) : (cut n h).objs.size ≤ n := by unfold cut; simp; omega
theorem cut_get {n : Nat} {h : Heap} {b : Addr} (hb : (b : Nat) < n) : (cut n h).get? b = h.get? b := by
  unfold cut Heap.get?
  dsimp only
  rw [show (h.objs.extract 0 n)[b]? = h.objs[b]? from ?_]
  rw [Array.getElem?_extract]
  split
  · simp
  · rename_i q
    rw [Array.getElem?_eq_none]
    simp at q
    rcases Nat.le_total n h.objs.size with w | w
    · rw [Nat.min_eq_left w] at q; exact absurd hb (Nat.not_lt_of_le q)
    · rw [Nat.min_eq_right w] at q; exact q
theorem of_cut {n : Nat} {h : Heap} {b : Addr} {o : Obj} (e : (cut n h).get? b = some o) : h.get? b = some o := by
  rw [← cut_get (n := n) (h := h) (b := b)]
  · exact e
  · exact Nat.lt_of_lt_of_le (Heap.lt_size e) (cut_size n h)

structure Stop (p : Prop) : Prop where
  out : p
theorem stop_wp {α : Type} {M : Model} {A : Around} {c : Sem α} {Q : α → Shared → Prop} {E : Value → Shared → Prop} {s : Shared} (h : wpAny M A c (fun a s => Stop (Q a s)) E s) : wpAny M A c Q E s := wpAny_mono h (fun _ _ x => x.out) fun _ _ e => e
noncomputable def codeBare : Tr → Str
  | .leaf x => x.val
  | .node _ [] => Str.empty
  | .node _ (t :: ts) => codeBare t ++ catS (ts.map codeOf)

noncomputable def BareR (R : Result → Shared → Prop) (s : Shared) (v : Str) : Prop :=
  ∀ s' t, KX [217] s s' → (∀ p, TabHas p s.heap → TabHas p s'.heap) → R (.ok (.ret (.str v t))) s'
noncomputable def kwF : List (Str × Value) := [(Str.ofString "include_prefix", .bool false)]
noncomputable def BareS (prog : Program) (w : World) (t : Tr) : Prop :=
  ∀ (A : Around) (s : Shared) (par : Value) (R : Result → Shared → Prop), Rm A (10 * ht t + 20) → St w (hid s.heap) → TreeAt w.params (hid s.heap) t par → TabHas pos1 s.heap → BareR R s (codeBare t) →
    codeAny (model prog w) A (.call (.ref t.fCode) ⟨[.ref t.addr], kwF⟩) R s
theorem lines_C2_1 : True := by
  k_with_none
  k_with "getAttr ref" => (((with_reducible show wpAny _ _ (getAttr (Value.ref _) (PySem.Str.ofString "value") _) _ _ _); (k_dflt (refine' w_value ?F_f33 ?X_f33 ?T_f33 ?_; (case F_f33 => k_asm); (case X_f33 => k_asm); (case T_f33 => assumption); k_whole))))
  k_with "getAttr ref" => (((with_reducible show wpAny _ _ (getAttr (Value.ref _) (PySem.Str.ofString "prefix") _) _ _ _); (k_dflt (refine' w_prefix ?F_da7 ?X_da7 ?T_da7 ?_; (case F_da7 => k_asm); (case X_da7 => k_asm); (case T_da7 => assumption); k_whole))))
  k_with "getAttr ref" => (((with_reducible show wpAny _ _ (getAttr (Value.ref _) (PySem.Str.ofString "children") _) _ _ _); (k_dflt (refine' w_children ?F_c81 ?X_c81 ?T_c81 ?_; (case F_c81 => k_asm); (case X_c81 => k_asm); (case T_c81 => assumption); k_whole))))
  trivial

theorem bare_leaf {prog : Program} {w : World} {x : LD} : BareS prog w (.leaf x) := by
  intro A s par R hr S0 TT TO hR
  have S := S0.unhid
  have ⟨X, p, loose, mg, mb, T, _⟩ := S
  unfold TreeAt at TT
  replace TT := TT.keeps (h' := s.heap) fun _ _ e => hid_of e
  show codeAny _ _ (.call (.ref 165) ⟨[.ref x.a], kwF⟩) _ _
  refine' enterX [(Str.ofString "self", .ref x.a), (Str.ofString "include_prefix", .bool false)] X (TopRead.nolimit T) ?k6 ?k7 ?k8 ?k9 ?kB ?c1 ?c2 ?c3 ?c4 ?_
  (case k6 => k_is)
  (case k7 => k_is)
  (case k8 => exact (Rm.lt hr))
  (case k9 => first | exact BindsTo.of_eq rfl | exact binds_K (by k_in) rfl (by k_is) rfl rfl rfl)
  (case kB => exact locs rfl)
  (case c1 => decide)
  (case c2 => rfl)
  (case c3 => rfl)
  (case c4 => rfl)
  intro L' h₁ tk F N
  try dsimp only
  k_fold
  k_steps
  have k := Fr.keep (h₀ := s.heap) (by assumption)
  exact hR _ _ (KX.of_heap fun b o _ e => k b o e) (fun p hp => hp.keeps k)

theorem lines_C2_2 : True := by
  k_with "getMethod ref" => (((with_reducible show wpAny _ _ (getMethod (Value.ref _) (PySem.Str.ofString "_get_code_for_children") _) _ _ _); (k_dflt (refine' gm_kids ?F_e5a ?X_e5a ?T_e5a ?_; (case F_e5a => k_asm); (case X_e5a => k_asm); (case T_e5a => assumption); k_whole; try dsimp only))))
  trivial
theorem l_first {prog : Program} {w : World} {A : Around} {E : Value → Shared → Prop} {s : Shared} {Q : Value → Shared → Prop} {g : Heap} {L l : Addr} {m : Str → Option Value} {value slice : Expr} {u : Tok} {v : Value} {ks : List Value} (F : Fr g L s.heap m) (T : g.IsList l (v :: ks).toArray) (h : Q v s)
    (hs : subscripted slice false (.ref l) (.int 0 u) = operate [.ref l, .int 0 u] (getItem (.ref l) (.int 0 u)) := by with_unfolding_all rfl) :
    wpAny (model prog w) A (subscriptTail value slice (.ref l) (.int 0 u)) Q E s :=
  have hl := isList_keeps T F.keep
  tail_any hl.typeIs slot_list_getitem.lookup (wpAny_getItem_list hl (by decide) (by decide) rfl h) hs
theorem lines_C2_3 : True := by
  k_with "subscriptTail" => (((with_reducible show wpAny _ _ (subscriptTail _ _ (Value.ref _) (Value.int 0 _)) _ _ _); (k_dflt (refine' l_first ?F_9b1 ?T_9b1 ?_; (case F_9b1 => k_asm); (case T_9b1 => assumption); k_whole))))
  trivial
theorem gm_codeF {prog : Program} {w : World} {A : Around} {s : Shared} {par : Value} {t : Tr} {g : Heap} {L : Addr} {m : Str → Option Value} {pl : Sem Bool} {E : Value → Shared → Prop} (F : Fr g L s.heap m) (X : (hd.heap_1 w.params).In g) (T : TreeAt w.params g t par) {Q : Value × List Value → Shared → Prop} (h : Q (.ref t.fCode, [.ref t.addr]) s) : wpAny (model prog w) A (getMethod (.ref t.addr) "get_code" pl) Q E s := gm_code F X T h
theorem lines_C2_4 : True := by
  k_with "getMethod ref" => (((with_reducible show wpAny _ _ (getMethod (Value.ref _) (PySem.Str.ofString "get_code") _) _ _ _); (k_dflt (refine' gm_codeF ?F_f44 ?X_f44 ?T_f44 ?_; (case F_f44 => k_asm); (case X_f44 => k_asm); (case T_f44 => assumption); k_whole; try dsimp only))))
  trivial

theorem lines_C2_9 : True := by
  k_with "callWith ref" => (refine callWith_KW0 (by assumption) (keep_code _ _) rfl ?_)
  trivial
theorem bare_kids {prog : Program} {w : World} {a l : Addr} {t : Tr} {ts : List Tr} {A : Around} {s : Shared} {par : Value} {R : Result → Shared → Prop} (hcs : ∀ t ∈ ts, CodeS prog w t) (hb : BareS prog w t) (hl : ts.length ≤ 1000) (hlv : (leavesL ts).length ≤ 1000) (htx : textsL ts)
    (hlen : (codeBare t).length ≤ 100000) (hr : Rm A (10 * hts (t :: ts) + 28)) (S0 : St w (hid s.heap)) (KK : KidsAt w.params (hid s.heap) (t :: ts) par) (IL : (hid s.heap).IsList l ((t :: ts).map fun t => Value.ref t.addr).toArray) (TO : TabHas pos1 s.heap) (hR : BareR R s (codeBare t ++ catS (ts.map codeOf))) :
    codeAny (model prog w) A (.call (.ref 222) ⟨[.ref a, .ref l, .bool false], []⟩) R s := by
  have S := S0.unhid
  have ⟨X, p, loose, mg, mb, T, _⟩ := S
  have ⟨_, _, _, mg₀, _, _, bm, ob, BM⟩ := S0
  have IL2 : s.heap.IsList l ((t :: ts).map fun t => Value.ref t.addr).toArray := by obtain ⟨o, e, r⟩ := IL; exact ⟨o, hid_of e, r⟩
  rw [List.map_cons] at IL2
  have T1 := (kid_at KK (t := t) (by simp)).keeps (h' := s.heap) fun _ _ e => hid_of e
  refine' enterX [(Str.ofString "self", .ref a), (Str.ofString "children", .ref l), (Str.ofString "include_prefix", .bool false)] X (TopRead.nolimit T) ?k6 ?k7 ?k8 ?k9 ?kB ?c1 ?c2 ?c3 ?c4 ?_
  (case k6 => k_is)
  (case k7 => k_is)
  (case k8 => exact (Rm.lt hr))
  (case k9 => first | exact BindsTo.of_eq rfl | exact binds_K (by k_in) rfl (by k_is) rfl rfl rfl)
  (case kB => exact locs rfl)
  (case c1 => decide)
  (case c2 => rfl)
  (case c3 => rfl)
  (case c4 => rfl)
  intro L' h₁ tk F N
  try dsimp only
  k_fold
  k_steps
  have hk := F.keep
  have kh : ∀ b o, (hid s.heap).get? b = some o → (hid h₁).get? b = some o := hid_mono fun b o _ e => hk b o e
  have k0 : ∀ ex n, KX ex s { heap := h₁, gens := s.gens, drawn := s.drawn, toks := n, os := s.os } := fun ex n => KX.of_heap (h' := h₁) (tk := n) fun b o _ e => hk b o e
  have T1' := (kid_at KK (t := t) (by simp)).keeps kh
  have hht : ht t ≤ hts (t :: ts) := ht_kid (by simp)
  refine wpAny_call (hb _ _ par _ (hr.deeper (by omega)) (S0.keeps kh) T1' (TO.keeps hk) ?_)
  intro s₁ tk₁ kx hmono
  have kx0 := (k0 [217] _).trans kx
  have hsz : (217 : Nat) < s.heap.objs.size ∧ (221 : Nat) < s.heap.objs.size := by
    obtain ⟨ps, hok, _⟩ := TO
    exact ⟨hok.lt.2, hok.lt.1⟩
  have hLne : L' ≠ 217 := fun e => absurd (e ▸ F.above) (Nat.not_le_of_lt hsz.1)
  generalize hG : cut s.heap.objs.size s₁.heap = G
  have hGh : ∀ b o, (hid s.heap).get? b = some o → G.get? b = some o := fun b o e => by
    rw [← hG, cut_get (Heap.lt_size (hid_of e))]
    exact kx0.heap b o (by simpa using hid_ne e) (hid_of e)
  have hT1 : TabHas pos1 s₁.heap := hmono _ (TO.keeps hk)
  have hTG : TabHas pos1 G := by
    obtain ⟨ps, ⟨o, vs, file, tf, flags, tg, inF, text, tt, op, a, r1, r2, r3, r4, r5, r6, b, r⟩, ⟨⟨o', vs', e, q⟩, t'⟩, hs⟩ := hT1
    have c1 : ∀ o, s₁.heap.get? 221 = some o → G.get? 221 = some o := fun o e => by rw [← hG, cut_get hsz.2]; exact e
    have c2 : ∀ o, s₁.heap.get? 217 = some o → G.get? 217 = some o := fun o e => by rw [← hG, cut_get hsz.1]; exact e
    exact ⟨ps, ⟨o, vs, file, tf, flags, tg, inF, text, tt, op, c1 _ a, r1, r2, r3, r4, r5, r6, c2 _ b, r⟩, ⟨⟨o', vs', c1 _ e, q⟩, c2 _ t'⟩, hs⟩
  have F₂ : Fr G L' s₁.heap _ := ⟨F.ns.at' fun o e => kx.heap _ o (by simpa using hLne) e, fun b o e => of_cut (hG ▸ e), Nat.le_trans (hG ▸ cut_size _ _) F.above⟩
  have N₂ : News G L' s₁.heap [] := News.nil
  have X₂ := S0.1.keeps hGh
  have T₂ := (S0.keeps hGh).2
  obtain ⟨p₂, loose₂, mg₂, mb₂, T₂, _⟩ := T₂
  have IL3 : G.IsList l ((t :: ts).map fun t => Value.ref t.addr).toArray := isList_keeps IL hGh
  clear F N X T hT1 T1 S
  clear T1'
  try dsimp only
  k_steps
  have hts : hts ts ≤ hts (t :: ts) := by rw [show Mine.hts (t :: ts) = max (ht t) (Mine.hts ts) by rw [Mine.hts]]; exact Nat.le_max_right ..
  refine eval_gen (nr := 10 * Mine.hts ts + 10) (bm := bm) (ob := ob) (mg := mg₀) (hr.deeper (by omega)) rfl rfl rfl (by decide) rfl rfl rfl (fun _ => rfl) ?_
  refine stop_wp ?_
  k_steps
  constructor
  rename_i tk₂ _ h₃ F₃ N₃
  have epick : slicePick ((t :: ts).map fun t => Value.ref t.addr).toArray (some 1) none none = (ts.map fun t => Value.ref t.addr).toArray := by
    have := slicePick_from' ((t :: ts).map fun t => Value.ref t.addr).toArray 1
    simpa using this
  rw [epick] at N₃
  have NI := N₃.get (List.mem_cons_self ..)
  have NF := N₃.fresh (List.mem_cons_self ..)
  dsimp only at NI NF ⊢
  generalize (Heap.objs _).size + 1 = D at NI NF ⊢
  have hG3 := F₃.keep
  have hDne : D ≠ 217 := fun e => by
    obtain ⟨ps, ⟨o, vs, file, tf, flags, tg, inF, text, tt, op, a, r1, r2, r3, r4, r5, r6, b, r⟩, _⟩ := hTG
    rw [e, b] at NF; cases NF
  have kGh : ∀ b o, (hid s.heap).get? b = some o → (hid h₃).get? b = some o := fun b o e => hid_get (hG3 _ _ (hGh b o e)) (hid_ne e)
  have K2 : KidsAt w.params (hid s.heap) ts par := by unfold KidsAt at KK; exact KK.2
  refine ⟨D, _, (fun i y => ∃ u, y = .str ((ts.map codeOf).getD i Str.empty) u), rfl, ⟨_, NI, rfl, _, rfl⟩, T₂.nolimit.keeps hG3, (hTG.keeps hG3).ok, (BM.keeps hGh).keeps hG3, (show (mainGlobals : Nat) ≠ 217 by decide), hid_ne BM.obj, (by decide), hDne, ?_, ?_⟩
  · intro h₄ C I code bi h1 hT hTm hC hI
    exact code_elt2 (n := 10 * Mine.hts ts + 10) hcs (fun t ht => by have := ht_kid ht; omega) rfl rfl h1 hC hI (S0.keeps kGh) (KidsAt.keeps kGh ts K2) (hTm _ (hTG.keeps hG3)) (((hTG.keeps hG3).ok).ne hC) (((hTG.keeps hG3).ok).ne hI)
  · intro a' s₂ GR
    k_steps
    have e1 : (List.range (ts.map fun t => Value.ref t.addr).toArray.size).map (fun i => (ts.map codeOf).getD i Str.empty) = ts.map codeOf := by
      apply List.ext_getElem
      · simp
      · intro i h1 h2
        simp at h1 h2 ⊢
        rw [List.getElem?_eq_getElem (by omega)]; rfl
    have hw := kids_sum htx
    refine join_gen' (fun i => (ts.map codeOf).getD i Str.empty) GR (fun j v h => h) ?_ ?_ ?_
    · rw [e1]
      refine joinOk_of_weight ?_ (by decide)
      simp at hw ⊢
      omega
    · rw [e1, join_cat]
      intro s' t' k1 k2 k3 k4
      have hcl : (catS (ts.map codeOf)).length ≤ 20000 := by rw [catS_length]; omega
      have hfit : (codeBare t).length + (catS (ts.map codeOf)).length ≤ sizeLine := by
        have : 120000 ≤ sizeLine := by decide
        omega
      refine PyProof.Rows.add_str (fun t' tk' => ?_) hfit
      have kA : KX [217] s { heap := s₁.heap, gens := s₁.gens, drawn := s₁.drawn, toks := s₁.toks, os := s₁.os } := kx0
      have kB : ∀ n, KX [217] s { heap := h₃, gens := s₁.gens, drawn := s₁.drawn, toks := n, os := s₁.os } := fun n =>
        ⟨fun b o hb e => hG3 b o (hGh b o (hid_get e (by simpa using hb))), kx0.gsz, kx0.gold, kx0.gnew, kx0.drawn, kx0.os⟩
      have hmG : ∀ p, TabHas p s.heap → TabHas p G := fun p hp => by
        obtain ⟨ps, ⟨o, vs, file, tf, flags, tg, inF, text, tt, op, a, r1, r2, r3, r4, r5, r6, b, r⟩, ⟨⟨o', vs', e, q⟩, t'⟩, hs⟩ := hmono _ (hp.keeps hk)
        have c1 : ∀ o, s₁.heap.get? 221 = some o → G.get? 221 = some o := fun o e => by rw [← hG, cut_get hsz.2]; exact e
        have c2 : ∀ o, s₁.heap.get? 217 = some o → G.get? 217 = some o := fun o e => by rw [← hG, cut_get hsz.1]; exact e
        exact ⟨ps, ⟨o, vs, file, tf, flags, tg, inF, text, tt, op, c1 _ a, r1, r2, r3, r4, r5, r6, c2 _ b, r⟩, ⟨⟨o', vs', c1 _ e, q⟩, c2 _ t'⟩, hs⟩
      exact hR { s' with toks := tk' } t' (((kB _).trans k1).trans (KX.of_heap (h' := s'.heap) (tk := tk') fun _ _ _ e => e)) (fun p hp => k3 p ((hmG p hp).keeps hG3))
    · have : 1000 ≤ sizeLine := by decide
      simp
      omega

theorem bare_node {prog : Program} {w : World} {x : ND} {t : Tr} {ts : List Tr} (hcs : ∀ t ∈ ts, CodeS prog w t) (hb : BareS prog w t) (hl : ts.length ≤ 1000) (hlv : (leavesL ts).length ≤ 1000) (htx : textsL ts) (hlen : (codeBare t).length ≤ 100000) : BareS prog w (.node x (t :: ts)) := by
  intro A s par R hr S0 TT TO hR
  have S := S0.unhid
  have ⟨X, p, loose, mg, mb, T, _⟩ := S
  unfold TreeAt at TT
  obtain ⟨NN0, KK⟩ := TT
  have NN := NN0.keeps (h' := s.heap) fun _ _ e => hid_of e
  have hh : ht (.node x (t :: ts)) = hts (t :: ts) + 1 := by rw [ht]
  rw [hh] at hr
  show codeAny _ _ (.call (.ref 230) ⟨[.ref x.a], kwF⟩) _ _
  refine' enterX [(Str.ofString "self", .ref x.a), (Str.ofString "include_prefix", .bool false)] X (TopRead.nolimit T) ?k6 ?k7 ?k8 ?k9 ?kB ?c1 ?c2 ?c3 ?c4 ?_
  (case k6 => k_is)
  (case k7 => k_is)
  (case k8 => exact (Rm.lt hr))
  (case k9 => first | exact BindsTo.of_eq rfl | exact binds_K (by k_in) rfl (by k_is) rfl rfl rfl)
  (case kB => exact locs rfl)
  (case c1 => decide)
  (case c2 => rfl)
  (case c3 => rfl)
  (case c4 => rfl)
  intro L' h₁ tk F N
  try dsimp only
  k_fold
  k_steps

  have hk := F.keep
  have kh : ∀ b o, (hid s.heap).get? b = some o → (hid h₁).get? b = some o := hid_mono fun b o _ e => hk b o e
  have k0 : ∀ ex n, KX ex s { heap := h₁, gens := s.gens, drawn := s.drawn, toks := n, os := s.os } := fun ex n => KX.of_heap (h' := h₁) (tk := n) fun b o _ e => hk b o e
  refine wpAny_call (bare_kids (a := x.a) (l := x.l) (par := .ref x.a) hcs hb hl hlv htx hlen (hr.deeper (by omega)) (S0.keeps kh) (KidsAt.keeps kh _ KK) (isList_keeps NN0.list kh) (TO.keeps hk) ?_)
  rw [codeBare] at hR
  intro s' t' k1 k2
  exact hR s' t' ((k0 _ _).trans k1) (fun p hp => k2 p (hp.keeps hk))

theorem str_assoc (a b c : Str) : a ++ b ++ c = a ++ (b ++ c) := by
  show (⟨(a.cps ++ b.cps) ++ c.cps⟩ : Str) = ⟨a.cps ++ (b.cps ++ c.cps)⟩
  rw [Array.append_assoc]
theorem bare_eq : ∀ n t, ht t ≤ n → full t → (firstOf t).pre ++ codeBare t = codeOf t := by
  intro n
  induction n with
  | zero =>
    intro t hn hf
    cases t with
    | leaf x => rw [codeOf_leaf, codeBare, firstOf]
    | node x ts => rw [ht] at hn; omega
  | succ n ih =>
    intro t hn hf
    cases t with
    | leaf x => rw [codeOf_leaf, codeBare, firstOf]
    | node x ts =>
      rw [ht] at hn
      unfold full at hf
      cases ts with
      | nil => exact absurd rfl hf.1
      | cons t ts =>
        have h1 := ih t (by have := ht_kid (t := t) (ts := t :: ts) (by simp); omega) (full_kid hf.2 (by simp))
        rw [codeOf_node, codeBare, firstOf, firstL, List.map_cons, show codeOf t :: ts.map codeOf = [codeOf t] ++ ts.map codeOf from rfl, catS_append, catS_one, ← h1, str_assoc]
theorem bare_all {prog : Program} {w : World} : ∀ n t, ht t ≤ n → full t → thin t → texts t → t.leaves.length ≤ 1000 → BareS prog w t := by
  intro n
  induction n with
  | zero =>
    intro t hn hf _ htx hl
    cases t with
    | leaf x => exact bare_leaf
    | node x ts => rw [ht] at hn; omega
  | succ n ih =>
    intro t hn hf hth htx hl
    cases t with
    | leaf x => exact bare_leaf
    | node x ts =>
      rw [ht] at hn
      unfold full at hf
      unfold thin at hth
      unfold texts at htx
      unfold Tr.leaves at hl
      cases ts with
      | nil => exact absurd rfl hf.1
      | cons t ts =>
        have hk := ht_kid (t := t) (ts := t :: ts) (by simp)
        have hlk := leaves_kid (t := t) (ts := t :: ts) (by simp)
        have htx1 := texts_kid htx (t := t) (by simp)
        have hlv : (leavesL ts).length ≤ 1000 := by rw [leavesL, List.length_append] at hl; omega
        have hlen := congrArg Str.length (bare_eq _ t (Nat.le_refl _) (full_kid hf.2 (by simp)))
        rw [length_append] at hlen
        have hcl := codeOf_le htx1
        have htl : thinL ts ∧ thin t := by have := hth.2; unfold thinL at this; exact ⟨this.2, this.1⟩
        have hxl : textsL ts := by unfold textsL at htx; exact htx.2
        refine bare_node (fun u hu => code_all (ht u) u (Nat.le_refl _) (thin_kid htl.1 hu) (texts_kid hxl hu) ?_) (ih t (by omega) (full_kid hf.2 (by simp)) htl.2 htx1 (by omega)) (by have := hth.1; simp at this; omega) hlv hxl (by omega)
        have := leaves_kid hu
        omega

structure Up where
  x : ND
  ls : List Tr
  rs : List Tr
noncomputable abbrev Ctx := List Up
noncomputable def plug (t : Tr) : Ctx → Tr
  | [] => t
  | u :: up => plug (.node u.x (u.ls ++ t :: u.rs)) up
noncomputable def parV : Ctx → Value
  | [] => .none
  | u :: _ => .ref u.x.a
theorem parV_handed (c : Ctx) : handedIn (parV c) = true := by cases c <;> rfl
theorem ctx_tree {P : Params} {h : Heap} : ∀ (c : Ctx) (t : Tr), TreeAt P h (plug t c) .none → TreeAt P h t (parV c)
  | [], t, T => T
  | u :: up, t, T => by
    unfold plug at T
    have := ctx_tree up _ T
    unfold TreeAt at this
    exact kid_at this.2 (by simp)
theorem ctx_up {P : Params} {h : Heap} {u : Up} {up : Ctx} {t : Tr} (T : TreeAt P h (plug t (u :: up)) .none) : TreeAt P h (.node u.x (u.ls ++ t :: u.rs)) (parV up) := ctx_tree up _ T
theorem ctx_node {P : Params} {h : Heap} {u : Up} {up : Ctx} {t : Tr} (T : TreeAt P h (plug t (u :: up)) .none) : NodeAt P h u.x (parV up) (u.ls.map (fun t => Value.ref t.addr) ++ Value.ref t.addr :: u.rs.map (fun t => Value.ref t.addr)) := by
  have := ctx_up T
  unfold TreeAt at this
  simpa using this.1
mutual
noncomputable def Tr.addrs : Tr → List Addr
  | .leaf x => [x.a]
  | .node x ts => x.a :: addrsL ts
noncomputable def addrsL : List Tr → List Addr
  | [] => []
  | t :: ts => t.addrs ++ addrsL ts
end
theorem addr_mem : ∀ t : Tr, t.addr ∈ t.addrs
  | .leaf x => by simp [Tr.addr, Tr.addrs]
  | .node x ts => by simp [Tr.addr, Tr.addrs]
theorem addrsL_append (a b : List Tr) : addrsL (a ++ b) = addrsL a ++ addrsL b := by
  induction a with
  | nil => rfl
  | cons t r ih => simp [addrsL, ih]
theorem addrsL_mem {t : Tr} {ts : List Tr} (h : t ∈ ts) : ∀ a ∈ t.addrs, a ∈ addrsL ts := by
  induction ts with
  | nil => cases h
  | cons u r ih =>
    intro a ha
    unfold addrsL
    rcases List.mem_cons.mp h with rfl | h
    · exact List.mem_append_left _ ha
    · exact List.mem_append_right _ (ih h a ha)
theorem plug_nodup : ∀ (c : Ctx) (t : Tr), (plug t c).addrs.Nodup → t.addrs.Nodup
  | [], t, h => h
  | u :: up, t, h => by
    have := plug_nodup up _ h
    unfold Tr.addrs at this
    rw [addrsL_append, addrsL] at this
    have h2 := (List.nodup_cons.mp this).2
    exact (List.nodup_append.mp (List.nodup_append.mp h2).2.1).1
/-- the siblings are apart -/
theorem sib_apart {u : Up} {up : Ctx} {t : Tr} (h : (plug t (u :: up)).addrs.Nodup) : (∀ s ∈ u.ls, s.addr ≠ t.addr) ∧ (∀ s ∈ u.rs, s.addr ≠ t.addr) := by
  have := plug_nodup up (.node u.x (u.ls ++ t :: u.rs)) h
  unfold Tr.addrs at this
  rw [addrsL_append, addrsL] at this
  have h2 := (List.nodup_cons.mp this).2
  have h3 := List.nodup_append.mp h2
  have h4 := List.nodup_append.mp h3.2.1
  constructor
  · intro s hs e
    exact h3.2.2 s.addr (addrsL_mem hs _ (addr_mem s)) t.addr (List.mem_append_left _ (addr_mem t)) e
  · intro s hs e
    exact h4.2.2 t.addr (addr_mem t) s.addr (addrsL_mem hs _ (addr_mem s)) e.symm
theorem lines_U1_1 : True := by
  k_with_none
  k_with "getAttr ref" => (((with_reducible show wpAny _ _ (getAttr (Value.ref _) (PySem.Str.ofString "children") _) _ _ _); (k_dflt (refine' w_children ?F_c81 ?X_c81 ?T_c81 ?_; (case F_c81 => k_asm); (case X_c81 => k_asm); (case T_c81 => assumption); k_whole))))
  k_with "getAttr ref" => (((with_reducible show wpAny _ _ (getAttr (Value.ref _) (PySem.Str.ofString "parent") _) _ _ _); (k_dflt (refine' w_parent ?P_4de ?F_4de ?X_4de ?T_4de ?_; (case F_4de => k_asm); (case X_4de => k_asm); (case T_4de => assumption); (case P_4de => first | rfl | exact parV_handed _); k_whole))))
  trivial
theorem kids_get {u : Up} {t : Tr} {i : Nat} {v : Value} (hi : (u.ls.map (fun t => Value.ref t.addr) ++ Value.ref t.addr :: u.rs.map (fun t => Value.ref t.addr))[i]? = some v) : (i < u.ls.length → ∃ b ∈ u.ls, v = .ref b.addr) ∧ (i = u.ls.length → v = .ref t.addr) := by
  constructor
  · intro h
    rw [List.getElem?_append_left (by simpa using h)] at hi
    simp at hi
    obtain ⟨b, e, q⟩ := hi
    exact ⟨b, List.mem_of_getElem? e, q.symm⟩
  · rintro rfl
    rw [List.getElem?_append_right (by simp)] at hi
    simp at hi
    exact hi.symm

noncomputable def refKind : ItemKind Value := ⟨fun a v => v = a, fun v => some v, fun a v h => by rw [h]⟩
theorem areOf_self (vs : List Value) : AreOf refKind vs vs := by
  induction vs with
  | nil => exact .nil
  | cons a r ih => exact .cons rfl ih
section
variable {prog : Program} {w : World} {A : Around} {E : Value → Shared → Prop} {s : Shared} {env : Env} {h₀ : Heap} {m : Str → Option Value} {news : List (Addr × Obj)}
noncomputable abbrev bind2 (m : Str → Option Value) (xi xc : Str) (i : Nat) (t : Tok) (v : Value) : Str → Option Value := fun y => if y = xc then some v else if y = xi then some (.int i t) else m y
theorem enum_src {as : List Value} {k : Nat} {xv : Value} {xi xc : Str} {body : List Stmt} {Q : Flow → Shared → Prop} (S : PairSrc prog w A E h₀ env refKind as xv s m news) (hk : k < as.length)
    (g1 : ∀ (i : Nat) v t h tk own, i < k → as[i]? = some v → Fr h₀ env.locals h (bind2 m xi xc i t v) → News h₀ env.locals h (own ++ news) →
      wpAny (model prog w) A (execs body env) (fun f s₂ => f = .next ∧ ∃ h' tk', s₂ = { s with heap := h', toks := tk' } ∧ Fr h₀ env.locals h' (bind2 m xi xc i t v) ∧ News h₀ env.locals h' (own ++ news)) E { s with heap := h, toks := tk })
    (g2 : ∀ v t h tk own, as[k]? = some v → Fr h₀ env.locals h (bind2 m xi xc k t v) → News h₀ env.locals h (own ++ news) →
      wpAny (model prog w) A (execs body env) (fun f s₂ => ∃ v, f = .ret v ∧ Q (.ret v) s₂) E { s with heap := h, toks := tk }) :
    wpAny (model prog w) A (pyIter xv) (fun it s₂ => PairAt3 prog w A h₀ env xi xc body Q E it s₂) E s := by
  refine S xi xc body Q (fun i m₁ news₁ => i ≤ k ∧ news₁ = news ∧ ∀ y, y ≠ xi → y ≠ xc → m₁ y = m y) ⟨Nat.zero_le _, rfl, fun _ _ _ => rfl⟩ ?_ ?_
  · rintro i a t v m₁ news₁ s₁ own ⟨h, tk, rfl⟩ ha hv ⟨hik, rfl, hm⟩ hn _ F N
    cases hv
    have em : (fun y => if y = xc then some a else if y = xi then some (.int i t) else m₁ y) = bind2 m xi xc i t a := by
      funext y
      unfold bind2
      split
      · rfl
      · split
        · rfl
        · exact hm y (by assumption) (by assumption)
    rw [em] at F
    rcases Nat.lt_or_eq_of_le hik with hlt | rfl
    · refine wpAny_mono (g1 i a t h tk own hlt ha F N) (fun f s₂ h₂ => ?_) fun _ _ e => e
      obtain ⟨rfl, h', tk', rfl, F', N'⟩ := h₂
      exact ⟨rfl, h', tk', _, _, rfl, F', N', rfl, hlt, rfl, fun y h1 h2 => by simp [bind2, h1, h2]⟩
    · refine wpAny_mono (g2 a t h tk own ha F N) (fun f s₂ h₂ => ?_) fun _ _ e => e
      obtain ⟨v, rfl, hq⟩ := h₂
      exact hq
  · rintro h' tk m' news' F N hn ⟨hik, _⟩
    exact absurd hk (Nat.not_lt_of_le hik)
end

theorem my_enum {prog : Program} {w : World} {A : Around} {E : Value → Shared → Prop} {s : Shared} {g : Heap} {L l : Addr} {m : Str → Option Value} {news : List (Addr × Obj)} {vs : List Value} {Q : Value → Shared → Prop} (hh : A.handled = none) (hl : g.IsList l vs.toArray)
    (F : Fr g L s.heap m) (N : News g L s.heap news)
    (h : ∀ h' e, Fr g L h' m → News g L h' news → PairSrcL prog w A E g L refKind vs (.ref e) { s with heap := h' } m news → Q (.ref e) { s with heap := h' }) :
    wpAny (model prog w) A (call (.type "enumerate") [.ref l]) Q E s := call_enum_list hh hl (areOf_self vs) F N h
theorem hh_deeper {A : Around} {env : Env} {n : Nat} (r : Rm A n) : (A.deeper env).handled = none := r.hh
theorem lines_U1_2 : True := by
  k_with "exec For Tuple Call" => (((with_reducible show wpAny _ _ (exec (Stmt.For (Expr.Tuple _ _ _) (Expr.Call (Expr.Name (Str.ofString "enumerate") _) _ _ _) _ _ _) _) _ _ _); (k_dflt (refine' For_pair3F ?F_3ec ?hh_3ec ?xi_3ec ?xc_3ec ?hp_3ec ?_ ?hs_3ec; (case F_3ec => k_asm); (case hh_3ec => exact hh_deeper (by assumption)); (case xi_3ec => rfl); (case xc_3ec => rfl); (case hp_3ec => rfl); (case hs_3ec => intro _; rfl); k_whole))))
  k_with "call type:enumerate" => (((k_dflt (refine' my_enum ?hh_6cb ?hl_6cb ?F_6cb ?N_6cb ?_; (case F_6cb => k_asm); (case N_6cb => k_asm); (case hh_6cb => exact hh_deeper (by assumption)); (case hl_6cb => assumption); k_whole; intro _ _ _ _ _))))
  trivial
theorem tree_obj {P : Params} {h : Heap} {t : Tr} {par : Value} (T : TreeAt P h t par) : ∃ o, h.get? t.addr = some o ∧ o.cls ≠ .type "tuple" := by
  cases t with
  | leaf x => unfold TreeAt at T; exact ⟨_, T.inst, by intro q; cases q⟩
  | node x ts => unfold TreeAt at T; exact ⟨_, T.1.inst, by intro q; cases q⟩
section
variable {prog : Program} {w : World} {A : Around} {E : Value → Shared → Prop} {s : Shared} {Q : Value → Shared → Prop} {g : Heap} {L : Addr} {m : Str → Option Value} {a b : Tr} {p q : Value}
theorem is_trees (F : Fr g L s.heap m) (Ta : TreeAt w.params g a p) (Tb : TreeAt w.params g b q) (hne : a.addr ≠ b.addr) (h : Q (.bool false) s) : wpAny (model prog w) A (compareOp .Is (.ref a.addr) (.ref b.addr)) Q E s := by
  obtain ⟨_, e1, n1⟩ := tree_obj (Ta.keeps F.keep)
  obtain ⟨_, e2, n2⟩ := tree_obj (Tb.keeps F.keep)
  exact wpAny_is_ref_other hne e1 e2 n1 h
theorem l_item {l : Addr} {vs : List Value} {i : Int} {u : Tok} {v : Value} {value slice : Expr} (F : Fr g L s.heap m) (T : g.IsList l vs.toArray) (hv : vs[i.toNat]? = some v) (h0 : 0 ≤ i) (hlen : vs.length ≤ 1000000) (h : Q v s)
    (hs : subscripted slice false (.ref l) (.int i u) = operate [.ref l, .int i u] (getItem (.ref l) (.int i u)) := by with_unfolding_all rfl) :
    wpAny (model prog w) A (subscriptTail value slice (.ref l) (.int i u)) Q E s := by
  have hl := isList_keeps T F.keep
  have hlt : i.toNat < vs.length := by
    rcases Nat.lt_or_ge i.toNat vs.length with h | h
    · exact h
    · rw [List.getElem?_eq_none h] at hv; cases hv
  exact tail_any hl.typeIs slot_list_getitem.lookup (wpAny_getItem_list hl h0 (by omega) (by simpa using hv) h) hs
end
theorem lines_U1_3 : True := by
  k_with "compareOp Is ref ref" => (((k_dflt (refine' is_trees ?F_f4a ?Ta_f4a ?Tb_f4a ?ne_f4a ?_; (case F_f4a => k_asm); (case Ta_f4a => assumption); (case Tb_f4a => assumption); (case ne_f4a => assumption); k_whole))))
  k_with "subscriptTail" => (((with_reducible show wpAny _ _ (subscriptTail _ _ (Value.ref _) (Value.int _ _)) _ _ _); (k_dflt (refine' l_item ?F_d25 ?T_d25 ?V_d25 ?Z_d25 ?Y_d25 ?_; (case F_d25 => k_asm); (case T_d25 => assumption); (case V_d25 => assumption); (case Z_d25 => first | assumption | omega); (case Y_d25 => first | assumption | omega); k_whole))))
  trivial
theorem prev_sib {prog : Program} {w : World} {t : Tr} {u : Up} {up : Ctx} {A : Around} {s : Shared} (hr : Rm A 4) (S : St w s.heap) (TT : TreeAt w.params s.heap (plug t (u :: up)) .none) (nd : (plug t (u :: up)).addrs.Nodup) (hlen : u.ls.length + u.rs.length ≤ 1000) :
    PureRes prog w A s (.call (.ref 80) ⟨[.ref t.addr], []⟩) (fun v h' => v = match u.ls.getLast? with | none => .none | some b => .ref b.addr) := by
  intro R hR
  have ⟨X, p, loose, mg, mb, T, _⟩ := S
  have T0 := ctx_tree _ _ TT
  have T1 := ctx_node TT
  have ⟨n1, n2⟩ := sib_apart nd
  have TL := T1.list
  have KK := ctx_up TT
  unfold TreeAt at KK
  replace KK := KK.2
  unfold parV at T0
  refine' enterX [(Str.ofString "self", .ref t.addr)] X (TopRead.nolimit T) ?k6 ?k7 ?k8 ?k9 ?kB ?c1 ?c2 ?c3 ?c4 ?_
  (case k6 => k_is)
  (case k7 => k_is)
  (case k8 => exact (Rm.lt hr))
  (case k9 => first | exact BindsTo.of_eq rfl | exact binds_K (by k_in) rfl (by k_is) rfl rfl rfl)
  (case kB => exact locs rfl)
  (case c1 => decide)
  (case c2 => rfl)
  (case c3 => rfl)
  (case c4 => rfl)
  intro L' h₁ tk F N
  try dsimp only
  k_fold
  k_steps

  refine enum_src (k := u.ls.length) (PairSrcL.at (by assumption) _ rfl) (by simp) ?_ ?_
  · intro i v tv hp tkp own hi hv F N
    obtain ⟨b, hb, rfl⟩ := (kids_get hv).1 hi
    have hne := n1 b hb
    have Tb := kid_at KK (t := b) (by simp [hb])
    dsimp only [bind2] at F
    k_steps
    all_goals assumption
  · intro v tv hp tkp own hv F N
    have e := (kids_get hv).2 rfl
    subst e
    dsimp only [bind2] at F
    have hget : ∀ b, u.ls.getLast? = some b → (u.ls.map (fun t => Value.ref t.addr) ++ Value.ref t.addr :: u.rs.map (fun t => Value.ref t.addr))[((u.ls.length : Int) - 1).toNat]? = some (.ref b.addr) := by
      intro b hb
      have hne : u.ls ≠ [] := by rintro q; rw [q] at hb; cases hb
      have hpos := List.length_pos_iff.mpr hne
      have e : ((u.ls.length : Int) - 1).toNat = u.ls.length - 1 := by omega
      rw [e, List.getElem?_append_left (by simp; omega), List.getElem?_map, ← List.getLast?_eq_getElem?, hb]
      rfl
    have hll : (u.ls.map (fun t => Value.ref t.addr) ++ Value.ref t.addr :: u.rs.map (fun t => Value.ref t.addr)).length ≤ 1000000 := by simp; omega
    cases hgl : u.ls.getLast? with
    | none =>
      have hz : u.ls = [] := by simpa using hgl
      rw [hgl] at hR
      rw [hz] at F
      dsimp only [List.length_nil] at F hR
      k_steps
      all_goals exact hR _ _ _ (Fr.keep (by assumption)) rfl
    | some b =>
      have hb := hget b hgl
      rw [hgl] at hR
      have hpos : 0 < u.ls.length := by
        rcases Nat.eq_zero_or_pos u.ls.length with q | q
        · have : u.ls = [] := List.length_eq_zero_iff.mp q
          rw [this] at hgl; cases hgl
        · exact q
      have h0 : (0 : Int) ≤ (u.ls.length : Int) - 1 := by omega
      dsimp only at hR
      k_steps
      all_goals first | exact hR _ _ _ (Fr.keep (by assumption)) rfl | omega

theorem lines_U2_1 : True := by
  k_with_none
  k_with "getAttr ref" => (((with_reducible show wpAny _ _ (getAttr (Value.ref _) (PySem.Str.ofString "parent") _) _ _ _); (k_dflt (refine' w_parent ?P_4de ?F_4de ?X_4de ?T_4de ?_; (case F_4de => k_asm); (case X_4de => k_asm); (case T_4de => assumption); (case P_4de => first | rfl | exact parV_handed _); k_whole))))
  k_with "getAttr ref" => (((with_reducible show wpAny _ _ (getAttr (Value.ref _) (PySem.Str.ofString "type") _) _ _ _); (k_dflt (refine' w_type ?F_6db ?X_6db ?T_6db ?_; (case F_6db => k_asm); (case X_6db => k_asm); (case T_6db => assumption); k_whole))))
  trivial
theorem prev_sib0 {prog : Program} {w : World} {t : Tr} {A : Around} {s : Shared} (hr : Rm A 4) (S : St w s.heap) (T0 : TreeAt w.params s.heap t .none) :
    PureRes prog w A s (.call (.ref 80) ⟨[.ref t.addr], []⟩) (fun v h' => v = .none) := by
  intro R hR
  have ⟨X, p, loose, mg, mb, T, _⟩ := S
  refine' enterX [(Str.ofString "self", .ref t.addr)] X (TopRead.nolimit T) ?k6 ?k7 ?k8 ?k9 ?kB ?c1 ?c2 ?c3 ?c4 ?_
  (case k6 => k_is)
  (case k7 => k_is)
  (case k8 => exact (Rm.lt hr))
  (case k9 => first | exact BindsTo.of_eq rfl | exact binds_K (by k_in) rfl (by k_is) rfl rfl rfl)
  (case kB => exact locs rfl)
  (case c1 => decide)
  (case c2 => rfl)
  (case c3 => rfl)
  (case c4 => rfl)
  intro L' h₁ tk F N
  try dsimp only
  k_fold
  k_steps

  exact hR _ _ _ (Fr.keep (by assumption)) rfl
theorem next_sib0 {prog : Program} {w : World} {t : Tr} {A : Around} {s : Shared} (hr : Rm A 4) (S : St w s.heap) (T0 : TreeAt w.params s.heap t .none) :
    PureRes prog w A s (.call (.ref 73) ⟨[.ref t.addr], []⟩) (fun v h' => v = .none) := by
  intro R hR
  have ⟨X, p, loose, mg, mb, T, _⟩ := S
  refine' enterX [(Str.ofString "self", .ref t.addr)] X (TopRead.nolimit T) ?k6 ?k7 ?k8 ?k9 ?kB ?c1 ?c2 ?c3 ?c4 ?_
  (case k6 => k_is)
  (case k7 => k_is)
  (case k8 => exact (Rm.lt hr))
  (case k9 => first | exact BindsTo.of_eq rfl | exact binds_K (by k_in) rfl (by k_is) rfl rfl rfl)
  (case kB => exact locs rfl)
  (case c1 => decide)
  (case c2 => rfl)
  (case c3 => rfl)
  (case c4 => rfl)
  intro L' h₁ tk F N
  try dsimp only
  k_fold
  k_steps

  exact hR _ _ _ (Fr.keep (by assumption)) rfl

theorem while_st {prog : Program} {w : World} {A : Around} {s : Shared} {Q : Flow → Shared → Prop} {env : Env} {test : Expr} {body : List Stmt} {pos : Pos} {g : Heap} {L : Addr} {m : Str → Option Value} {news : List (Addr × Obj)}
    (J : Nat → (Str → Option Value) → Prop) (n : Nat) (hJ : J n m) (F : Fr g L s.heap m) (N : News g L s.heap news)
    (turn : ∀ n m₁ h₁ tk₁, J n m₁ → Fr g L h₁ m₁ → News g L h₁ news → wpAny (model prog w) A (isTrue test env (eval test env)) (fun b s₂ =>
        if b then wpAny (model prog w) A (execs body env) (fun f s₃ => match f with
            | .next => Stop (∃ n' m₂ h₂ tk₂, s₃ = { s with heap := h₂, toks := tk₂ } ∧ n' < n ∧ J n' m₂ ∧ Fr g L h₂ m₂ ∧ News g L h₂ news)
            | .cont => Stop (∃ n' m₂ h₂ tk₂, s₃ = { s with heap := h₂, toks := tk₂ } ∧ n' < n ∧ J n' m₂ ∧ Fr g L h₂ m₂ ∧ News g L h₂ news)
            | .brk => Q .next s₃
            | .ret v => Q (.ret v) s₃) (fun _ _ => False) s₂
        else Q .next s₂) (fun _ _ => False) { s with heap := h₁, toks := tk₁ }) (hA : A.handled = none) :
    wpAny (model prog w) A (exec (.While test body [] pos) env) Q (fun _ _ => False) s :=
  while_fr J n hJ F N (fun n m₁ h₁ tk₁ a b c => wpAny_mono (turn n m₁ h₁ tk₁ a b c) (fun b s₂ h => by
    cases b with
    | false => exact h
    | true => exact wpAny_mono h (fun f s₃ h₃ => by cases f <;> first | exact h₃.out | exact h₃) fun _ _ e => e) fun _ _ e => e) hA
theorem execs_stop {M : Model} {A : Around} {env : Env} {st : Stmt} {rest : List Stmt} {Q : Flow → Shared → Prop} {E : Value → Shared → Prop} {s : Shared}
    (h : wpAny M A (exec st env) (fun f s' => match f with | .next => Stop (wpAny M A (execs rest env) Q E s') | f => Q f s') E s) : wpAny M A (execs (st :: rest) env) Q E s :=
  wpAny_execs_cons (wpAny_mono h (fun f s' x => by cases f <;> first | exact x.out | exact x) fun _ _ e => e)
theorem Fr.congr {g h : Heap} {L : Addr} {m m' : Str → Option Value} (F : Fr g L h m) (e : ∀ y, m y = m' y) : Fr g L h m' := (funext e : m = m') ▸ F
theorem root_node {prog : Program} {w : World} {t : Tr} {c : Ctx} {A : Around} {s : Shared} (hr : Rm A 4) (S : St w s.heap) (TT : TreeAt w.params s.heap (plug t c) .none) :
    PureRes prog w A s (.call (.ref 66) ⟨[.ref t.addr], []⟩) (fun v h' => v = .ref (plug t c).addr) := by
  intro R hR
  have ⟨X, p, loose, mg, mb, T, _⟩ := S
  refine' enterX [(Str.ofString "self", .ref t.addr)] X (TopRead.nolimit T) ?k6 ?k7 ?k8 ?k9 ?kB ?c1 ?c2 ?c3 ?c4 ?_
  (case k6 => k_is)
  (case k7 => k_is)
  (case k8 => exact (Rm.lt hr))
  (case k9 => first | exact BindsTo.of_eq rfl | exact binds_K (by k_in) rfl (by k_is) rfl rfl rfl)
  (case kB => exact locs rfl)
  (case c1 => decide)
  (case c2 => rfl)
  (case c3 => rfl)
  (case c4 => rfl)
  intro L' h₁ tk F N
  try dsimp only
  k_fold
  refine execs_stop ?_
  k_steps

  refine ⟨?_⟩
  rename_i h₂ F₂ N₂
  refine wpAny_execs_cons (while_st (fun k m => ∃ t' c', plug t' c' = plug t c ∧ c'.length = k ∧ m = fun y => if y = Str.ofString "scope" then some (.ref t'.addr) else List.lookup y [(Str.ofString "self", Value.ref t.addr)]) c.length ⟨t, c, rfl, rfl, rfl⟩ F₂ N₂ ?_ (hh_deeper hr))
  rintro n m₁ h₃ tk₃ ⟨t', c', hp, hl, rfl⟩ F₃ N₃
  clear F₂ N₂
  rw [← hp] at TT
  have T1 := ctx_tree _ _ TT
  cases c' with
  | nil =>
    unfold parV at T1
    k_steps
    rw [← hp] at hR
    exact hR _ _ _ (Fr.keep (by assumption)) rfl
  | cons u up =>
    unfold parV at T1
    k_steps
    refine ⟨?_⟩
    rename_i h₄ F₄ N₄
    refine ⟨up.length, _, _, _, rfl, by simp at hl; omega, ⟨.node u.x (u.ls ++ t' :: u.rs), up, hp, rfl, rfl⟩, Fr.congr F₄ (fun y => ?_), N₄⟩
    dsimp only [Tr.addr]
    split <;> rfl

theorem peek_one {α : Type} {K : Frag} {M : Model} {A : Around} {E : Value → Shared → Prop} {Q : α → Shared → Prop} {s : Shared} {o : Obj} {r : Addr → α} (X : K.In s.heap)
    (q : Q (r s.heap.objs.size) { s with heap := s.heap.push o }) :
    ∀ (t : Sem α) (g : Addr → Option α), peek1 K ⟨M.prog, M.w.params⟩ t = some (o, g) → (∀ D, g D = some (r D)) → wpAny M A t Q E s := by
  intro t
  induction t with
  | rule _ k ih => intro g e hg Γ p hΓ; exact ih () g e hg Γ p hΓ
  | point _ k ih => intro g e hg Γ p hΓ; exact ih () g e hg Γ p hΓ
  | ask k ih => intro g e hg Γ p hΓ; exact ih _ g e hg Γ p hΓ
  | load a _ k ih =>
    intro g e hg Γ p hΓ
    simp only [peek1] at e
    split at e
    · rename_i ob ho; exact ⟨ob, X _ _ ho, ih ob g e hg Γ p hΓ⟩
    · cases e
  | alloc ob k _ =>
    intro g e hg
    have e : some (ob, fun D => peek K ⟨M.prog, M.w.params⟩ (k D)) = some (o, g) := e
    obtain ⟨e1, e2⟩ := Prod.mk.inj (Option.some.inj e)
    subst e1
    subst e2
    have X' : K.In (s.heap.push ob) := X.keeps fun b x hb => Heap.get?_push_of_some _ hb
    show wpAny M A (alloc ob >>= k) Q E s
    refine wpAny_bind (wpAny_alloc ?_)
    exact (Looks.of_peek (M := M) (h := s.heap.push ob) X' (hg s.heap.objs.size)).here (s := { s with heap := s.heap.push ob }) q
  | _ => intro g e; cases e

theorem enterV {prog : Program} {w : World} {A : Around} {s : Shared} {K : Frag} {R : Result → Shared → Prop} {name qual : Str} {params : Arguments} {body : List Stmt} {scope : Scope} {cl : List (Str × Addr)} {dV kV doc pm cdv ct oc : Value} {an od : Option Addr} {osl : Array (Option Value)} {f : Addr} {args : Args} {vs : List Value} {g₁ : Addr → Option (List (Str × Value))} (binds : Addr → List (Str × Value))
    (X : K.In s.heap) (hlim : s.heap.NoLimit)
    (ho : K.lookup f = some ⟨oc, od, .func (fnX name qual params body scope cl dV kV doc pm an cdv ct), osl⟩) (hcd : codeIn K cdv qual = true) (hroom : A.depth < recursionLimit)
    (hp : peek1 K ⟨prog, w.params⟩ (bindArgs (fnX name qual params body scope cl dV kV doc pm an cdv ct) args) = some (({ cls := .type "tuple", data := .seq vs.toArray } : Obj), g₁))
    (hg : ∀ D, g₁ D = some (binds D)) (hloc : ∀ D, ∀ y ∈ binds D, scope.names.lookup y.1 = some .local)
    (hcell : ∀ x ∈ scope.names, x.2 ≠ .cell) (hco : scope.isCoroutine = false) (hgen : scope.isGenerator = false) (hk : scope.kind = .function)
    (h : ∀ L' h₁ tk D, Fr s.heap L' h₁ (fun y => (binds D).reverse.lookup y) → News s.heap L' h₁ [(D, ({ cls := .type "tuple", data := .seq vs.toArray } : Obj))] →
      wpAny (model prog w) (A.deeper (envX qual scope L' f cdv cl)) (execs body (envX qual scope L' f cdv cl))
        (fun fl s' => R (.ok (.ret (match fl with | .ret v => v | _ => .none))) s') (fun _ _ => False) { s with heap := h₁, toks := tk }) :
    codeAny (model prog w) A (.call (.ref f) args) R s := by
  refine codeAny_call_function (fd := fnX name qual params body scope cl dV kV doc pm an cdv ct) (body := body) hroom (X _ _ ho) rfl hco hgen rfl (codeRec_of X hcd) ?_
  refine peek_one (o := ({ cls := .type "tuple", data := .seq vs.toArray } : Obj)) X (r := binds) ?_ _ g₁ hp hg
  have kp : ∀ b o, s.heap.get? b = some o → (s.heap.push ({ cls := .type "tuple", data := .seq vs.toArray } : Obj)).get? b = some o := fun b o e => Heap.get?_push_of_some _ e
  refine wpAny_newFunctionEnv hcell (hloc _) (fun h₁ hns hsb => ⟨(hlim.keeps kp).fresh _ hsb, codeAny_func ?_⟩) hk
  have hk₁ : ∀ b o, (s.heap.push ({ cls := .type "tuple", data := .seq vs.toArray } : Obj)).get? b = some o → h₁.get? b = some o := fun b o e => hsb.extBut b o (Nat.ne_of_lt (Heap.lt_size e)) (Heap.get?_push_of_some _ e)
  refine wpAny_noRaise ?_
  refine h _ h₁ _ s.heap.objs.size ⟨hns, fun b o e => hk₁ b o (kp b o e), ?_⟩ ?_
  · show s.heap.objs.size ≤ (s.heap.push _).objs.size
    rw [Heap.size_push]; exact Nat.le_succ _
  · intro p hp
    rcases List.mem_singleton.mp hp with rfl
    refine ⟨hk₁ _ _ (Heap.get?_push_size _ rfl), ?_, ?_⟩
    · show s.heap.objs.size ≠ (s.heap.push _).objs.size
      rw [Heap.size_push]; exact Nat.ne_of_lt (Nat.lt_succ_self _)
    · cases q : s.heap.get? s.heap.objs.size with
      | none => rfl
      | some o => exact absurd (Heap.lt_size q) (Nat.lt_irrefl _)

noncomputable def hasKind (ks : List Str) (k : Str) : Bool := ks.any (· == k)
noncomputable def ancOf (ks : List Str) : Ctx → Value
  | [] => .none
  | u :: up => if hasKind ks u.x.kind then .ref u.x.a else ancOf ks up
theorem any_vals (ks : List (Str × Tok)) (k : Str) : (strValues ks).toArray.any (fun y => match y with | .str a _ => a == k | _ => false) = hasKind (ks.map (·.1)) k := by
  rw [← Array.any_toList]
  simp [strValues, hasKind, List.any_map]
  rfl
section
variable {prog : Program} {w : World} {A : Around} {E : Value → Shared → Prop} {s : Shared} {g : Heap} {L : Addr} {m : Str → Option Value} {news : List (Addr × Obj)}
theorem my_in {D : Addr} {ks : List (Str × Tok)} {n : Nat} {x : Str} {t : Tok} {b : Bool} {Q : Value → Shared → Prop} (N : News g L s.heap news) (hm : (D, ({ cls := .type "tuple", data := .seq (strValues ks).toArray n } : Obj)) ∈ news) (hb : hasKind (ks.map (·.1)) x = b) (h : Q (.bool b) s) :
    wpAny (model prog w) A (compareOp .In (.str x t) (.ref D)) Q E s := by
  refine PySem.SeqAt.in_tupleAt (fun y => match y with | .str a _ => a == x | _ => false) ⟨_, N.get hm, rfl, n, rfl⟩ (fun y hy => ?_) (by rw [any_vals, hb]; exact h)
  simp [strValues] at hy
  obtain ⟨a, u, _, rfl⟩ := hy
  exact PySem.SeqAt.EqAt.str_str a u x t
theorem w_parentN {expr : Bool} {Q : Value → Shared → Prop} {y : ND} {par : Value} {ks : List Value} (hp : handedIn par = true) (F : Fr g L s.heap m) (X : (hd.heap_1 w.params).In g) (T : NodeAt w.params g y par ks) (h : Q par { s with toks := s.toks + 1 }) : wpAny (model prog w) A (getAttr (.ref y.a) "parent" expr) Q E s :=
  ga_parentN hp (X.keeps F.keep) (T.keeps F.keep) h
end
theorem lines_U3_1 : True := by
  k_with_none
  k_with "getAttr ref" => (((with_reducible show wpAny _ _ (getAttr (Value.ref _) (PySem.Str.ofString "parent") _) _ _ _); (k_dflt (refine' w_parent ?P_4de ?F_4de ?X_4de ?T_4de ?_; (case F_4de => k_asm); (case X_4de => k_asm); (case T_4de => assumption); (case P_4de => first | rfl | exact parV_handed _); k_whole))))
  k_with "getAttr ref" => (((with_reducible show wpAny _ _ (getAttr (Value.ref _) (PySem.Str.ofString "type") _) _ _ _); (k_dflt (refine' w_type ?F_6db ?X_6db ?T_6db ?_; (case F_6db => k_asm); (case X_6db => k_asm); (case T_6db => assumption); k_whole))))
  trivial

theorem lines_U3_2 : True := by
  k_with "getAttr ref" => (((with_reducible show wpAny _ _ (getAttr (Value.ref _) (PySem.Str.ofString "parent") _) _ _ _); (k_dflt (refine' w_parentN ?P_80b ?F_80b ?X_80b ?T_80b ?_; (case F_80b => k_asm); (case X_80b => k_asm); (case T_80b => assumption); (case P_80b => first | rfl | exact parV_handed _); k_whole))))
  k_with "compareOp In str ref" => (((k_dflt (refine' my_in ?N_bb9 ?m_bb9 ?b_bb9 ?_; (case N_bb9 => k_asm); (case m_bb9 => k_mem); (case b_bb9 => assumption); k_whole))))
  trivial
theorem ancestor {prog : Program} {w : World} {t : Tr} {c : Ctx} {ks : List (Str × Tok)} {A : Around} {s : Shared} (hr : Rm A 4) (S : St w s.heap) (TT : TreeAt w.params s.heap (plug t c) .none) (hks : (∃ a u, ks = [(a, u)]) ∨ (∃ a u b v, ks = [(a, u), (b, v)]) ∨ ks = []) :
    PureRes prog w A s (.call (.ref 97) ⟨.ref t.addr :: strValues ks, []⟩) (fun v h' => v = ancOf (ks.map (·.1)) c) := by
  intro R hR
  have ⟨X, p, loose, mg, mb, T, _⟩ := S
  have T0 := ctx_tree _ _ TT
  refine' enterV (vs := strValues ks) (g₁ := fun D => some [(Str.ofString "self", .ref t.addr), (Str.ofString "node_types", .ref D)]) (fun D => [(Str.ofString "self", .ref t.addr), (Str.ofString "node_types", .ref D)]) X (TopRead.nolimit T) ?k6 ?k7 ?k8 ?kp ?kg ?kB ?c1 ?c2 ?c3 ?c4 ?_
  (case k6 => k_is)
  (case k7 => k_is)
  (case k8 => exact (Rm.lt hr))
  (case kp => obtain ⟨a, u, rfl⟩ | ⟨a, u, b, v, rfl⟩ | rfl := hks <;> exact rfl)
  (case kg => exact fun _ => rfl)
  (case kB => exact fun _ => locs rfl)
  (case c1 => decide)
  (case c2 => rfl)
  (case c3 => rfl)
  (case c4 => rfl)
  intro L' h₁ tk D F N
  try dsimp only
  k_fold
  refine execs_stop ?_
  k_steps
  refine ⟨?_⟩
  rename_i h₂ F₂ N₂
  refine wpAny_execs_cons (while_st (fun k m => ∃ t' c', plug t' c' = plug t c ∧ c'.length = k ∧ ancOf (ks.map (·.1)) c' = ancOf (ks.map (·.1)) c ∧ m = fun y => if y = Str.ofString "node" then some (parV c') else List.lookup y [(Str.ofString "self", Value.ref t.addr), (Str.ofString "node_types", Value.ref D)].reverse) c.length ⟨t, c, rfl, rfl, rfl, rfl⟩ F₂ N₂ ?_ (hh_deeper hr))
  rintro n m₁ h₃ tk₃ ⟨t', c', hp, hl, ha, rfl⟩ F₃ N₃
  clear F₂ N₂
  rw [← hp] at TT
  rw [← ha] at hR
  cases c' with
  | nil =>
    unfold parV at F₃
    k_steps
    exact hR _ _ _ (Fr.keep (by assumption)) rfl
  | cons u up =>
    have TN := ctx_node TT
    unfold parV at F₃
    rw [ancOf] at hR
    cases hk : hasKind (ks.map (·.1)) u.x.kind with
    | true =>
      rw [hk, if_pos rfl] at hR
      k_steps
      exact hR _ _ _ (Fr.keep (by assumption)) rfl
    | false =>
      rw [hk, if_neg (by decide)] at hR
      rw [ancOf, hk, if_neg (by decide)] at ha
      k_steps
      refine ⟨?_⟩
      rename_i h₄ F₄ N₄
      refine ⟨up.length, _, _, _, rfl, by simp at hl; omega, ⟨.node u.x (u.ls ++ t' :: u.rs), up, hp, rfl, ha, rfl⟩, Fr.congr F₄ (fun y => ?_), N₄⟩
      split <;> rfl

section
variable {prog : Program} {w : World} {A : Around} {R : Result → Shared → Prop} {s : Shared}
theorem compLoop_test {elt ct iter target : Expr} {scope : Scope} {pos : Pos} {it acc : Value} {env : Env} (I : Nat → Shared → Prop)
    (turn : ∀ n s, I n s → wpAny (model prog w) A (pyNext it) (fun r s₁ => match r with
      | none => R (.ok .next) s₁
      | some v => wpAny (model prog w) A (letOwnedTupleGo target it v) (fun _ s₁' => wpAny (model prog w) A (assign target env v) (fun _ s₂ =>
          wpAny (model prog w) A (isTrue ct env (eval ct env)) (fun ok s₃ => if ok = true then wpAny (model prog w) A (eval elt env) (fun x s₄ =>
              wpAny (model prog w) A (call (.builtin "list.append") [acc, x]) (fun _ s₅ => ∃ m, m < n ∧ I m s₅) (fun _ _ => False) s₄) (fun _ _ => False) s₃ else ∃ m, m < n ∧ I m s₃) (fun _ _ => False) s₂)
          (fun _ _ => False) s₁') (fun _ _ => False) s₁) (fun _ _ => False) s)
    (n : Nat) (h : I n s) : codeAny (model prog w) A (.compLoop (.ListComp elt [⟨target, iter, [ct], 0⟩] scope pos) 0 it acc env) R s := by
  refine codeAny_loop rfl I (fun n s hI => ?_) n h
  show wpAny _ A ((compTurn (.ListComp elt [⟨target, iter, [ct], 0⟩] scope pos) 0 it acc env).onRaise (fun x => do noteFrame x env; theTreesLotGoes x)) _ _ s
  refine wpAny_noted ?_
  rw [compTurn_list]
  refine wpAny_bind (wpAny_standAt (wpAny_bind (wpAny_mono (turn n s hI) (fun r s₁ h₁ => ?_) fun _ _ h' => h'.elim)))
  cases r with
  | none => exact wpAny_pure h₁
  | some v =>
    refine wpAny_bind (wpAny_mono h₁ (fun _ s₁' h₁' => ?_) fun _ _ h' => h'.elim)
    refine wpAny_bind (wpAny_mono h₁' (fun _ s₂ h₂ => wpAny_bind (wpAny_tests_one (wpAny_mono h₂ (fun ok s₃ h₃ => ?_) fun _ _ h' => h'.elim))) fun _ _ h' => h'.elim)
    cases ok with
    | false => exact wpAny_pure ⟨rfl, h₃⟩
    | true =>
      simp only [if_true] at h₃
      exact wpAny_bind (wpAny_bind (wpAny_mono h₃ (fun x s₄ h₄ => wpAny_bind (wpAny_mono h₄ (fun _ s₅ h₅ => wpAny_pure (wpAny_pure ⟨rfl, h₅⟩)) fun _ _ h' => h'.elim)) fun _ _ h' => h'.elim))
end
section
variable {prog : Program} {w : World} {A : Around} {E : Value → Shared → Prop} {s : Shared} {env : Env}
/-- what the walk of a comprehension over an enumerate stands on -/
structure CompSt (s₁ : Shared) (B e it l D C : Addr) (vs : List Value) (n : Nat) (P : Nat → List Value → Prop) (k i : Nat) (h : Heap) (ys : List Value) (m : Str → Option Value) : Prop where
  le : i ≤ n
  fuel : k = n + 1 - i
  len : ys.length ≤ i
  rel : P i ys
  st : (∃ old, IsEnum h e it (i : Int) old) ∧ (h.IsListIter it l i ∧ h.IsList l vs.toArray)
  ns : h.Ns C m
  acc : h.PlainList D ys.toArray
  base : ∀ b o, b < B → s₁.heap.get? b = some o → h.get? b = some o

theorem comp_enum {elt ct iter : Expr} {x x₂ : Str} {px px₂ tp : Pos} {tk0} {scope : Scope} {cl : List (Str × Addr)} {pos : Pos} {Q : Value → Shared → Prop} (hh : A.handled = none)
    (hclos : closureFor scope env = pure cl) (hcell : ∀ y ∈ scope.names, y.2 ≠ .cell) (hkind : scope.kind = .function)
    (hnames : ∀ y ∈ scope.names, y.2 = .local → scope.names.lookup y.1 = some .local) (hx : scope.names.lookup x = some .local) (hx₂ : scope.names.lookup x₂ = some .local) (hxx : x ≠ x₂)
    (h : wpAny (model prog w) A (eval iter env) (fun xv s₁ => ∃ (vs : List Value) (e it l B : Addr) (P : Nat → List Value → Prop), xv = .ref e ∧ IsEnum s₁.heap e it 0 .none ∧ s₁.heap.IsListIter it l 0 ∧ s₁.heap.IsList l vs.toArray ∧
      l < B ∧ B ≤ it ∧ it < e ∧ e < s₁.heap.objs.size ∧ vs.length ≤ 1000 ∧ P 0 [] ∧
      (∀ (i : Nat) v t hp tk C m ys, vs[i]? = some v → P i ys → hp.Ns C m → m x = some (.int i t) → m x₂ = some v → (∀ b o, b < B → s₁.heap.get? b = some o → hp.get? b = some o) →
        wpAny (model prog w) A (isTrue ct (compEnvC scope cl C env) (eval ct (compEnvC scope cl C env))) (fun ok s' => ∃ h' tk', s' = { s₁ with heap := h', toks := tk' } ∧ (∀ b o, hp.get? b = some o → h'.get? b = some o) ∧
          if ok = true then wpAny (model prog w) A (eval elt (compEnvC scope cl C env)) (fun y s'' => ∃ h'' tk'', s'' = { s₁ with heap := h'', toks := tk'' } ∧ (∀ b o, h'.get? b = some o → h''.get? b = some o) ∧ P (i + 1) (ys ++ [y])) (fun _ _ => False) s'
          else P (i + 1) ys) (fun _ _ => False) { s₁ with heap := hp, toks := tk }) ∧
      (∀ D h' tk ys, B ≤ D → h'.PlainList D ys.toArray → P vs.length ys → (∀ b o, b < B → s₁.heap.get? b = some o → h'.get? b = some o) → Q (.ref D) { s₁ with heap := h', toks := tk })) E s)
    (hs : ∀ x, foldedSetIterable iter env x = pure x := by intro _; rfl) :
    wpAny (model prog w) A (eval (.ListComp elt [⟨.Tuple [.Name x px, .Name x₂ px₂] tk0 tp, iter, [ct], 0⟩] scope pos) env) Q E s := by
  rw [eval_ListComp]
  refine wpAny_comprehension_free (use := none) rfl hs hclos hkind hnames (wpAny_mono h (fun xv s₁ h₁ => ?_) fun _ _ e => e)
  obtain ⟨vs, e, it, l, B, P, rfl, he, hit, hl, hlB, hBit, hite, hesz, hlen, hP0, body, fin⟩ := h₁
  refine wpAny_pyIter_enum he ?_
  refine wpAny_newObj_type (wpAny_newFunctionEnv hcell (by intro y hy; simp at hy) (fun h₁ hns₁ hsb₁ => ?_) hkind)
  dsimp only at hns₁ hsb₁ ⊢
  generalize hD : s₁.heap.objs.size = D at hns₁ hsb₁ ⊢
  generalize hH2 : s₁.heap.push { cls := .type "list", dict := none, data := .seq ([] : List Value).toArray } = H2 at hns₁ hsb₁ ⊢
  have hCs : H2.objs.size = D + 1 := by rw [← hH2, Heap.size_push, hD]
  generalize hC : H2.objs.size = C at hns₁ hsb₁ ⊢
  have hCD : C = D + 1 := by rw [← hC]; exact hCs
  have hDC : D ≠ C := by rw [hCD]; exact Nat.ne_of_lt (Nat.lt_succ_self _)
  have hle : l < it := Nat.lt_of_lt_of_le hlB hBit
  have heD : e < D := hD ▸ hesz
  have hDB : B ≤ D := Nat.le_of_lt (Nat.lt_of_le_of_lt hBit (Nat.lt_trans hite heD))
  have old : ∀ b o, s₁.heap.get? b = some o → h₁.get? b = some o := fun b o e => by
    have hb : b < D := hD ▸ Heap.lt_size e
    refine hsb₁.extBut b o (Nat.ne_of_lt ?_) (Heap.get?_push_of_some _ (hH2 ▸ Heap.get?_push_of_some _ e))
    rw [hCD]; exact Nat.lt_succ_of_lt hb
  have hacc : h₁.PlainList D ([] : List Value).toArray := ⟨_, hsb₁.extBut _ _ hDC (Heap.get?_push_of_some _ (by rw [← hH2, ← hD]; exact Heap.get?_push_size _ rfl))⟩
  have W := WalksT.enumerateD (Draws.list (prog := prog) (w := w) (A := A.in1) hh it l (Nat.ne_of_lt hle) vs.toArray) e (Nat.ne_of_gt hite) (by
    intro hm
    rcases List.mem_cons.mp hm with q | hm
    · exact Nat.ne_of_gt hite q
    · exact Nat.ne_of_gt (Nat.lt_trans hle hite) (List.mem_singleton.mp hm)) (by simp)
  have hst0 : (∃ old, IsEnum h₁ e it ((0 : Nat) : Int) old) ∧ (h₁.IsListIter it l 0 ∧ h₁.IsList l vs.toArray) := ⟨⟨_, by simpa using old _ _ he⟩, hit.at fun o e => old _ o e, hl.at fun o e => old _ o e⟩
  have kind2 : (compEnvC scope cl C env).scope.kind = .function := hkind
  have loop : ∀ s₃ : Shared, s₃ = { s₁ with heap := h₁, toks := s₁.toks + ([] : List (Str × Value)).length } →
      codeAny (model prog w) A (.compLoop (.ListComp elt [⟨.Tuple [.Name x px, .Name x₂ px₂] tk0 tp, iter, [ct], 0⟩] scope pos) 0 (.ref e) (.ref D) (compEnvC scope cl C env))
        (compPost (model prog w) A E none Q (.ref D) C) s₃ := by
    rintro s₃ rfl
    refine compLoop_test (fun k s' => ∃ h' tk i ys m', s' = { s₁ with heap := h', toks := tk } ∧ CompSt s₁ B e it l D C vs vs.length P k i h' ys m') ?_ (vs.length + 1)
      ⟨h₁, _, 0, [], _, rfl, ⟨Nat.zero_le _, rfl, Nat.le_refl _, hP0, hst0, hns₁, hacc, fun b o _ e => old b o e⟩⟩
    rintro k s' ⟨h', tk, i, ys, m', rfl, c⟩
    by_cases hlt : i < vs.length
    · refine W.item i _ _ _ (by simpa using hlt) c.st fun T vals h₂ tk₂ hPt hT₀ hT hMid hk₂ => ?_
      obtain ⟨t, v, hv, rfl⟩ := hPt
      have hv' : vs[i]? = some v := by simpa using hv
      refine W.go _ _ _ i T _ _ _ hMid fun h₃ hst₃ hk₃ => ?_
      have ht₃ : h₃.IsTuple T #[.int i t, v] := hT.at fun o e => hk₃ T o (W.apart i T h₂ hMid) e
      refine wpAny_assign_Tuple hh ht₃ rfl rfl fun h₄ hx₄ => ?_
      replace hx₄ : Heap.ExtBut h₃.objs.size h₃ h₄ := hx₄
      have up₄ : ∀ b o, h₃.get? b = some o → h₄.get? b = some o := fun b o x => hx₄ b o (Nat.ne_of_lt (Heap.lt_size x)) x
      have nwr : ∀ b, b ≠ e → b ≠ it → ∀ o, h'.get? b = some o → h₄.get? b = some o := fun b h1 h2 o x => up₄ b o (hk₃ b o (by simp [h1, h2]) (hk₂ b o (by simp [h1, h2]) x))
      have hCe : C ≠ e := Nat.ne_of_gt (hCD ▸ Nat.lt_succ_of_lt heD)
      have hCit : C ≠ it := Nat.ne_of_gt (hCD ▸ Nat.lt_succ_of_lt (Nat.lt_trans hite heD))
      have hDe : D ≠ e := Nat.ne_of_gt heD
      have hDit : D ≠ it := Nat.ne_of_gt (Nat.lt_trans hite heD)
      have ns₄ := c.ns.at' (h' := h₄) fun o x => nwr C hCe hCit o x
      show wpAny _ A (do holding [v] (assign (.Name x px) (compEnvC scope cl C env) (.int i t)); do holding [] (assign (.Name x₂ px₂) (compEnvC scope cl C env) v); pure ()) _ _ _
      refine wpAny_bind (wpAny_holding (wpAny_assign_Name (wpAny_storeName_local (lookup_relabel_local hx) ns₄ (fun h₅ hn₅ hs₅ => ?_) (by simp [compEnvC, relabel, hkind]))))
      refine wpAny_bind (wpAny_holding (wpAny_assign_Name (wpAny_storeName_local (lookup_relabel_local hx₂) hn₅ (fun h₆ hn₆ hs₆ => wpAny_pure ?_) (by simp [compEnvC, relabel, hkind]))))
      have up₆ : ∀ b o, b ≠ C → h₄.get? b = some o → h₆.get? b = some o := fun b o hb x => hs₆.extBut b o hb (hs₅.extBut b o hb x)
      have base₆ : ∀ b o, b < B → s₁.heap.get? b = some o → h₆.get? b = some o := fun b o hb x => by
        have hbit : b < it := Nat.lt_of_lt_of_le hb hBit
        have hbD : b < D := Nat.lt_of_lt_of_le hb hDB
        exact up₆ b o (Nat.ne_of_lt (hCD ▸ Nat.lt_succ_of_lt hbD)) (nwr b (Nat.ne_of_lt (Nat.lt_trans hbit hite)) (Nat.ne_of_lt hbit) o (c.base b o hb x))
      have hstf : ∀ hz : Heap, (∀ b ∈ e :: [it, l], ∀ o, h₃.get? b = some o → hz.get? b = some o) → (∃ old, IsEnum hz e it ((i + 1 : Nat) : Int) old) ∧ (hz.IsListIter it l (i + 1) ∧ hz.IsList l vs.toArray) := fun hz hk => W.frame _ _ _ hst₃ hk
      have hfp : ∀ b ∈ e :: [it, l], b ≠ C ∧ b ≠ D := by
        intro b hb
        rcases List.mem_cons.mp hb with rfl | hb
        · exact ⟨Ne.symm hCe, Ne.symm hDe⟩
        · rcases List.mem_cons.mp hb with rfl | hb
          · exact ⟨Ne.symm hCit, Ne.symm hDit⟩
          · rw [List.mem_singleton.mp hb]
            have hlD : l < D := Nat.lt_trans hle (Nat.lt_trans hite heD)
            exact ⟨Nat.ne_of_lt (hCD ▸ Nat.lt_succ_of_lt hlD), Nat.ne_of_lt hlD⟩
      have hacc₆ : h₆.PlainList D ys.toArray := c.acc.at fun o x => up₆ D o hDC (nwr D hDe hDit o x)
      have hm1 : (fun y => if y = x₂ then some v else if y = x then some (Value.int i t) else m' y) x = some (.int i t) := by simp [hxx]
      refine wpAny_mono (body i v t h₆ _ C _ ys hv' c.rel hn₆ hm1 (by simp) base₆) (fun ok s₇ h₇ => ?_) fun _ _ x => x
      obtain ⟨h₇', tk₇, rfl, g₇, q₇⟩ := h₇
      cases ok with
      | false =>
        simp only [Bool.false_eq_true, if_false] at q₇ ⊢
        exact ⟨vs.length + 1 - (i + 1), by rw [c.fuel]; omega, h₇', tk₇, i + 1, ys, _, rfl, hlt, rfl, Nat.le_succ_of_le c.len, q₇,
          hstf _ fun b hb o x => g₇ b o (up₆ b o (hfp b hb).1 (up₄ b o x)), hn₆.keeps g₇, hacc₆.at fun o x => g₇ D o x, fun b o hb x => g₇ b o (base₆ b o hb x)⟩
      | true =>
        simp only [if_true] at q₇ ⊢
        refine wpAny_mono q₇ (fun y s₈ h₈ => ?_) fun _ _ x => x
        obtain ⟨h₈', tk₈, rfl, g₈, p₈⟩ := h₈
        refine wpAny_list_append_plain ((hacc₆.at fun o x => g₇ D o x).at fun o x => g₈ D o x) (fun h₉ hp₉ hs₉ => ?_) (by
          have : 1000 ≤ sizeLine := by decide
          have := c.len
          simp; omega)
        refine ⟨vs.length + 1 - (i + 1), by rw [c.fuel]; omega, h₉, tk₈, i + 1, ys ++ [y], _, rfl, hlt, rfl, by simp; exact c.len, p₈,
          hstf _ fun b hb o x => hs₉.extBut b o (hfp b hb).2 (g₈ b o (g₇ b o (up₆ b o (hfp b hb).1 (up₄ b o x)))), ((hn₆.keeps g₇).keeps g₈).sameBut hs₉ (Ne.symm hDC), by simpa using hp₉, fun b o hb x => ?_⟩
        exact hs₉.extBut b o (Nat.ne_of_lt (Nat.lt_of_lt_of_le hb hDB)) (g₈ b o (g₇ b o (base₆ b o hb x)))
    · have hin : i = vs.length := Nat.le_antisymm c.le (Nat.not_lt.mp hlt)
      subst hin
      refine W.done _ _ _ (by simpa using c.st) fun h₂ tk₂ hk₂ => ?_
      have nwr : ∀ b, b ≠ e → b ≠ it → ∀ o, h'.get? b = some o → h₂.get? b = some o := fun b h1 h2 o x => hk₂ b o (by simp [h1, h2]) x
      have hCe : C ≠ e := Nat.ne_of_gt (hCD ▸ Nat.lt_succ_of_lt heD)
      have hCit : C ≠ it := Nat.ne_of_gt (hCD ▸ Nat.lt_succ_of_lt (Nat.lt_trans hite heD))
      refine ⟨m', c.ns.at' fun o x => nwr C hCe hCit o x, fun h'' hs'' => fin D h'' tk₂ ys hDB ?_ c.rel fun b o hb x => ?_⟩
      · exact c.acc.at fun o x => hs''.extBut D o hDC (nwr D (Nat.ne_of_gt heD) (Nat.ne_of_gt (Nat.lt_trans hite heD)) o x)
      · have hbit : b < it := Nat.lt_of_lt_of_le hb hBit
        exact hs''.extBut b o (Nat.ne_of_lt (hCD ▸ Nat.lt_succ_of_lt (Nat.lt_of_lt_of_le hb hDB))) (nwr b (Nat.ne_of_lt (Nat.lt_trans hbit hite)) (Nat.ne_of_lt hbit) o (c.base b o hb x))
  exact codeAny_compStart_list (loop _ rfl) (W.self 0 _ _ _ hst0 (loop _ rfl))
end

theorem enterC {prog : Program} {w : World} {A : Around} {s : Shared} {K : Frag} {R : Result → Shared → Prop} {name qual : Str} {params : Arguments} {body : List Stmt} {scope : Scope} {dV kV doc pm cdv ct oc : Value} {an od : Option Addr} {osl : Array (Option Value)} {f : Addr} {args : Args} (binds : List (Str × Value))
    (X : K.In s.heap) (hlim : s.heap.NoLimit)
    (ho : K.lookup f = some ⟨oc, od, .func (fnX name qual params body scope [] dV kV doc pm an cdv ct), osl⟩) (hcd : codeIn K cdv qual = true) (hroom : A.depth < recursionLimit)
    (hbind : BindsTo s (fnX name qual params body scope [] dV kV doc pm an cdv ct) args binds)
    (hkind : ∀ n, ∀ x ∈ binds, scope.names.lookup x.1 = some .local ∨ (scope.names.lookup x.1 = some .cell ∧ ((cellsFrom n scope.names []).lookup x.1).isSome = true))
    (hnd : ((cellsFrom 0 scope.names []).map (·.1)).Nodup) (hco : scope.isCoroutine = false) (hgen : scope.isGenerator = false) (hk : scope.kind = .function)
    (h : ∀ L' h₁ tk cells, Fr s.heap L' h₁ (bindL (envOfC qual scope L' f cdv).kindOf binds fun _ => none) → News s.heap L' h₁ cells →
      CellsAre (bindC (envOfC qual scope L' f cdv).kindOf binds fun _ => none) (cellsFrom (L' + 1) scope.names []) cells →
      wpAny (model prog w) (A.deeper (envOfC qual scope L' f cdv)) (execs body (envOfC qual scope L' f cdv))
        (fun fl s' => R (.ok (.ret (match fl with | .ret v => v | _ => .none))) s') (fun _ _ => False) { s with heap := h₁, toks := tk }) :
    codeAny (model prog w) A (.call (.ref f) args) R s := by
  refine codeAny_call_function (fd := fnX name qual params body scope [] dV kV doc pm an cdv ct) (body := body) hroom (X _ _ ho) rfl hco hgen rfl (codeRec_of X hcd) (hbind _ _ _ _ ?_)
  refine wpAny_newFunctionEnv_cells hk (hkind _) fun env' he s' x => ?_
  subst he
  refine ⟨hlim.keeps x.toInCall.keep, codeAny_func ?_⟩
  obtain ⟨h₁, tk, rfl, _⟩ := x.done
  have hk₁ := x.toInCall.keep
  obtain ⟨cells, NC, Y⟩ := Cl.news (h₀ := s.heap) (Nat.le_refl _) fun n c hm => ⟨x.cell n c (lookup_of_mem_nodup (cellsFrom_names scope.names 0 (s.heap.objs.size + 1) [] [] rfl ▸ hnd) hm), x.above n c hm⟩
  exact wpAny_noRaise (h s.heap.objs.size h₁ tk cells ⟨x.toInCall.ns, hk₁, Nat.le_refl _⟩ NC Y)
theorem while_n {prog : Program} {w : World} {A : Around} {s : Shared} {Q : Flow → Shared → Prop} {env : Env} {test : Expr} {body : List Stmt} {pos : Pos} {g : Heap} {L : Addr} {m : Str → Option Value} {news : List (Addr × Obj)}
    (J : Nat → (Str → Option Value) → List (Addr × Obj) → Prop) (n : Nat) (hJ : J n m news) (F : Fr g L s.heap m) (N : News g L s.heap news)
    (turn : ∀ K : Nat → Shared → Prop, (∀ n s₃, (∃ n' m₂ news₂ h₂ tk₂, s₃ = { s with heap := h₂, toks := tk₂ } ∧ n' < n ∧ J n' m₂ news₂ ∧ Fr g L h₂ m₂ ∧ News g L h₂ news₂) → K n s₃) → ∀ n m₁ news₁ h₁ tk₁, J n m₁ news₁ → Fr g L h₁ m₁ → News g L h₁ news₁ → wpAny (model prog w) A (isTrue test env (eval test env)) (fun b s₂ =>
        if b then wpAny (model prog w) A (execs body env) (fun f s₃ => match f with
            | .next => Stop (K n s₃)
            | .cont => Stop (K n s₃)
            | .brk => Q .next s₃
            | .ret v => Q (.ret v) s₃) (fun _ _ => False) s₂
        else Q .next s₂) (fun _ _ => False) { s with heap := h₁, toks := tk₁ }) (hA : A.handled = none) :
    wpAny (model prog w) A (exec (.While test body [] pos) env) Q (fun _ _ => False) s := by
  rw [exec_While]
  refine wpAny_bind (wpAny_standAt (wpAny_runOwn ?_))
  have e : A.mark none = A := by cases A; rfl
  rw [e]
  refine codeAny_whileLoop (fun n s' => ∃ m₁ news₁ h₁ tk₁, s' = { s with heap := h₁, toks := tk₁ } ∧ J n m₁ news₁ ∧ Fr g L h₁ m₁ ∧ News g L h₁ news₁) ?_ n ⟨m, news, s.heap, s.toks, rfl, hJ, F, N⟩
  rintro n s' ⟨m₁, news₁, h₁, tk₁, rfl, hJ₁, F₁, N₁⟩
  refine wpAny_mono (turn (fun n s₃ => ∃ n' m₂ news₂ h₂ tk₂, s₃ = { s with heap := h₂, toks := tk₂ } ∧ n' < n ∧ J n' m₂ news₂ ∧ Fr g L h₂ m₂ ∧ News g L h₂ news₂) (fun _ _ h => h) n m₁ news₁ h₁ tk₁ hJ₁ F₁ N₁) (fun b s₂ h₂ => ?_) fun _ _ x => x.elim
  cases b with
  | false =>
    simp only [Bool.false_eq_true, if_false] at h₂ ⊢
    exact wpAny_execs_nil h₂
  | true =>
    simp only [if_true] at h₂ ⊢
    refine wpAny_mono h₂ (fun f s₃ h₃ => ?_) fun _ _ x => x.elim
    cases f with
    | next => obtain ⟨n', m₂, news₂, h₂', tk₂, rfl, hlt, hJ', F', N'⟩ := h₃.out; exact ⟨n', hlt, m₂, news₂, h₂', tk₂, rfl, hJ', F', N'⟩
    | cont => obtain ⟨n', m₂, news₂, h₂', tk₂, rfl, hlt, hJ', F', N'⟩ := h₃.out; exact ⟨n', hlt, m₂, news₂, h₂', tk₂, rfl, hJ', F', N'⟩
    | brk => exact h₃
    | ret v => exact h₃
theorem lines_U4_1 : True := by
  k_with_none
  k_with "getAttr ref" => (((with_reducible show wpAny _ _ (getAttr (Value.ref _) (PySem.Str.ofString "parent") _) _ _ _); (k_dflt (refine' w_parent ?P_4de ?F_4de ?X_4de ?T_4de ?_; (case F_4de => k_asm); (case X_4de => k_asm); (case T_4de => assumption); (case P_4de => first | rfl | exact parV_handed _); k_whole))))
  k_with "getAttr ref" => (((with_reducible show wpAny _ _ (getAttr (Value.ref _) (PySem.Str.ofString "children") _) _ _ _); (k_dflt (refine' w_children ?F_c81 ?X_c81 ?T_c81 ?_; (case F_c81 => k_asm); (case X_c81 => k_asm); (case T_c81 => assumption); k_whole))))
  trivial

theorem prev_leaf0 {prog : Program} {w : World} {t : Tr} {A : Around} {s : Shared} (hr : Rm A 4) (S : St w s.heap) (T0 : TreeAt w.params s.heap t .none) :
    PureRes prog w A s (.call (.ref 85) ⟨[.ref t.addr], []⟩) (fun v h' => v = .none) := by
  intro R hR
  have ⟨X, p, loose, mg, mb, T, _⟩ := S
  refine' enterC [(Str.ofString "self", .ref t.addr)] X (TopRead.nolimit T) ?k6 ?k7 ?k8 ?k9 ?kB ?kD ?c2 ?c3 ?c4 ?_
  (case k6 => k_is)
  (case k7 => k_is)
  (case k8 => exact (Rm.lt hr))
  (case k9 => first | exact BindsTo.of_eq rfl | exact binds_K (by k_in) rfl (by k_is) rfl rfl rfl)
  (case kB => exact kindsX rfl)
  (case kD => decide +kernel)
  (case c2 => rfl)
  (case c3 => rfl)
  (case c4 => rfl)
  intro L' h₁ tk cells F N Y
  k_cells Y
  try simp only [List.cons_append, List.nil_append] at N
  try dsimp only
  try k_fold
  k_steps
  exact hR _ _ _ (Fr.keep (by assumption)) rfl
theorem comp_stop {prog : Program} {w : World} {A : Around} {E : Value → Shared → Prop} {s : Shared} {env : Env} {elt ct iter : Expr} {x x₂ : Str} {px px₂ tp : Pos} {tk0} {scope : Scope} {cl : List (Str × Addr)} {pos : Pos} {Q : Value → Shared → Prop} (hh : A.handled = none)
    (hclos : closureFor scope env = pure cl) (hcell : ∀ y ∈ scope.names, y.2 ≠ .cell) (hkind : scope.kind = .function)
    (hnames : ∀ y ∈ scope.names, y.2 = .local → scope.names.lookup y.1 = some .local) (hx : scope.names.lookup x = some .local) (hx₂ : scope.names.lookup x₂ = some .local) (hxx : x ≠ x₂)
    (h : wpAny (model prog w) A (eval iter env) (fun xv s₁ => Stop (∃ (vs : List Value) (e it l B : Addr) (P : Nat → List Value → Prop), xv = .ref e ∧ IsEnum s₁.heap e it 0 .none ∧ s₁.heap.IsListIter it l 0 ∧ s₁.heap.IsList l vs.toArray ∧
      l < B ∧ B ≤ it ∧ it < e ∧ e < s₁.heap.objs.size ∧ vs.length ≤ 1000 ∧ P 0 [] ∧
      (∀ (i : Nat) v t hp tk C m ys, vs[i]? = some v → P i ys → hp.Ns C m → m x = some (.int i t) → m x₂ = some v → (∀ b o, b < B → s₁.heap.get? b = some o → hp.get? b = some o) →
        wpAny (model prog w) A (isTrue ct (compEnvC scope cl C env) (eval ct (compEnvC scope cl C env))) (fun ok s' => ∃ h' tk', s' = { s₁ with heap := h', toks := tk' } ∧ (∀ b o, hp.get? b = some o → h'.get? b = some o) ∧
          if ok = true then wpAny (model prog w) A (eval elt (compEnvC scope cl C env)) (fun y s'' => ∃ h'' tk'', s'' = { s₁ with heap := h'', toks := tk'' } ∧ (∀ b o, h'.get? b = some o → h''.get? b = some o) ∧ P (i + 1) (ys ++ [y])) (fun _ _ => False) s'
          else P (i + 1) ys) (fun _ _ => False) { s₁ with heap := hp, toks := tk }) ∧
      (∀ D h' tk ys, B ≤ D → h'.PlainList D ys.toArray → P vs.length ys → (∀ b o, b < B → s₁.heap.get? b = some o → h'.get? b = some o) → Q (.ref D) { s₁ with heap := h', toks := tk }))) E s)
    (hs : ∀ x, foldedSetIterable iter env x = pure x := by intro _; rfl) :
    wpAny (model prog w) A (eval (.ListComp elt [⟨.Tuple [.Name x px, .Name x₂ px₂] tk0 tp, iter, [ct], 0⟩] scope pos) env) Q E s := comp_enum hh hclos hcell hkind hnames hx hx₂ hxx (wpAny_mono h (fun _ _ x => x.out) fun _ _ e => e) hs
theorem lines_U4_2 : True := by
  k_with "eval ListComp" => ((k_dflt (refine' comp_stop ?hh_eb7 ?cl_eb7 ?c1_eb7 ?c2_eb7 ?c3_eb7 ?c4_eb7 ?c5_eb7 ?c6_eb7 ?_ ?hs_eb7; (case hh_eb7 => exact hh_deeper (by assumption)); (case cl_eb7 => exact rfl); (case c1_eb7 => decide); (case c2_eb7 => exact rfl); (case c3_eb7 => decide); (case c4_eb7 => exact rfl); (case c5_eb7 => exact rfl); (case c6_eb7 => decide); (case hs_eb7 => intro _; rfl); k_whole)))
  trivial
theorem enum_stop {prog : Program} {w : World} {A : Around} {E : Value → Shared → Prop} {s : Shared} {g : Heap} {L l : Addr} {m : Str → Option Value} {vs : List Value} {Q : Value → Shared → Prop} (hl : g.IsList l vs.toArray) (F : Fr g L s.heap m)
    (h : ∀ h', IsEnum h' (s.heap.objs.size + 1) s.heap.objs.size 0 .none → h'.IsListIter s.heap.objs.size l 0 → h'.objs.size = s.heap.objs.size + 2 → (∀ b o, s.heap.get? b = some o → h'.get? b = some o) → Stop (Q (.ref (s.heap.objs.size + 1)) { s with heap := h' })) :
    wpAny (model prog w) A (call (.type "enumerate") [.ref l]) Q E s := call_enumerate_list (isList_keeps hl F.keep) fun h' a b c d => (h h' a b c d).out
theorem lines_U4_3 : True := by
  k_with "call type:enumerate" => (((k_dflt (refine' enum_stop ?hl_230 ?F_230 ?_; (case F_230 => k_asm); (case hl_230 => assumption); k_whole; intro _ _ _ _ _))))
  trivial
theorem t_item {prog : Program} {w : World} {A : Around} {E : Value → Shared → Prop} {s : Shared} {Q : Value → Shared → Prop} {l : Addr} {v : Value} {u : Tok} {value slice : Expr} (hl : s.heap.PlainList l [v].toArray) (h : Q v s)
    (hs : subscripted slice false (.ref l) (.int 0 u) = operate [.ref l, .int 0 u] (getItem (.ref l) (.int 0 u)) := by with_unfolding_all rfl) :
    wpAny (model prog w) A (subscriptTail value slice (.ref l) (.int 0 u)) Q E s :=
  tail_any hl.isList.typeIs slot_list_getitem.lookup (wpAny_getItem_list hl.isList (by decide) (by decide) rfl h) hs
theorem lines_U4_4 : True := by
  k_with "subscriptTail" => (((with_reducible show wpAny _ _ (subscriptTail (Expr.ListComp _ _ _ _) _ (Value.ref _) (Value.int 0 _)) _ _ _); (k_dflt (refine' t_item ?H_769 ?_; (case H_769 => assumption); k_whole))))
  trivial
theorem kids_get3 {u : Up} {t : Tr} {i : Nat} {v : Value} (hi : (u.ls.map (fun t => Value.ref t.addr) ++ Value.ref t.addr :: u.rs.map (fun t => Value.ref t.addr))[i]? = some v) : (i = u.ls.length ∧ v = .ref t.addr) ∨ (i ≠ u.ls.length ∧ ∃ b, (b ∈ u.ls ∨ b ∈ u.rs) ∧ v = .ref b.addr) := by
  rcases Nat.lt_trichotomy i u.ls.length with h | h | h
  · obtain ⟨b, hb, e⟩ := (kids_get hi).1 h
    exact .inr ⟨Nat.ne_of_lt h, b, .inl hb, e⟩
  · exact .inl ⟨h, (kids_get hi).2 h⟩
  · refine .inr ⟨Nat.ne_of_gt h, ?_⟩
    rw [List.getElem?_append_right (by simp; omega)] at hi
    obtain ⟨j, hj⟩ : ∃ j, i - (u.ls.map (fun t => Value.ref t.addr)).length = j + 1 := ⟨i - u.ls.length - 1, by simp; omega⟩
    rw [hj] at hi
    simp at hi
    obtain ⟨b, e, q⟩ := hi
    exact ⟨b, .inr (List.mem_of_getElem? e), q.symm⟩
section
variable {prog : Program} {w : World} {A : Around} {E : Value → Shared → Prop} {s : Shared} {Q : Value → Shared → Prop} {g : Heap} {L : Addr} {m : Str → Option Value} {x : LD} {y : ND} {par : Value} {ks : List Value}
theorem isi_leaf_yes (F : Fr g L s.heap m) (X : (hd.heap_1 w.params).In g) (T : LeafAt w.params g x par) (h : Q (.bool true) s) : wpAny (model prog w) A (call (.builtin "isinstance") [.ref x.a, .ref 176]) Q E s :=
  isi_call (X.keeps F.keep) (fun M => InstAt.type (T.keeps F.keep).at) (by obtain ⟨_, _, c, _⟩ := x; cases c <;> kernel_rfl!) (by intro e; cases e) h
theorem isi_node_yes (F : Fr g L s.heap m) (X : (hd.heap_1 w.params).In g) (T : NodeAt w.params g y par ks) (h : Q (.bool true) s) : wpAny (model prog w) A (call (.builtin "isinstance") [.ref y.a, .ref 276]) Q E s :=
  isi_call (X.keeps F.keep) (fun M => InstAt.type (T.keeps F.keep).at) (by obtain ⟨_, _, _, c, _⟩ := y; cases c <;> kernel_rfl!) (by intro e; cases e) h
theorem isi_node_no (F : Fr g L s.heap m) (X : (hd.heap_1 w.params).In g) (T : NodeAt w.params g y par ks) (h : Q (.bool false) { s with toks := s.toks + 1 }) : wpAny (model prog w) A (call (.builtin "isinstance") [.ref y.a, .ref 176]) Q E s :=
  kin_callC (X.keeps F.keep) (T.keeps F.keep).at (by obtain ⟨_, _, _, c, _⟩ := y; cases c <;> kernel_rfl!) (by obtain ⟨_, _, _, c, _⟩ := y; cases c <;> kernel_rfl!) (by obtain ⟨_, _, _, c, _⟩ := y; cases c <;> kernel_rfl!) (by obtain ⟨_, _, _, c, _⟩ := y; cases c <;> kernel_rfl!) (by kernel_rfl!) (by kernel_rfl!) (by obtain ⟨_, _, _, c, _⟩ := y; cases c <;> kernel_rfl!) h
theorem isi_leaf_no (F : Fr g L s.heap m) (X : (hd.heap_1 w.params).In g) (T : LeafAt w.params g x par) (h : Q (.bool false) { s with toks := s.toks + 1 }) : wpAny (model prog w) A (call (.builtin "isinstance") [.ref x.a, .ref 276]) Q E s :=
  kin_callC (X.keeps F.keep) (T.keeps F.keep).at (by obtain ⟨_, _, c, _⟩ := x; cases c <;> kernel_rfl!) (by obtain ⟨_, _, c, _⟩ := x; cases c <;> kernel_rfl!) (by obtain ⟨_, _, c, _⟩ := x; cases c <;> kernel_rfl!) (by obtain ⟨_, _, c, _⟩ := x; cases c <;> kernel_rfl!) (by kernel_rfl!) (by kernel_rfl!) (by obtain ⟨_, _, c, _⟩ := x; cases c <;> kernel_rfl!) h
end
noncomputable def Good1 (v : Up) : Prop := v.ls.length + v.rs.length ≤ 100 ∧ ∀ b, b ∈ v.ls ∨ b ∈ v.rs → full b
noncomputable def prevOf : Ctx → Value
  | [] => .none
  | u :: up => match u.ls.getLast? with
    | none => prevOf up
    | some b => .ref (lastOf b).a
theorem lines_U4_5 : True := by
  k_with "getAttr ref" => (((with_reducible show wpAny _ _ (getAttr (Value.ref _) (PySem.Str.ofString "parent") _) _ _ _); (k_dflt (refine' w_parentN ?P_80b ?F_80b ?X_80b ?T_80b ?_; (case F_80b => k_asm); (case X_80b => k_asm); (case T_80b => assumption); (case P_80b => first | rfl | exact parV_handed _); k_whole))))
  k_with "subscriptTail" => (((with_reducible show wpAny _ _ (subscriptTail (Expr.Name _ _) _ (Value.ref _) (Value.int _ _)) _ _ _); (k_dflt (refine' l_item ?F_e15 ?T_e15 ?V_e15 ?Z_e15 ?Y_e15 ?_; (case F_e15 => k_asm); (case T_e15 => assumption); (case V_e15 => assumption); (case Z_e15 => first | assumption | omega); (case Y_e15 => first | assumption | omega); k_whole))))
  k_with "call builtin:isinstance" => (((k_dflt (first | (refine' isi_leaf_yes ?F_e16 ?X_e16 ?T_e16 ?_; (case F_e16 => k_asm); (case X_e16 => k_asm); (case T_e16 => assumption); k_whole) | (refine' isi_node_no ?F_e16 ?X_e16 ?T_e16 ?_; (case F_e16 => k_asm); (case X_e16 => k_asm); (case T_e16 => assumption); k_whole)))))
  k_with "subscriptTail" => (((with_reducible show wpAny _ _ (subscriptTail _ _ (Value.ref _) (Value.int (-1) _)) _ _ _); (k_dflt (refine' sub_last ?F_b5f ?T_b5f ?V_b5f ?_; (case F_b5f => k_asm); (case T_b5f => assumption); (case V_b5f => assumption); k_whole))))
  trivial
theorem prev_leaf1 {prog : Program} {w : World} {t : Tr} {u : Up} {up : Ctx} {A : Around} {s : Shared} (hr : Rm A 4) (S : St w s.heap) (TT : TreeAt w.params s.heap (plug t (u :: up)) .none) (nd : (plug t (u :: up)).addrs.Nodup) (hw : ∀ v ∈ u :: up, Good1 v) :
    PureRes prog w A s (.call (.ref 85) ⟨[.ref t.addr], []⟩) (fun v h' => v = prevOf (u :: up)) := by
  intro R hR
  have ⟨X, p, loose, mg, mb, T, _⟩ := S
  have T0 := ctx_tree _ _ TT
  have T1 := ctx_node TT
  unfold parV at T0
  refine' enterC [(Str.ofString "self", .ref t.addr)] X (TopRead.nolimit T) ?k6 ?k7 ?k8 ?k9 ?kB ?kD ?c2 ?c3 ?c4 ?_
  (case k6 => k_is)
  (case k7 => k_is)
  (case k8 => exact (Rm.lt hr))
  (case k9 => first | exact BindsTo.of_eq rfl | exact binds_K (by k_in) rfl (by k_is) rfl rfl rfl)
  (case kB => exact kindsX rfl)
  (case kD => decide +kernel)
  (case c2 => rfl)
  (case c3 => rfl)
  (case c4 => rfl)
  intro L' h₁ tk cells F N Y
  k_cells Y
  try simp only [List.cons_append, List.nil_append] at N
  try dsimp only
  try k_fold
  refine execs_stop ?_
  k_steps
  refine ⟨?_⟩
  refine execs_stop ?_
  k_steps
  refine ⟨?_⟩
  rename_i _ _ _ h₂ o₂ F₂ N₂ d₂
  refine execs_stop (while_n (fun k m news => ∃ t' u' up' o, plug t' (u' :: up') = plug t (u :: up) ∧ up'.length = k ∧ prevOf (u' :: up') = prevOf (u :: up) ∧ (∀ v ∈ u' :: up', Good1 v) ∧ news = [(L' + 1, o)] ∧ o.data = .cell (some (.ref t'.addr))) up.length ⟨t, u, up, o₂, rfl, rfl, rfl, hw, rfl, d₂⟩ F₂ N₂ ?_ (hh_deeper hr))
  rintro K hK n m₁ _ h₃ tk₃ ⟨t', u', up', o', hp, hl, ha, hw', rfl, d'⟩ F₃ N₃
  clear F₂ N₂ d₂ T0 T1
  rw [← hp] at TT nd
  rw [← ha] at hR
  have T0 : TreeAt w.params s.heap t' (.ref u'.x.a) := ctx_tree _ _ TT
  have T1 := ctx_node TT
  have TL := T1.list
  have KK := ctx_up TT
  unfold TreeAt at KK
  replace KK := KK.2
  have ⟨n1, n2⟩ := sib_apart nd
  k_steps
  refine ⟨⟨?_⟩⟩
  rename_i h₄ F₄ N₄ h₅ he hit hsz hk
  have hwu := (hw' u' (by simp)).1
  have hLB : L' < h₄.objs.size := F₄.ns.lt
  have hlB : u'.x.l < h₄.objs.size := by obtain ⟨_, e, _⟩ := isList_keeps TL F₄.keep; exact Heap.lt_size e
  have hkb : ∀ b o, s.heap.get? b = some o → h₅.get? b = some o := fun b o e => hk b o (F₄.keep b o e)
  refine ⟨_, _, _, u'.x.l, h₄.objs.size, (fun i ys => if i ≤ u'.ls.length then ys = [] else ∃ t, ys = [.int u'.ls.length t]), rfl, he, hit, isList_keeps TL hkb, hlB, Nat.le_refl _, Nat.lt_succ_self _, ?_, ?_, ?_, ?_, ?_⟩
  · show h₄.objs.size + 1 < h₅.objs.size
    rw [hsz]; exact Nat.lt_succ_self _
  · simp; omega
  · simp
  · intro i v t hq tk' C m ys hv hP hns hm1 hm2 hb
    have kb : ∀ b o, s.heap.get? b = some o → hq.get? b = some o := fun b o e => hb b o (Heap.lt_size (F₄.keep b o e)) (hkb b o e)
    refine wpAny_isTrue_Compare1 ?_
    refine wpAny_Name (wpAny_loadName_local rfl rfl hns hm2 ?_)
    refine wpAny_Name (wpAny_loadName_cell rfl rfl rfl ⟨o', hb _ _ (Heap.lt_size (N₄.get (List.mem_cons_self ..))) (hk _ _ (N₄.get (List.mem_cons_self ..))), d'⟩ ?_)
    rcases kids_get3 hv with ⟨rfl, rfl⟩ | ⟨hne, b, hbm, rfl⟩
    · refine wpAny_is_ref_self (wpAny_truthy_bool ?_)
      refine ⟨_, _, rfl, fun _ _ e => e, ?_⟩
      simp only [if_true]
      refine wpAny_Name (wpAny_loadName_local rfl rfl hns hm1 ?_)
      refine ⟨_, _, rfl, fun _ _ e => e, ?_⟩
      rw [if_neg (by omega)]
      rw [if_pos (Nat.le_refl _)] at hP
      subst hP
      exact ⟨t, rfl⟩
    · have Tb : TreeAt w.params s.heap b (.ref u'.x.a) := kid_at KK (t := b) (by rcases hbm with h | h <;> simp [h])
      have hab : b.addr ≠ t'.addr := by rcases hbm with h | h; exact n1 b h; exact n2 b h
      obtain ⟨_, e1, q1⟩ := tree_obj (Tb.keeps kb)
      obtain ⟨_, e2, q2⟩ := tree_obj (T0.keeps kb)
      refine wpAny_is_ref_other hab e1 e2 q1 (wpAny_truthy_bool ?_)
      refine ⟨_, _, rfl, fun _ _ e => e, ?_⟩
      simp only [Bool.false_eq_true, if_false]
      by_cases hi : i ≤ u'.ls.length
      · rw [if_pos hi] at hP
        rw [if_pos (by omega)]; exact hP
      · rw [if_neg hi] at hP
        rw [if_neg (by omega)]; exact hP
  · intro D h₆ tk₆ ys hBD hpl hP hb
    rw [if_neg (by simp)] at hP
    obtain ⟨tq, rfl⟩ := hP
    have F₆ : Fr s.heap L' h₆ _ := ⟨F₄.ns.at' fun o e => hb _ o hLB (hk _ o e), fun b o e => hb b o (Heap.lt_size (F₄.keep b o e)) (hkb b o e), F₄.above⟩
    have N₆ : News s.heap L' h₆ [(L' + 1, o')] := fun p hp => by
      rcases List.mem_singleton.mp hp with rfl
      have z := N₄ _ (List.mem_cons_self ..)
      exact ⟨hb _ _ (Heap.lt_size z.1) (hk _ _ z.1), z.2⟩
    clear N₄ F₄ he hit
    have hll : (u'.ls.map (fun t => Value.ref t.addr) ++ Value.ref t'.addr :: u'.rs.map (fun t => Value.ref t.addr)).length ≤ 1000000 := by simp; omega
    rw [prevOf] at hR
    cases hgl : u'.ls.getLast? with
    | none =>
      have hz : u'.ls = [] := by simpa using hgl
      rw [hgl] at hR
      rw [prevOf, hgl] at ha
      dsimp only at hR ha
      simp only [hz, List.length_nil] at hpl
      cases up' with
      | nil =>
        have T2 : NodeAt w.params s.heap u'.x .none _ := T1
        k_steps
        all_goals exact hR _ _ _ (Fr.keep (by assumption)) rfl
      | cons u2 up2 =>
        have T2 : NodeAt w.params s.heap u'.x (.ref u2.x.a) _ := T1
        k_steps
        refine ⟨?_⟩
        refine hK _ _ ?_
        refine ⟨up2.length, _, _, _, _, rfl, by simp at hl; omega, ⟨.node u'.x (u'.ls ++ t' :: u'.rs), u2, up2, _, hp, rfl, ha, fun v hv => hw' v (List.mem_cons_of_mem _ hv), rfl, by assumption⟩, by assumption, by assumption⟩
    | some b =>
      rw [hgl] at hR
      dsimp only at hR
      have hbm := List.mem_of_getLast? hgl
      have hfb : full b := (hw' u' (by simp)).2 b (.inl hbm)
      have Tb : TreeAt w.params s.heap b (.ref u'.x.a) := kid_at KK (t := b) (by simp [hbm])
      have hpos : 0 < u'.ls.length := by
        rcases Nat.eq_zero_or_pos u'.ls.length with q | q
        · have : u'.ls = [] := List.length_eq_zero_iff.mp q
          rw [this] at hgl; cases hgl
        · exact q
      have h0 : (0 : Int) ≤ (u'.ls.length : Int) - 1 := by omega
      have hget : (u'.ls.map (fun t => Value.ref t.addr) ++ Value.ref t'.addr :: u'.rs.map (fun t => Value.ref t.addr))[((u'.ls.length : Int) - 1).toNat]? = some (.ref b.addr) := by
        have e : ((u'.ls.length : Int) - 1).toNat = u'.ls.length - 1 := by omega
        rw [e, List.getElem?_append_left (by simp; omega), List.getElem?_map, ← List.getLast?_eq_getElem?, hgl]
        rfl
      k_steps
      · exfalso; omega
      refine ⟨?_⟩
      rename_i h₇ o₇ F₇ N₇ d₇
      refine wpAny_execs_cons (while_n (fun k m news => ∃ t2 par2 o, TreeAt w.params s.heap t2 par2 ∧ full t2 ∧ ht t2 = k ∧ lastOf t2 = lastOf b ∧ news = [(L' + 1, o)] ∧ o.data = .cell (some (.ref t2.addr))) (ht b) ⟨b, _, o₇, Tb, hfb, rfl, rfl, rfl, d₇⟩ F₇ N₇ ?_ (hh_deeper hr))
      rintro K₂ hK₂ n₂ m₂ _ h₈ tk₈ ⟨t2, par2, o₈, TT2, hf2, hht, hlast, rfl, d₈⟩ F₈ N₈
      rw [← hlast] at hR
      clear F₇ N₇ d₇
      cases t2 with
      | leaf x2 =>
        unfold TreeAt at TT2
        dsimp only [Tr.addr] at d₈
        k_steps
        exact hR _ _ _ (Fr.keep (by assumption)) rfl
      | node y2 ts2 =>
        unfold TreeAt at TT2
        have TN2 := TT2.1
        dsimp only [Tr.addr] at d₈
        unfold full at hf2
        have hv2 : (ts2.map fun t => Value.ref t.addr).getLast? = some (.ref (ts2.getLast hf2.1).addr) := by rw [List.getLast?_map, List.getLast?_eq_some_getLast hf2.1]; rfl
        have hm2 := List.getLast_mem hf2.1
        have hlo2 : lastOf (ts2.getLast hf2.1) = lastOf (.node y2 ts2) := by rw [lastOf, lastL_is hf2.1]
        k_steps
        refine ⟨?_⟩
        rw [ht] at hht
        refine hK₂ _ _ ?_
        refine ⟨ht (ts2.getLast hf2.1), _, _, _, _, rfl, by have := ht_kid hm2; omega, ⟨ts2.getLast hf2.1, _, _, kid_at TT2.2 hm2, full_kid hf2.2 hm2, rfl, hlo2.trans hlast, rfl, by assumption⟩, by assumption, by assumption⟩

theorem lines_U5_1 : True := by
  k_with_none
  k_with "getAttr ref" => (((with_reducible show wpAny _ _ (getAttr (Value.ref _) (PySem.Str.ofString "parent") _) _ _ _); (k_dflt (refine' w_parent ?P_4de ?F_4de ?X_4de ?T_4de ?_; (case F_4de => k_asm); (case X_4de => k_asm); (case T_4de => assumption); (case P_4de => first | rfl | exact parV_handed _); k_whole))))
  k_with "getAttr ref" => (((with_reducible show wpAny _ _ (getAttr (Value.ref _) (PySem.Str.ofString "children") _) _ _ _); (k_dflt (refine' w_children ?F_c81 ?X_c81 ?T_c81 ?_; (case F_c81 => k_asm); (case X_c81 => k_asm); (case T_c81 => assumption); k_whole))))
  k_with "eval ListComp" => ((k_dflt (refine' comp_stop ?hh_eb7 ?cl_eb7 ?c1_eb7 ?c2_eb7 ?c3_eb7 ?c4_eb7 ?c5_eb7 ?c6_eb7 ?_ ?hs_eb7; (case hh_eb7 => exact hh_deeper (by assumption)); (case cl_eb7 => exact rfl); (case c1_eb7 => decide); (case c2_eb7 => exact rfl); (case c3_eb7 => decide); (case c4_eb7 => exact rfl); (case c5_eb7 => exact rfl); (case c6_eb7 => decide); (case hs_eb7 => intro _; rfl); k_whole)))
  k_with "call type:enumerate" => (((k_dflt (refine' enum_stop ?hl_230 ?F_230 ?_; (case F_230 => k_asm); (case hl_230 => assumption); k_whole; intro _ _ _ _ _))))
  k_with "subscriptTail" => (((with_reducible show wpAny _ _ (subscriptTail (Expr.ListComp _ _ _ _) _ (Value.ref _) (Value.int 0 _)) _ _ _); (k_dflt (refine' t_item ?H_769 ?_; (case H_769 => assumption); k_whole))))
  k_with "getAttr ref" => (((with_reducible show wpAny _ _ (getAttr (Value.ref _) (PySem.Str.ofString "parent") _) _ _ _); (k_dflt (refine' w_parentN ?P_80b ?F_80b ?X_80b ?T_80b ?_; (case F_80b => k_asm); (case X_80b => k_asm); (case T_80b => assumption); (case P_80b => first | rfl | exact parV_handed _); k_whole))))
  k_with "subscriptTail" => (((with_reducible show wpAny _ _ (subscriptTail (Expr.Name _ _) _ (Value.ref _) (Value.int _ _)) _ _ _); (k_dflt (refine' l_item ?F_e15 ?T_e15 ?V_e15 ?Z_e15 ?Y_e15 ?_; (case F_e15 => k_asm); (case T_e15 => assumption); (case V_e15 => assumption); (case Z_e15 => first | assumption | omega); (case Y_e15 => first | assumption | omega); k_whole))))
  k_with "call builtin:isinstance" => (((k_dflt (first | (refine' isi_leaf_yes ?F_e16 ?X_e16 ?T_e16 ?_; (case F_e16 => k_asm); (case X_e16 => k_asm); (case T_e16 => assumption); k_whole) | (refine' isi_node_no ?F_e16 ?X_e16 ?T_e16 ?_; (case F_e16 => k_asm); (case X_e16 => k_asm); (case T_e16 => assumption); k_whole)))))
  k_with "subscriptTail" => (((with_reducible show wpAny _ _ (subscriptTail _ _ (Value.ref _) (Value.int (-1) _)) _ _ _); (k_dflt (refine' sub_last ?F_b5f ?T_b5f ?V_b5f ?_; (case F_b5f => k_asm); (case T_b5f => assumption); (case V_b5f => assumption); k_whole))))
  trivial

section
variable {prog : Program} {w : World} {A : Around} {E : Value → Shared → Prop} {s : Shared} {Q : Value → Shared → Prop} {g : Heap} {L : Addr} {m : Str → Option Value}
theorem l_len {l : Addr} {vs : List Value} (F : Fr g L s.heap m) (T : g.IsList l vs.toArray) (hlen : vs.length ≤ 1000000) (h : Q (.int vs.length (s.toks + 1)) { s with toks := s.toks + 1 + 1 }) : wpAny (model prog w) A (call (.builtin "len") [.ref l]) Q E s :=
  len_list (isList_keeps T F.keep) (by simp; omega) (by simpa using h)
end
theorem lines_U5_2 : True := by
  k_with "subscriptTail Name BinOp ref int" => (exfalso; omega)
  k_with "call builtin:len" => (((with_reducible show wpAny _ _ (call _ [Value.ref _]) _ _ _); (k_dflt (refine' l_len ?F_69e ?T_69e ?Y_69e ?_; (case F_69e => k_asm); (case T_69e => assumption); (case Y_69e => assumption); k_whole))))
  k_with "subscriptTail" => (((with_reducible show wpAny _ _ (subscriptTail (Expr.Attribute _ _ _) _ (Value.ref _) (Value.int 0 _)) _ _ _); (k_dflt (refine' sub_first ?F_8a ?T_8a ?_; (case F_8a => k_asm); (case T_8a => assumption); k_whole))))
  trivial
noncomputable def nextOf : Ctx → Value
  | [] => .none
  | u :: up => match u.rs with
    | [] => nextOf up
    | b :: _ => .ref (firstOf b).a
theorem next_leaf0 {prog : Program} {w : World} {t : Tr} {A : Around} {s : Shared} (hr : Rm A 4) (S : St w s.heap) (T0 : TreeAt w.params s.heap t .none) :
    PureRes prog w A s (.call (.ref 90) ⟨[.ref t.addr], []⟩) (fun v h' => v = .none) := by
  intro R hR
  have ⟨X, p, loose, mg, mb, T, _⟩ := S
  refine' enterC [(Str.ofString "self", .ref t.addr)] X (TopRead.nolimit T) ?k6 ?k7 ?k8 ?k9 ?kB ?kD ?c2 ?c3 ?c4 ?_
  (case k6 => k_is)
  (case k7 => k_is)
  (case k8 => exact (Rm.lt hr))
  (case k9 => first | exact BindsTo.of_eq rfl | exact binds_K (by k_in) rfl (by k_is) rfl rfl rfl)
  (case kB => exact kindsX rfl)
  (case kD => decide +kernel)
  (case c2 => rfl)
  (case c3 => rfl)
  (case c4 => rfl)
  intro L' h₁ tk cells F N Y
  k_cells Y
  try simp only [List.cons_append, List.nil_append] at N
  try dsimp only
  try k_fold
  k_steps
  exact hR _ _ _ (Fr.keep (by assumption)) rfl
theorem next_leaf1 {prog : Program} {w : World} {t : Tr} {u : Up} {up : Ctx} {A : Around} {s : Shared} (hr : Rm A 4) (S : St w s.heap) (TT : TreeAt w.params s.heap (plug t (u :: up)) .none) (nd : (plug t (u :: up)).addrs.Nodup) (hw : ∀ v ∈ u :: up, Good1 v) :
    PureRes prog w A s (.call (.ref 90) ⟨[.ref t.addr], []⟩) (fun v h' => v = nextOf (u :: up)) := by
  intro R hR
  have ⟨X, p, loose, mg, mb, T, _⟩ := S
  have T0 := ctx_tree _ _ TT
  have T1 := ctx_node TT
  unfold parV at T0
  refine' enterC [(Str.ofString "self", .ref t.addr)] X (TopRead.nolimit T) ?k6 ?k7 ?k8 ?k9 ?kB ?kD ?c2 ?c3 ?c4 ?_
  (case k6 => k_is)
  (case k7 => k_is)
  (case k8 => exact (Rm.lt hr))
  (case k9 => first | exact BindsTo.of_eq rfl | exact binds_K (by k_in) rfl (by k_is) rfl rfl rfl)
  (case kB => exact kindsX rfl)
  (case kD => decide +kernel)
  (case c2 => rfl)
  (case c3 => rfl)
  (case c4 => rfl)
  intro L' h₁ tk cells F N Y
  k_cells Y
  try simp only [List.cons_append, List.nil_append] at N
  try dsimp only
  try k_fold
  refine execs_stop ?_
  k_steps
  refine ⟨?_⟩
  refine execs_stop ?_
  k_steps
  refine ⟨?_⟩
  rename_i _ _ _ h₂ o₂ F₂ N₂ d₂
  refine execs_stop (while_n (fun k m news => ∃ t' u' up' o, plug t' (u' :: up') = plug t (u :: up) ∧ up'.length = k ∧ nextOf (u' :: up') = nextOf (u :: up) ∧ (∀ v ∈ u' :: up', Good1 v) ∧ news = [(L' + 1, o)] ∧ o.data = .cell (some (.ref t'.addr))) up.length ⟨t, u, up, o₂, rfl, rfl, rfl, hw, rfl, d₂⟩ F₂ N₂ ?_ (hh_deeper hr))
  rintro K hK n m₁ _ h₃ tk₃ ⟨t', u', up', o', hp, hl, ha, hw', rfl, d'⟩ F₃ N₃
  clear F₂ N₂ d₂ T0 T1
  rw [← hp] at TT nd
  rw [← ha] at hR
  have T0 : TreeAt w.params s.heap t' (.ref u'.x.a) := ctx_tree _ _ TT
  have T1 := ctx_node TT
  have TL := T1.list
  have KK := ctx_up TT
  unfold TreeAt at KK
  replace KK := KK.2
  have ⟨n1, n2⟩ := sib_apart nd
  k_steps
  refine ⟨⟨?_⟩⟩
  rename_i h₄ F₄ N₄ h₅ he hit hsz hk
  have hwu := (hw' u' (by simp)).1
  have hLB : L' < h₄.objs.size := F₄.ns.lt
  have hlB : u'.x.l < h₄.objs.size := by obtain ⟨_, e, _⟩ := isList_keeps TL F₄.keep; exact Heap.lt_size e
  have hkb : ∀ b o, s.heap.get? b = some o → h₅.get? b = some o := fun b o e => hk b o (F₄.keep b o e)
  refine ⟨_, _, _, u'.x.l, h₄.objs.size, (fun i ys => if i ≤ u'.ls.length then ys = [] else ∃ t, ys = [.int u'.ls.length t]), rfl, he, hit, isList_keeps TL hkb, hlB, Nat.le_refl _, Nat.lt_succ_self _, ?_, ?_, ?_, ?_, ?_⟩
  · show h₄.objs.size + 1 < h₅.objs.size
    rw [hsz]; exact Nat.lt_succ_self _
  · simp; omega
  · simp
  · intro i v t hq tk' C m ys hv hP hns hm1 hm2 hb
    have kb : ∀ b o, s.heap.get? b = some o → hq.get? b = some o := fun b o e => hb b o (Heap.lt_size (F₄.keep b o e)) (hkb b o e)
    refine wpAny_isTrue_Compare1 ?_
    refine wpAny_Name (wpAny_loadName_local rfl rfl hns hm2 ?_)
    refine wpAny_Name (wpAny_loadName_cell rfl rfl rfl ⟨o', hb _ _ (Heap.lt_size (N₄.get (List.mem_cons_self ..))) (hk _ _ (N₄.get (List.mem_cons_self ..))), d'⟩ ?_)
    rcases kids_get3 hv with ⟨rfl, rfl⟩ | ⟨hne, b, hbm, rfl⟩
    · refine wpAny_is_ref_self (wpAny_truthy_bool ?_)
      refine ⟨_, _, rfl, fun _ _ e => e, ?_⟩
      simp only [if_true]
      refine wpAny_Name (wpAny_loadName_local rfl rfl hns hm1 ?_)
      refine ⟨_, _, rfl, fun _ _ e => e, ?_⟩
      rw [if_neg (by omega)]
      rw [if_pos (Nat.le_refl _)] at hP
      subst hP
      exact ⟨t, rfl⟩
    · have Tb : TreeAt w.params s.heap b (.ref u'.x.a) := kid_at KK (t := b) (by rcases hbm with h | h <;> simp [h])
      have hab : b.addr ≠ t'.addr := by rcases hbm with h | h; exact n1 b h; exact n2 b h
      obtain ⟨_, e1, q1⟩ := tree_obj (Tb.keeps kb)
      obtain ⟨_, e2, q2⟩ := tree_obj (T0.keeps kb)
      refine wpAny_is_ref_other hab e1 e2 q1 (wpAny_truthy_bool ?_)
      refine ⟨_, _, rfl, fun _ _ e => e, ?_⟩
      simp only [Bool.false_eq_true, if_false]
      by_cases hi : i ≤ u'.ls.length
      · rw [if_pos hi] at hP
        rw [if_pos (by omega)]; exact hP
      · rw [if_neg hi] at hP
        rw [if_neg (by omega)]; exact hP
  · intro D h₆ tk₆ ys hBD hpl hP hb
    rw [if_neg (by simp)] at hP
    obtain ⟨tq, rfl⟩ := hP
    have F₆ : Fr s.heap L' h₆ _ := ⟨F₄.ns.at' fun o e => hb _ o hLB (hk _ o e), fun b o e => hb b o (Heap.lt_size (F₄.keep b o e)) (hkb b o e), F₄.above⟩
    have N₆ : News s.heap L' h₆ [(L' + 1, o')] := fun p hp => by
      rcases List.mem_singleton.mp hp with rfl
      have z := N₄ _ (List.mem_cons_self ..)
      exact ⟨hb _ _ (Heap.lt_size z.1) (hk _ _ z.1), z.2⟩
    clear N₄ F₄ he hit
    have hll : (u'.ls.map (fun t => Value.ref t.addr) ++ Value.ref t'.addr :: u'.rs.map (fun t => Value.ref t.addr)).length ≤ 1000000 := by simp; omega
    rw [nextOf] at hR
    cases hgl : u'.rs with
    | nil =>
      have hz : u'.rs = [] := hgl
      have hlz : (u'.ls.map (fun t => Value.ref t.addr) ++ Value.ref t'.addr :: u'.rs.map (fun t => Value.ref t.addr)).length = u'.ls.length + 1 := by rw [hz]; simp
      rw [hgl] at hR
      rw [nextOf, hgl] at ha
      dsimp only at hR ha
      cases up' with
      | nil =>
        have T2 : NodeAt w.params s.heap u'.x .none _ := T1
        k_steps
        all_goals first | exact hR _ _ _ (Fr.keep (by assumption)) rfl | (exfalso; omega)
      | cons u2 up2 =>
        have T2 : NodeAt w.params s.heap u'.x (.ref u2.x.a) _ := T1
        k_steps
        all_goals first | (exfalso; omega) | skip
        refine ⟨?_⟩
        refine hK _ _ ?_
        refine ⟨up2.length, _, _, _, _, rfl, by simp at hl; omega, ⟨.node u'.x (u'.ls ++ t' :: u'.rs), u2, up2, _, hp, rfl, ha, fun v hv => hw' v (List.mem_cons_of_mem _ hv), rfl, by assumption⟩, by assumption, by assumption⟩
    | cons b br =>
      rw [hgl] at hR
      dsimp only at hR
      have hbm : b ∈ u'.rs := by rw [hgl]; simp
      have hfb : full b := (hw' u' (by simp)).2 b (.inr hbm)
      have Tb : TreeAt w.params s.heap b (.ref u'.x.a) := kid_at KK (t := b) (by simp [hbm])
      have hlz : (u'.ls.map (fun t => Value.ref t.addr) ++ Value.ref t'.addr :: u'.rs.map (fun t => Value.ref t.addr)).length = u'.ls.length + 2 + br.length := by rw [hgl]; simp; omega
      have h0 : (0 : Int) ≤ (u'.ls.length : Int) + 1 := by omega
      have hget : (u'.ls.map (fun t => Value.ref t.addr) ++ Value.ref t'.addr :: u'.rs.map (fun t => Value.ref t.addr))[((u'.ls.length : Int) + 1).toNat]? = some (.ref b.addr) := by
        have e : ((u'.ls.length : Int) + 1).toNat = u'.ls.length + 1 := by omega
        rw [e, List.getElem?_append_right (by simp), hgl]
        simp
      k_steps
      all_goals first | (exfalso; omega) | skip
      refine ⟨?_⟩
      rename_i h₇ o₇ F₇ N₇ d₇
      refine wpAny_execs_cons (while_n (fun k m news => ∃ t2 par2 o, TreeAt w.params s.heap t2 par2 ∧ full t2 ∧ ht t2 = k ∧ firstOf t2 = firstOf b ∧ news = [(L' + 1, o)] ∧ o.data = .cell (some (.ref t2.addr))) (ht b) ⟨b, _, o₇, Tb, hfb, rfl, rfl, rfl, d₇⟩ F₇ N₇ ?_ (hh_deeper hr))
      rintro K₂ hK₂ n₂ m₂ _ h₈ tk₈ ⟨t2, par2, o₈, TT2, hf2, hht, hlast, rfl, d₈⟩ F₈ N₈
      rw [← hlast] at hR
      clear F₇ N₇ d₇
      cases t2 with
      | leaf x2 =>
        unfold TreeAt at TT2
        dsimp only [Tr.addr] at d₈
        k_steps
        exact hR _ _ _ (Fr.keep (by assumption)) rfl
      | node y2 ts2 =>
        unfold TreeAt at TT2
        have TN2 := TT2.1
        dsimp only [Tr.addr] at d₈
        unfold full at hf2
        cases ts2 with
        | nil => exact absurd rfl hf2.1
        | cons t3 ts3 =>
        dsimp only [List.map] at TN2
        have hm2 : t3 ∈ t3 :: ts3 := by simp
        have hlo2 : firstOf t3 = firstOf (.node y2 (t3 :: ts3)) := by rw [firstOf, firstL]
        k_steps
        refine ⟨?_⟩
        rw [ht] at hht
        refine hK₂ _ _ ?_
        refine ⟨ht t3, _, _, _, _, rfl, by have := ht_kid hm2; omega, ⟨t3, _, _, kid_at TT2.2 hm2, full_kid hf2.2 hm2, rfl, hlo2.trans hlast, rfl, by assumption⟩, by assumption, by assumption⟩

theorem prev_leaf {prog : Program} {w : World} {t : Tr} {c : Ctx} {A : Around} {s : Shared} (hr : Rm A 4) (S : St w s.heap) (TT : TreeAt w.params s.heap (plug t c) .none) (nd : (plug t c).addrs.Nodup) (hw : ∀ v ∈ c, Good1 v) :
    PureRes prog w A s (.call (.ref 85) ⟨[.ref t.addr], []⟩) (fun v h' => v = prevOf c) := by
  cases c with
  | nil => exact prev_leaf0 hr S TT
  | cons u up => exact prev_leaf1 hr S TT nd hw
theorem next_leaf {prog : Program} {w : World} {t : Tr} {c : Ctx} {A : Around} {s : Shared} (hr : Rm A 4) (S : St w s.heap) (TT : TreeAt w.params s.heap (plug t c) .none) (nd : (plug t c).addrs.Nodup) (hw : ∀ v ∈ c, Good1 v) :
    PureRes prog w A s (.call (.ref 90) ⟨[.ref t.addr], []⟩) (fun v h' => v = nextOf c) := by
  cases c with
  | nil => exact next_leaf0 hr S TT
  | cons u up => exact next_leaf1 hr S TT nd hw
noncomputable def prevLeafOf : Ctx → Option LD
  | [] => none
  | u :: up => match u.ls.getLast? with
    | none => prevLeafOf up
    | some b => some (lastOf b)
theorem prevOf_eq (c : Ctx) : prevOf c = match prevLeafOf c with | none => .none | some p => .ref p.a := by
  induction c with
  | nil => rfl
  | cons u up ih =>
    rw [prevOf, prevLeafOf]
    cases u.ls.getLast? with
    | none => exact ih
    | some b => rfl
theorem last_at {P : Params} {h : Heap} : ∀ n t, ht t ≤ n → full t → ∀ par, TreeAt P h t par → ∃ par', LeafAt P h (lastOf t) par' := by
  intro n
  induction n with
  | zero =>
    intro t hn hf par T
    cases t with
    | leaf x => exact ⟨par, T⟩
    | node x ts => rw [ht] at hn; omega
  | succ n ih =>
    intro t hn hf par T
    cases t with
    | leaf x => exact ⟨par, T⟩
    | node x ts =>
      rw [ht] at hn
      unfold full at hf
      unfold TreeAt at T
      have hm := List.getLast_mem hf.1
      rw [lastOf, lastL_is hf.1]
      exact ih _ (by have := ht_kid hm; omega) (full_kid hf.2 hm) _ (kid_at T.2 hm)
theorem last_mem : ∀ n t, ht t ≤ n → full t → lastOf t ∈ t.leaves := by
  intro n
  induction n with
  | zero =>
    intro t hn hf
    cases t with
    | leaf x => simp [lastOf, Tr.leaves]
    | node x ts => rw [ht] at hn; omega
  | succ n ih =>
    intro t hn hf
    cases t with
    | leaf x => simp [lastOf, Tr.leaves]
    | node x ts =>
      rw [ht] at hn
      unfold full at hf
      have hm := List.getLast_mem hf.1
      rw [lastOf, lastL_is hf.1, Tr.leaves]
      have h1 := ih _ (by have := ht_kid hm; omega) (full_kid hf.2 hm)
      have : ∀ (ts : List Tr) (u : Tr), u ∈ ts → ∀ y ∈ u.leaves, y ∈ leavesL ts := by
        intro ts
        induction ts with
        | nil => intro u hu; cases hu
        | cons a r ih2 =>
          intro u hu y hy
          unfold leavesL
          rcases List.mem_cons.mp hu with rfl | hu
          · exact List.mem_append_left _ hy
          · exact List.mem_append_right _ (ih2 u hu y hy)
      exact this ts _ hm _ h1
/-- what is asked of the leaves ahead -/
noncomputable def Good2 (py : Bool) (v : Up) : Prop := Good1 v ∧ ∀ b ∈ v.ls, texts b ∧ ∀ y ∈ b.leaves, y.c.isPlain = !py
theorem prev_at {P : Params} {h : Heap} {py : Bool} : ∀ (c : Ctx) (t : Tr) (p : LD), TreeAt P h (plug t c) .none → (∀ v ∈ c, Good2 py v) → prevLeafOf c = some p → (∃ par', LeafAt P h p par') ∧ p.val ∈ Texts ∧ p.c.isPlain = !py
  | [], _, _, _, _, e => by cases e
  | u :: up, t, p, T, hw, e => by
    rw [prevLeafOf] at e
    cases hgl : u.ls.getLast? with
    | none =>
      rw [hgl] at e
      exact prev_at up _ p T (fun v hv => hw v (List.mem_cons_of_mem _ hv)) e
    | some b =>
      rw [hgl] at e
      injection e with e
      subst e
      have hbm := List.mem_of_getLast? hgl
      have g := hw u (by simp)
      have hf := g.1.2 b (.inl hbm)
      have KK := ctx_up T
      unfold TreeAt at KK
      have Tb := kid_at KK.2 (t := b) (by simp [hbm])
      have hlm := last_mem _ b (Nat.le_refl _) hf
      exact ⟨last_at _ b (Nat.le_refl _) hf _ Tb, (leaves_texts b (g.2 b hbm).1 _ hlm).1, (g.2 b hbm).2 _ hlm⟩
noncomputable def startPref (x : LD) : Option LD → Int × Int
  | some p => (eLine p, eCol p)
  | none => (x.line - ((linesOf x.pre).length : Int) + 1, 0)
section
variable {prog : Program} {w : World} {A : Around} {E : Value → Shared → Prop} {s : Shared} {expr : Bool} {Q : Value → Shared → Prop} {x : LD} {par : Value} {g : Heap} {L : Addr} {m : Str → Option Value} {pl : Sem Bool} {news : List (Addr × Obj)}
theorem gm_prevLeafL (F : Fr g L s.heap m) (X : (hd.heap_1 w.params).In g) (T : LeafAt w.params g x par) {Q : Value × List Value → Shared → Prop} (h : Q (.ref 85, [.ref x.a]) s) : wpAny (model prog w) A (getMethod (.ref x.a) "get_previous_leaf" pl) Q E s :=
  gm_prevLeaf (t := .leaf x) (par := par) F X T h
theorem ga_endL {a b : Int} (F : Fr g L s.heap m) (N : News g L s.heap news) (X : (hd.heap_1 w.params).In g) (T : LeafAt w.params g x par)
    (C : PureRes prog w A.in1 { s with toks := s.toks + 1 } (.call (.ref x.c.fEnd) ⟨[.ref x.a], []⟩) fun v h' => Tup2 a b v h' s.heap)
    (h : ∀ v h' tk', Fr g L h' m → News g L h' news → (∀ b o, s.heap.get? b = some o → h'.get? b = some o) → Tup2 a b v h' g → Q v { s with heap := h', toks := tk' }) : wpAny (model prog w) A (getAttr (.ref x.a) "end_pos" expr) Q E s :=
  ga_endT (t := .leaf x) (par := par) F N X T C h
noncomputable def LC.tname : LC → Str
  | .plain => Str.empty
  | .str => Str.ofString "string"
  | .name => Str.ofString "name"
  | .oper => Str.ofString "operator"
end

noncomputable def LC.ttok : LC → Nat
  | .plain => 0
  | .str => 777
  | .name => 743
  | .oper => 824
theorem w_typeL {prog : Program} {w : World} {A : Around} {E : Value → Shared → Prop} {s : Shared} {expr : Bool} {Q : Value → Shared → Prop} {x : LD} {par : Value} {g : Heap} {L : Addr} {m : Str → Option Value} (F : Fr g L s.heap m) (X : (hd.heap_1 w.params).In g) (T : LeafAt w.params g x par) (hc : x.c.isPlain = false) (h : Q (.str x.c.tname x.c.ttok) { s with toks := s.toks + 1 }) : wpAny (model prog w) A (getAttr (.ref x.a) "type" expr) Q E s :=
  get_value (X.keeps F.keep) (T.keeps F.keep).at (leaf_ga _ _) (by obtain ⟨_, _, c, _⟩ := x; cases c <;> first | (cases hc; done) | kernel_rfl!) rfl h
theorem my_eqstr {prog : Program} {w : World} {A : Around} {E : Value → Shared → Prop} {s : Shared} {Q : Value → Shared → Prop} {c : LC} {t u : Tok} (h : Q (.bool false) s) : wpAny (model prog w) A (compareOp .Eq (.str c.tname t) (.str (Str.ofString "error_leaf") u)) Q E s := by
  have e : (c.tname == Str.ofString "error_leaf") = false := by cases c <;> decide +kernel
  exact PyProof.Rows.eq_str (by rw [e]; exact h)
theorem end_one {prog : Program} {w : World} {x : LD} {par : Value} {A : Around} {s : Shared} (hr : Rm A 6) (S : St w s.heap) (T : LeafAt w.params s.heap x par) (ht : x.val ∈ Texts) : PureRes prog w A s (.call (.ref x.c.fEnd) ⟨[.ref x.a], []⟩) (fun v h' => Tup2 (eLine x) (eCol x) v h' s.heap) := by
  have hr' := hr.mono (k := 4) (by omega)
  obtain ⟨a, d, c, _⟩ := x
  cases c with
  | plain => exact end_leaf hr' S T ht
  | str => exact end_leaf hr' S T ht
  | name => exact end_flat hr' S T ht
  | oper => exact end_flat hr' S T ht
theorem lines_P2_1 : True := by
  k_with_none
  k_with "getMethod ref" => (((with_reducible show wpAny _ _ (getMethod (Value.ref _) (PySem.Str.ofString "get_previous_leaf") _) _ _ _); (k_dflt (refine' gm_prevLeafL ?F_96d ?X_96d ?T_96d ?_; (case F_96d => k_asm); (case X_96d => k_asm); (case T_96d => assumption); k_whole; try dsimp only))))
  k_with "call ref" => (((with_reducible show wpAny _ _ (call (Value.ref 85) _ _) _ _ _); (k_dflt (refine' PureRes.walk ?C_f2f ?F_f2f ?N_f2f ?_; (case F_f2f => k_asm); (case N_f2f => k_asm); (case C_f2f => (refine prev_leaf (t := .leaf _) (Rm.deeper (k := 4) (by assumption) (by omega)) (st_of (by assumption) (by assumption)) (TreeAt.keeps (Fr.keep (by assumption)) _ (by assumption)) (by assumption) (by assumption))); k_whole; intro _ _ _ _ _ _ _; (try dsimp only); (try k_sweep)))))
  trivial

theorem lines_P2_2 : True := by
  k_with "call ref" => (((with_reducible show wpAny _ _ (call (Value.ref 52) _ _) _ _ _); (k_dflt (refine' lines_walk ?H_b7f ?R_b7f ?S_b7f ?F_b7f ?N_b7f ?_; (case F_b7f => k_asm); (case N_b7f => k_asm); (case S_b7f => assumption); (case H_b7f => assumption); (case R_b7f => exact Rm.deeper (by assumption) (by omega)); k_whole; intro _ _ _ _ _ x_hts _ x_N'; rcases linesOf_cases (by assumption) x_hts with ⟨a, t, e1, e⟩ | ⟨a, t, b, u, e1, e⟩ | ⟨a, t, b, u, c, v, e1, e⟩ <;> subst e1 <;> dsimp only [strList, strValues, List.map] at x_N'))))
  k_with "call builtin:len" => ((k_dflt (refine' my_len ?N_e69 ?m_e69 ?f_e69 ?_; (case N_e69 => k_asm); (case m_e69 => k_mem); (case f_e69 => decide); k_whole)))
  k_with "getAttr ref" => (((with_reducible show wpAny _ _ (getAttr (Value.ref _) (PySem.Str.ofString "end_pos") _) _ _ _); (k_dflt (refine' ga_endL ?F_384 ?N_384 ?X_384 ?T_384 ?C_384 ?_; (case F_384 => k_asm); (case N_384 => k_asm); (case X_384 => k_asm); (case T_384 => assumption); (case C_384 => refine' end_one ?R_384 ?S_384 ?L_384 ?H_384; (case S_384 => exact (st_of (by assumption) (by assumption))); (case L_384 => exact LeafAt.keeps (by assumption) (Fr.keep (by assumption))); (case H_384 => assumption); (case R_384 => exact Rm.in1 (Rm.deeper (k := 7) (by assumption) (by omega)) (by omega))); k_whole; intro _ _ _ _ _ _ _; (try dsimp only)))))
  k_with "call builtin:len" => (((with_reducible show wpAny _ _ (call _ [Value.str _ _]) _ _ _); (k_dflt (refine' my_len_str ?f_4ef ?_; (case f_4ef => first | exact short_text (by assumption) | exact short_mem (by assumption) (by assumption) (by simp)); k_whole))))
  k_with "getAttr ref" => (((with_reducible show wpAny _ _ (getAttr (Value.ref _) (PySem.Str.ofString "prefix") _) _ _ _); (k_dflt (refine' w_prefix ?F_da7 ?X_da7 ?T_da7 ?_; (case F_da7 => k_asm); (case X_da7 => k_asm); (case T_da7 => assumption); k_whole))))
  k_with "getAttr ref" => (((with_reducible show wpAny _ _ (getAttr (Value.ref _) (PySem.Str.ofString "line") _) _ _ _); (k_dflt (refine' w_line ?F_ea4 ?X_ea4 ?T_ea4 ?_; (case F_ea4 => k_asm); (case X_ea4 => k_asm); (case T_ea4 => assumption); k_whole))))
  trivial

theorem pref_plain {prog : Program} {w : World} {x : LD} {c : Ctx} {A : Around} {s : Shared} {py : Bool} (hr : Rm A 8) (S : St w s.heap) (TT : TreeAt w.params s.heap (plug (.leaf x) c) .none) (nd : (plug (.leaf x) c).addrs.Nodup) (hw2 : ∀ v ∈ c, Good2 py v) (hx : x.pre ∈ Texts) :
    PureRes prog w A s (.call (.ref 143) ⟨[.ref x.a], []⟩) (fun v h' => Tup2 (startPref x (prevLeafOf c)).1 (startPref x (prevLeafOf c)).2 v h' s.heap) := by
  intro R hR
  have ⟨X, p, loose, mg, mb, T, _⟩ := S
  have hw : ∀ v ∈ c, Good1 v := fun v hv => (hw2 v hv).1
  have TL : LeafAt w.params s.heap x (parV c) := ctx_tree c _ TT
  refine' enterX [(Str.ofString "self", .ref x.a)] X (TopRead.nolimit T) ?k6 ?k7 ?k8 ?k9 ?kB ?c1 ?c2 ?c3 ?c4 ?_
  (case k6 => k_is)
  (case k7 => k_is)
  (case k8 => exact (Rm.lt hr))
  (case k9 => first | exact BindsTo.of_eq rfl | exact binds_K (by k_in) rfl (by k_is) rfl rfl rfl)
  (case kB => exact locs rfl)
  (case c1 => decide)
  (case c2 => rfl)
  (case c3 => rfl)
  (case c4 => rfl)
  intro L' h₁ tk F N
  try dsimp only
  k_fold
  refine execs_stop ?_
  k_steps

  refine ⟨?_⟩
  rename (_ = prevOf c) => pe
  rw [prevOf_eq] at pe
  cases hpl : prevLeafOf c with
  | none =>
    rw [hpl] at pe hR
    dsimp only at pe
    subst pe
    k_steps
    all_goals refine hR _ _ _ (Fr.keep (by assumption)) (tup2_of (by assumption) ?_ rfl)
    all_goals (rename linesOf _ = _ => e)
    all_goals (simp [startPref, e])
  | some p =>
    rw [hpl] at pe hR
    dsimp only at pe
    subst pe
    obtain ⟨⟨pp, TP⟩, hpt, hpc⟩ := prev_at c _ p TT hw2 hpl
    k_steps
    rename Tup2 (eLine p) (eCol p) _ _ _ => q
    exact hR _ _ _ (Fr.keep (by assumption)) q
theorem lines_P2_3 : True := by
  k_with "getAttr ref" => (((with_reducible show wpAny _ _ (getAttr (Value.ref _) (PySem.Str.ofString "type") _) _ _ _); (k_dflt (refine' w_typeL ?F_451 ?X_451 ?T_451 ?C_451 ?_; (case F_451 => k_asm); (case X_451 => k_asm); (case T_451 => assumption); (case C_451 => assumption); k_whole))))
  k_with "compareOp Eq str str" => ((k_dflt (refine' my_eqstr ?_; k_whole)))
  trivial

theorem pref_py {prog : Program} {w : World} {x : LD} {c : Ctx} {A : Around} {s : Shared} (hr : Rm A 8) (S : St w s.heap) (TT : TreeAt w.params s.heap (plug (.leaf x) c) .none) (nd : (plug (.leaf x) c).addrs.Nodup) (hw2 : ∀ v ∈ c, Good2 true v) (hx : x.pre ∈ Texts) :
    PureRes prog w A s (.call (.ref 313) ⟨[.ref x.a], []⟩) (fun v h' => Tup2 (startPref x (prevLeafOf c)).1 (startPref x (prevLeafOf c)).2 v h' s.heap) := by
  intro R hR
  have ⟨X, p, loose, mg, mb, T, _⟩ := S
  have hw : ∀ v ∈ c, Good1 v := fun v hv => (hw2 v hv).1
  have TL : LeafAt w.params s.heap x (parV c) := ctx_tree c _ TT
  refine' enterX [(Str.ofString "self", .ref x.a)] X (TopRead.nolimit T) ?k6 ?k7 ?k8 ?k9 ?kB ?c1 ?c2 ?c3 ?c4 ?_
  (case k6 => k_is)
  (case k7 => k_is)
  (case k8 => exact (Rm.lt hr))
  (case k9 => first | exact BindsTo.of_eq rfl | exact binds_K (by k_in) rfl (by k_is) rfl rfl rfl)
  (case kB => exact locs rfl)
  (case c1 => decide)
  (case c2 => rfl)
  (case c3 => rfl)
  (case c4 => rfl)
  intro L' h₁ tk F N
  try dsimp only
  k_fold
  refine execs_stop ?_
  k_steps

  refine ⟨?_⟩
  rename (_ = prevOf c) => pe
  rw [prevOf_eq] at pe
  cases hpl : prevLeafOf c with
  | none =>
    rw [hpl] at pe hR
    dsimp only at pe
    subst pe
    k_steps
    all_goals refine hR _ _ _ (Fr.keep (by assumption)) (tup2_of (by assumption) ?_ rfl)
    all_goals (rename linesOf _ = _ => e)
    all_goals (simp [startPref, e])
  | some p =>
    rw [hpl] at pe hR
    dsimp only at pe
    subst pe
    obtain ⟨⟨pp, TP⟩, hpt, hpc⟩ := prev_at c _ p TT hw2 hpl
    replace hpc : p.c.isPlain = false := by simpa using hpc
    k_steps
    rename Tup2 (eLine p) (eCol p) _ _ _ => q
    exact hR _ _ _ (Fr.keep (by assumption)) q

mutual
/-- no node with more than three children -/
noncomputable def slim : Tr → Prop
  | .leaf _ => True
  | .node _ ts => ts.length ≤ 3 ∧ slimL ts
noncomputable def slimL : List Tr → Prop
  | [] => True
  | t :: ts => slim t ∧ slimL ts
end
theorem slim_kid {t : Tr} {ts : List Tr} (hf : slimL ts) (h : t ∈ ts) : slim t := by
  induction ts with
  | nil => cases h
  | cons a r ih =>
    unfold slimL at hf
    rcases List.mem_cons.mp h with rfl | h
    · exact hf.1
    · exact ih hf.2 h
theorem firstOf_cons (x : ND) (t : Tr) (ts : List Tr) : firstOf (.node x (t :: ts)) = firstOf t := by rw [firstOf, firstL]
noncomputable def PrefS (prog : Program) (w : World) (py : Bool) (t : Tr) : Prop :=
  ∀ (A : Around) (s : Shared) (c : Ctx), Rm A (2 * ht t + 10) → St w s.heap → TreeAt w.params s.heap (plug t c) .none → (plug t c).addrs.Nodup → (∀ v ∈ c, Good2 py v) →
    PureRes prog w A s (.call (.ref t.fPref) ⟨[.ref t.addr], []⟩) (fun v h' => Tup2 (startPref (firstOf t) (prevLeafOf c)).1 (startPref (firstOf t) (prevLeafOf c)).2 v h' s.heap)
theorem pref_leaf {prog : Program} {w : World} {py : Bool} {x : LD} (hx : x.pre ∈ Texts) (hc : x.c.isPlain = !py) : PrefS prog w py (.leaf x) := by
  intro A s c hr S TT nd hw
  have hr' : Rm A 8 := hr.mono (by omega)
  rw [firstOf]
  obtain ⟨a, d, cc, _⟩ := x
  cases cc with
  | plain => exact pref_plain hr' S TT nd hw hx
  | str =>
    have : py = true := by cases py with | true => rfl | false => cases hc
    subst this
    exact pref_py hr' S TT nd hw hx
  | name =>
    have : py = true := by cases py with | true => rfl | false => cases hc
    subst this
    exact pref_py hr' S TT nd hw hx
  | oper =>
    have : py = true := by cases py with | true => rfl | false => cases hc
    subst this
    exact pref_py hr' S TT nd hw hx
theorem Tup2.res {prog : Program} {w : World} {A : Around} {s : Shared} {c : Code} {a b : Int} {g : Heap} (k : ∀ b o, g.get? b = some o → s.heap.get? b = some o) (C : PureRes prog w A s c fun v h' => Tup2 a b v h' s.heap) : PureRes prog w A s c fun v h' => Tup2 a b v h' g :=
  fun R hR => C R fun v h' tk' k' p => hR v h' tk' k' (p.back k)
theorem lines_P3_1 : True := by
  k_with_none
  k_with "subscriptTail" => (((with_reducible show wpAny _ _ (subscriptTail _ _ (Value.ref _) (Value.int 0 _)) _ _ _); (k_dflt (refine' sub_first ?F_a78 ?T_a78 ?_; (case F_a78 => k_asm); (case T_a78 => assumption); k_whole))))
  k_with "subscriptTail" => (((with_reducible show wpAny _ _ (subscriptTail _ _ (Value.ref _) (Value.int (-1) _)) _ _ _); (k_dflt (refine' sub_last ?F_b5f ?T_b5f ?V_b5f ?_; (case F_b5f => k_asm); (case T_b5f => assumption); (case V_b5f => assumption); k_whole))))
  k_with "getAttr ref" => (((with_reducible show wpAny _ _ (getAttr (Value.ref _) (PySem.Str.ofString "children") _) _ _ _); (k_dflt (refine' w_children ?F_c81 ?X_c81 ?T_c81 ?_; (case F_c81 => k_asm); (case X_c81 => k_asm); (case T_c81 => assumption); k_whole))))
  trivial

theorem lines_P3_2 : True := by
  k_with "getMethod ref" => (((with_reducible show wpAny _ _ (getMethod (Value.ref _) (PySem.Str.ofString "get_start_pos_of_prefix") _) _ _ _); (k_dflt (refine' gm_pref ?F_4e6 ?X_4e6 ?T_4e6 ?_; (case F_4e6 => k_asm); (case X_4e6 => k_asm); (case T_4e6 => assumption); k_whole; try dsimp only))))
  k_with "callWith ref" => (((k_dflt (refine' callWith_K0 ?k1_21e ?k2_21e ?_; (case k1_21e => k_in); (case k2_21e => exact keep_pref _ _); k_whole; try dsimp only [List.cons_append, List.nil_append]))))
  trivial
theorem pref_node {prog : Program} {w : World} {py : Bool} {x : ND} {t : Tr} {ts : List Tr} (hf : full (.node x (t :: ts))) (hs : slim (.node x (t :: ts))) (ih : PrefS prog w py t) : PrefS prog w py (.node x (t :: ts)) := by
  intro A s c hr S TT nd hw R hR
  have ⟨X, p, loose, mg, mb, T, _⟩ := S
  have TT0 := ctx_tree c _ TT
  unfold TreeAt at TT0
  obtain ⟨NN, KK⟩ := TT0
  have T1 := kid_at KK (t := t) (by simp)
  dsimp only [List.map] at NN
  rw [firstOf_cons] at hR
  have hw' : ∀ v ∈ (⟨x, [], ts⟩ : Up) :: c, Good2 py v := by
    intro v hv
    rcases List.mem_cons.mp hv with rfl | hv
    · unfold full at hf
      unfold slim at hs
      refine ⟨⟨?_, ?_⟩, ?_⟩
      · have := hs.1; simp at this ⊢; omega
      · intro b hb
        rcases hb with hb | hb
        · cases hb
        · exact full_kid hf.2 (by simp [hb])
      · intro b hb; cases hb
    · exact hw v hv
  have hh : ht t + 1 ≤ ht (.node x (t :: ts)) := by
    have := ht_kid (t := t) (ts := t :: ts) (by simp)
    rw [show ht (.node x (t :: ts)) = hts (t :: ts) + 1 by rw [ht]]; omega
  show codeAny _ _ (.call (.ref 207) ⟨[.ref x.a], []⟩) _ _
  refine' enterX [(Str.ofString "self", .ref x.a)] X (TopRead.nolimit T) ?k6 ?k7 ?k8 ?k9 ?kB ?c1 ?c2 ?c3 ?c4 ?_
  (case k6 => k_is)
  (case k7 => k_is)
  (case k8 => exact (Rm.lt hr))
  (case k9 => first | exact BindsTo.of_eq rfl | exact binds_K (by k_in) rfl (by k_is) rfl rfl rfl)
  (case kB => exact locs rfl)
  (case c1 => decide)
  (case c2 => rfl)
  (case c3 => rfl)
  (case c4 => rfl)
  intro L' h₁ tk F N
  try dsimp only
  k_fold
  k_steps
  have FF := F.keep
  refine wpAny_call (Tup2.res (g := s.heap) FF (ih _ _ (⟨x, [], ts⟩ :: c) (hr.deeper (by omega)) (S.keeps FF) (TT.keeps FF) nd hw') _ fun v h' tk' k' p => ?_)
  exact hR _ _ _ (fun b o e => k' b o (FF b o e)) p
theorem pref_all {prog : Program} {w : World} {py : Bool} : ∀ n t, ht t ≤ n → full t → slim t → texts t → (∀ y ∈ t.leaves, y.c.isPlain = !py) → PrefS prog w py t := by
  intro n
  induction n with
  | zero =>
    intro t hn hf hs htx hl
    cases t with
    | leaf x => unfold texts at htx; exact pref_leaf htx.2 (hl x (by simp [Tr.leaves]))
    | node x ts => rw [ht] at hn; omega
  | succ n ih =>
    intro t hn hf hs htx hl
    cases t with
    | leaf x => unfold texts at htx; exact pref_leaf htx.2 (hl x (by simp [Tr.leaves]))
    | node x ts =>
      rw [ht] at hn
      have hf' := hf
      have hs' := hs
      unfold full at hf'
      unfold slim at hs'
      unfold texts at htx
      cases ts with
      | nil => exact absurd rfl hf'.1
      | cons t ts =>
        have hm : t ∈ t :: ts := by simp
        exact pref_node hf hs (ih t (by have := ht_kid hm; omega) (full_kid hf'.2 hm) (slim_kid hs'.2 hm) (texts_kid htx hm) fun y hy => hl y (by simp [Tr.leaves, leavesL, hy]))

/-- a for loop that stands before its first turn -/
structure ForAt (prog : Program) (w : World) (A : Around) (g : Heap) (env : Env) (x : Str) (body : List Stmt) (Q : Flow → Shared → Prop) (I : Addr) (fp : List Addr) (n : Nat) (P : Nat → Value → Prop) (St : Nat → Heap → Prop)
    (J : Nat → (Str → Option Value) → List (Addr × Obj) → Shared → Prop) (m : Str → Option Value) (news : List (Addr × Obj)) (s₂ : Shared) : Prop where
  W : Walks prog w A I (I :: fp) [I] n P St
  old : ∀ b ∈ fp, ∃ o, g.get? b = some o
  new : g.get? I = none
  loc : env.locals ≠ I
  off : ∀ p ∈ news, p.1 ≠ I
  live : ∀ i h, St i h → ∃ o, h.get? I = some o
  st : St 0 s₂.heap
  F : Fr g env.locals s₂.heap m
  N : News g env.locals s₂.heap news
  j0 : J 0 m news s₂
  hJ : ∀ i m n s h tk, J i m n s → J i m n { s with heap := h, toks := tk }
  step : ∀ i v o m₁ news₁ s₁, i < n → P i v → J i m₁ news₁ s₁ → (∀ p ∈ news₁, p.1 ≠ I) → Fr g env.locals s₁.heap (fun y => if y = x then some v else m₁ y) → News g env.locals s₁.heap ((I, o) :: news₁) →
    wpAny (model prog w) A (execs body env) (fun f s₃ => match f with
      | .next => Stop (∃ m₂ news₂, J (i + 1) m₂ news₂ s₃ ∧ Fr g env.locals s₃.heap m₂ ∧ News g env.locals s₃.heap ((I, o) :: news₂) ∧ ∀ p ∈ news₂, p.1 ≠ I)
      | .cont => Stop (∃ m₂ news₂, J (i + 1) m₂ news₂ s₃ ∧ Fr g env.locals s₃.heap m₂ ∧ News g env.locals s₃.heap ((I, o) :: news₂) ∧ ∀ p ∈ news₂, p.1 ≠ I)
      | .brk => Q .next s₃
      | .ret v => Q (.ret v) s₃) (fun _ _ => False) s₁
  done : ∀ m₁ news₁ s₁, J n m₁ news₁ s₁ → Fr g env.locals s₁.heap m₁ → News g env.locals s₁.heap news₁ → Q .next s₁

theorem for_g {prog : Program} {w : World} {A : Around} {s : Shared} {g : Heap} {env : Env} {x : Str} {px pos : Pos} {iter : Expr} {body : List Stmt} {Q : Flow → Shared → Prop} (hx : env.kindOf x = some .local)
    (hp : (env.scope.kind == .class || (env.scope.kind == .module && env.locals != env.globals)) = false)
    (h : wpAny (model prog w) A (eval iter env) (fun xv s₁ => wpAny (model prog w) A (pyIter xv) (fun it s₂ => Stop (∃ I fp n P St J m news, it = .ref I ∧ ForAt prog w A g env x body Q I fp n P St J m news s₂)) (fun _ _ => False) s₁) (fun _ _ => False) s)
    (hs : ∀ x, foldedSetIterable iter env x = pure x) :
    wpAny (model prog w) A (exec (.For (.Name x px) iter body [] pos) env) Q (fun _ _ => False) s := by
  refine wpAny_For (wpAny_mono h (fun xv s₁ h₁ => wpAny_mono h₁ (fun it s₂ h₂ => ?_) fun _ _ e => e.elim) fun _ _ e => e.elim) hs
  obtain ⟨I, fp, n, P, St, J, m, news, rfl, c⟩ := h₂.out
  refine codeAny_forLoop (fun k s' => ∃ i m' news', i ≤ n ∧ k = n + 1 - i ∧ St i s'.heap ∧ Fr g env.locals s'.heap m' ∧ News g env.locals s'.heap news' ∧ (∀ p ∈ news', p.1 ≠ I) ∧ J i m' news' s') ?_ (n + 1) ⟨0, m, news, Nat.zero_le _, rfl, c.st, c.F, c.N, c.off, c.j0⟩
  rintro k s' ⟨i, m', news', hi, rfl, hst, F', N', off', hj⟩
  have old : ∀ b o, g.get? b = some o → b ≠ I := fun b o e q => by rw [q, c.new] at e; cases e
  have next : ∀ h₁ : Heap, (∀ b o, b ∉ [I] → s'.heap.get? b = some o → h₁.get? b = some o) → Fr g env.locals h₁ m' ∧ News g env.locals h₁ news' := fun h₁ hk₁ =>
    ⟨⟨F'.ns.at' fun o e => hk₁ _ o (by simpa using c.loc) e, fun b o e => hk₁ b o (by simpa using old b o e) (F'.keep b o e), F'.above⟩, fun p hp => ⟨hk₁ _ _ (by simpa using off' p hp) (N' p hp).1, (N' p hp).2⟩⟩
  by_cases hlt : i < n
  · refine c.W.item i _ _ _ hlt hst fun v h₁ tk₁ hP hst₁ hk₁ => ?_
    obtain ⟨F₁, N₁⟩ := next h₁ hk₁
    refine wpAny_assign_Name (wpAny_storeName_local hx F₁.ns (fun h₂ hn₂ hs₂ => ?_) hp)
    have F₂ := F₁.set hn₂ hs₂
    have N₂ := N₁.set hs₂
    obtain ⟨o, ho⟩ := c.live _ _ hst₁
    have ho₂ : h₂.get? I = some o := hs₂.extBut I o (Ne.symm c.loc) ho
    have NI : News g env.locals h₂ ((I, o) :: news') := fun p hp => by
      rcases List.mem_cons.mp hp with rfl | hp
      · exact ⟨ho₂, Ne.symm c.loc, c.new⟩
      · exact N₂ p hp
    have again : ∀ s₃ : Shared, (∃ m₂ news₂, J (i + 1) m₂ news₂ s₃ ∧ Fr g env.locals s₃.heap m₂ ∧ News g env.locals s₃.heap ((I, o) :: news₂) ∧ ∀ p ∈ news₂, p.1 ≠ I) → ∃ k', k' < n + 1 - i ∧ ∃ i' m' news', i' ≤ n ∧ k' = n + 1 - i' ∧ St i' s₃.heap ∧ Fr g env.locals s₃.heap m' ∧ News g env.locals s₃.heap news' ∧ (∀ p ∈ news', p.1 ≠ I) ∧ J i' m' news' s₃ := by
      rintro s₃ ⟨m₂, news₂, hj₂, F₃, N₃, off₃⟩
      refine ⟨n + 1 - (i + 1), by omega, i + 1, m₂, news₂, hlt, rfl, ?_, F₃, fun p hp => N₃ p (List.mem_cons_of_mem _ hp), off₃, hj₂⟩
      refine c.W.frame _ _ _ hst₁ fun b hb o' e => ?_
      rcases List.mem_cons.mp hb with rfl | hb
      · rw [ho] at e
        cases e
        exact (N₃ _ (List.mem_cons_self ..)).1
      · obtain ⟨o₀, e₀⟩ := c.old b hb
        have e₁ := F₁.keep b o₀ e₀
        rw [e] at e₁
        cases e₁
        exact F₃.keep b _ e₀
    refine wpAny_mono (c.step i v o m' news' _ hlt hP (c.hJ _ _ _ _ _ _ (c.hJ i m' news' s' h₁ tk₁ hj)) off' F₂ NI) (fun f s₃ h₃ => ?_) fun _ _ e => e.elim
    cases f with
    | ret v => exact h₃
    | brk => exact h₃
    | cont => exact again s₃ h₃.out
    | next => exact again s₃ h₃.out
  · have hin : i = n := Nat.le_antisymm hi (Nat.not_lt.mp hlt)
    subst hin
    refine c.W.done _ _ _ hst fun h₁ tk₁ hk₁ => wpAny_execs_nil ?_
    obtain ⟨F₁, N₁⟩ := next h₁ hk₁
    exact c.done m' news' _ (c.hJ _ _ _ _ _ _ hj) F₁ N₁
theorem for_list {prog : Program} {w : World} {A : Around} {s : Shared} {g : Heap} {env : Env} {x : Str} {px pos : Pos} {iter : Expr} {body : List Stmt} {Q : Flow → Shared → Prop} {l : Addr} {vs : List Value} (m : Str → Option Value) (news : List (Addr × Obj)) (J : Nat → (Str → Option Value) → List (Addr × Obj) → Shared → Prop)
    (hx : env.kindOf x = some .local) (hp : (env.scope.kind == .class || (env.scope.kind == .module && env.locals != env.globals)) = false) (hh : A.handled = none) (hl : g.IsList l vs.toArray)
    (hJ : ∀ i m n s h tk, J i m n s → J i m n { s with heap := h, toks := tk })
    (heval : wpAny (model prog w) A (eval iter env) (fun xv s₁ => Stop (xv = .ref l ∧ J 0 m news s₁ ∧ Fr g env.locals s₁.heap m ∧ News g env.locals s₁.heap news)) (fun _ _ => False) s)
    (step : ∀ i v I o m₁ news₁ s₁, vs[i]? = some v → J i m₁ news₁ s₁ → (∀ p ∈ news₁, p.1 ≠ I) → Fr g env.locals s₁.heap (fun y => if y = x then some v else m₁ y) → News g env.locals s₁.heap ((I, o) :: news₁) →
      wpAny (model prog w) A (execs body env) (fun f s₃ => match f with
        | .next => Stop (∃ m₂ news₂, J (i + 1) m₂ news₂ s₃ ∧ Fr g env.locals s₃.heap m₂ ∧ News g env.locals s₃.heap ((I, o) :: news₂) ∧ ∀ p ∈ news₂, p.1 ≠ I)
        | .cont => Stop (∃ m₂ news₂, J (i + 1) m₂ news₂ s₃ ∧ Fr g env.locals s₃.heap m₂ ∧ News g env.locals s₃.heap ((I, o) :: news₂) ∧ ∀ p ∈ news₂, p.1 ≠ I)
        | .brk => Q .next s₃
        | .ret v => Q (.ret v) s₃) (fun _ _ => False) s₁)
    (done : ∀ m₁ news₁ s₁, J vs.length m₁ news₁ s₁ → Fr g env.locals s₁.heap m₁ → News g env.locals s₁.heap news₁ → Q .next s₁) (hs : ∀ x, foldedSetIterable iter env x = pure x) :
    wpAny (model prog w) A (exec (.For (.Name x px) iter body [] pos) env) Q (fun _ _ => False) s := by
  refine for_g (g := g) hx hp (wpAny_mono heval (fun xv s₁ h₁ => ?_) fun _ _ e => e.elim) hs
  obtain ⟨rfl, j0, F, N⟩ := h₁.out
  have IL := hl.at fun o e => F.keep l o e
  refine wpAny_pyIter_list IL ⟨?_⟩
  have hlt : l < s₁.heap.objs.size := by obtain ⟨_, e, _⟩ := IL; exact Heap.lt_size e
  have kp : ∀ b o, s₁.heap.get? b = some o → (s₁.heap.push { cls := .type "list_iterator", data := .fields #[.ref l, .int 0 0] }).get? b = some o := fun b o e => Heap.get?_push_of_some _ e
  refine ⟨s₁.heap.objs.size, [l], vs.toArray.size, (fun i v => vs.toArray[i]? = some v), (fun i h => h.IsListIter s₁.heap.objs.size l i ∧ h.IsList l vs.toArray), J, m, news, rfl, ?_⟩
  exact {
    W := Walks.list hh _ l (Nat.ne_of_lt hlt) vs.toArray
    old := fun b hb => by rw [List.mem_singleton.mp hb]; obtain ⟨o, e, _⟩ := hl; exact ⟨o, e⟩
    new := by
      cases q : g.get? s₁.heap.objs.size with
      | none => rfl
      | some o => exact absurd (Heap.lt_size (F.keep _ _ q)) (Nat.lt_irrefl _)
    loc := Nat.ne_of_lt F.ns.lt
    off := fun p hp => Nat.ne_of_lt (Heap.lt_size (N p hp).1)
    live := fun i h st => by obtain ⟨o, e, _⟩ := st.1; exact ⟨o, e⟩
    st := ⟨⟨_, Heap.get?_push_size _ rfl, rfl, rfl⟩, IL.push _⟩
    F := ⟨F.ns.keeps kp, fun b o e => kp b o (F.keep b o e), F.above⟩
    N := fun p hp => ⟨kp _ _ (N p hp).1, (N p hp).2⟩
    j0 := hJ _ _ _ _ _ _ j0
    hJ := hJ
    step := fun i v o m₁ news₁ s₂ hi hP hj ho hF hN => step i v _ o m₁ news₁ s₂ (by simpa using hP) hj ho hF hN
    done := fun m₁ news₁ s₂ hj => done m₁ news₁ s₂ (by simpa using hj) }

theorem enterN {prog : Program} {w : World} {A : Around} {s : Shared} {K : Frag} {R : Result → Shared → Prop} {name qual : Str} {params : Arguments} {body : List Stmt} {scope : Scope} {cl : List (Str × Addr)} {dV kV doc pm cdv ct oc : Value} {an od : Option Addr} {osl : Array (Option Value)} {f : Addr} {args : Args} (hide : List (Addr × Obj)) (binds : List (Str × Value))
    (X : K.In s.heap) (hlim : s.heap.NoLimit) (hh : ∀ p ∈ hide, s.heap.get? p.1 = some p.2)
    (ho : K.lookup f = some ⟨oc, od, .func (fnX name qual params body scope cl dV kV doc pm an cdv ct), osl⟩) (hcd : codeIn K cdv qual = true) (hroom : A.depth < recursionLimit)
    (hbind : BindsTo s (fnX name qual params body scope cl dV kV doc pm an cdv ct) args binds) (hloc : ∀ y ∈ binds, scope.names.lookup y.1 = some .local)
    (hcell : ∀ x ∈ scope.names, x.2 ≠ .cell) (hco : scope.isCoroutine = false) (hgen : scope.isGenerator = false) (hk : scope.kind = .function)
    (h : ∀ L' h₁ tk, Fr (hideAll s.heap (hide.map (·.1))) L' h₁ (fun y => binds.reverse.lookup y) → News (hideAll s.heap (hide.map (·.1))) L' h₁ hide →
      wpAny (model prog w) (A.deeper (envX qual scope L' f cdv cl)) (execs body (envX qual scope L' f cdv cl))
        (fun fl s' => R (.ok (.ret (match fl with | .ret v => v | _ => .none))) s') (fun _ _ => False) { s with heap := h₁, toks := tk }) :
    codeAny (model prog w) A (.call (.ref f) args) R s := by
  refine enterX binds X hlim ho hcd hroom hbind hloc hcell hco hgen hk fun L' h₁ tk F N => ?_
  refine h L' h₁ tk ⟨F.ns, fun b o e => F.keep b o (of_hideAll _ e), by rw [hideAll_size]; exact F.above⟩ fun p hp => ⟨F.keep _ _ (hh p hp), ?_, hideAll_none _ (List.mem_map_of_mem hp)⟩
  exact Nat.ne_of_lt (Nat.lt_of_lt_of_le (Heap.lt_size (hh p hp)) F.above)
theorem set_pos_plain {prog : Program} {w : World} {A : Around} {s : Shared} {x d pl : Addr} {t1 ta tb : Tok} {v1 : Value} {a b : Int} {R : Result → Shared → Prop} (hr : Rm A 2) (hne : x ≠ d)
    (S : St w (hideAll s.heap [x, d])) (hx : s.heap.get? x = some (instObj 176 d)) (hdc : s.heap.get? d = some (dictOf [ent w.params "value" t1 v1] 1))
    (hp : IsTup (hideAll s.heap [x, d]) pl #[.int a ta, .int b tb])
    (hR : ∀ h' tk t2 t3, (∀ b o, b ≠ x → b ≠ d → s.heap.get? b = some o → h'.get? b = some o) → h'.get? x = some (instObj 176 d) → h'.get? d = some (dictOf [ent w.params "value" t1 v1, ent w.params "line" t2 (.int a ta), ent w.params "column" t3 (.int b tb)] 3) → R (.ok (.ret .none)) { s with heap := h', toks := tk }) :
    codeAny (model prog w) A (.call (.ref 135) ⟨[.ref x, .ref pl], []⟩) R s := by
  have ⟨X, p, loose, mg, mb, T, _⟩ := S
  refine' enterN [(x, instObj 176 d), (d, dictOf [ent w.params "value" t1 v1] 1)] [(Str.ofString "self", .ref x), (Str.ofString "value", .ref pl)] (X.keeps fun _ _ e => of_hideAll _ e) ((TopRead.nolimit T).keeps fun _ _ e => of_hideAll _ e) ?kh ?k6 ?k7 ?k8 ?k9 ?kB ?c1 ?c2 ?c3 ?c4 ?_
  (case kh => intro p hp; simp at hp; rcases hp with rfl | rfl; exact hx; exact hdc)
  (case k6 => k_is)
  (case k7 => k_is)
  (case k8 => exact hr.lt)
  (case k9 => exact BindsTo.of_eq rfl)
  (case kB => exact locs rfl)
  (case c1 => decide)
  (case c2 => rfl)
  (case c3 => rfl)
  (case c4 => rfl)
  intro L' h₁ tk F N
  try dsimp only
  dsimp only [List.map] at F N
  k_fold
  k_steps
  rename_i F' N'
  exact hR _ _ _ _ (fun b o h1 h2 e => F'.keep b o (hideAll_get _ e (by simp [h1, h2]))) (N'.get (List.mem_cons_self ..)) (N'.get (List.mem_cons_of_mem _ (List.mem_cons_self ..)))

theorem set_pos_str {prog : Program} {w : World} {A : Around} {s : Shared} {x d pl : Addr} {t1 ta tb : Tok} {v1 : Value} {a b : Int} {R : Result → Shared → Prop} (hr : Rm A 2) (hne : x ≠ d)
    (S : St w (hideAll s.heap [x, d])) (hx : s.heap.get? x = some (instObj 384 d)) (hdc : s.heap.get? d = some (dictOf [ent w.params "value" t1 v1] 1))
    (hp : IsTup (hideAll s.heap [x, d]) pl #[.int a ta, .int b tb])
    (hR : ∀ h' tk t2 t3, (∀ b o, b ≠ x → b ≠ d → s.heap.get? b = some o → h'.get? b = some o) → h'.get? x = some (instObj 384 d) → h'.get? d = some (dictOf [ent w.params "value" t1 v1, ent w.params "line" t2 (.int a ta), ent w.params "column" t3 (.int b tb)] 3) → R (.ok (.ret .none)) { s with heap := h', toks := tk }) :
    codeAny (model prog w) A (.call (.ref 135) ⟨[.ref x, .ref pl], []⟩) R s := by
  have ⟨X, p, loose, mg, mb, T, _⟩ := S
  refine' enterN [(x, instObj 384 d), (d, dictOf [ent w.params "value" t1 v1] 1)] [(Str.ofString "self", .ref x), (Str.ofString "value", .ref pl)] (X.keeps fun _ _ e => of_hideAll _ e) ((TopRead.nolimit T).keeps fun _ _ e => of_hideAll _ e) ?kh ?k6 ?k7 ?k8 ?k9 ?kB ?c1 ?c2 ?c3 ?c4 ?_
  (case kh => intro p hp; simp at hp; rcases hp with rfl | rfl; exact hx; exact hdc)
  (case k6 => k_is)
  (case k7 => k_is)
  (case k8 => exact hr.lt)
  (case k9 => exact BindsTo.of_eq rfl)
  (case kB => exact locs rfl)
  (case c1 => decide)
  (case c2 => rfl)
  (case c3 => rfl)
  (case c4 => rfl)
  intro L' h₁ tk F N
  try dsimp only
  dsimp only [List.map] at F N
  k_fold
  k_steps
  rename_i F' N'
  exact hR _ _ _ _ (fun b o h1 h2 e => F'.keep b o (hideAll_get _ e (by simp [h1, h2]))) (N'.get (List.mem_cons_self ..)) (N'.get (List.mem_cons_of_mem _ (List.mem_cons_self ..)))

theorem set_pos_name {prog : Program} {w : World} {A : Around} {s : Shared} {x d pl : Addr} {t1 ta tb : Tok} {v1 : Value} {a b : Int} {R : Result → Shared → Prop} (hr : Rm A 2) (hne : x ≠ d)
    (S : St w (hideAll s.heap [x, d])) (hx : s.heap.get? x = some (instObj 360 d)) (hdc : s.heap.get? d = some (dictOf [ent w.params "value" t1 v1] 1))
    (hp : IsTup (hideAll s.heap [x, d]) pl #[.int a ta, .int b tb])
    (hR : ∀ h' tk t2 t3, (∀ b o, b ≠ x → b ≠ d → s.heap.get? b = some o → h'.get? b = some o) → h'.get? x = some (instObj 360 d) → h'.get? d = some (dictOf [ent w.params "value" t1 v1, ent w.params "line" t2 (.int a ta), ent w.params "column" t3 (.int b tb)] 3) → R (.ok (.ret .none)) { s with heap := h', toks := tk }) :
    codeAny (model prog w) A (.call (.ref 135) ⟨[.ref x, .ref pl], []⟩) R s := by
  have ⟨X, p, loose, mg, mb, T, _⟩ := S
  refine' enterN [(x, instObj 360 d), (d, dictOf [ent w.params "value" t1 v1] 1)] [(Str.ofString "self", .ref x), (Str.ofString "value", .ref pl)] (X.keeps fun _ _ e => of_hideAll _ e) ((TopRead.nolimit T).keeps fun _ _ e => of_hideAll _ e) ?kh ?k6 ?k7 ?k8 ?k9 ?kB ?c1 ?c2 ?c3 ?c4 ?_
  (case kh => intro p hp; simp at hp; rcases hp with rfl | rfl; exact hx; exact hdc)
  (case k6 => k_is)
  (case k7 => k_is)
  (case k8 => exact hr.lt)
  (case k9 => exact BindsTo.of_eq rfl)
  (case kB => exact locs rfl)
  (case c1 => decide)
  (case c2 => rfl)
  (case c3 => rfl)
  (case c4 => rfl)
  intro L' h₁ tk F N
  try dsimp only
  dsimp only [List.map] at F N
  k_fold
  k_steps
  rename_i F' N'
  exact hR _ _ _ _ (fun b o h1 h2 e => F'.keep b o (hideAll_get _ e (by simp [h1, h2]))) (N'.get (List.mem_cons_self ..)) (N'.get (List.mem_cons_of_mem _ (List.mem_cons_self ..)))

theorem set_pos_oper {prog : Program} {w : World} {A : Around} {s : Shared} {x d pl : Addr} {t1 ta tb : Tok} {v1 : Value} {a b : Int} {R : Result → Shared → Prop} (hr : Rm A 2) (hne : x ≠ d)
    (S : St w (hideAll s.heap [x, d])) (hx : s.heap.get? x = some (instObj 417 d)) (hdc : s.heap.get? d = some (dictOf [ent w.params "value" t1 v1] 1))
    (hp : IsTup (hideAll s.heap [x, d]) pl #[.int a ta, .int b tb])
    (hR : ∀ h' tk t2 t3, (∀ b o, b ≠ x → b ≠ d → s.heap.get? b = some o → h'.get? b = some o) → h'.get? x = some (instObj 417 d) → h'.get? d = some (dictOf [ent w.params "value" t1 v1, ent w.params "line" t2 (.int a ta), ent w.params "column" t3 (.int b tb)] 3) → R (.ok (.ret .none)) { s with heap := h', toks := tk }) :
    codeAny (model prog w) A (.call (.ref 135) ⟨[.ref x, .ref pl], []⟩) R s := by
  have ⟨X, p, loose, mg, mb, T, _⟩ := S
  refine' enterN [(x, instObj 417 d), (d, dictOf [ent w.params "value" t1 v1] 1)] [(Str.ofString "self", .ref x), (Str.ofString "value", .ref pl)] (X.keeps fun _ _ e => of_hideAll _ e) ((TopRead.nolimit T).keeps fun _ _ e => of_hideAll _ e) ?kh ?k6 ?k7 ?k8 ?k9 ?kB ?c1 ?c2 ?c3 ?c4 ?_
  (case kh => intro p hp; simp at hp; rcases hp with rfl | rfl; exact hx; exact hdc)
  (case k6 => k_is)
  (case k7 => k_is)
  (case k8 => exact hr.lt)
  (case k9 => exact BindsTo.of_eq rfl)
  (case kB => exact locs rfl)
  (case c1 => decide)
  (case c2 => rfl)
  (case c3 => rfl)
  (case c4 => rfl)
  intro L' h₁ tk F N
  try dsimp only
  dsimp only [List.map] at F N
  k_fold
  k_steps
  rename_i F' N'
  exact hR _ _ _ _ (fun b o h1 h2 e => F'.keep b o (hideAll_get _ e (by simp [h1, h2]))) (N'.get (List.mem_cons_self ..)) (N'.get (List.mem_cons_of_mem _ (List.mem_cons_self ..)))

theorem hide_sub {g h : Heap} {l : List Addr} (k : ∀ b o, g.get? b = some o → h.get? b = some o) (n : ∀ a ∈ l, g.get? a = none) : ∀ b o, g.get? b = some o → (hideAll h l).get? b = some o := fun b o e => hideAll_get _ (k b o e) fun hm => by rw [n b hm] at e; cases e

theorem w_setpos_plain {prog : Program} {w : World} {A : Around} {E : Value → Shared → Prop} {s : Shared} {Q : Unit → Shared → Prop} {g : Heap} {L x d pl : Addr} {m : Str → Option Value} {t1 ta tb : Tok} {v1 : Value} {a b : Int} (hr : Rm A 4) (F : Fr g L s.heap m)
    (N : News g L s.heap [(x, instObj 176 d), (d, dictOf [ent w.params "value" t1 v1] 1)]) (S : St w g) (hp : IsTup g pl #[.int a ta, .int b tb])
    (h : ∀ h' tk t2 t3, Fr g L h' m → News g L h' [(x, instObj 176 d), (d, dictOf [ent w.params "value" t1 v1, ent w.params "line" t2 (.int a ta), ent w.params "column" t3 (.int b tb)] 3)] → Q () { s with heap := h', toks := tk }) :
    wpAny (model prog w) A (setAttr (.ref x) "start_pos" (.ref pl)) Q E s := by
  have Nx := N (x, instObj 176 d) (by simp)
  have Nd := N (d, dictOf [ent w.params "value" t1 v1] 1) (by simp)
  have hne : x ≠ d := fun e => by
    have h1 := Nx.1
    have h2 := Nd.1
    dsimp only at h1 h2
    rw [e, h2] at h1
    cases h1
  have hn : ∀ q ∈ [x, d], g.get? q = none := by
    intro q hq
    simp at hq
    rcases hq with rfl | rfl
    · exact Nx.2.2
    · exact Nd.2.2
  have sub := hide_sub F.keep hn
  have I : InstAt s.heap x (instObj 176 d) 176 (some (dictOf [ent w.params "value" t1 v1] 1)) := ⟨Nx.1, rfl, rfl, Nd.1⟩
  refine set_prop (K := hd.heap_1 w.params) (p := 136) (fset := 135) (a := .ref 126) (rest := [.none, .none, .str (Str.ofString "start_pos") 454, .bool false]) F S.1 I (by kernel_rfl!) (by kernel_rfl!) (by kernel_rfl!) (by kernel_rfl!) (by kernel_rfl!) ?_
  refine set_pos_plain ((hr.in1 (k := 3) (by omega)).in1 (by omega)) hne (S.keeps sub) Nx.1 Nd.1 (hp.keeps sub) fun h' tk t2 t3 k1 k2 k3 => ?_
  refine h h' tk t2 t3 ⟨F.ns.at' fun o e => k1 _ o (Ne.symm Nx.2.1) (Ne.symm Nd.2.1) e, fun b o e => k1 b o (fun q => by rw [q, Nx.2.2] at e; cases e) (fun q => by rw [q, Nd.2.2] at e; cases e) (F.keep b o e), F.above⟩ fun p hp => ?_
  simp only [List.mem_cons, List.not_mem_nil, or_false] at hp
  rcases hp with rfl | rfl
  · exact ⟨k2, Nx.2⟩
  · exact ⟨k3, Nd.2⟩
theorem lines_I1_1 : True := by
  k_with_none
  k_with "setAttr ref" => (((with_reducible show wpAny _ _ (setAttr (Value.ref _) (PySem.Str.ofString "start_pos") _) _ _ _); (k_dflt (refine' w_setpos_plain ?R_5b9 ?F_5b9 ?N_5b9 ?S_5b9 ?P_5b9 ?_; (case F_5b9 => k_asm); (case N_5b9 => k_asm); (case S_5b9 => assumption); (case P_5b9 => assumption); (case R_5b9 => exact Rm.deeper (by assumption) (by omega)); k_whole; intro _ _ _ _ _ _; (try k_sweep)))))
  trivial

theorem w_setpos_str {prog : Program} {w : World} {A : Around} {E : Value → Shared → Prop} {s : Shared} {Q : Unit → Shared → Prop} {g : Heap} {L x d pl : Addr} {m : Str → Option Value} {t1 ta tb : Tok} {v1 : Value} {a b : Int} (hr : Rm A 4) (F : Fr g L s.heap m)
    (N : News g L s.heap [(x, instObj 384 d), (d, dictOf [ent w.params "value" t1 v1] 1)]) (S : St w g) (hp : IsTup g pl #[.int a ta, .int b tb])
    (h : ∀ h' tk t2 t3, Fr g L h' m → News g L h' [(x, instObj 384 d), (d, dictOf [ent w.params "value" t1 v1, ent w.params "line" t2 (.int a ta), ent w.params "column" t3 (.int b tb)] 3)] → Q () { s with heap := h', toks := tk }) :
    wpAny (model prog w) A (setAttr (.ref x) "start_pos" (.ref pl)) Q E s := by
  have Nx := N (x, instObj 384 d) (by simp)
  have Nd := N (d, dictOf [ent w.params "value" t1 v1] 1) (by simp)
  have hne : x ≠ d := fun e => by
    have h1 := Nx.1
    have h2 := Nd.1
    dsimp only at h1 h2
    rw [e, h2] at h1
    cases h1
  have hn : ∀ q ∈ [x, d], g.get? q = none := by
    intro q hq
    simp at hq
    rcases hq with rfl | rfl
    · exact Nx.2.2
    · exact Nd.2.2
  have sub := hide_sub F.keep hn
  have I : InstAt s.heap x (instObj 384 d) 384 (some (dictOf [ent w.params "value" t1 v1] 1)) := ⟨Nx.1, rfl, rfl, Nd.1⟩
  refine set_prop (K := hd.heap_1 w.params) (p := 136) (fset := 135) (a := .ref 126) (rest := [.none, .none, .str (Str.ofString "start_pos") 454, .bool false]) F S.1 I (by kernel_rfl!) (by kernel_rfl!) (by kernel_rfl!) (by kernel_rfl!) (by kernel_rfl!) ?_
  refine set_pos_str ((hr.in1 (k := 3) (by omega)).in1 (by omega)) hne (S.keeps sub) Nx.1 Nd.1 (hp.keeps sub) fun h' tk t2 t3 k1 k2 k3 => ?_
  refine h h' tk t2 t3 ⟨F.ns.at' fun o e => k1 _ o (Ne.symm Nx.2.1) (Ne.symm Nd.2.1) e, fun b o e => k1 b o (fun q => by rw [q, Nx.2.2] at e; cases e) (fun q => by rw [q, Nd.2.2] at e; cases e) (F.keep b o e), F.above⟩ fun p hp => ?_
  simp only [List.mem_cons, List.not_mem_nil, or_false] at hp
  rcases hp with rfl | rfl
  · exact ⟨k2, Nx.2⟩
  · exact ⟨k3, Nd.2⟩
theorem lines_I1_2 : True := by
  k_with "setAttr ref" => (((with_reducible show wpAny _ _ (setAttr (Value.ref _) (PySem.Str.ofString "start_pos") _) _ _ _); (k_dflt (refine' w_setpos_str ?R_d0f ?F_d0f ?N_d0f ?S_d0f ?P_d0f ?_; (case F_d0f => k_asm); (case N_d0f => k_asm); (case S_d0f => assumption); (case P_d0f => assumption); (case R_d0f => exact Rm.deeper (by assumption) (by omega)); k_whole; intro _ _ _ _ _ _; (try k_sweep)))))
  trivial

theorem w_setpos_name {prog : Program} {w : World} {A : Around} {E : Value → Shared → Prop} {s : Shared} {Q : Unit → Shared → Prop} {g : Heap} {L x d pl : Addr} {m : Str → Option Value} {t1 ta tb : Tok} {v1 : Value} {a b : Int} (hr : Rm A 4) (F : Fr g L s.heap m)
    (N : News g L s.heap [(x, instObj 360 d), (d, dictOf [ent w.params "value" t1 v1] 1)]) (S : St w g) (hp : IsTup g pl #[.int a ta, .int b tb])
    (h : ∀ h' tk t2 t3, Fr g L h' m → News g L h' [(x, instObj 360 d), (d, dictOf [ent w.params "value" t1 v1, ent w.params "line" t2 (.int a ta), ent w.params "column" t3 (.int b tb)] 3)] → Q () { s with heap := h', toks := tk }) :
    wpAny (model prog w) A (setAttr (.ref x) "start_pos" (.ref pl)) Q E s := by
  have Nx := N (x, instObj 360 d) (by simp)
  have Nd := N (d, dictOf [ent w.params "value" t1 v1] 1) (by simp)
  have hne : x ≠ d := fun e => by
    have h1 := Nx.1
    have h2 := Nd.1
    dsimp only at h1 h2
    rw [e, h2] at h1
    cases h1
  have hn : ∀ q ∈ [x, d], g.get? q = none := by
    intro q hq
    simp at hq
    rcases hq with rfl | rfl
    · exact Nx.2.2
    · exact Nd.2.2
  have sub := hide_sub F.keep hn
  have I : InstAt s.heap x (instObj 360 d) 360 (some (dictOf [ent w.params "value" t1 v1] 1)) := ⟨Nx.1, rfl, rfl, Nd.1⟩
  refine set_prop (K := hd.heap_1 w.params) (p := 136) (fset := 135) (a := .ref 126) (rest := [.none, .none, .str (Str.ofString "start_pos") 454, .bool false]) F S.1 I (by kernel_rfl!) (by kernel_rfl!) (by kernel_rfl!) (by kernel_rfl!) (by kernel_rfl!) ?_
  refine set_pos_name ((hr.in1 (k := 3) (by omega)).in1 (by omega)) hne (S.keeps sub) Nx.1 Nd.1 (hp.keeps sub) fun h' tk t2 t3 k1 k2 k3 => ?_
  refine h h' tk t2 t3 ⟨F.ns.at' fun o e => k1 _ o (Ne.symm Nx.2.1) (Ne.symm Nd.2.1) e, fun b o e => k1 b o (fun q => by rw [q, Nx.2.2] at e; cases e) (fun q => by rw [q, Nd.2.2] at e; cases e) (F.keep b o e), F.above⟩ fun p hp => ?_
  simp only [List.mem_cons, List.not_mem_nil, or_false] at hp
  rcases hp with rfl | rfl
  · exact ⟨k2, Nx.2⟩
  · exact ⟨k3, Nd.2⟩
theorem lines_I1_3 : True := by
  k_with "setAttr ref" => (((with_reducible show wpAny _ _ (setAttr (Value.ref _) (PySem.Str.ofString "start_pos") _) _ _ _); (k_dflt (refine' w_setpos_name ?R_2ad ?F_2ad ?N_2ad ?S_2ad ?P_2ad ?_; (case F_2ad => k_asm); (case N_2ad => k_asm); (case S_2ad => assumption); (case P_2ad => assumption); (case R_2ad => exact Rm.deeper (by assumption) (by omega)); k_whole; intro _ _ _ _ _ _; (try k_sweep)))))
  trivial

theorem w_setpos_oper {prog : Program} {w : World} {A : Around} {E : Value → Shared → Prop} {s : Shared} {Q : Unit → Shared → Prop} {g : Heap} {L x d pl : Addr} {m : Str → Option Value} {t1 ta tb : Tok} {v1 : Value} {a b : Int} (hr : Rm A 4) (F : Fr g L s.heap m)
    (N : News g L s.heap [(x, instObj 417 d), (d, dictOf [ent w.params "value" t1 v1] 1)]) (S : St w g) (hp : IsTup g pl #[.int a ta, .int b tb])
    (h : ∀ h' tk t2 t3, Fr g L h' m → News g L h' [(x, instObj 417 d), (d, dictOf [ent w.params "value" t1 v1, ent w.params "line" t2 (.int a ta), ent w.params "column" t3 (.int b tb)] 3)] → Q () { s with heap := h', toks := tk }) :
    wpAny (model prog w) A (setAttr (.ref x) "start_pos" (.ref pl)) Q E s := by
  have Nx := N (x, instObj 417 d) (by simp)
  have Nd := N (d, dictOf [ent w.params "value" t1 v1] 1) (by simp)
  have hne : x ≠ d := fun e => by
    have h1 := Nx.1
    have h2 := Nd.1
    dsimp only at h1 h2
    rw [e, h2] at h1
    cases h1
  have hn : ∀ q ∈ [x, d], g.get? q = none := by
    intro q hq
    simp at hq
    rcases hq with rfl | rfl
    · exact Nx.2.2
    · exact Nd.2.2
  have sub := hide_sub F.keep hn
  have I : InstAt s.heap x (instObj 417 d) 417 (some (dictOf [ent w.params "value" t1 v1] 1)) := ⟨Nx.1, rfl, rfl, Nd.1⟩
  refine set_prop (K := hd.heap_1 w.params) (p := 136) (fset := 135) (a := .ref 126) (rest := [.none, .none, .str (Str.ofString "start_pos") 454, .bool false]) F S.1 I (by kernel_rfl!) (by kernel_rfl!) (by kernel_rfl!) (by kernel_rfl!) (by kernel_rfl!) ?_
  refine set_pos_oper ((hr.in1 (k := 3) (by omega)).in1 (by omega)) hne (S.keeps sub) Nx.1 Nd.1 (hp.keeps sub) fun h' tk t2 t3 k1 k2 k3 => ?_
  refine h h' tk t2 t3 ⟨F.ns.at' fun o e => k1 _ o (Ne.symm Nx.2.1) (Ne.symm Nd.2.1) e, fun b o e => k1 b o (fun q => by rw [q, Nx.2.2] at e; cases e) (fun q => by rw [q, Nd.2.2] at e; cases e) (F.keep b o e), F.above⟩ fun p hp => ?_
  simp only [List.mem_cons, List.not_mem_nil, or_false] at hp
  rcases hp with rfl | rfl
  · exact ⟨k2, Nx.2⟩
  · exact ⟨k3, Nd.2⟩
theorem lines_I1_4 : True := by
  k_with "setAttr ref" => (((with_reducible show wpAny _ _ (setAttr (Value.ref _) (PySem.Str.ofString "start_pos") _) _ _ _); (k_dflt (refine' w_setpos_oper ?R_d5f ?F_d5f ?N_d5f ?S_d5f ?P_d5f ?_; (case F_d5f => k_asm); (case N_d5f => k_asm); (case S_d5f => assumption); (case P_d5f => assumption); (case R_d5f => exact Rm.deeper (by assumption) (by omega)); k_whole; intro _ _ _ _ _ _; (try k_sweep)))))
  trivial

theorem init_plain {prog : Program} {w : World} {A : Around} {s : Shared} {x d pl : Addr} {ta tb tv tp : Tok} {v p : Str} {a b : Int} {R : Result → Shared → Prop} (hr : Rm A 6) (hne : x ≠ d)
    (S : St w (hideAll s.heap [x, d])) (hx : s.heap.get? x = some (instObj 176 d)) (hdc : s.heap.get? d = some emptyDict)
    (hp : IsTup (hideAll s.heap [x, d]) pl #[.int a ta, .int b tb])
    (hR : ∀ h' tk t1 t2 t3 t4 t5, (∀ b o, b ≠ x → b ≠ d → s.heap.get? b = some o → h'.get? b = some o) → h'.get? x = some (instObj 176 d) → h'.get? d = some (dictOf [ent w.params "value" t1 (.str v tv), ent w.params "line" t2 (.int a ta), ent w.params "column" t3 (.int b tb), ent w.params "prefix" t4 (.str p tp), ent w.params "parent" t5 .none] 5) → R (.ok (.ret .none)) { s with heap := h', toks := tk }) :
    codeAny (model prog w) A (.call (.ref 119) ⟨[.ref x, .str v tv, .ref pl, .str p tp], []⟩) R s := by
  have ⟨X, p', loose, mg, mb, T, _⟩ := S
  have X0 : (hd.heap_1 w.params).In s.heap := X.keeps fun _ _ e => of_hideAll _ e
  refine' enterN [(x, instObj 176 d), (d, emptyDict)] [(Str.ofString "self", .ref x), (Str.ofString "value", .str v tv), (Str.ofString "start_pos", .ref pl), (Str.ofString "prefix", .str p tp)] (X.keeps fun _ _ e => of_hideAll _ e) ((TopRead.nolimit T).keeps fun _ _ e => of_hideAll _ e) ?kh ?k6 ?k7 ?k8 ?k9 ?kB ?c1 ?c2 ?c3 ?c4 ?_
  (case kh => intro p hp; simp at hp; rcases hp with rfl | rfl; exact hx; exact hdc)
  (case k6 => k_is)
  (case k7 => k_is)
  (case k8 => exact hr.lt)
  (case k9 => exact binds_K X0 rfl (by k_is) rfl rfl rfl)
  (case kB => exact locs rfl)
  (case c1 => decide)
  (case c2 => rfl)
  (case c3 => rfl)
  (case c4 => rfl)
  intro L' h₁ tk F N
  try dsimp only
  dsimp only [List.map] at F N
  k_fold
  clear X0
  k_steps
  rename_i F' N'
  exact hR _ _ _ _ _ _ _ (fun b o h1 h2 e => F'.keep b o (hideAll_get _ e (by simp [h1, h2]))) (N'.get (List.mem_cons_self ..)) (N'.get (List.mem_cons_of_mem _ (List.mem_cons_self ..)))

theorem init_str {prog : Program} {w : World} {A : Around} {s : Shared} {x d pl : Addr} {ta tb tv tp : Tok} {v p : Str} {a b : Int} {R : Result → Shared → Prop} (hr : Rm A 6) (hne : x ≠ d)
    (S : St w (hideAll s.heap [x, d])) (hx : s.heap.get? x = some (instObj 384 d)) (hdc : s.heap.get? d = some emptyDict)
    (hp : IsTup (hideAll s.heap [x, d]) pl #[.int a ta, .int b tb])
    (hR : ∀ h' tk t1 t2 t3 t4 t5, (∀ b o, b ≠ x → b ≠ d → s.heap.get? b = some o → h'.get? b = some o) → h'.get? x = some (instObj 384 d) → h'.get? d = some (dictOf [ent w.params "value" t1 (.str v tv), ent w.params "line" t2 (.int a ta), ent w.params "column" t3 (.int b tb), ent w.params "prefix" t4 (.str p tp), ent w.params "parent" t5 .none] 5) → R (.ok (.ret .none)) { s with heap := h', toks := tk }) :
    codeAny (model prog w) A (.call (.ref 119) ⟨[.ref x, .str v tv, .ref pl, .str p tp], []⟩) R s := by
  have ⟨X, p', loose, mg, mb, T, _⟩ := S
  have X0 : (hd.heap_1 w.params).In s.heap := X.keeps fun _ _ e => of_hideAll _ e
  refine' enterN [(x, instObj 384 d), (d, emptyDict)] [(Str.ofString "self", .ref x), (Str.ofString "value", .str v tv), (Str.ofString "start_pos", .ref pl), (Str.ofString "prefix", .str p tp)] (X.keeps fun _ _ e => of_hideAll _ e) ((TopRead.nolimit T).keeps fun _ _ e => of_hideAll _ e) ?kh ?k6 ?k7 ?k8 ?k9 ?kB ?c1 ?c2 ?c3 ?c4 ?_
  (case kh => intro p hp; simp at hp; rcases hp with rfl | rfl; exact hx; exact hdc)
  (case k6 => k_is)
  (case k7 => k_is)
  (case k8 => exact hr.lt)
  (case k9 => exact binds_K X0 rfl (by k_is) rfl rfl rfl)
  (case kB => exact locs rfl)
  (case c1 => decide)
  (case c2 => rfl)
  (case c3 => rfl)
  (case c4 => rfl)
  intro L' h₁ tk F N
  try dsimp only
  dsimp only [List.map] at F N
  k_fold
  clear X0
  k_steps
  rename_i F' N'
  exact hR _ _ _ _ _ _ _ (fun b o h1 h2 e => F'.keep b o (hideAll_get _ e (by simp [h1, h2]))) (N'.get (List.mem_cons_self ..)) (N'.get (List.mem_cons_of_mem _ (List.mem_cons_self ..)))

theorem init_name {prog : Program} {w : World} {A : Around} {s : Shared} {x d pl : Addr} {ta tb tv tp : Tok} {v p : Str} {a b : Int} {R : Result → Shared → Prop} (hr : Rm A 6) (hne : x ≠ d)
    (S : St w (hideAll s.heap [x, d])) (hx : s.heap.get? x = some (instObj 360 d)) (hdc : s.heap.get? d = some emptyDict)
    (hp : IsTup (hideAll s.heap [x, d]) pl #[.int a ta, .int b tb])
    (hR : ∀ h' tk t1 t2 t3 t4 t5, (∀ b o, b ≠ x → b ≠ d → s.heap.get? b = some o → h'.get? b = some o) → h'.get? x = some (instObj 360 d) → h'.get? d = some (dictOf [ent w.params "value" t1 (.str v tv), ent w.params "line" t2 (.int a ta), ent w.params "column" t3 (.int b tb), ent w.params "prefix" t4 (.str p tp), ent w.params "parent" t5 .none] 5) → R (.ok (.ret .none)) { s with heap := h', toks := tk }) :
    codeAny (model prog w) A (.call (.ref 119) ⟨[.ref x, .str v tv, .ref pl, .str p tp], []⟩) R s := by
  have ⟨X, p', loose, mg, mb, T, _⟩ := S
  have X0 : (hd.heap_1 w.params).In s.heap := X.keeps fun _ _ e => of_hideAll _ e
  refine' enterN [(x, instObj 360 d), (d, emptyDict)] [(Str.ofString "self", .ref x), (Str.ofString "value", .str v tv), (Str.ofString "start_pos", .ref pl), (Str.ofString "prefix", .str p tp)] (X.keeps fun _ _ e => of_hideAll _ e) ((TopRead.nolimit T).keeps fun _ _ e => of_hideAll _ e) ?kh ?k6 ?k7 ?k8 ?k9 ?kB ?c1 ?c2 ?c3 ?c4 ?_
  (case kh => intro p hp; simp at hp; rcases hp with rfl | rfl; exact hx; exact hdc)
  (case k6 => k_is)
  (case k7 => k_is)
  (case k8 => exact hr.lt)
  (case k9 => exact binds_K X0 rfl (by k_is) rfl rfl rfl)
  (case kB => exact locs rfl)
  (case c1 => decide)
  (case c2 => rfl)
  (case c3 => rfl)
  (case c4 => rfl)
  intro L' h₁ tk F N
  try dsimp only
  dsimp only [List.map] at F N
  k_fold
  clear X0
  k_steps
  rename_i F' N'
  exact hR _ _ _ _ _ _ _ (fun b o h1 h2 e => F'.keep b o (hideAll_get _ e (by simp [h1, h2]))) (N'.get (List.mem_cons_self ..)) (N'.get (List.mem_cons_of_mem _ (List.mem_cons_self ..)))

theorem init_oper {prog : Program} {w : World} {A : Around} {s : Shared} {x d pl : Addr} {ta tb tv tp : Tok} {v p : Str} {a b : Int} {R : Result → Shared → Prop} (hr : Rm A 6) (hne : x ≠ d)
    (S : St w (hideAll s.heap [x, d])) (hx : s.heap.get? x = some (instObj 417 d)) (hdc : s.heap.get? d = some emptyDict)
    (hp : IsTup (hideAll s.heap [x, d]) pl #[.int a ta, .int b tb])
    (hR : ∀ h' tk t1 t2 t3 t4 t5, (∀ b o, b ≠ x → b ≠ d → s.heap.get? b = some o → h'.get? b = some o) → h'.get? x = some (instObj 417 d) → h'.get? d = some (dictOf [ent w.params "value" t1 (.str v tv), ent w.params "line" t2 (.int a ta), ent w.params "column" t3 (.int b tb), ent w.params "prefix" t4 (.str p tp), ent w.params "parent" t5 .none] 5) → R (.ok (.ret .none)) { s with heap := h', toks := tk }) :
    codeAny (model prog w) A (.call (.ref 119) ⟨[.ref x, .str v tv, .ref pl, .str p tp], []⟩) R s := by
  have ⟨X, p', loose, mg, mb, T, _⟩ := S
  have X0 : (hd.heap_1 w.params).In s.heap := X.keeps fun _ _ e => of_hideAll _ e
  refine' enterN [(x, instObj 417 d), (d, emptyDict)] [(Str.ofString "self", .ref x), (Str.ofString "value", .str v tv), (Str.ofString "start_pos", .ref pl), (Str.ofString "prefix", .str p tp)] (X.keeps fun _ _ e => of_hideAll _ e) ((TopRead.nolimit T).keeps fun _ _ e => of_hideAll _ e) ?kh ?k6 ?k7 ?k8 ?k9 ?kB ?c1 ?c2 ?c3 ?c4 ?_
  (case kh => intro p hp; simp at hp; rcases hp with rfl | rfl; exact hx; exact hdc)
  (case k6 => k_is)
  (case k7 => k_is)
  (case k8 => exact hr.lt)
  (case k9 => exact binds_K X0 rfl (by k_is) rfl rfl rfl)
  (case kB => exact locs rfl)
  (case c1 => decide)
  (case c2 => rfl)
  (case c3 => rfl)
  (case c4 => rfl)
  intro L' h₁ tk F N
  try dsimp only
  dsimp only [List.map] at F N
  k_fold
  clear X0
  k_steps
  rename_i F' N'
  exact hR _ _ _ _ _ _ _ (fun b o h1 h2 e => F'.keep b o (hideAll_get _ e (by simp [h1, h2]))) (N'.get (List.mem_cons_self ..)) (N'.get (List.mem_cons_of_mem _ (List.mem_cons_self ..)))
theorem Rm.under1 {A : Around} {n k : Nat} {C : Addr} {rest : List Value} (r : Rm A n) (h : k + 1 ≤ n) : Rm (A.under (.builtin "type.__call__" ⟨.ref C :: rest, []⟩)) k := by
  refine ⟨r.hh, ?_, ?_⟩
  · have := r.depth
    have e : (A.under (.builtin "type.__call__" ⟨.ref C :: rest, []⟩)).depth = A.depth + 1 := rfl
    rw [e]; omega
  · have := r.units
    have e : (A.under (.builtin "type.__call__" ⟨.ref C :: rest, []⟩)).units ≤ A.units + 8 := Nat.add_le_add_left (show (Code.builtin "type.__call__" ⟨.ref C :: rest, []⟩).cUnits ≤ 8 from Nat.le_of_ble_eq_true rfl) _
    omega

theorem make_plain {prog : Program} {w : World} {A : Around} {s : Shared} {pl : Addr} {ta tb tv tp : Tok} {v p : Str} {a b : Int} (hr : Rm A 8) (S : St w s.heap) (hp : IsTup s.heap pl #[.int a ta, .int b tb]) :
    PureRes prog w A s (.call (.ref 176) ⟨[.str v tv, .ref pl, .str p tp], []⟩) (fun r h' => ∃ x : LD, r = .ref x.a ∧ x.c = .plain ∧ x.val = v ∧ x.pre = p ∧ x.line = a ∧ x.col = b ∧ LeafAt w.params h' x .none ∧ s.heap.objs.size ≤ x.a ∧ x.a < h'.objs.size ∧ s.heap.objs.size ≤ x.d ∧ x.a ≠ x.d) := by
  intro R hR
  have X := S.1
  obtain ⟨hh, g, d, t, os⟩ := s
  have k : ∀ b o, hh.get? b = some o → ((hh.push emptyDict).push (instObj 176 hh.objs.size)).get? b = some o := fun b o e => Heap.get?_push_of_some _ (Heap.get?_push_of_some _ e)
  have hx : ((hh.push emptyDict).push (instObj 176 hh.objs.size)).get? (hh.objs.size + 1) = some (instObj 176 hh.objs.size) := by heap_get
  have hdc : ((hh.push emptyDict).push (instObj 176 hh.objs.size)).get? hh.objs.size = some emptyDict := by heap_get
  have nx : ∀ q ∈ [hh.objs.size + 1, hh.objs.size], hh.get? q = none := by
    intro q hq
    cases e : hh.get? q with
    | none => rfl
    | some o =>
      have := Heap.lt_size e
      simp at hq
      rcases hq with rfl | rfl
      · exact absurd this (Nat.not_lt_of_le (Nat.le_succ _))
      · exact absurd this (Nat.lt_irrefl _)
  have sub := hide_sub k nx
  refine make_core (makes_of X (by kernel_rfl!)) (looks_findIn (K := hd.heap_1 w.params) (r := some (.ref 119)) X (by kernel_rfl!)) (fun self => bind_fn X self (by kernel_rfl!)) (.inl rfl) ?_
  refine init_plain (Rm.under1 hr (by omega)) (Nat.succ_ne_self _) (S.keeps sub) hx hdc (hp.keeps sub) fun h' tk t1 t2 t3 t4 t5 k1 k2 k3 => ⟨rfl, ?_⟩
  refine hR _ h' tk (fun b o e => ?_) ⟨⟨hh.objs.size + 1, hh.objs.size, .plain, v, p, a, b, tv, tp, ta, tb, t1, t2, t3, t4, t5⟩, rfl, rfl, rfl, rfl, rfl, rfl, ⟨k2, k3⟩, Nat.le_succ _, Heap.lt_size k2, Nat.le_refl _, Nat.succ_ne_self _⟩
  have := Heap.lt_size e
  exact k1 b o (Nat.ne_of_lt (Nat.lt_succ_of_lt this)) (Nat.ne_of_lt this) (k b o e)

theorem make_str {prog : Program} {w : World} {A : Around} {s : Shared} {pl : Addr} {ta tb tv tp : Tok} {v p : Str} {a b : Int} (hr : Rm A 8) (S : St w s.heap) (hp : IsTup s.heap pl #[.int a ta, .int b tb]) :
    PureRes prog w A s (.call (.ref 384) ⟨[.str v tv, .ref pl, .str p tp], []⟩) (fun r h' => ∃ x : LD, r = .ref x.a ∧ x.c = .str ∧ x.val = v ∧ x.pre = p ∧ x.line = a ∧ x.col = b ∧ LeafAt w.params h' x .none ∧ s.heap.objs.size ≤ x.a ∧ x.a < h'.objs.size ∧ s.heap.objs.size ≤ x.d ∧ x.a ≠ x.d) := by
  intro R hR
  have X := S.1
  obtain ⟨hh, g, d, t, os⟩ := s
  have k : ∀ b o, hh.get? b = some o → ((hh.push emptyDict).push (instObj 384 hh.objs.size)).get? b = some o := fun b o e => Heap.get?_push_of_some _ (Heap.get?_push_of_some _ e)
  have hx : ((hh.push emptyDict).push (instObj 384 hh.objs.size)).get? (hh.objs.size + 1) = some (instObj 384 hh.objs.size) := by heap_get
  have hdc : ((hh.push emptyDict).push (instObj 384 hh.objs.size)).get? hh.objs.size = some emptyDict := by heap_get
  have nx : ∀ q ∈ [hh.objs.size + 1, hh.objs.size], hh.get? q = none := by
    intro q hq
    cases e : hh.get? q with
    | none => rfl
    | some o =>
      have := Heap.lt_size e
      simp at hq
      rcases hq with rfl | rfl
      · exact absurd this (Nat.not_lt_of_le (Nat.le_succ _))
      · exact absurd this (Nat.lt_irrefl _)
  have sub := hide_sub k nx
  refine make_core (makes_of X (by kernel_rfl!)) (looks_findIn (K := hd.heap_1 w.params) (r := some (.ref 119)) X (by kernel_rfl!)) (fun self => bind_fn X self (by kernel_rfl!)) (.inl rfl) ?_
  refine init_str (Rm.under1 hr (by omega)) (Nat.succ_ne_self _) (S.keeps sub) hx hdc (hp.keeps sub) fun h' tk t1 t2 t3 t4 t5 k1 k2 k3 => ⟨rfl, ?_⟩
  refine hR _ h' tk (fun b o e => ?_) ⟨⟨hh.objs.size + 1, hh.objs.size, .str, v, p, a, b, tv, tp, ta, tb, t1, t2, t3, t4, t5⟩, rfl, rfl, rfl, rfl, rfl, rfl, ⟨k2, k3⟩, Nat.le_succ _, Heap.lt_size k2, Nat.le_refl _, Nat.succ_ne_self _⟩
  have := Heap.lt_size e
  exact k1 b o (Nat.ne_of_lt (Nat.lt_succ_of_lt this)) (Nat.ne_of_lt this) (k b o e)

theorem make_name {prog : Program} {w : World} {A : Around} {s : Shared} {pl : Addr} {ta tb tv tp : Tok} {v p : Str} {a b : Int} (hr : Rm A 8) (S : St w s.heap) (hp : IsTup s.heap pl #[.int a ta, .int b tb]) :
    PureRes prog w A s (.call (.ref 360) ⟨[.str v tv, .ref pl, .str p tp], []⟩) (fun r h' => ∃ x : LD, r = .ref x.a ∧ x.c = .name ∧ x.val = v ∧ x.pre = p ∧ x.line = a ∧ x.col = b ∧ LeafAt w.params h' x .none ∧ s.heap.objs.size ≤ x.a ∧ x.a < h'.objs.size ∧ s.heap.objs.size ≤ x.d ∧ x.a ≠ x.d) := by
  intro R hR
  have X := S.1
  obtain ⟨hh, g, d, t, os⟩ := s
  have k : ∀ b o, hh.get? b = some o → ((hh.push emptyDict).push (instObj 360 hh.objs.size)).get? b = some o := fun b o e => Heap.get?_push_of_some _ (Heap.get?_push_of_some _ e)
  have hx : ((hh.push emptyDict).push (instObj 360 hh.objs.size)).get? (hh.objs.size + 1) = some (instObj 360 hh.objs.size) := by heap_get
  have hdc : ((hh.push emptyDict).push (instObj 360 hh.objs.size)).get? hh.objs.size = some emptyDict := by heap_get
  have nx : ∀ q ∈ [hh.objs.size + 1, hh.objs.size], hh.get? q = none := by
    intro q hq
    cases e : hh.get? q with
    | none => rfl
    | some o =>
      have := Heap.lt_size e
      simp at hq
      rcases hq with rfl | rfl
      · exact absurd this (Nat.not_lt_of_le (Nat.le_succ _))
      · exact absurd this (Nat.lt_irrefl _)
  have sub := hide_sub k nx
  refine make_core (makes_of X (by kernel_rfl!)) (looks_findIn (K := hd.heap_1 w.params) (r := some (.ref 119)) X (by kernel_rfl!)) (fun self => bind_fn X self (by kernel_rfl!)) (.inl rfl) ?_
  refine init_name (Rm.under1 hr (by omega)) (Nat.succ_ne_self _) (S.keeps sub) hx hdc (hp.keeps sub) fun h' tk t1 t2 t3 t4 t5 k1 k2 k3 => ⟨rfl, ?_⟩
  refine hR _ h' tk (fun b o e => ?_) ⟨⟨hh.objs.size + 1, hh.objs.size, .name, v, p, a, b, tv, tp, ta, tb, t1, t2, t3, t4, t5⟩, rfl, rfl, rfl, rfl, rfl, rfl, ⟨k2, k3⟩, Nat.le_succ _, Heap.lt_size k2, Nat.le_refl _, Nat.succ_ne_self _⟩
  have := Heap.lt_size e
  exact k1 b o (Nat.ne_of_lt (Nat.lt_succ_of_lt this)) (Nat.ne_of_lt this) (k b o e)

theorem make_oper {prog : Program} {w : World} {A : Around} {s : Shared} {pl : Addr} {ta tb tv tp : Tok} {v p : Str} {a b : Int} (hr : Rm A 8) (S : St w s.heap) (hp : IsTup s.heap pl #[.int a ta, .int b tb]) :
    PureRes prog w A s (.call (.ref 417) ⟨[.str v tv, .ref pl, .str p tp], []⟩) (fun r h' => ∃ x : LD, r = .ref x.a ∧ x.c = .oper ∧ x.val = v ∧ x.pre = p ∧ x.line = a ∧ x.col = b ∧ LeafAt w.params h' x .none ∧ s.heap.objs.size ≤ x.a ∧ x.a < h'.objs.size ∧ s.heap.objs.size ≤ x.d ∧ x.a ≠ x.d) := by
  intro R hR
  have X := S.1
  obtain ⟨hh, g, d, t, os⟩ := s
  have k : ∀ b o, hh.get? b = some o → ((hh.push emptyDict).push (instObj 417 hh.objs.size)).get? b = some o := fun b o e => Heap.get?_push_of_some _ (Heap.get?_push_of_some _ e)
  have hx : ((hh.push emptyDict).push (instObj 417 hh.objs.size)).get? (hh.objs.size + 1) = some (instObj 417 hh.objs.size) := by heap_get
  have hdc : ((hh.push emptyDict).push (instObj 417 hh.objs.size)).get? hh.objs.size = some emptyDict := by heap_get
  have nx : ∀ q ∈ [hh.objs.size + 1, hh.objs.size], hh.get? q = none := by
    intro q hq
    cases e : hh.get? q with
    | none => rfl
    | some o =>
      have := Heap.lt_size e
      simp at hq
      rcases hq with rfl | rfl
      · exact absurd this (Nat.not_lt_of_le (Nat.le_succ _))
      · exact absurd this (Nat.lt_irrefl _)
  have sub := hide_sub k nx
  refine make_core (makes_of X (by kernel_rfl!)) (looks_findIn (K := hd.heap_1 w.params) (r := some (.ref 119)) X (by kernel_rfl!)) (fun self => bind_fn X self (by kernel_rfl!)) (.inl rfl) ?_
  refine init_oper (Rm.under1 hr (by omega)) (Nat.succ_ne_self _) (S.keeps sub) hx hdc (hp.keeps sub) fun h' tk t1 t2 t3 t4 t5 k1 k2 k3 => ⟨rfl, ?_⟩
  refine hR _ h' tk (fun b o e => ?_) ⟨⟨hh.objs.size + 1, hh.objs.size, .oper, v, p, a, b, tv, tp, ta, tb, t1, t2, t3, t4, t5⟩, rfl, rfl, rfl, rfl, rfl, rfl, ⟨k2, k3⟩, Nat.le_succ _, Heap.lt_size k2, Nat.le_refl _, Nat.succ_ne_self _⟩
  have := Heap.lt_size e
  exact k1 b o (Nat.ne_of_lt (Nat.lt_succ_of_lt this)) (Nat.ne_of_lt this) (k b o e)

noncomputable def Tr.dd : Tr → Addr
  | .leaf x => x.d
  | .node x _ => x.d
noncomputable def kidObj (P : Params) (t : Tr) (par : Value) : Obj := match t with
  | .leaf x => leafDict P x par
  | .node x _ => nodeDict P x par
/-- all of a tree but its own dict -/
noncomputable def RestAt (P : Params) (h : Heap) : Tr → Prop
  | .leaf x => h.get? x.a = some (instObj x.c.addr x.d)
  | .node x ts => h.get? x.a = some (instObj x.c.addr x.d) ∧ h.IsList x.l (ts.map fun t => Value.ref t.addr).toArray ∧ KidsAt P h ts (.ref x.a)
theorem tree_split {P : Params} {h : Heap} {t : Tr} {par : Value} : TreeAt P h t par ↔ RestAt P h t ∧ h.get? t.dd = some (kidObj P t par) := by
  cases t with
  | leaf x => unfold TreeAt; exact ⟨fun L => ⟨L.inst, L.dict⟩, fun L => ⟨L.1, L.2⟩⟩
  | node x ts => unfold TreeAt; exact ⟨fun L => ⟨⟨L.1.inst, L.1.list, L.2⟩, L.1.dict⟩, fun L => ⟨⟨L.1.1, L.2, L.1.2.1⟩, L.1.2.2⟩⟩
theorem RestAt.keeps {P : Params} {h h' : Heap} {t : Tr} (k : ∀ b o, h.get? b = some o → h'.get? b = some o) (T : RestAt P h t) : RestAt P h' t := by
  cases t with
  | leaf x => exact k _ _ T
  | node x ts => exact ⟨k _ _ T.1, isList_keeps T.2.1 k, KidsAt.keeps k ts T.2.2⟩
section
variable {prog : Program} {w : World} {A : Around} {E : Value → Shared → Prop} {s : Shared} {g : Heap} {L : Addr} {m : Str → Option Value}
theorem w_setpar {t : Tr} {p0 v : Value} {pre post : List (Addr × Obj)} {Q : Unit → Shared → Prop} (F : Fr g L s.heap m) (N : News g L s.heap (pre ++ (t.dd, kidObj w.params t p0) :: post)) (X : (hd.heap_1 w.params).In g) (T : RestAt w.params g t)
    (h1 : ∀ p ∈ pre, p.1 ≠ t.dd) (h2 : ∀ p ∈ post, p.1 ≠ t.dd)
    (h : ∀ h' tk, Fr g L h' m → News g L h' (pre ++ (t.dd, kidObj w.params t v) :: post) → Q () { s with heap := h', toks := tk }) : wpAny (model prog w) A (setAttr (.ref t.addr) "parent" v) Q E s := by
  have Nd := (N (t.dd, kidObj w.params t p0) (by simp)).1
  have X' := X.keeps F.keep
  cases t with
  | leaf x =>
    have I : InstAt s.heap x.a (instObj x.c.addr x.d) x.c.addr (some (leafDict w.params x p0)) := ⟨F.keep _ _ T, rfl, rfl, Nd⟩
    refine set_plain X' I (by obtain ⟨_, _, c, _⟩ := x; cases c <;> kernel_rfl) ?_
    refine osa_dict (s := { s with toks := s.toks + 1 }) F N X' I rfl (by obtain ⟨_, _, c, _⟩ := x; cases c <;> kernel_rfl) (by obtain ⟨_, _, c, _⟩ := x; cases c <;> kernel_rfl) (by obtain ⟨_, _, c, _⟩ := x; cases c <;> kernel_rfl) (by kernel_rfl) h1 h2 (od' := leafDict w.params x v) (by rfl) rfl (Nat.le_of_ble_eq_true rfl) fun h' F' N' => h h' _ F' N'
  | node x ts =>
    have I : InstAt s.heap x.a (instObj x.c.addr x.d) x.c.addr (some (nodeDict w.params x p0)) := ⟨F.keep _ _ T.1, rfl, rfl, Nd⟩
    refine set_plain X' I (by obtain ⟨_, _, _, c, _⟩ := x; cases c <;> kernel_rfl) ?_
    refine osa_dict (s := { s with toks := s.toks + 1 }) F N X' I rfl (by obtain ⟨_, _, _, c, _⟩ := x; cases c <;> kernel_rfl) (by obtain ⟨_, _, _, c, _⟩ := x; cases c <;> kernel_rfl) (by obtain ⟨_, _, _, c, _⟩ := x; cases c <;> kernel_rfl) (by kernel_rfl) h1 h2 (od' := nodeDict w.params x v) (by rfl) rfl (Nat.le_of_ble_eq_true rfl) fun h' F' N' => h h' _ F' N'
end

section
variable {prog : Program} {w : World} {A : Around} {E : Value → Shared → Prop} {s : Shared} {g : Heap} {L : Addr} {m : Str → Option Value} {Q : Unit → Shared → Prop} {c : NC} {x d : Addr} {post : List (Addr × Obj)}
theorem own_at {od : Obj} (N : News g L s.heap ((x, instObj c.addr d) :: (d, od) :: post)) : InstAt s.heap x (instObj c.addr d) c.addr (some od) := ⟨(N _ (List.mem_cons_self ..)).1, rfl, rfl, (N _ (List.mem_cons_of_mem _ (List.mem_cons_self ..))).1⟩
theorem w_new1 {v : Value} (F : Fr g L s.heap m) (N : News g L s.heap ((x, instObj c.addr d) :: (d, emptyDict) :: post)) (X : (hd.heap_1 w.params).In g) (h1 : x ≠ d) (h2 : ∀ p ∈ post, p.1 ≠ d)
    (h : ∀ h' tk t, Fr g L h' m → News g L h' ((x, instObj c.addr d) :: (d, dictOf [ent w.params "children" t v] 1) :: post) → Q () { s with heap := h', toks := tk }) : wpAny (model prog w) A (setAttr (.ref x) "children" v) Q E s := by
  have X' := X.keeps F.keep
  have I := own_at N
  refine set_plain X' I (by cases c <;> kernel_rfl) ?_
  exact osa_dict (s := { s with toks := s.toks + 1 }) (pre := [(x, instObj c.addr d)]) F N X' I rfl (by cases c <;> kernel_rfl) (by cases c <;> kernel_rfl) (by cases c <;> kernel_rfl) (by kernel_rfl) (fun p hp => by rw [List.mem_singleton.mp hp]; exact h1) h2 (od' := dictOf [ent w.params "children" (s.toks + 1) v] 1) (by rfl) rfl (Nat.le_of_ble_eq_true rfl) fun h' F' N' => h h' _ _ F' N'
theorem w_new2 {v v1 : Value} {t1 : Tok} (F : Fr g L s.heap m) (N : News g L s.heap ((x, instObj c.addr d) :: (d, dictOf [ent w.params "children" t1 v1] 1) :: post)) (X : (hd.heap_1 w.params).In g) (h1 : x ≠ d) (h2 : ∀ p ∈ post, p.1 ≠ d)
    (h : ∀ h' tk t, Fr g L h' m → News g L h' ((x, instObj c.addr d) :: (d, dictOf [ent w.params "children" t1 v1, ent w.params "parent" t v] 2) :: post) → Q () { s with heap := h', toks := tk }) : wpAny (model prog w) A (setAttr (.ref x) "parent" v) Q E s := by
  have X' := X.keeps F.keep
  have I := own_at N
  refine set_plain X' I (by cases c <;> kernel_rfl) ?_
  exact osa_dict (s := { s with toks := s.toks + 1 }) (pre := [(x, instObj c.addr d)]) F N X' I rfl (by cases c <;> kernel_rfl) (by cases c <;> kernel_rfl) (by cases c <;> kernel_rfl) (by kernel_rfl) (fun p hp => by rw [List.mem_singleton.mp hp]; exact h1) h2 (od' := dictOf [ent w.params "children" t1 v1, ent w.params "parent" (s.toks + 1) v] 2) (by rfl) rfl (Nat.le_of_ble_eq_true rfl) fun h' F' N' => h h' _ _ F' N'
theorem w_new3 {v v1 v2 : Value} {t1 t2 : Tok} (F : Fr g L s.heap m) (N : News g L s.heap ((x, instObj c.addr d) :: (d, dictOf [ent w.params "children" t1 v1, ent w.params "parent" t2 v2] 2) :: post)) (X : (hd.heap_1 w.params).In g) (h1 : x ≠ d) (h2 : ∀ p ∈ post, p.1 ≠ d)
    (h : ∀ h' tk t, Fr g L h' m → News g L h' ((x, instObj c.addr d) :: (d, dictOf [ent w.params "children" t1 v1, ent w.params "parent" t2 v2, ent w.params "type" t v] 3) :: post) → Q () { s with heap := h', toks := tk }) : wpAny (model prog w) A (setAttr (.ref x) "type" v) Q E s := by
  have X' := X.keeps F.keep
  have I := own_at N
  refine set_plain X' I (by cases c <;> kernel_rfl) ?_
  exact osa_dict (s := { s with toks := s.toks + 1 }) (pre := [(x, instObj c.addr d)]) F N X' I rfl (by cases c <;> kernel_rfl) (by cases c <;> kernel_rfl) (by cases c <;> kernel_rfl) (by kernel_rfl) (fun p hp => by rw [List.mem_singleton.mp hp]; exact h1) h2 (od' := dictOf [ent w.params "children" t1 v1, ent w.params "parent" t2 v2, ent w.params "type" (s.toks + 1) v] 3) (by rfl) rfl (Nat.le_of_ble_eq_true rfl) fun h' F' N' => h h' _ _ F' N'
end

noncomputable def kidNews (P : Params) (ts : List Tr) (par : Value) : List (Addr × Obj) := ts.map fun t => (t.dd, kidObj P t par)
theorem mem_kid {P : Params} {ts : List Tr} {par : Value} {p : Addr × Obj} (h : p ∈ kidNews P ts par) : ∃ q ∈ ts, p = (q.dd, kidObj P q par) := by
  obtain ⟨q, hq, e⟩ := List.mem_map.mp h
  exact ⟨q, hq, e.symm⟩
theorem w_new1c {prog : Program} {w : World} {A : Around} {E : Value → Shared → Prop} {s : Shared} {g : Heap} {L : Addr} {m : Str → Option Value} {Q : Unit → Shared → Prop} {c : NC} {x d : Addr} {post : List (Addr × Obj)} {v : Value} (F : Fr g L s.heap m) (N : News g L s.heap ((x, instObj c.addr d) :: (d, emptyDict) :: post)) (X : (hd.heap_1 w.params).In g) (nd : (x :: d :: post.map (·.1)).Nodup)
    (h : ∀ h' tk t, Fr g L h' m → News g L h' ((x, instObj c.addr d) :: (d, dictOf [ent w.params "children" t v] 1) :: post) → Q () { s with heap := h', toks := tk }) : wpAny (model prog w) A (setAttr (.ref x) "children" v) Q E s :=
  w_new1 F N X (fun e => by simp [e] at nd) (fun p hp e => by
    have := (List.nodup_cons.mp (List.nodup_cons.mp nd).2).1
    exact this (e ▸ List.mem_map_of_mem hp)) h
theorem w_new2c {prog : Program} {w : World} {A : Around} {E : Value → Shared → Prop} {s : Shared} {g : Heap} {L : Addr} {m : Str → Option Value} {Q : Unit → Shared → Prop} {c : NC} {x d : Addr} {post : List (Addr × Obj)} {v v1 : Value} {t1 : Tok} (F : Fr g L s.heap m) (N : News g L s.heap ((x, instObj c.addr d) :: (d, dictOf [ent w.params "children" t1 v1] 1) :: post)) (X : (hd.heap_1 w.params).In g) (nd : (x :: d :: post.map (·.1)).Nodup)
    (h : ∀ h' tk t, Fr g L h' m → News g L h' ((x, instObj c.addr d) :: (d, dictOf [ent w.params "children" t1 v1, ent w.params "parent" t v] 2) :: post) → Q () { s with heap := h', toks := tk }) : wpAny (model prog w) A (setAttr (.ref x) "parent" v) Q E s :=
  w_new2 F N X (fun e => by simp [e] at nd) (fun p hp e => by
    have := (List.nodup_cons.mp (List.nodup_cons.mp nd).2).1
    exact this (e ▸ List.mem_map_of_mem hp)) h
theorem lines_I3_1 : True := by
  k_with_none
  k_with "setAttr ref" => (((with_reducible show wpAny _ _ (setAttr (Value.ref _) (PySem.Str.ofString "children") _) _ _ _); (k_dflt (refine' w_new1c ?F_710 ?N_710 ?X_710 ?D_710 ?_; (case F_710 => k_asm); (case N_710 => assumption); (case X_710 => k_asm); (case D_710 => assumption); k_whole; intro _ _ _ _ _; (try k_sweep)))))
  k_with "setAttr ref" => (((with_reducible show wpAny _ _ (setAttr (Value.ref _) (PySem.Str.ofString "parent") _) _ _ _); (k_dflt (refine' w_new2c ?F_d03 ?N_d03 ?X_d03 ?D_d03 ?_; (case F_d03 => k_asm); (case N_d03 => assumption); (case X_d03 => k_asm); (case D_d03 => assumption); k_whole; intro _ _ _ _ _; (try k_sweep)))))
  trivial
theorem base_init {prog : Program} {w : World} {A : Around} {s : Shared} {c : NC} {x d l : Addr} {ts : List Tr} {R : Result → Shared → Prop} (hr : Rm A 4) (H : List (Addr × Obj)) (hH : H = (x, instObj c.addr d) :: (d, emptyDict) :: kidNews w.params ts .none)
    (hh : ∀ p ∈ H, s.heap.get? p.1 = some p.2) (S : St w (hideAll s.heap (H.map (·.1)))) (RT : ∀ t ∈ ts, RestAt w.params (hideAll s.heap (H.map (·.1))) t)
    (IL : (hideAll s.heap (H.map (·.1))).IsList l (ts.map fun t => Value.ref t.addr).toArray) (nd : (H.map (·.1)).Nodup)
    (hR : ∀ h' tk dobj, (∃ t1 t2, dobj = dictOf [ent w.params "children" t1 (.ref l), ent w.params "parent" t2 .none] 2) → (∀ b o, b ∉ H.map (·.1) → s.heap.get? b = some o → h'.get? b = some o) → h'.get? x = some (instObj c.addr d) → h'.get? d = some dobj →
      (∀ t ∈ ts, h'.get? t.dd = some (kidObj w.params t (.ref x))) → R (.ok (.ret .none)) { s with heap := h', toks := tk }) :
    codeAny (model prog w) A (.call (.ref 192) ⟨[.ref x, .ref l], []⟩) R s := by
  have ⟨X, p', loose, mg, mb, T, _⟩ := S
  refine' enterN H [(Str.ofString "self", .ref x), (Str.ofString "children", .ref l)] (X.keeps fun _ _ e => of_hideAll _ e) ((TopRead.nolimit T).keeps fun _ _ e => of_hideAll _ e) hh ?k6 ?k7 ?k8 ?k9 ?kB ?c1 ?c2 ?c3 ?c4 ?_
  (case k6 => k_is)
  (case k7 => k_is)
  (case k8 => exact hr.lt)
  (case k9 => exact BindsTo.of_eq rfl)
  (case kB => exact locs rfl)
  (case c1 => decide)
  (case c2 => rfl)
  (case c3 => rfl)
  (case c4 => rfl)
  intro L' h₁ tk F N
  try dsimp only
  generalize hG : hideAll s.heap (H.map (·.1)) = G at *
  have hcl : ∀ b o, b ∉ H.map (·.1) → s.heap.get? b = some o → G.get? b = some o := fun b o hb e => hG ▸ hideAll_get _ e hb
  rw [hH] at N nd
  have nd2 : (x :: d :: (kidNews w.params ts .none).map (·.1)).Nodup := by simpa using nd
  try k_fold
  refine execs_stop ?_
  k_steps
  refine ⟨?_⟩
  refine execs_stop ?_
  k_steps
  refine ⟨?_⟩
  refine execs_stop ?_
  k_steps
  refine ⟨?_⟩
  refine execs_stop ?_
  k_steps
  refine ⟨?_⟩
  rename Fr _ _ _ _ => F₂
  rename News _ _ _ _ => N₂
  generalize hdo : dictOf _ 2 = dobj at N₂
  have hdd : (kidNews w.params ts .none).map (·.1) = ts.map Tr.dd := by simp [kidNews]
  rw [hdd] at nd2
  have hxk : x ∉ ts.map Tr.dd := fun h => (List.nodup_cons.mp nd2).1 (List.mem_cons_of_mem _ h)
  have hdk : d ∉ ts.map Tr.dd := (List.nodup_cons.mp (List.nodup_cons.mp nd2).2).1
  have ndk : (ts.map Tr.dd).Nodup := (List.nodup_cons.mp (List.nodup_cons.mp nd2).2).2
  refine wpAny_execs_cons (for_list (g := G) (l := l) (vs := ts.map fun t => Value.ref t.addr) _ _ (fun i m news s' => (∀ y, y ≠ Str.ofString "child" → m y = List.lookup y [(Str.ofString "self", Value.ref x), (Str.ofString "children", Value.ref l)].reverse) ∧ (s'.gens = s.gens ∧ s'.drawn = s.drawn ∧ s'.os = s.os) ∧
      news = (x, instObj c.addr d) :: (d, dobj) :: (kidNews w.params (ts.take i) (.ref x) ++ kidNews w.params (ts.drop i) .none)) rfl rfl (hh_deeper hr) IL ?hJ
    (wpAny_Name (wpAny_loadName_local rfl rfl F₂.ns rfl ⟨rfl, ⟨fun y _ => rfl, ⟨rfl, rfl, rfl⟩, by simp [kidNews]⟩, F₂, N₂⟩)) ?step ?done (fun _ => rfl))
  case hJ =>
    rintro i m n s' h tk ⟨a, b, c⟩
    exact ⟨a, b, c⟩
  case done =>
    rintro m₁ news₁ s₁ ⟨hm, ⟨g1, g2, g3⟩, rfl⟩ F₃ N₃
    obtain ⟨h₄, g₄, d₄, t₄, o₄⟩ := s₁
    dsimp only at g1 g2 g3
    subst g1 g2 g3
    refine wpAny_execs_nil ?_
    refine hR h₄ t₄ dobj ⟨_, _, hdo.symm⟩ (fun b o hb e => F₃.keep b o (hcl b o hb e)) (N₃.get (List.mem_cons_self ..)) (N₃.get (List.mem_cons_of_mem _ (List.mem_cons_self ..))) fun t ht => ?_
    · refine N₃.get (List.mem_cons_of_mem _ (List.mem_cons_of_mem _ (List.mem_append_left _ ?_)))
      have : ts.take (ts.map fun t => Value.ref t.addr).length = ts := by simp
      rw [this]
      exact List.mem_map_of_mem ht
  case step =>
    rintro i v I o m₁ news₁ s₁ hv ⟨hm, ⟨g1, g2, g3⟩, rfl⟩ hoff F₃ N₃
    obtain ⟨t, ht, rfl⟩ : ∃ t, ts[i]? = some t ∧ v = .ref t.addr := by
      simp at hv
      obtain ⟨t, e, q⟩ := hv
      exact ⟨t, e, q.symm⟩
    have hm3 := Fr.congr (m' := fun y => if y = Str.ofString "child" then some (Value.ref t.addr) else List.lookup y [(Str.ofString "self", Value.ref x), (Str.ofString "children", Value.ref l)].reverse) F₃ (fun y => by
      split
      · rfl
      · exact hm y (by assumption))
    clear F₃ F₂ N₂
    have hlt : i < ts.length := by
      rcases Nat.lt_or_ge i ts.length with q | q
      · exact q
      · rw [List.getElem?_eq_none q] at ht; cases ht
    have hti : ts[i] = t := by
      rw [List.getElem?_eq_getElem hlt] at ht
      injection ht
    have hd : ts.drop i = t :: ts.drop (i + 1) := by
      rw [List.drop_eq_getElem_cons hlt, hti]
    have htk : ts.take (i + 1) = ts.take i ++ [t] := by
      rw [List.take_succ_eq_append_getElem hlt, hti]
    have hmem : t ∈ ts := List.mem_of_getElem? ht
    have N₄ : News G L' s₁.heap (((I, o) :: (x, instObj c.addr d) :: (d, dobj) :: kidNews w.params (ts.take i) (.ref x)) ++ (t.dd, kidObj w.params t .none) :: kidNews w.params (ts.drop (i + 1)) .none) := by
      have : kidNews w.params (ts.drop i) .none = (t.dd, kidObj w.params t .none) :: kidNews w.params (ts.drop (i + 1)) .none := by rw [hd]; rfl
      rw [this] at N₃
      simpa using N₃
    have ndk' : ((ts.take i).map Tr.dd ++ t.dd :: (ts.drop (i + 1)).map Tr.dd).Nodup := by
      have : (ts.take i).map Tr.dd ++ t.dd :: (ts.drop (i + 1)).map Tr.dd = ts.map Tr.dd := by
        rw [show t.dd :: (ts.drop (i + 1)).map Tr.dd = (ts.drop i).map Tr.dd by rw [hd]; rfl, ← List.map_append, List.take_append_drop]
      rw [this]; exact ndk
    have hIt : t.dd ≠ I := hoff (t.dd, kidObj w.params t .none) (by rw [hd]; simp [kidNews])
    clear N₃
    k_steps
    refine w_setpar (p0 := .none) hm3 N₄ X (RT t hmem) ?h1 ?h2 fun h' tk F' N' => wpAny_execs_nil ⟨?_⟩
    case h1 =>
      intro p hp
      simp only [List.mem_cons] at hp
      rcases hp with rfl | rfl | rfl | hp
      · exact Ne.symm hIt
      · exact fun e => hxk (by rw [show x = t.dd from e]; exact List.mem_map_of_mem hmem)
      · exact fun e => hdk (by rw [show d = t.dd from e]; exact List.mem_map_of_mem hmem)
      · obtain ⟨q, hq, rfl⟩ := mem_kid hp
        exact fun e => (List.nodup_append.mp ndk').2.2 _ (List.mem_map_of_mem hq) _ (List.mem_cons_self ..) e
    case h2 =>
      intro p hp
      obtain ⟨q, hq, rfl⟩ := mem_kid hp
      exact fun e => (List.nodup_cons.mp (List.nodup_append.mp ndk').2.1).1 (by rw [← show q.dd = t.dd from e]; exact List.mem_map_of_mem hq)
    refine ⟨_, _, ⟨fun y hy => ?_, ⟨g1, g2, g3⟩, rfl⟩, F', ?_, ?_⟩
    · rw [if_neg hy]
    · rw [htk]
      simpa [kidNews] using N'
    · intro p hp
      rw [htk] at hp
      simp only [List.mem_cons] at hp
      rcases hp with rfl | rfl | hp
      · exact hoff _ (by simp)
      · exact hoff _ (by simp)
      · rcases List.mem_append.mp hp with hp | hp
        · obtain ⟨q, hq, rfl⟩ := mem_kid hp
          rcases List.mem_append.mp hq with hq | hq
          · exact hoff (q.dd, kidObj w.params q (.ref x)) (List.mem_cons_of_mem _ (List.mem_cons_of_mem _ (List.mem_append_left _ (List.mem_map_of_mem (f := fun t => (t.dd, kidObj w.params t (.ref x))) hq))))
          · rw [List.mem_singleton.mp hq]; exact hIt
        · obtain ⟨q, hq, rfl⟩ := mem_kid hp
          exact hoff (q.dd, kidObj w.params q .none) (List.mem_cons_of_mem _ (List.mem_cons_of_mem _ (List.mem_append_right _ (List.mem_map_of_mem (f := fun t => (t.dd, kidObj w.params t .none)) (by rw [hd]; exact List.mem_cons_of_mem _ hq)))))

/-- what super() asks of the program -/
noncomputable def ProgOk (prog : Program) : Prop := ((prog.main.file : Str) == Str.ofString "/claim/cut.py") = true ∧ (prog.main.scope.names.lookup ("super" : Str)).isSome = false
theorem enterS {prog : Program} {w : World} {A : Around} {s : Shared} {K : Frag} {R : Result → Shared → Prop} {name qual : Str} {params : Arguments} {body : List Stmt} {scope : Scope} {cc : Addr} {dV kV doc pm cdv ct oc : Value} {an od : Option Addr} {osl : Array (Option Value)} {f : Addr} {args : Args} (hide : List (Addr × Obj)) (binds : List (Str × Value))
    (X : K.In s.heap) (hlim : s.heap.NoLimit) (hh : ∀ p ∈ hide, s.heap.get? p.1 = some p.2)
    (ho : K.lookup f = some ⟨oc, od, .func (ksFn name qual params body scope dV kV doc pm an cdv ct cc), osl⟩) (hcd : codeIn K cdv qual = true) (hroom : A.depth < recursionLimit)
    (hbind : BindsTo s (ksFn name qual params body scope dV kV doc pm an cdv ct cc) args binds) (hloc : ∀ y ∈ binds, scope.names.lookup y.1 = some .local)
    (hcell : ∀ x ∈ scope.names, x.2 ≠ .cell) (hco : scope.isCoroutine = false) (hgen : scope.isGenerator = false) (hk : scope.kind = .function)
    (h : ∀ L' h₁ tk, Fr (hideAll s.heap (hide.map (·.1))) L' h₁ (fun y => binds.reverse.lookup y) → News (hideAll s.heap (hide.map (·.1))) L' h₁ hide →
      _root_.PySem.wpAt (model prog w) (A.deeper (ksEnv qual scope L' f cdv cc)) (.func body (ksEnv qual scope L' f cdv cc)) (execs body (ksEnv qual scope L' f cdv cc))
        (fun fl s' => R (.ok (.ret (match fl with | .ret v => v | _ => .none))) s') (fun _ _ => False) { s with heap := h₁, toks := tk }) :
    codeAny (model prog w) A (.call (.ref f) args) R s := by
  refine ks_codeAny_call_defAt (fd := ksFn name qual params body scope dV kV doc pm an cdv ct cc) (body := body) (binds := binds) hroom (X _ _ ho) rfl hlim (codeRec_of X hcd) rfl hbind hcell hloc (fun h₁ hns hk₁ => ?_) hco hgen hk
  refine ks_wpAt_mono (h s.heap.objs.size h₁ _ ⟨hns, fun b o e => hk₁ b o (of_hideAll _ e), by rw [hideAll_size]; exact Nat.le_refl _⟩ fun p hp => ⟨hk₁ _ _ (hh p hp), Nat.ne_of_lt (Heap.lt_size (hh p hp)), hideAll_none _ (List.mem_map_of_mem hp)⟩) (fun _ _ x => x) fun _ _ x => x.elim
section
variable {prog : Program} {w : World} {A : Around} {E : Value → Shared → Prop} {s : Shared} {g : Heap} {L : Addr} {m mg mb : Str → Option Value} {news : List (Addr × Obj)} {p : Program} {loose : List Str} {x C : Addr} {ox : Obj} {odx : Option Obj}
/-- super() in Node.__init__ -/
theorem super_here {body : List Stmt} {q : Str} {scope : Scope} {p0 p1 : Pos} {whole : Sem Value} {Q : Value → Shared → Prop} (hpr : ProgOk prog)
    (F : Fr g L s.heap m) (X₀ : (hd.heap_1 w.params).In g) (N : News g L s.heap news) (T : TopRead p loose mg mb g) (hv : m (Str.ofString "self") = some (.ref x)) (I : InstAt s.heap x ox C odx)
    (hsub : mroIn (hd.heap_1 w.params) C (.ref 276) = some true)
    (hks : scope.names.lookup ("super" : Str) = some .globalImplicit) (hkc : scope.names.lookup ("__class__" : Str) = some .free) (hka : scope.names.lookup (Str.ofString "self") = some .local) (hk : scope.kind = .function)
    (h : ∀ so h', Fr g L h' m → News g L h' ((so, ks_superObj 276 x C) :: news) → (∀ p ∈ news, p.1 < so) → Q (.ref so) { s with heap := h' }) :
    _root_.PySem.wpAt (model prog w) A (.func body (ksEnv q scope L 273 (.ref 272) 261)) (attributeBase (.Call (.Name "super" p0) [] [] p1) (Str.ofString "__init__") (ksEnv q scope L 273 (.ref 272) 261) whole) Q E s := by
  have X : (hd.heap_1 w.params).In s.heap := X₀.keeps F.keep
  obtain ⟨hh, gg, d, t, os⟩ := s
  have hcell := X 261 _ rfl
  have hcode := X 272 _ rfl
  have hfn := X 273 _ rfl
  have hcls := X 276 _ rfl
  refine ks_wpAt_super_base (env := ksEnv q scope L 273 (.ref 272) 261) hks hkc (by decide) rfl hfn rfl rfl rfl hcode rfl rfl hpr.1 hpr.2 ?_
  refine ks_loadName_global hk hks (loadGlobal_builtin (env := ksEnv q scope L 273 (.ref 272) 261) (T.g.keeps F.keep) (mg_none_of X₀ T.g (by kernel_rfl!)) (T.b.keeps F.keep) ((T.builtins _ (by decide +kernel)).trans (by kernel_rfl)) ⟨rfl, ?_⟩)
  refine wpAny_loadName_free hk hkc rfl ⟨_, hcell, rfl⟩ ?_
  refine wpAny_loadName_local hk hka F.ns hv ?_
  refine ks_wpAny_isType_cls hcls rfl ⟨rfl, ?_⟩
  refine ks_wpAny_call_super hcls rfl I.at_ I.cls (fun c e => ?_) (looks_mroIn X hsub) (fun h' e k => ?_)
  · have := I.no
    unfold notCls at this
    rw [e] at this
    exact Bool.noConfusion this
  · obtain ⟨F', N', l'⟩ := ks_newsPush (s := ⟨hh, gg, d, t, os⟩) F N rfl e k
    exact h _ _ F' N' l'
end

theorem lines_I5_1 : True := by
  k_with_none
  k_with "call ref" => ((k_dflt (refine' call_meth ?k1_172 ?k2_172 ?_; (case k1_172 => k_asm); (case k2_172 => k_mem); k_whole)))
  trivial
theorem w_new3c {prog : Program} {w : World} {A : Around} {E : Value → Shared → Prop} {s : Shared} {g : Heap} {L : Addr} {m : Str → Option Value} {Q : Unit → Shared → Prop} {c : NC} {x d : Addr} {post : List (Addr × Obj)} {v v1 v2 : Value} {t1 t2 : Tok} (F : Fr g L s.heap m) (N : News g L s.heap ((x, instObj c.addr d) :: (d, dictOf [ent w.params "children" t1 v1, ent w.params "parent" t2 v2] 2) :: post)) (X : (hd.heap_1 w.params).In g) (nd : (x :: d :: post.map (·.1)).Nodup)
    (h : ∀ h' tk t, Fr g L h' m → News g L h' ((x, instObj c.addr d) :: (d, dictOf [ent w.params "children" t1 v1, ent w.params "parent" t2 v2, ent w.params "type" t v] 3) :: post) → Q () { s with heap := h', toks := tk }) : wpAny (model prog w) A (setAttr (.ref x) "type" v) Q E s :=
  w_new3 F N X (fun e => by simp [e] at nd) (fun p hp e => by
    have := (List.nodup_cons.mp (List.nodup_cons.mp nd).2).1
    exact this (e ▸ List.mem_map_of_mem hp)) h

theorem node_init_plain {prog : Program} {w : World} {A : Around} {s : Shared} {x d l : Addr} {kd : Str} {tk0 : Tok} {ts : List Tr} {R : Result → Shared → Prop} (hpr : ProgOk prog) (hr : Rm A 8) (H : List (Addr × Obj)) (hH : H = (x, instObj 276 d) :: (d, emptyDict) :: kidNews w.params ts .none)
    (hh : ∀ p ∈ H, s.heap.get? p.1 = some p.2) (S : St w (hideAll s.heap (H.map (·.1)))) (RT : ∀ t ∈ ts, RestAt w.params (hideAll s.heap (H.map (·.1))) t)
    (IL : (hideAll s.heap (H.map (·.1))).IsList l (ts.map fun t => Value.ref t.addr).toArray) (nd : (H.map (·.1)).Nodup)
    (hR : ∀ h' tk t1 t2 t3, (∀ b o, b ∉ H.map (·.1) → s.heap.get? b = some o → h'.get? b = some o) → h'.get? x = some (instObj 276 d) → h'.get? d = some (dictOf [ent w.params "children" t1 (.ref l), ent w.params "parent" t2 .none, ent w.params "type" t3 (.str kd tk0)] 3) →
      (∀ t ∈ ts, h'.get? t.dd = some (kidObj w.params t (.ref x))) → R (.ok (.ret .none)) { s with heap := h', toks := tk }) :
    codeAny (model prog w) A (.call (.ref 273) ⟨[.ref x, .str kd tk0, .ref l], []⟩) R s := by
  have ⟨X, p', loose, mg, mb, T, _⟩ := S
  refine' enterS H [(Str.ofString "self", .ref x), (Str.ofString "type_", .str kd tk0), (Str.ofString "children", .ref l)] (X.keeps fun _ _ e => of_hideAll _ e) ((TopRead.nolimit T).keeps fun _ _ e => of_hideAll _ e) hh ?k6 ?k7 ?k8 ?k9 ?kB ?c1 ?c2 ?c3 ?c4 ?_
  (case k6 => k_is)
  (case k7 => k_is)
  (case k8 => exact hr.lt)
  (case k9 => exact BindsTo.of_eq rfl)
  (case kB => exact locs rfl)
  (case c1 => decide)
  (case c2 => rfl)
  (case c3 => rfl)
  (case c4 => rfl)
  intro L' h₁ tk F N
  have NN : News (hideAll s.heap (H.map (·.1))) L' h₁ ((x, instObj 276 d) :: (d, emptyDict) :: kidNews w.params ts .none) := hH ▸ N
  have nx := NN _ (List.mem_cons_self ..)
  have ndd := NN _ (List.mem_cons_of_mem _ (List.mem_cons_self ..))
  have II : InstAt h₁ x (instObj 276 d) 276 (some emptyDict) := ⟨nx.1, rfl, rfl, ndd.1⟩
  refine ks_wpAt_execs_cons (ks_wpAt_Expr_any (ks_wpAt_MethodCall ?_))
  refine super_here hpr F X N T rfl II (by kernel_rfl!) rfl rfl rfl rfl fun so h₂ F₂ N₂ l₂ => ?_
  have II₂ : InstAt h₂ x (instObj 276 d) 276 (some emptyDict) := ⟨(N₂ (x, instObj 276 d) (List.mem_cons_of_mem _ (by rw [hH]; exact List.mem_cons_self ..))).1, rfl, rfl, (N₂ (d, emptyDict) (List.mem_cons_of_mem _ (by rw [hH]; exact List.mem_cons_of_mem _ (List.mem_cons_self ..)))).1⟩
  refine ks_method (f2 := 192) F₂ X N₂ (List.mem_cons_self ..) II₂ (by kernel_rfl!) (by kernel_rfl!) (by kernel_rfl!) (by decide) fun q h₃ F₃ N₃ l₃ => ?_
  clear N₂ F₂
  try dsimp only
  refine stop_wp ?_
  k_steps
  have hnone : ∀ a ∈ H.map (·.1), (hideAll s.heap (H.map (·.1))).get? a = none := fun a ha => hideAll_none _ ha
  have sub := hide_sub F₃.keep hnone
  have hh₃ : ∀ p ∈ H, h₃.get? p.1 = some p.2 := fun p hp => (N₃ p (List.mem_cons_of_mem _ (List.mem_cons_of_mem _ hp))).1
  refine base_init (c := .plain) (hr.deeper (by omega)) H hH hh₃ (S.keeps sub) (fun t ht => (RT t ht).keeps sub) (isList_keeps IL sub) nd fun h₄ tk₄ dobj hdo k1 k2 k3 k4 => ⟨?_⟩
  obtain ⟨t1, t2, rfl⟩ := hdo
  have hne : ∀ a ∈ H.map (·.1), a ≠ L' := fun a ha => by
    obtain ⟨p, hp, rfl⟩ := List.mem_map.mp ha
    exact (N p hp).2.1
  have F₄ : Fr (hideAll s.heap (H.map (·.1))) L' h₄ _ := ⟨F₃.ns.at' fun o e => k1 _ o (fun hm => hne _ hm rfl) e, fun b o e => k1 b o (fun hm => by rw [hnone b hm] at e; cases e) (F₃.keep b o e), F₃.above⟩
  have N₄ : News (hideAll s.heap (H.map (·.1))) L' h₄ ((x, instObj 276 d) :: (d, dictOf [ent w.params "children" t1 (.ref l), ent w.params "parent" t2 .none] 2) :: kidNews w.params ts (.ref x)) := by
    intro p hp
    rcases List.mem_cons.mp hp with rfl | hp
    · exact ⟨k2, nx.2⟩
    · rcases List.mem_cons.mp hp with rfl | hp
      · exact ⟨k3, ndd.2⟩
      · obtain ⟨t, ht, rfl⟩ := mem_kid hp
        refine ⟨k4 t ht, (NN (t.dd, kidObj w.params t .none) ?_).2⟩
        exact List.mem_cons_of_mem _ (List.mem_cons_of_mem _ (List.mem_map_of_mem (f := fun t => (t.dd, kidObj w.params t .none)) ht))
  have nd2 : (x :: d :: (kidNews w.params ts (.ref x)).map (·.1)).Nodup := by
    have e : (kidNews w.params ts (.ref x)).map (·.1) = (kidNews w.params ts .none).map (·.1) := by simp [kidNews]
    rw [e]
    rw [hH] at nd
    simpa using nd
  clear N₃ F₃ N F NN
  refine wpAt_of_wpAny ?_
  k_steps
  refine w_new3c (c := .plain) F₄ N₄ X nd2 fun h₅ tk₅ t3 F₅ N₅ => ?_
  k_steps
  refine hR _ _ t1 t2 t3 (fun b o hb e => F₅.keep b o (hideAll_get _ e hb)) (N₅.get (List.mem_cons_self ..)) (N₅.get (List.mem_cons_of_mem _ (List.mem_cons_self ..))) fun t ht => ?_
  exact N₅.get (List.mem_cons_of_mem _ (List.mem_cons_of_mem _ (List.mem_map_of_mem (f := fun t => (t.dd, kidObj w.params t (.ref x))) ht)))

theorem node_init_py {prog : Program} {w : World} {A : Around} {s : Shared} {x d l : Addr} {kd : Str} {tk0 : Tok} {ts : List Tr} {R : Result → Shared → Prop} (hpr : ProgOk prog) (hr : Rm A 8) (H : List (Addr × Obj)) (hH : H = (x, instObj 348 d) :: (d, emptyDict) :: kidNews w.params ts .none)
    (hh : ∀ p ∈ H, s.heap.get? p.1 = some p.2) (S : St w (hideAll s.heap (H.map (·.1)))) (RT : ∀ t ∈ ts, RestAt w.params (hideAll s.heap (H.map (·.1))) t)
    (IL : (hideAll s.heap (H.map (·.1))).IsList l (ts.map fun t => Value.ref t.addr).toArray) (nd : (H.map (·.1)).Nodup)
    (hR : ∀ h' tk t1 t2 t3, (∀ b o, b ∉ H.map (·.1) → s.heap.get? b = some o → h'.get? b = some o) → h'.get? x = some (instObj 348 d) → h'.get? d = some (dictOf [ent w.params "children" t1 (.ref l), ent w.params "parent" t2 .none, ent w.params "type" t3 (.str kd tk0)] 3) →
      (∀ t ∈ ts, h'.get? t.dd = some (kidObj w.params t (.ref x))) → R (.ok (.ret .none)) { s with heap := h', toks := tk }) :
    codeAny (model prog w) A (.call (.ref 273) ⟨[.ref x, .str kd tk0, .ref l], []⟩) R s := by
  have ⟨X, p', loose, mg, mb, T, _⟩ := S
  refine' enterS H [(Str.ofString "self", .ref x), (Str.ofString "type_", .str kd tk0), (Str.ofString "children", .ref l)] (X.keeps fun _ _ e => of_hideAll _ e) ((TopRead.nolimit T).keeps fun _ _ e => of_hideAll _ e) hh ?k6 ?k7 ?k8 ?k9 ?kB ?c1 ?c2 ?c3 ?c4 ?_
  (case k6 => k_is)
  (case k7 => k_is)
  (case k8 => exact hr.lt)
  (case k9 => exact BindsTo.of_eq rfl)
  (case kB => exact locs rfl)
  (case c1 => decide)
  (case c2 => rfl)
  (case c3 => rfl)
  (case c4 => rfl)
  intro L' h₁ tk F N
  have NN : News (hideAll s.heap (H.map (·.1))) L' h₁ ((x, instObj 348 d) :: (d, emptyDict) :: kidNews w.params ts .none) := hH ▸ N
  have nx := NN _ (List.mem_cons_self ..)
  have ndd := NN _ (List.mem_cons_of_mem _ (List.mem_cons_self ..))
  have II : InstAt h₁ x (instObj 348 d) 348 (some emptyDict) := ⟨nx.1, rfl, rfl, ndd.1⟩
  refine ks_wpAt_execs_cons (ks_wpAt_Expr_any (ks_wpAt_MethodCall ?_))
  refine super_here hpr F X N T rfl II (by kernel_rfl!) rfl rfl rfl rfl fun so h₂ F₂ N₂ l₂ => ?_
  have II₂ : InstAt h₂ x (instObj 348 d) 348 (some emptyDict) := ⟨(N₂ (x, instObj 348 d) (List.mem_cons_of_mem _ (by rw [hH]; exact List.mem_cons_self ..))).1, rfl, rfl, (N₂ (d, emptyDict) (List.mem_cons_of_mem _ (by rw [hH]; exact List.mem_cons_of_mem _ (List.mem_cons_self ..)))).1⟩
  refine ks_method (f2 := 192) F₂ X N₂ (List.mem_cons_self ..) II₂ (by kernel_rfl!) (by kernel_rfl!) (by kernel_rfl!) (by decide) fun q h₃ F₃ N₃ l₃ => ?_
  clear N₂ F₂
  try dsimp only
  refine stop_wp ?_
  k_steps
  have hnone : ∀ a ∈ H.map (·.1), (hideAll s.heap (H.map (·.1))).get? a = none := fun a ha => hideAll_none _ ha
  have sub := hide_sub F₃.keep hnone
  have hh₃ : ∀ p ∈ H, h₃.get? p.1 = some p.2 := fun p hp => (N₃ p (List.mem_cons_of_mem _ (List.mem_cons_of_mem _ hp))).1
  refine base_init (c := .py) (hr.deeper (by omega)) H hH hh₃ (S.keeps sub) (fun t ht => (RT t ht).keeps sub) (isList_keeps IL sub) nd fun h₄ tk₄ dobj hdo k1 k2 k3 k4 => ⟨?_⟩
  obtain ⟨t1, t2, rfl⟩ := hdo
  have hne : ∀ a ∈ H.map (·.1), a ≠ L' := fun a ha => by
    obtain ⟨p, hp, rfl⟩ := List.mem_map.mp ha
    exact (N p hp).2.1
  have F₄ : Fr (hideAll s.heap (H.map (·.1))) L' h₄ _ := ⟨F₃.ns.at' fun o e => k1 _ o (fun hm => hne _ hm rfl) e, fun b o e => k1 b o (fun hm => by rw [hnone b hm] at e; cases e) (F₃.keep b o e), F₃.above⟩
  have N₄ : News (hideAll s.heap (H.map (·.1))) L' h₄ ((x, instObj 348 d) :: (d, dictOf [ent w.params "children" t1 (.ref l), ent w.params "parent" t2 .none] 2) :: kidNews w.params ts (.ref x)) := by
    intro p hp
    rcases List.mem_cons.mp hp with rfl | hp
    · exact ⟨k2, nx.2⟩
    · rcases List.mem_cons.mp hp with rfl | hp
      · exact ⟨k3, ndd.2⟩
      · obtain ⟨t, ht, rfl⟩ := mem_kid hp
        refine ⟨k4 t ht, (NN (t.dd, kidObj w.params t .none) ?_).2⟩
        exact List.mem_cons_of_mem _ (List.mem_cons_of_mem _ (List.mem_map_of_mem (f := fun t => (t.dd, kidObj w.params t .none)) ht))
  have nd2 : (x :: d :: (kidNews w.params ts (.ref x)).map (·.1)).Nodup := by
    have e : (kidNews w.params ts (.ref x)).map (·.1) = (kidNews w.params ts .none).map (·.1) := by simp [kidNews]
    rw [e]
    rw [hH] at nd
    simpa using nd
  clear N₃ F₃ N F NN
  refine wpAt_of_wpAny ?_
  k_steps
  refine w_new3c (c := .py) F₄ N₄ X nd2 fun h₅ tk₅ t3 F₅ N₅ => ?_
  k_steps
  refine hR _ _ t1 t2 t3 (fun b o hb e => F₅.keep b o (hideAll_get _ e hb)) (N₅.get (List.mem_cons_self ..)) (N₅.get (List.mem_cons_of_mem _ (List.mem_cons_self ..))) fun t ht => ?_
  exact N₅.get (List.mem_cons_of_mem _ (List.mem_cons_of_mem _ (List.mem_map_of_mem (f := fun t => (t.dd, kidObj w.params t (.ref x))) ht)))

mutual
/-- the addresses that a tree stands on -/
noncomputable def Tr.foot : Tr → List Addr
  | .leaf x => [x.a, x.d]
  | .node x ts => x.a :: x.d :: x.l :: footL ts
noncomputable def footL : List Tr → List Addr
  | [] => []
  | t :: ts => t.foot ++ footL ts
end
noncomputable def Tr.restF : Tr → List Addr
  | .leaf x => [x.a]
  | .node x ts => x.a :: x.l :: footL ts
theorem dd_foot (t : Tr) : t.dd ∈ t.foot := by cases t <;> simp [Tr.dd, Tr.foot]
theorem rest_foot {t : Tr} : ∀ b ∈ t.restF, b ∈ t.foot := by
  intro b hb
  cases t with
  | leaf x => simp [Tr.restF, Tr.foot] at hb ⊢; exact .inl hb
  | node x ts =>
    simp only [Tr.restF, Tr.foot, List.mem_cons] at hb ⊢
    rcases hb with h | h | h
    · exact .inl h
    · exact .inr (.inr (.inl h))
    · exact .inr (.inr (.inr h))
theorem rest_dd {t : Tr} (nd : t.foot.Nodup) : t.dd ∉ t.restF := by
  cases t with
  | leaf x =>
    simp [Tr.foot] at nd
    simp [Tr.dd, Tr.restF]
    exact fun e => nd e.symm
  | node x ts =>
    simp only [Tr.foot, List.nodup_cons, List.mem_cons, not_or] at nd
    simp only [Tr.dd, Tr.restF, List.mem_cons, not_or]
    exact ⟨fun e => nd.1.1 e.symm, nd.2.1.1, nd.2.1.2⟩
theorem foot_mem {t : Tr} {ts : List Tr} (h : t ∈ ts) : ∀ b ∈ t.foot, b ∈ footL ts := by
  induction ts with
  | nil => cases h
  | cons u r ih =>
    intro b hb
    unfold footL
    rcases List.mem_cons.mp h with rfl | h
    · exact List.mem_append_left _ hb
    · exact List.mem_append_right _ (ih h b hb)
section
variable {P : Params} {h h' : Heap}
theorem isList_at {l : Addr} {its : Array Value} (L : h.IsList l its) (k : ∀ o, h.get? l = some o → h'.get? l = some o) : h'.IsList l its := let ⟨o, e, r⟩ := L; ⟨o, k _ e, r⟩
mutual
theorem TreeAt.foot : ∀ (t : Tr) {par : Value}, (∀ b ∈ t.foot, ∀ o, h.get? b = some o → h'.get? b = some o) → TreeAt P h t par → TreeAt P h' t par
  | .leaf x, par, k, L => by
    unfold TreeAt at L ⊢
    exact ⟨k _ (by simp [Tr.foot]) _ L.inst, k _ (by simp [Tr.foot]) _ L.dict⟩
  | .node x ts, par, k, L => by
    unfold TreeAt at L ⊢
    refine ⟨⟨k _ (by simp [Tr.foot]) _ L.1.inst, k _ (by simp [Tr.foot]) _ L.1.dict, isList_at L.1.list (k _ (by simp [Tr.foot]))⟩, KidsAt.foot ts (fun b hb => k b ?_) L.2⟩
    simp [Tr.foot, hb]
theorem KidsAt.foot : ∀ (ts : List Tr) {par : Value}, (∀ b ∈ footL ts, ∀ o, h.get? b = some o → h'.get? b = some o) → KidsAt P h ts par → KidsAt P h' ts par
  | [], _, _, _ => by unfold KidsAt; trivial
  | t :: ts, par, k, L => by
    unfold KidsAt at L ⊢
    exact ⟨TreeAt.foot t (fun b hb => k b (by unfold footL; exact List.mem_append_left _ hb)) L.1, KidsAt.foot ts (fun b hb => k b (by unfold footL; exact List.mem_append_right _ hb)) L.2⟩
end
theorem RestAt.at {t : Tr} (k : ∀ b ∈ t.restF, ∀ o, h.get? b = some o → h'.get? b = some o) (T : RestAt P h t) : RestAt P h' t := by
  cases t with
  | leaf x => exact k _ (by simp [Tr.restF]) _ T
  | node x ts => exact ⟨k _ (by simp [Tr.restF]) _ T.1, isList_at T.2.1 (k _ (by simp [Tr.restF])), KidsAt.foot ts (fun b hb => k b (by simp [Tr.restF, hb])) T.2.2⟩
mutual
theorem foot_lt : ∀ (t : Tr) {par : Value}, TreeAt P h t par → ∀ b ∈ t.foot, b < h.objs.size
  | .leaf x, par, L, b, hb => by
    unfold TreeAt at L
    simp [Tr.foot] at hb
    rcases hb with rfl | rfl
    · exact Heap.lt_size L.inst
    · exact Heap.lt_size L.dict
  | .node x ts, par, L, b, hb => by
    unfold TreeAt at L
    simp only [Tr.foot, List.mem_cons] at hb
    rcases hb with rfl | rfl | rfl | hb
    · exact Heap.lt_size L.1.inst
    · exact Heap.lt_size L.1.dict
    · obtain ⟨o, e, _⟩ := L.1.list; exact Heap.lt_size e
    · exact footL_lt ts L.2 b hb
theorem footL_lt : ∀ (ts : List Tr) {par : Value}, KidsAt P h ts par → ∀ b ∈ footL ts, b < h.objs.size
  | [], _, _, b, hb => by simp [footL] at hb
  | t :: ts, par, L, b, hb => by
    unfold KidsAt at L
    unfold footL at hb
    rcases List.mem_append.mp hb with hb | hb
    · exact foot_lt t L.1 b hb
    · exact footL_lt ts L.2 b hb
end
end
theorem kids_of {P : Params} {h : Heap} {ts : List Tr} {par : Value} (k : ∀ t ∈ ts, TreeAt P h t par) : KidsAt P h ts par := by
  induction ts with
  | nil => unfold KidsAt; trivial
  | cons t r ih => unfold KidsAt; exact ⟨k t (by simp), ih fun u hu => k u (by simp [hu])⟩
theorem dd_map_nodup {ts : List Tr} (nd : (footL ts).Nodup) : (ts.map Tr.dd).Nodup := by
  induction ts with
  | nil => simp
  | cons t r ih =>
    unfold footL at nd
    have h := List.nodup_append.mp nd
    rw [List.map_cons, List.nodup_cons]
    refine ⟨fun hm => ?_, ih h.2.1⟩
    obtain ⟨u, hu, e⟩ := List.mem_map.mp hm
    exact h.2.2 t.dd (dd_foot t) u.dd (foot_mem hu _ (dd_foot u)) e.symm
theorem rest_apart {ts : List Tr} (nd : (footL ts).Nodup) : ∀ t ∈ ts, ∀ b ∈ t.restF, b ∉ ts.map Tr.dd := by
  induction ts with
  | nil => intro t ht; cases ht
  | cons u r ih =>
    unfold footL at nd
    have h := List.nodup_append.mp nd
    intro t ht b hb hm
    rw [List.map_cons] at hm
    rcases List.mem_cons.mp ht with rfl | ht
    · rcases List.mem_cons.mp hm with rfl | hm
      · exact rest_dd h.1 hb
      · obtain ⟨v, hv, rfl⟩ := List.mem_map.mp hm
        exact h.2.2 _ (rest_foot _ hb) _ (foot_mem hv _ (dd_foot v)) rfl
    · rcases List.mem_cons.mp hm with rfl | hm
      · exact h.2.2 _ (dd_foot u) _ (foot_mem ht _ (rest_foot _ hb)) rfl
      · exact ih h.2.1 t ht b hb hm

theorem make_node_plain {prog : Program} {w : World} {A : Around} {s : Shared} {l : Addr} {kd : Str} {tk0 : Tok} {ts : List Tr} {R : Result → Shared → Prop} (hpr : ProgOk prog) (hr : Rm A 10) (S : St w (hideAll s.heap (ts.map Tr.dd)))
    (TT : ∀ t ∈ ts, TreeAt w.params s.heap t .none) (IL : s.heap.IsList l (ts.map fun t => Value.ref t.addr).toArray) (nd : (footL ts).Nodup) (hl : l ∉ footL ts)
    (hR : ∀ h' tk (y : ND), y.c = .plain → y.l = l → y.kind = kd → s.heap.objs.size ≤ y.a → s.heap.objs.size ≤ y.d → y.a ≠ y.d → (∀ b o, b ∉ ts.map Tr.dd → s.heap.get? b = some o → h'.get? b = some o) → TreeAt w.params h' (.node y ts) .none → R (.ok (.ret (.ref y.a))) { s with heap := h', toks := tk }) :
    codeAny (model prog w) A (.call (.ref 276) ⟨[.str kd tk0, .ref l], []⟩) R s := by
  obtain ⟨hh, g, d, t, os⟩ := s
  dsimp only at S TT IL hR
  have X : (hd.heap_1 w.params).In hh := S.1.keeps fun _ _ e => of_hideAll _ e
  have k : ∀ b o, hh.get? b = some o → ((hh.push emptyDict).push (instObj 276 hh.objs.size)).get? b = some o := fun b o e => Heap.get?_push_of_some _ (Heap.get?_push_of_some _ e)
  have hx : ((hh.push emptyDict).push (instObj 276 hh.objs.size)).get? (hh.objs.size + 1) = some (instObj 276 hh.objs.size) := by heap_get
  have hdc : ((hh.push emptyDict).push (instObj 276 hh.objs.size)).get? hh.objs.size = some emptyDict := by heap_get
  generalize hH1 : (hh.push emptyDict).push (instObj 276 hh.objs.size) = H1 at k hx hdc
  have ddlt : ∀ t ∈ ts, t.dd < hh.objs.size := fun t ht => foot_lt t (TT t ht) _ (dd_foot t)
  have hmapdd : ((hh.objs.size + 1, instObj 276 hh.objs.size) :: (hh.objs.size, emptyDict) :: kidNews w.params ts .none).map (·.1) = (hh.objs.size + 1) :: hh.objs.size :: ts.map Tr.dd := by simp [kidNews]
  have lt1 : ∀ b, b < hh.objs.size → b ∉ ts.map Tr.dd → b ∉ (hh.objs.size + 1) :: hh.objs.size :: ts.map Tr.dd := by
    intro b hb hm hmem
    rcases List.mem_cons.mp hmem with rfl | hmem
    · exact absurd hb (Nat.not_lt_of_le (Nat.le_succ _))
    · rcases List.mem_cons.mp hmem with rfl | hmem
      · exact absurd hb (Nat.lt_irrefl _)
      · exact hm hmem
  have sub : ∀ b o, b ∉ ts.map Tr.dd → hh.get? b = some o → (hideAll H1 ((hh.objs.size + 1) :: hh.objs.size :: ts.map Tr.dd)).get? b = some o := fun b o hb e => hideAll_get _ (k b o e) (lt1 b (Heap.lt_size e) hb)
  refine make_core (makes_of X (by kernel_rfl!)) (looks_findIn (K := hd.heap_1 w.params) (r := some (.ref 273)) X (by kernel_rfl!)) (fun self => bind_fn X self (by kernel_rfl!)) (.inl rfl) ?_
  rw [hH1]
  refine node_init_plain hpr (Rm.under1 hr (by omega)) ((hh.objs.size + 1, instObj 276 hh.objs.size) :: (hh.objs.size, emptyDict) :: kidNews w.params ts .none) rfl ?hh ?S ?RT ?IL ?nd fun h' tk t1 t2 t3 k1 k2 k3 k4 => ⟨rfl, ?_⟩
  case hh =>
    intro p hp
    rcases List.mem_cons.mp hp with rfl | hp
    · exact hx
    · rcases List.mem_cons.mp hp with rfl | hp
      · exact hdc
      · obtain ⟨q, hq, rfl⟩ := mem_kid hp
        exact k _ _ (tree_split.mp (TT q hq)).2
  case S =>
    rw [hmapdd]
    exact S.keeps fun b o e => sub b o (fun hm => by rw [hideAll_none _ hm] at e; cases e) (of_hideAll _ e)
  case RT =>
    intro q hq
    rw [hmapdd]
    exact (tree_split.mp (TT q hq)).1.at fun b hb o e => sub b o (rest_apart nd q hq b hb) e
  case IL =>
    rw [hmapdd]
    refine isList_at IL fun o e => sub l o (fun hm => ?_) e
    obtain ⟨q, hq, e⟩ := List.mem_map.mp hm
    exact hl (e ▸ foot_mem hq _ (dd_foot q))
  case nd =>
    rw [hmapdd]
    refine List.nodup_cons.mpr ⟨fun hm => ?_, List.nodup_cons.mpr ⟨fun hm => ?_, dd_map_nodup nd⟩⟩
    · rcases List.mem_cons.mp hm with e | hm
      · exact absurd e (Nat.succ_ne_self _)
      · obtain ⟨q, hq, e⟩ := List.mem_map.mp hm
        have := ddlt q hq
        rw [e] at this
        exact absurd this (Nat.not_lt_of_le (Nat.le_succ _))
    · obtain ⟨q, hq, e⟩ := List.mem_map.mp hm
      have := ddlt q hq
      rw [e] at this
      exact absurd this (Nat.lt_irrefl _)
  rw [hmapdd] at k1
  have kk : ∀ b o, b ∉ ts.map Tr.dd → hh.get? b = some o → h'.get? b = some o := fun b o hb e => k1 b o (lt1 b (Heap.lt_size e) hb) (k b o e)
  refine hR h' tk ⟨hh.objs.size + 1, hh.objs.size, l, .plain, kd, tk0, t1, t2, t3⟩ rfl rfl rfl (Nat.le_succ _) (Nat.le_refl _) (Nat.succ_ne_self _) kk ?_
  unfold TreeAt
  refine ⟨⟨k2, k3, isList_at IL fun o e => kk l o (fun hm => ?_) e⟩, kids_of fun q hq => tree_split.mpr ⟨(tree_split.mp (TT q hq)).1.at fun b hb o e => kk b o (rest_apart nd q hq b hb) e, k4 q hq⟩⟩
  obtain ⟨q, hq, e⟩ := List.mem_map.mp hm
  exact hl (e ▸ foot_mem hq _ (dd_foot q))

theorem make_node_py {prog : Program} {w : World} {A : Around} {s : Shared} {l : Addr} {kd : Str} {tk0 : Tok} {ts : List Tr} {R : Result → Shared → Prop} (hpr : ProgOk prog) (hr : Rm A 10) (S : St w (hideAll s.heap (ts.map Tr.dd)))
    (TT : ∀ t ∈ ts, TreeAt w.params s.heap t .none) (IL : s.heap.IsList l (ts.map fun t => Value.ref t.addr).toArray) (nd : (footL ts).Nodup) (hl : l ∉ footL ts)
    (hR : ∀ h' tk (y : ND), y.c = .py → y.l = l → y.kind = kd → s.heap.objs.size ≤ y.a → s.heap.objs.size ≤ y.d → y.a ≠ y.d → (∀ b o, b ∉ ts.map Tr.dd → s.heap.get? b = some o → h'.get? b = some o) → TreeAt w.params h' (.node y ts) .none → R (.ok (.ret (.ref y.a))) { s with heap := h', toks := tk }) :
    codeAny (model prog w) A (.call (.ref 348) ⟨[.str kd tk0, .ref l], []⟩) R s := by
  obtain ⟨hh, g, d, t, os⟩ := s
  dsimp only at S TT IL hR
  have X : (hd.heap_1 w.params).In hh := S.1.keeps fun _ _ e => of_hideAll _ e
  have k : ∀ b o, hh.get? b = some o → ((hh.push emptyDict).push (instObj 348 hh.objs.size)).get? b = some o := fun b o e => Heap.get?_push_of_some _ (Heap.get?_push_of_some _ e)
  have hx : ((hh.push emptyDict).push (instObj 348 hh.objs.size)).get? (hh.objs.size + 1) = some (instObj 348 hh.objs.size) := by heap_get
  have hdc : ((hh.push emptyDict).push (instObj 348 hh.objs.size)).get? hh.objs.size = some emptyDict := by heap_get
  generalize hH1 : (hh.push emptyDict).push (instObj 348 hh.objs.size) = H1 at k hx hdc
  have ddlt : ∀ t ∈ ts, t.dd < hh.objs.size := fun t ht => foot_lt t (TT t ht) _ (dd_foot t)
  have hmapdd : ((hh.objs.size + 1, instObj 348 hh.objs.size) :: (hh.objs.size, emptyDict) :: kidNews w.params ts .none).map (·.1) = (hh.objs.size + 1) :: hh.objs.size :: ts.map Tr.dd := by simp [kidNews]
  have lt1 : ∀ b, b < hh.objs.size → b ∉ ts.map Tr.dd → b ∉ (hh.objs.size + 1) :: hh.objs.size :: ts.map Tr.dd := by
    intro b hb hm hmem
    rcases List.mem_cons.mp hmem with rfl | hmem
    · exact absurd hb (Nat.not_lt_of_le (Nat.le_succ _))
    · rcases List.mem_cons.mp hmem with rfl | hmem
      · exact absurd hb (Nat.lt_irrefl _)
      · exact hm hmem
  have sub : ∀ b o, b ∉ ts.map Tr.dd → hh.get? b = some o → (hideAll H1 ((hh.objs.size + 1) :: hh.objs.size :: ts.map Tr.dd)).get? b = some o := fun b o hb e => hideAll_get _ (k b o e) (lt1 b (Heap.lt_size e) hb)
  refine make_core (makes_of X (by kernel_rfl!)) (looks_findIn (K := hd.heap_1 w.params) (r := some (.ref 273)) X (by kernel_rfl!)) (fun self => bind_fn X self (by kernel_rfl!)) (.inl rfl) ?_
  rw [hH1]
  refine node_init_py hpr (Rm.under1 hr (by omega)) ((hh.objs.size + 1, instObj 348 hh.objs.size) :: (hh.objs.size, emptyDict) :: kidNews w.params ts .none) rfl ?hh ?S ?RT ?IL ?nd fun h' tk t1 t2 t3 k1 k2 k3 k4 => ⟨rfl, ?_⟩
  case hh =>
    intro p hp
    rcases List.mem_cons.mp hp with rfl | hp
    · exact hx
    · rcases List.mem_cons.mp hp with rfl | hp
      · exact hdc
      · obtain ⟨q, hq, rfl⟩ := mem_kid hp
        exact k _ _ (tree_split.mp (TT q hq)).2
  case S =>
    rw [hmapdd]
    exact S.keeps fun b o e => sub b o (fun hm => by rw [hideAll_none _ hm] at e; cases e) (of_hideAll _ e)
  case RT =>
    intro q hq
    rw [hmapdd]
    exact (tree_split.mp (TT q hq)).1.at fun b hb o e => sub b o (rest_apart nd q hq b hb) e
  case IL =>
    rw [hmapdd]
    refine isList_at IL fun o e => sub l o (fun hm => ?_) e
    obtain ⟨q, hq, e⟩ := List.mem_map.mp hm
    exact hl (e ▸ foot_mem hq _ (dd_foot q))
  case nd =>
    rw [hmapdd]
    refine List.nodup_cons.mpr ⟨fun hm => ?_, List.nodup_cons.mpr ⟨fun hm => ?_, dd_map_nodup nd⟩⟩
    · rcases List.mem_cons.mp hm with e | hm
      · exact absurd e (Nat.succ_ne_self _)
      · obtain ⟨q, hq, e⟩ := List.mem_map.mp hm
        have := ddlt q hq
        rw [e] at this
        exact absurd this (Nat.not_lt_of_le (Nat.le_succ _))
    · obtain ⟨q, hq, e⟩ := List.mem_map.mp hm
      have := ddlt q hq
      rw [e] at this
      exact absurd this (Nat.lt_irrefl _)
  rw [hmapdd] at k1
  have kk : ∀ b o, b ∉ ts.map Tr.dd → hh.get? b = some o → h'.get? b = some o := fun b o hb e => k1 b o (lt1 b (Heap.lt_size e) hb) (k b o e)
  refine hR h' tk ⟨hh.objs.size + 1, hh.objs.size, l, .py, kd, tk0, t1, t2, t3⟩ rfl rfl rfl (Nat.le_succ _) (Nat.le_refl _) (Nat.succ_ne_self _) kk ?_
  unfold TreeAt
  refine ⟨⟨k2, k3, isList_at IL fun o e => kk l o (fun hm => ?_) e⟩, kids_of fun q hq => tree_split.mpr ⟨(tree_split.mp (TT q hq)).1.at fun b hb o e => kk b o (rest_apart nd q hq b hb) e, k4 q hq⟩⟩
  obtain ⟨q, hq, e⟩ := List.mem_map.mp hm
  exact hl (e ▸ foot_mem hq _ (dd_foot q))

noncomputable def Values : List Str := [Str.ofString "+", Str.ofString "a", Str.ofString "", Str.ofString "ab\ncd", Str.ofString "\n", Str.ofString "x\ry", Str.ofString "a\r\n", Str.ofString "+", Str.ofString "  ", Str.ofString "\n\nz"]
noncomputable def Prefixes : List Str := [Str.ofString "", Str.ofString " ", Str.ofString "# c\n", Str.ofString "\n  ", Str.ofString "\r\n", Str.ofString ""]
noncomputable def Kinds : List Str := [Str.ofString "expr", Str.ofString "term", Str.ofString "atom"]
theorem values_texts : ∀ v ∈ Values, v ∈ Texts := by decide +kernel
theorem prefixes_texts : ∀ v ∈ Prefixes, v ∈ Texts := by decide +kernel
/-- v is a new list of these texts -/
noncomputable def NewTexts (l : List Str) (v : Value) (h h0 : Heap) : Prop := ∃ D its, v = .ref D ∧ h0.get? D = none ∧ h.PlainList D (strValues its).toArray ∧ its.map (·.1) = l
noncomputable def pairOf : Value → Option (Str × Tok)
  | .str a t => some (a, t)
  | _ => none
theorem newTexts_of {l : List Str} {h h0 : Heap} {L D : Addr} {vs : Array Value} {n : Nat} {news : List (Addr × Obj)} (its : List (Str × Tok)) (N : News h0 L h ((D, { cls := .type "list", data := .seq vs n }) :: news)) (e : vs = (strValues its).toArray) (e2 : its.map (·.1) = l) : NewTexts l (.ref D) h h0 :=
  ⟨D, its, rfl, N.fresh (List.mem_cons_self ..), ⟨n, e ▸ N.get (List.mem_cons_self ..)⟩, e2⟩
theorem newTexts_at {l : List Str} {h h0 : Heap} {L D : Addr} {vs : Array Value} {n : Nat} {news : List (Addr × Obj)} (N : News h0 L h ((D, { cls := .type "list", data := .seq vs n }) :: news)) (e : vs = (strValues (vs.toList.filterMap pairOf)).toArray) (e2 : (vs.toList.filterMap pairOf).map (·.1) = l) : NewTexts l (.ref D) h h0 :=
  newTexts_of _ N e e2

theorem law_values {prog : Program} {w : World} {A : Around} {s : Shared} (hr : Rm A 2) (S : St w s.heap) : PureRes prog w A s (.call (.ref 426) ⟨[], []⟩) (fun v h' => NewTexts Values v h' s.heap) := by
  intro R hR
  have ⟨X, p, loose, mg, mb, T, _⟩ := S
  refine' enterX [] X (TopRead.nolimit T) ?k6 ?k7 ?k8 ?k9 ?kB ?c1 ?c2 ?c3 ?c4 ?_
  (case k6 => k_is)
  (case k7 => k_is)
  (case k8 => exact (Rm.lt hr))
  (case k9 => first | exact BindsTo.of_eq rfl | exact binds_K (by k_in) rfl (by k_is) rfl rfl rfl)
  (case kB => exact locs rfl)
  (case c1 => decide)
  (case c2 => rfl)
  (case c3 => rfl)
  (case c4 => rfl)
  intro L' h₁ tk F N
  try dsimp only
  k_fold
  k_steps
  refine hR _ _ _ (Fr.keep (by assumption)) ?_
  rename News _ _ _ _ => NN
  exact newTexts_at NN rfl rfl

theorem law_prefixes {prog : Program} {w : World} {A : Around} {s : Shared} (hr : Rm A 2) (S : St w s.heap) : PureRes prog w A s (.call (.ref 433) ⟨[], []⟩) (fun v h' => NewTexts Prefixes v h' s.heap) := by
  intro R hR
  have ⟨X, p, loose, mg, mb, T, _⟩ := S
  refine' enterX [] X (TopRead.nolimit T) ?k6 ?k7 ?k8 ?k9 ?kB ?c1 ?c2 ?c3 ?c4 ?_
  (case k6 => k_is)
  (case k7 => k_is)
  (case k8 => exact (Rm.lt hr))
  (case k9 => first | exact BindsTo.of_eq rfl | exact binds_K (by k_in) rfl (by k_is) rfl rfl rfl)
  (case kB => exact locs rfl)
  (case c1 => decide)
  (case c2 => rfl)
  (case c3 => rfl)
  (case c4 => rfl)
  intro L' h₁ tk F N
  try dsimp only
  k_fold
  k_steps
  refine hR _ _ _ (Fr.keep (by assumption)) ?_
  rename News _ _ _ _ => NN
  exact newTexts_at NN rfl rfl

theorem law_kinds {prog : Program} {w : World} {A : Around} {s : Shared} (hr : Rm A 2) (S : St w s.heap) : PureRes prog w A s (.call (.ref 440) ⟨[], []⟩) (fun v h' => NewTexts Kinds v h' s.heap) := by
  intro R hR
  have ⟨X, p, loose, mg, mb, T, _⟩ := S
  refine' enterX [] X (TopRead.nolimit T) ?k6 ?k7 ?k8 ?k9 ?kB ?c1 ?c2 ?c3 ?c4 ?_
  (case k6 => k_is)
  (case k7 => k_is)
  (case k8 => exact (Rm.lt hr))
  (case k9 => first | exact BindsTo.of_eq rfl | exact binds_K (by k_in) rfl (by k_is) rfl rfl rfl)
  (case kB => exact locs rfl)
  (case c1 => decide)
  (case c2 => rfl)
  (case c3 => rfl)
  (case c4 => rfl)
  intro L' h₁ tk F N
  try dsimp only
  k_fold
  k_steps
  refine hR _ _ _ (Fr.keep (by assumption)) ?_
  rename News _ _ _ _ => NN
  exact newTexts_at NN rfl rfl

theorem enterT {prog : Program} {w : World} {A : Around} {s : Shared} {K : Frag} {R : Result → Shared → Prop} {name qual : Str} {params : Arguments} {body : List Stmt} {scope : Scope} {cl : List (Str × Addr)} {dV kV doc pm cdv ct oc : Value} {an od : Option Addr} {osl : Array (Option Value)} {f : Addr} {args : Args} (binds : List (Str × Value))
    (X : K.In s.heap) (hlim : s.heap.NoLimit)
    (ho : K.lookup f = some ⟨oc, od, .func (fnX name qual params body scope cl dV kV doc pm an cdv ct), osl⟩) (hcd : codeIn K cdv qual = true) (hroom : A.depth < recursionLimit)
    (hbind : BindsTo s (fnX name qual params body scope cl dV kV doc pm an cdv ct) args binds) (hloc : ∀ y ∈ binds, scope.names.lookup y.1 = some .local)
    (hcell : ∀ x ∈ scope.names, x.2 ≠ .cell) (hco : scope.isCoroutine = false) (hgen : scope.isGenerator = false) (hk : scope.kind = .function)
    (h : ∀ L' h₁ tk, s.toks ≤ tk → Fr s.heap L' h₁ (fun y => binds.reverse.lookup y) → News s.heap L' h₁ [] →
      wpAny (model prog w) (A.deeper (envX qual scope L' f cdv cl)) (execs body (envX qual scope L' f cdv cl))
        (fun fl s' => R (.ok (.ret (match fl with | .ret v => v | _ => .none))) s') (fun _ _ => False) { s with heap := h₁, toks := tk }) :
    codeAny (model prog w) A (.call (.ref f) args) R s := by
  refine codeAny_call_def (fd := fnX name qual params body scope cl dV kV doc pm an cdv ct) (body := body) (binds := binds) hroom (X _ _ ho) rfl hlim (codeRec_of X hcd) rfl hbind hcell hloc (fun h₁ hns hk₁ => ?_) hco hgen hk
  exact wpAny_noRaise (h s.heap.objs.size h₁ _ (Nat.le_add_right _ _) ⟨hns, hk₁, Nat.le_refl _⟩ News.nil)
theorem my_replace {prog : Program} {w : World} {A : Around} {E : Value → Shared → Prop} {s : Shared} {x y z : Str} {t u : Tok} {Q : Value → Shared → Prop} (hu : @LT.lt Nat _ 0 u) (hs : 0 < s.toks) (hyz : (y == z) = false) (hx : x.length ≤ 1048576) (hz : z.length ≤ 14)
    (hq : ∀ t' k, @LT.lt Nat _ 0 k → Q (.str (Txt.replace x y z) t') { s with toks := k }) : wpAny (model prog w) A (call (.builtin "str.replace") [.str x t, .str y u, .str z (u + 1)]) Q E s :=
  wpAny_with_toks (Nat.le_refl s.toks) (PySem.SC.replaceW (Nat.ne_of_gt hu) (Nat.succ_ne_zero _) (Nat.ne_of_lt (Nat.lt_succ_self _)) hyz hx hz fun t' k hk => hq t' k (Nat.lt_of_lt_of_le hs hk))
noncomputable def rep1 (tx : Str) : Str := Txt.replace tx (Str.ofString "\r\n") (Str.ofString "\n")
noncomputable def rep2 (tx : Str) : Str := Txt.replace (rep1 tx) (Str.ofString "\r") (Str.ofString "\n")
theorem rep_lines : ∀ tx ∈ Texts, (rep1 tx).length ≤ 100 ∧ (rep2 tx).length ≤ 100 ∧ Txt.split (rep2 tx) (Str.ofString "\n") = linesOf tx := by
  have : ∀ tx ∈ Texts, decide ((rep1 tx).length ≤ 100) && decide ((rep2 tx).length ≤ 100) && decide (Txt.split (rep2 tx) (Str.ofString "\n") = linesOf tx) = true := by decide +kernel
  intro tx h
  have := this tx h
  simp at this
  exact ⟨this.1.1, this.1.2, this.2⟩
theorem rep1_ok {tx : Str} (h : tx ∈ Texts) : tx.length ≤ 1048576 := by have := short_text h; omega
theorem rep2_ok {tx : Str} (h : tx ∈ Texts) : (Txt.replace tx (Str.ofString "\r\n") (Str.ofString "\n")).length ≤ 1048576 := by have : (rep1 tx).length ≤ 100 := (rep_lines tx h).1; show (rep1 tx).length ≤ 1048576; omega
theorem my_split {prog : Program} {w : World} {A : Around} {E : Value → Shared → Prop} {s : Shared} {g : Heap} {L : Addr} {m : Str → Option Value} {news : List (Addr × Obj)} {tx : Str} {t u : Tok} {Q : Value → Shared → Prop} (ht : tx ∈ Texts) (F : Fr g L s.heap m) (N : News g L s.heap news)
    (h : ∀ (ts : List (Str × Tok)) D h' k, ts.map (·.1) = linesOf tx → Fr g L h' m → News g L h' ((D, ({ cls := .type "list", data := .seq (strValues ts).toArray 0 } : Obj)) :: news) → Q (.ref D) { s with heap := h', toks := k }) :
    wpAny (model prog w) A (call (.builtin "str.split") [.str (Txt.replace (Txt.replace tx (Str.ofString "\r\n") (Str.ofString "\n")) (Str.ofString "\r") (Str.ofString "\n")) t, .str (Str.ofString "\n") u]) Q E s :=
  KSpl.split1 F N (by decide +kernel) (fun D l h' k e _ F' N' _ => h l D h' k (e.trans (rep_lines tx ht).2.2) F' N') (by
    have h1 : (rep2 tx).length ≤ 100 := (rep_lines tx ht).2.1
    have h2 : 102 ≤ sizeLine := by decide
    show (rep2 tx).length + 2 ≤ sizeLine
    omega)
theorem lines_K2_1 : True := by
  k_with_none
  k_with "call builtin:str.replace" => ((k_dflt (refine' my_replace ?a_1e4 ?b_1e4 ?d_1e4 ?e_1e4 ?f_1e4 ?_; (case a_1e4 => assumption); (case b_1e4 => exact Nat.succ_pos _); (case d_1e4 => decide +kernel); (case e_1e4 => first | exact rep1_ok (by assumption) | exact rep2_ok (by assumption)); (case f_1e4 => decide +kernel); k_whole; intro _ _ _; (try dsimp only))))
  k_with "call builtin:str.split" => ((k_dflt (refine' my_split ?H_c4 ?F_c4 ?N_c4 ?_; (case F_c4 => k_asm); (case N_c4 => k_asm); (case H_c4 => assumption); k_whole; intro _ _ _ _ x_hts _ x_N'; rcases linesOf_cases (by assumption) x_hts with ⟨a, t, e1, e⟩ | ⟨a, t, b, u, e1, e⟩ | ⟨a, t, b, u, c, v, e1, e⟩ <;> subst e1 <;> dsimp only [strValues, List.map] at x_N')))
  k_with "call builtin:len" => ((k_dflt (refine' my_len ?N_e69 ?m_e69 ?f_e69 ?_; (case N_e69 => k_asm); (case m_e69 => k_mem); (case f_e69 => decide); k_whole)))
  k_with "subscriptTail" => (((with_reducible show wpAny _ _ (subscriptTail _ _ (Value.ref _) (Value.int (-1) _)) _ _ _); (k_dflt (refine' my_last ?N_9ef ?m_9ef ?V_9ef ?_; (case N_9ef => k_asm); (case m_9ef => k_mem); (case V_9ef => rfl); k_whole))))
  k_with "call builtin:len" => (((with_reducible show wpAny _ _ (call _ [Value.str _ _]) _ _ _); (k_dflt (refine' my_len_str ?f_4ef ?_; (case f_4ef => first | exact short_text (by assumption) | exact short_mem (by assumption) (by assumption) (by simp)); k_whole))))
  trivial
theorem past {prog : Program} {w : World} {A : Around} {s : Shared} {pl : Addr} {a b : Int} {ta tb t : Tok} {tx : Str} (hr : Rm A 2) (S : St w s.heap) (h0 : 0 < s.toks) (ht : tx ∈ Texts) (hp : IsTup s.heap pl #[.int a ta, .int b tb]) : PureRes prog w A s (.call (.ref 447) ⟨[.ref pl, .str tx t], []⟩) (fun v h' => Tup2 (pastLine a tx) (pastCol b tx) v h' s.heap) := by
  intro R hR
  have ⟨X, p, loose, mg, mb, T, _⟩ := S
  refine' enterT [(Str.ofString "place", .ref pl), (Str.ofString "text", .str tx t)] X (TopRead.nolimit T) ?k6 ?k7 ?k8 ?k9 ?kB ?c1 ?c2 ?c3 ?c4 ?_
  (case k6 => k_is)
  (case k7 => k_is)
  (case k8 => exact (Rm.lt hr))
  (case k9 => first | exact BindsTo.of_eq rfl | exact binds_K (by k_in) rfl (by k_is) rfl rfl rfl)
  (case kB => exact locs rfl)
  (case c1 => decide)
  (case c2 => rfl)
  (case c3 => rfl)
  (case c4 => rfl)
  intro L' h₁ tk htk F N
  try dsimp only
  k_fold
  have h1 : @LT.lt Nat _ 0 tk := Nat.lt_of_lt_of_le h0 htk
  k_steps
  all_goals refine hR _ _ _ (Fr.keep (by assumption)) (tup2_of (by assumption) ?_ ?_)
  all_goals (rename linesOf _ = _ => e)
  all_goals (first | (simp [pastLine, pastCol, brk, tailLen, e]; done) | (simp [pastLine, pastCol, brk, tailLen, e]; omega) | skip)

noncomputable def pastP (p : Int × Int) (tx : Str) : Int × Int := (pastLine p.1 tx, pastCol p.2 tx)
/-- the leaves lie end to end from p -/
noncomputable def Chain : Int × Int → List LD → Prop
  | _, [] => True
  | p, x :: r => (x.line, x.col) = pastP p x.pre ∧ Chain (pastP (x.line, x.col) x.val) r
noncomputable def endP : Int × Int → List LD → Int × Int
  | p, [] => p
  | _, x :: r => endP (pastP (x.line, x.col) x.val) r
theorem Chain.append {xs ys : List LD} : ∀ {p : Int × Int}, Chain p xs → Chain (endP p xs) ys → Chain p (xs ++ ys) := by
  induction xs with
  | nil => intro p _ h; exact h
  | cons x r ih => intro p h1 h2; exact ⟨h1.1, ih h1.2 h2⟩
noncomputable def TupAt (h : Heap) (v : Value) (p : Int × Int) : Prop := ∃ a t u, v = .ref a ∧ IsTup h a #[.int p.1 t, .int p.2 u]
theorem TupAt.keeps {h h' : Heap} {v : Value} {p : Int × Int} (T : TupAt h v p) (k : ∀ b o, h.get? b = some o → (∃ its n, o.data = .seq its n ∧ o.cls = .type "tuple") → h'.get? b = some o) : TupAt h' v p := by
  obtain ⟨a, t, u, e, o, ho, hc, n, hd⟩ := T
  exact ⟨a, t, u, e, o, k a o ho ⟨_, n, hd, hc⟩, hc, n, hd⟩
/-- these values are the tuples of these pairs -/
inductive TupsAt (h : Heap) : List Value → List (Int × Int) → Prop
  | nil : TupsAt h [] []
  | cons {v p vs ps} : TupAt h v p → TupsAt h vs ps → TupsAt h (v :: vs) (p :: ps)
theorem TupsAt.append {h : Heap} {vs ws : List Value} {ps qs : List (Int × Int)} (a : TupsAt h vs ps) (b : TupsAt h ws qs) : TupsAt h (vs ++ ws) (ps ++ qs) := by
  induction a with
  | nil => exact b
  | cons x _ ih => exact .cons x ih
noncomputable def IntsV (ps : List Value) : Prop := ∀ v ∈ ps, ∃ i t, v = Value.int i t
noncomputable def startsOf (xs : List LD) : List (Int × Int) := xs.map fun x => (x.line, x.col)
noncomputable def endsOf (xs : List LD) : List (Int × Int) := xs.map fun x => pastP (x.line, x.col) x.val
mutual
/-- the classes fit: plain trees, or Python's -/
noncomputable def fits (plain : Bool) : Tr → Prop
  | .leaf x => x.c.isPlain = plain ∧ (x.c.flat = true → linesOf x.val = [x.val])
  | .node x ts => x.c = (if plain then NC.plain else NC.py) ∧ x.kind ∈ Kinds ∧ fitsL plain ts
noncomputable def fitsL (plain : Bool) : List Tr → Prop
  | [] => True
  | t :: ts => fits plain t ∧ fitsL plain ts
end

structure Row where
  t : Tr
  c : Ctx
  up : Int
  low : Nat
  high : Nat
mutual
noncomputable def sizeT : Tr → Nat
  | .leaf _ => 1
  | .node _ ts => sizeTs ts + 1
noncomputable def sizeTs : List Tr → Nat
  | [] => 0
  | t :: ts => sizeT t + sizeTs ts
end
mutual
/-- the table of a tree, in the order of a walk from above -/
noncomputable def rowsOf : Tr → Ctx → Int → Nat → Nat → List Row
  | .leaf x, c, up, b, low => [⟨.leaf x, c, up, low, low + 1⟩]
  | .node x ts, c, up, b, low => ⟨.node x ts, c, up, low, low + (leavesL ts).length⟩ :: rowsL x c b [] ts (b + 1) low
noncomputable def rowsL (x : ND) (c : Ctx) (up : Int) : List Tr → List Tr → Nat → Nat → List Row
  | ls, [], b, low => []
  | ls, t :: rs, b, low => rowsOf t (⟨x, ls, rs⟩ :: c) up b low ++ rowsL x c up (ls ++ [t]) rs (b + sizeT t) (low + t.leaves.length)
end
mutual
theorem rows_len : ∀ (t : Tr) (c : Ctx) (up : Int) (b low : Nat), (rowsOf t c up b low).length = sizeT t
  | .leaf x, c, up, b, low => by simp [rowsOf, sizeT]
  | .node x ts, c, up, b, low => by
    have := rowsL_len x c b [] ts (b + 1) low
    simp [rowsOf, sizeT, this]
theorem rowsL_len : ∀ (x : ND) (c : Ctx) (up : Int) (ls ts : List Tr) (b low : Nat), (rowsL x c up ls ts b low).length = sizeTs ts
  | x, c, up, ls, [], b, low => by simp [rowsL, sizeTs]
  | x, c, up, ls, t :: rs, b, low => by
    have h1 := rows_len t (⟨x, ls, rs⟩ :: c) up b low
    have h2 := rowsL_len x c up (ls ++ [t]) rs (b + sizeT t) (low + t.leaves.length)
    simp [rowsL, sizeTs, h1, h2]
end
/-- the leaves ahead of a place, behind it -/
noncomputable def befL : Ctx → List LD
  | [] => []
  | u :: c => befL c ++ leavesL u.ls
noncomputable def aftL : Ctx → List LD
  | [] => []
  | u :: c => leavesL u.rs ++ aftL c
theorem leavesL_append (a b : List Tr) : leavesL (a ++ b) = leavesL a ++ leavesL b := by
  induction a with
  | nil => simp [leavesL]
  | cons t r ih => simp [leavesL, ih]
theorem plug_leaves : ∀ (c : Ctx) (t : Tr), (plug t c).leaves = befL c ++ t.leaves ++ aftL c
  | [], t => by simp [plug, befL, aftL]
  | u :: c, t => by
    rw [plug, plug_leaves c, Tr.leaves, leavesL_append, leavesL, befL, aftL]
    simp
structure RowOk (root : Tr) (r : Row) : Prop where
  plug : plug r.t r.c = root
  low : r.low = (befL r.c).length
  high : r.high = r.low + r.t.leaves.length
mutual
theorem rows_ok {root : Tr} : ∀ (t : Tr) (c : Ctx) (up : Int) (b low : Nat), plug t c = root → low = (befL c).length → ∀ r ∈ rowsOf t c up b low, RowOk root r
  | .leaf x, c, up, b, low, hp, hl, r, hr => by
    simp [rowsOf] at hr
    subst hr
    exact ⟨hp, hl, by simp [Tr.leaves]⟩
  | .node x ts, c, up, b, low, hp, hl, r, hr => by
    unfold rowsOf at hr
    rcases List.mem_cons.mp hr with rfl | hr
    · exact ⟨hp, hl, by simp [Tr.leaves]⟩
    · exact rowsL_ok x c b [] ts (b + 1) low (by simpa using hp) (by simp [hl, leavesL]) r hr
theorem rowsL_ok {root : Tr} : ∀ (x : ND) (c : Ctx) (up : Int) (ls ts : List Tr) (b low : Nat), plug (.node x (ls ++ ts)) c = root → low = (befL c).length + (leavesL ls).length → ∀ r ∈ rowsL x c up ls ts b low, RowOk root r
  | x, c, up, ls, [], b, low, hp, hl, r, hr => by simp [rowsL] at hr
  | x, c, up, ls, t :: rs, b, low, hp, hl, r, hr => by
    unfold rowsL at hr
    rcases List.mem_append.mp hr with hr | hr
    · exact rows_ok t (⟨x, ls, rs⟩ :: c) up b low hp (by simp [befL, hl]) r hr
    · exact rowsL_ok x c up (ls ++ [t]) rs _ _ (by simpa using hp) (by simp [leavesL_append, leavesL, hl]; omega) r hr
end
theorem rows_head (t : Tr) (c : Ctx) (up : Int) (b low : Nat) : ∃ r R, rowsOf t c up b low = r :: R ∧ r.t = t ∧ r.c = c ∧ r.up = up ∧ r.low = low ∧ r.high = low + t.leaves.length := by
  cases t with
  | leaf x => exact ⟨_, _, by rw [rowsOf], rfl, rfl, rfl, rfl, by simp [Tr.leaves]⟩
  | node x ts => exact ⟨_, _, by rw [rowsOf], rfl, rfl, rfl, rfl, by simp [Tr.leaves]⟩
mutual
/-- where the parents' numbers lie -/
theorem ups : ∀ (t : Tr) (c : Ctx) (up : Int) (b low : Nat), ∀ r ∈ (rowsOf t c up b low).tail, (b : Int) ≤ r.up ∧ r.up < ((b + sizeT t : Nat) : Int)
  | .leaf x, c, up, b, low, r, hr => by simp [rowsOf] at hr
  | .node x ts, c, up, b, low, r, hr => by
    unfold rowsOf at hr
    rw [List.tail_cons] at hr
    have := upsL x c b [] ts (b + 1) low r hr
    rw [sizeT]
    omega
theorem upsL : ∀ (x : ND) (c : Ctx) (up : Int) (ls ts : List Tr) (b low : Nat), ∀ r ∈ rowsL x c up ls ts b low, r.up = up ∨ (b : Int) ≤ r.up ∧ r.up < ((b + sizeTs ts : Nat) : Int)
  | x, c, up, ls, [], b, low, r, hr => by simp [rowsL] at hr
  | x, c, up, ls, t :: rs, b, low, r, hr => by
    unfold rowsL at hr
    rw [sizeTs]
    rcases List.mem_append.mp hr with hr | hr
    · have h2 := ups t (⟨x, ls, rs⟩ :: c) up b low r
      obtain ⟨r0, R, e, _, _, h1, _⟩ := rows_head t (⟨x, ls, rs⟩ :: c) up b low
      rw [e] at hr h2
      rcases List.mem_cons.mp hr with rfl | hr
      · exact .inl h1
      · have := h2 hr
        right; omega
    · have := upsL x c up (ls ++ [t]) rs _ _ r hr
      omega
end
noncomputable def flt (u : Int) (R : List Row) : List Tr := (R.filter fun r => r.up == u).map Row.t
theorem flt_append (u : Int) (A B : List Row) : flt u (A ++ B) = flt u A ++ flt u B := by simp [flt]
theorem flt_none {u : Int} {R : List Row} (h : ∀ r ∈ R, r.up ≠ u) : flt u R = [] := by
  unfold flt
  rw [List.filter_eq_nil_iff.mpr fun r hr => by simpa using h r hr]; rfl
theorem flt_cons_ne {u : Int} {r : Row} {R : List Row} (h : r.up ≠ u) : flt u (r :: R) = flt u R := by simp [flt, h]
theorem flt_cons_eq {u : Int} {r : Row} {R : List Row} (h : r.up = u) : flt u (r :: R) = r.t :: flt u R := by simp [flt, h]
theorem flt_block {t : Tr} {c : Ctx} {up : Int} {b low : Nat} (h : up < b) : flt up (rowsOf t c up b low) = [t] := by
  have h2 := ups t c up b low
  obtain ⟨r0, R, e, h1, _, h3, _⟩ := rows_head t c up b low
  rw [e] at h2 ⊢
  rw [flt_cons_eq h3, h1, flt_none fun r hr => ?_]
  have := (h2 r hr).1
  omega
theorem flt_blocks : ∀ (x : ND) (c : Ctx) (up : Int) (ts ls : List Tr) (b low : Nat), up < b → flt up (rowsL x c up ls ts b low) = ts
  | x, c, up, [], ls, b, low, h => by simp [rowsL, flt]
  | x, c, up, t :: rs, ls, b, low, h => by
    rw [rowsL, flt_append, flt_block h, flt_blocks x c up rs _ _ _ (by omega)]; rfl
noncomputable def lsOf : Ctx → List Tr
  | [] => []
  | u :: _ => u.ls
noncomputable def rsOf : Ctx → List Tr
  | [] => []
  | u :: _ => u.rs
theorem split_block {α : Type} {X Y A B : List α} {r : α} (h : X ++ Y = A ++ r :: B) : (∃ B1, X = A ++ r :: B1 ∧ B = B1 ++ Y) ∨ (∃ A2, A = X ++ A2 ∧ Y = A2 ++ r :: B) := by
  rcases List.append_eq_append_iff.mp h with ⟨a', h1, h2⟩ | ⟨c', h1, h2⟩
  · exact .inr ⟨a', h1, h2⟩
  · cases c' with
    | nil => exact .inr ⟨[], by simpa using h1.symm, by simpa using h2.symm⟩
    | cons z c' =>
      injection h2 with h3 h4
      subst h3
      exact .inl ⟨c', h1, h4⟩
mutual
theorem sibs : ∀ (t : Tr) (c : Ctx) (up : Int) (b low : Nat), up < b → ∀ A r B, rowsOf t c up b low = A ++ r :: B → A ≠ [] → flt r.up A = lsOf r.c ∧ flt r.up B = rsOf r.c
  | .leaf x, c, up, b, low, h, A, r, B, e, hA => by
    rw [rowsOf] at e
    cases A with
    | nil => exact absurd rfl hA
    | cons a A => simp at e
  | .node x ts, c, up, b, low, h, A, r, B, e, hA => by
    rw [rowsOf] at e
    cases A with
    | nil => exact absurd rfl hA
    | cons a A =>
      injection e with e1 e2
      have hu := upsL x c b [] ts (b + 1) low r (by rw [e2]; simp)
      have ha : a.up = up := by rw [← e1]
      have hne : a.up ≠ r.up := by omega
      rw [flt_cons_ne hne]
      obtain ⟨h1, h2⟩ := sibsL x c b [] ts (b + 1) low (by omega) A r B e2
      by_cases hr : r.up = (b : Int)
      · rw [hr]; simpa using h1 hr
      · exact h2 hr
theorem sibsL : ∀ (x : ND) (c : Ctx) (up : Int) (ls ts : List Tr) (b low : Nat), up < b → ∀ A r B, rowsL x c up ls ts b low = A ++ r :: B →
    (r.up = up → ls ++ flt up A = lsOf r.c ∧ flt up B = rsOf r.c) ∧ (r.up ≠ up → flt r.up A = lsOf r.c ∧ flt r.up B = rsOf r.c)
  | x, c, up, ls, [], b, low, h, A, r, B, e => by simp [rowsL] at e
  | x, c, up, ls, t :: rs, b, low, h, A, r, B, e => by
    rw [rowsL] at e
    have hub := ups t (⟨x, ls, rs⟩ :: c) up b low
    obtain ⟨r0, R, e0, h01, h02, h03, _⟩ := rows_head t (⟨x, ls, rs⟩ :: c) up b low
    have hur := upsL x c up (ls ++ [t]) rs (b + sizeT t) (low + t.leaves.length)
    rcases split_block e with ⟨B1, e1, rfl⟩ | ⟨A2, rfl, e2⟩
    · cases A with
      | nil =>
        rw [e0] at e1 hub
        injection e1 with e1 e3
        subst e1 e3
        refine ⟨fun _ => ⟨by simp [flt, h02, lsOf], ?_⟩, fun hn => absurd h03 hn⟩
        rw [flt_append, flt_blocks x c up rs _ _ _ (by omega), flt_none fun r hr => ?_, h02]
        · rfl
        · have := (hub r hr).1
          omega
      | cons a A =>
        have hi := sibs t (⟨x, ls, rs⟩ :: c) up b low h (a :: A) r B1 e1 (by simp)
        rw [e1] at hub
        have hr := hub r (by simp)
        refine ⟨fun hn => by omega, fun _ => ⟨hi.1, ?_⟩⟩
        rw [flt_append, hi.2, flt_none fun q hq => ?_, List.append_nil]
        have := hur q hq
        omega
    · obtain ⟨i1, i2⟩ := sibsL x c up (ls ++ [t]) rs (b + sizeT t) (low + t.leaves.length) (by omega) A2 r B e2
      have hr := hur r (by rw [e2]; simp)
      refine ⟨fun hn => ?_, fun hn => ?_⟩
      · obtain ⟨j1, j2⟩ := i1 hn
        refine ⟨?_, j2⟩
        rw [flt_append, flt_block h, ← List.append_assoc]; exact j1
      · obtain ⟨j1, j2⟩ := i2 hn
        refine ⟨?_, j2⟩
        rw [flt_append, j1, flt_none fun q hq => ?_, List.nil_append]
        rw [e0] at hq hub
        rcases List.mem_cons.mp hq with rfl | hq
        · omega
        · have := hub q hq
          omega
end
/-- who stands above a row -/
noncomputable def Above (r p : Row) : Prop := ∃ u, r.c = u :: p.c ∧ p.t = .node u.x (u.ls ++ r.t :: u.rs)
mutual
theorem pars : ∀ (t : Tr) (c : Ctx) (up : Int) (b low : Nat), ∀ A r B, rowsOf t c up b low = A ++ r :: B → A ≠ [] → ∃ j p, r.up = ((b + j : Nat) : Int) ∧ A[j]? = some p ∧ Above r p
  | .leaf x, c, up, b, low, A, r, B, e, hA => by
    rw [rowsOf] at e
    cases A with
    | nil => exact absurd rfl hA
    | cons a A => simp at e
  | .node x ts, c, up, b, low, A, r, B, e, hA => by
    rw [rowsOf] at e
    cases A with
    | nil => exact absurd rfl hA
    | cons a A =>
      injection e with e1 e2
      rcases parsL x c b [] ts (b + 1) low A r B e2 with ⟨h1, u, h2, h3⟩ | ⟨j, p, h1, h2, h3⟩
      · refine ⟨0, a, by simpa using h1, rfl, u, ?_, ?_⟩
        · rw [h2, ← e1]
        · rw [← e1, ← h3]; rfl
      · refine ⟨j + 1, p, by omega, by simpa using h2, h3⟩
theorem parsL : ∀ (x : ND) (c : Ctx) (up : Int) (ls ts : List Tr) (b low : Nat), ∀ A r B, rowsL x c up ls ts b low = A ++ r :: B →
    (r.up = up ∧ ∃ u, r.c = u :: c ∧ Tr.node x (ls ++ ts) = .node u.x (u.ls ++ r.t :: u.rs)) ∨ (∃ j p, r.up = ((b + j : Nat) : Int) ∧ A[j]? = some p ∧ Above r p)
  | x, c, up, ls, [], b, low, A, r, B, e => by simp [rowsL] at e
  | x, c, up, ls, t :: rs, b, low, A, r, B, e => by
    rw [rowsL] at e
    obtain ⟨r0, R, e0, h01, h02, h03, _⟩ := rows_head t (⟨x, ls, rs⟩ :: c) up b low
    have hlen := rows_len t (⟨x, ls, rs⟩ :: c) up b low
    rcases split_block e with ⟨B1, e1, rfl⟩ | ⟨A2, rfl, e2⟩
    · cases A with
      | nil =>
        rw [e0] at e1
        injection e1 with e1 e3
        subst e1 e3
        exact .inl ⟨h03, _, h02, by rw [h01]⟩
      | cons a A => exact .inr (pars t (⟨x, ls, rs⟩ :: c) up b low (a :: A) r B1 e1 (by simp))
    · rcases parsL x c up (ls ++ [t]) rs (b + sizeT t) (low + t.leaves.length) A2 r B e2 with ⟨h1, u, h2, h3⟩ | ⟨j, p, h1, h2, h3⟩
      · exact .inl ⟨h1, u, h2, by rw [← h3]; simp⟩
      · refine .inr ⟨sizeT t + j, p, by omega, ?_, h3⟩
        rw [List.getElem?_append_right (by omega), hlen]
        simpa using h2
end
/-- the table of a root -/
noncomputable abbrev table (root : Tr) : List Row := rowsOf root [] (-1) 0 0
theorem table_sibs {root : Tr} {A B : List Row} {r : Row} (e : table root = A ++ r :: B) : flt r.up A = lsOf r.c ∧ flt r.up B = rsOf r.c := by
  cases A with
  | nil =>
    have h2 := ups root [] (-1) 0 0
    obtain ⟨r0, R, e0, h1, h02, h3, _⟩ := rows_head root [] (-1) 0 0
    rw [show table root = rowsOf root [] (-1) 0 0 from rfl, e0] at e
    rw [e0] at h2
    injection e with e1 e3
    subst e1 e3
    refine ⟨by simp [flt, h02, lsOf], ?_⟩
    rw [flt_none fun q hq => ?_, h02]
    · rfl
    · have := (h2 q hq).1
      omega
  | cons a A => exact sibs root [] (-1) 0 0 (by decide) _ _ _ e (by simp)
/-- what a number says of a place's parents -/
noncomputable def UpAt (R : List Row) (j : Int) : Ctx → Prop
  | [] => j = -1
  | u :: c => ∃ (k : Nat) (p : Row), j = k ∧ R[k]? = some p ∧ p.c = c ∧ ∃ ts, p.t = .node u.x ts
theorem table_up {root : Tr} {k : Nat} {r : Row} (h : (table root)[k]? = some r) : UpAt (table root) r.up r.c := by
  have hk : k < (table root).length := by
    rcases Nat.lt_or_ge k (table root).length with q | q
    · exact q
    · rw [List.getElem?_eq_none q] at h; cases h
  have hr : (table root)[k] = r := by rw [List.getElem?_eq_getElem hk] at h; injection h
  have e : table root = (table root).take k ++ r :: (table root).drop (k + 1) := by
    rw [← hr, ← List.drop_eq_getElem_cons hk, List.take_append_drop]
  cases k with
  | zero =>
    obtain ⟨r0, R, e0, h1, h02, h3, _⟩ := rows_head root [] (-1) 0 0
    have : r = r0 := by
      rw [show table root = rowsOf root [] (-1) 0 0 from rfl, e0] at h
      injection h with h; exact h.symm
    subst this
    rw [h02]
    exact h3
  | succ k =>
    obtain ⟨j, p, h1, h2, u, h3, h4⟩ := pars root [] (-1) 0 0 _ _ _ e (by
      intro q
      have := congrArg List.length q
      rw [List.length_take, Nat.min_eq_left (by omega)] at this
      cases this)
    rw [h3]
    refine ⟨j, p, by simpa using h1, ?_, rfl, _, h4⟩
    have hjl : j < ((table root).take (k + 1)).length := by
      rcases Nat.lt_or_ge j ((table root).take (k + 1)).length with q | q
      · exact q
      · rw [List.getElem?_eq_none q] at h2; cases h2
    rw [List.length_take] at hjl
    rw [List.getElem?_take_of_lt (by omega)] at h2
    exact h2

theorem first_head : ∀ n t, ht t ≤ n → full t → t.leaves.head? = some (firstOf t) := by
  intro n
  induction n with
  | zero =>
    intro t hn hf
    cases t with
    | leaf x => simp [Tr.leaves, firstOf]
    | node x ts => rw [ht] at hn; omega
  | succ n ih =>
    intro t hn hf
    cases t with
    | leaf x => simp [Tr.leaves, firstOf]
    | node x ts =>
      rw [ht] at hn
      unfold full at hf
      cases ts with
      | nil => exact absurd rfl hf.1
      | cons t ts =>
        have h1 := ih t (by have := ht_kid (t := t) (ts := t :: ts) (by simp); omega) (full_kid hf.2 (by simp))
        rw [Tr.leaves, leavesL, firstOf, firstL, List.head?_append, h1]; rfl
theorem leavesL_last {ts : List Tr} (h : ts ≠ []) {y : LD} (hy : (ts.getLast h).leaves.getLast? = some y) : (leavesL ts).getLast? = some y := by
  have e : ts = ts.dropLast ++ [ts.getLast h] := (List.dropLast_concat_getLast h).symm
  rw [e, leavesL_append]
  simp only [leavesL, List.append_nil]
  rw [List.getLast?_append, hy]; rfl
theorem last_last : ∀ n t, ht t ≤ n → full t → t.leaves.getLast? = some (lastOf t) := by
  intro n
  induction n with
  | zero =>
    intro t hn hf
    cases t with
    | leaf x => simp [Tr.leaves, lastOf]
    | node x ts => rw [ht] at hn; omega
  | succ n ih =>
    intro t hn hf
    cases t with
    | leaf x => simp [Tr.leaves, lastOf]
    | node x ts =>
      rw [ht] at hn
      unfold full at hf
      have hm := List.getLast_mem hf.1
      have h1 := ih _ (by have := ht_kid hm; omega) (full_kid hf.2 hm)
      rw [Tr.leaves, lastOf, lastL_is hf.1]
      exact leavesL_last hf.1 h1
theorem head_of {t : Tr} (h : full t) : t.leaves.head? = some (firstOf t) := first_head _ t (Nat.le_refl _) h
theorem last_of {t : Tr} (h : full t) : t.leaves.getLast? = some (lastOf t) := last_last _ t (Nat.le_refl _) h
theorem leaves_pos {t : Tr} (h : full t) : 0 < t.leaves.length := by
  have := head_of h
  cases e : t.leaves with
  | nil => rw [e] at this; cases this
  | cons a r => simp
theorem prevLeaf_bef : ∀ (c : Ctx), (∀ v ∈ c, Good1 v) → prevLeafOf c = (befL c).getLast?
  | [], _ => rfl
  | u :: c, h => by
    rw [prevLeafOf, befL]
    cases e : u.ls.getLast? with
    | none =>
      have : u.ls = [] := by simpa using e
      rw [this]
      simp only [leavesL, List.append_nil]
      exact prevLeaf_bef c fun v hv => h v (List.mem_cons_of_mem _ hv)
    | some b =>
      have hne : u.ls ≠ [] := by rintro q; rw [q] at e; cases e
      have hb : u.ls.getLast hne = b := by rw [List.getLast?_eq_some_getLast hne] at e; injection e
      have := leavesL_last hne (y := lastOf b) (by rw [hb]; exact last_of ((h u (by simp)).2 b (.inl (List.mem_of_getLast? e))))
      rw [List.getLast?_append, this]; rfl
theorem next_aft : ∀ (c : Ctx), (∀ v ∈ c, Good1 v) → nextOf c = match (aftL c).head? with | none => .none | some p => .ref p.a
  | [], _ => rfl
  | u :: c, h => by
    rw [nextOf, aftL]
    cases e : u.rs with
    | nil =>
      simp only [leavesL, List.nil_append]
      exact next_aft c fun v hv => h v (List.mem_cons_of_mem _ hv)
    | cons b r =>
      have := head_of ((h u (by simp)).2 b (.inr (by simp [e])))
      simp only [leavesL, List.append_assoc]
      rw [List.head?_append, this]; rfl
mutual
theorem fits_leaf {plain : Bool} : ∀ t, fits plain t → ∀ y ∈ t.leaves, y.c.isPlain = plain ∧ (y.c.flat = true → linesOf y.val = [y.val])
  | .leaf x, h, y, hy => by
    unfold fits at h
    simp [Tr.leaves] at hy
    subst hy; exact h
  | .node x ts, h, y, hy => by
    unfold fits at h
    unfold Tr.leaves at hy
    exact fits_leafL ts h.2.2 y hy
theorem fits_leafL {plain : Bool} : ∀ ts, fitsL plain ts → ∀ y ∈ leavesL ts, y.c.isPlain = plain ∧ (y.c.flat = true → linesOf y.val = [y.val])
  | [], _, y, hy => by simp [leavesL] at hy
  | t :: ts, h, y, hy => by
    unfold fitsL at h
    unfold leavesL at hy
    rcases List.mem_append.mp hy with hy | hy
    · exact fits_leaf t h.1 y hy
    · exact fits_leafL ts h.2 y hy
end
theorem fits_kid {plain : Bool} {t : Tr} {ts : List Tr} (hf : fitsL plain ts) (h : t ∈ ts) : fits plain t := by
  induction ts with
  | nil => cases h
  | cons a r ih =>
    unfold fitsL at hf
    rcases List.mem_cons.mp h with rfl | h
    · exact hf.1
    · exact ih hf.2 h
mutual
theorem slim_thin : ∀ t, slim t → thin t
  | .leaf x, _ => by unfold thin; trivial
  | .node x ts, h => by
    unfold slim at h
    unfold thin
    exact ⟨by omega, slim_thinL ts h.2⟩
theorem slim_thinL : ∀ ts, slimL ts → thinL ts
  | [], _ => by unfold thinL; trivial
  | t :: ts, h => by
    unfold slimL at h
    unfold thinL
    exact ⟨slim_thin t h.1, slim_thinL ts h.2⟩
end
/-- what is so of every part of the tree -/
structure GoodT (plain : Bool) (t : Tr) : Prop where
  full : full t
  slim : slim t
  texts : texts t
  fits : fits plain t
theorem GoodT.kid {plain : Bool} {x : ND} {ts : List Tr} {t : Tr} (g : GoodT plain (.node x ts)) (h : t ∈ ts) : GoodT plain t := by
  obtain ⟨a, b, c, d⟩ := g
  unfold Mine.full at a
  unfold Mine.slim at b
  unfold Mine.texts at c
  unfold Mine.fits at d
  exact ⟨full_kid a.2 h, slim_kid b.2 h, texts_kid c h, fits_kid d.2.2 h⟩
theorem good_ctx {plain : Bool} : ∀ (c : Ctx) (t : Tr), GoodT plain (plug t c) → GoodT plain t ∧ ∀ v ∈ c, Good2 (!plain) v
  | [], t, h => ⟨h, by simp⟩
  | u :: c, t, h => by
    rw [plug] at h
    obtain ⟨h1, h2⟩ := good_ctx c _ h
    refine ⟨h1.kid (by simp), fun v hv => ?_⟩
    rcases List.mem_cons.mp hv with rfl | hv
    · have hs := h1.slim
      unfold Mine.slim at hs
      have hl := hs.1
      simp at hl
      refine ⟨⟨by omega, fun b hb => (h1.kid (t := b) (by rcases hb with hb | hb <;> simp [hb])).full⟩, fun b hb => ?_⟩
      have hg := h1.kid (t := b) (by simp [hb])
      exact ⟨hg.texts, fun y hy => by simpa using (fits_leaf b hg.fits y hy).1⟩
    · exact h2 v hv
theorem ctx_ht : ∀ (c : Ctx) (t : Tr), ht t ≤ ht (plug t c)
  | [], t => Nat.le_refl _
  | u :: c, t => by
    rw [plug]
    refine Nat.le_trans ?_ (ctx_ht c _)
    rw [ht]
    exact Nat.le_trans (ht_kid (by simp)) (Nat.le_succ _)
theorem ctx_leaves_le (c : Ctx) (t : Tr) : t.leaves.length ≤ (plug t c).leaves.length := by
  rw [plug_leaves]; simp; omega
/-- all the ends, with the place where the text begins -/
noncomputable def allEnds (L : List LD) : List (Int × Int) := (1, 0) :: endsOf L
theorem chain_at {L : List LD} : ∀ {p : Int × Int}, Chain p L → ∀ (i : Nat) x, L[i]? = some x → ∃ q, (p :: endsOf L)[i]? = some q ∧ (x.line, x.col) = pastP q x.pre := by
  induction L with
  | nil => intro p _ i x h; simp at h
  | cons y r ih =>
    intro p hc i x h
    unfold Chain at hc
    cases i with
    | zero =>
      simp at h
      subst h
      exact ⟨p, rfl, hc.1⟩
    | succ i =>
      obtain ⟨q, h1, h2⟩ := ih hc.2 i x (by simpa using h)
      exact ⟨q, by simpa [endsOf] using h1, h2⟩
theorem flat_end {x : LD} (h : x.c.flat = true → linesOf x.val = [x.val]) : (eLine x, eCol x) = pastP (x.line, x.col) x.val := by
  unfold eLine eCol pastP
  split
  · rename_i q
    have e := h q
    simp [pastLine, pastCol, brk, tailLen, e]
  · rfl
section
variable {plain : Bool} {root t : Tr} {c : Ctx}
theorem at_first (h : full t) (hp : plug t c = root) : root.leaves[(befL c).length]? = some (firstOf t) := by
  rw [← hp, plug_leaves, List.append_assoc, List.getElem?_append_right (Nat.le_refl _), Nat.sub_self, ← List.head?_eq_getElem?, List.head?_append, head_of h]; rfl
theorem at_last (h : full t) (hp : plug t c = root) : root.leaves[(befL c).length + t.leaves.length - 1]? = some (lastOf t) := by
  have := leaves_pos h
  rw [← hp, plug_leaves, List.getElem?_append_left (by simp; omega), List.getElem?_append_right (by omega)]
  have e : (befL c).length + t.leaves.length - 1 - (befL c).length = t.leaves.length - 1 := by omega
  rw [e, ← List.getLast?_eq_getElem?, last_of h]
theorem at_prev (hp : plug t c = root) (h0 : 0 < (befL c).length) : root.leaves[(befL c).length - 1]? = (befL c).getLast? := by
  rw [← hp, plug_leaves, List.append_assoc, List.getElem?_append_left (by omega), List.getLast?_eq_getElem?]
theorem at_next (hp : plug t c = root) : root.leaves[(befL c).length + t.leaves.length]? = (aftL c).head? := by
  rw [← hp, plug_leaves, List.getElem?_append_right (by simp)]
  simp [List.head?_eq_getElem?]
theorem at_slice (hp : plug t c = root) : (root.leaves.drop (befL c).length).take t.leaves.length = t.leaves := by
  rw [← hp, plug_leaves]; simp
theorem ends_at {L : List LD} {i : Nat} {x : LD} (h : L[i]? = some x) : (allEnds L)[i + 1]? = some (pastP (x.line, x.col) x.val) := by
  simp [allEnds, endsOf, h]
theorem starts_at {L : List LD} {i : Nat} {x : LD} (h : L[i]? = some x) : (startsOf L)[i]? = some (x.line, x.col) := by
  simp [startsOf, h]
theorem end_at (g : GoodT plain t) (hp : plug t c = root) : (allEnds root.leaves)[(befL c).length + t.leaves.length]? = some (eLine (lastOf t), eCol (lastOf t)) := by
  have h1 := at_last g.full hp
  have := leaves_pos g.full
  have hm : lastOf t ∈ t.leaves := List.mem_of_getLast? (last_of g.full)
  rw [flat_end (fits_leaf t g.fits _ hm).2, ← ends_at h1]
  congr 1
  omega
theorem pref_at (g : GoodT plain t) (hw : ∀ v ∈ c, Good2 (!plain) v) (hc : Chain (1, 0) root.leaves) (hf : ∀ y ∈ root.leaves, y.c.flat = true → linesOf y.val = [y.val]) (hp : plug t c = root) : (allEnds root.leaves)[(befL c).length]? = some (startPref (firstOf t) (prevLeafOf c)) := by
  obtain ⟨q, h1, h2⟩ := chain_at hc _ _ (at_first g.full hp)
  rw [show allEnds root.leaves = (1, 0) :: endsOf root.leaves from rfl, h1, prevLeaf_bef c fun v hv => (hw v hv).1]
  rcases Nat.eq_zero_or_pos (befL c).length with h0 | h0
  · have hb : befL c = [] := List.length_eq_zero_iff.mp h0
    rw [hb] at h1 ⊢
    simp only [List.length_nil, List.getElem?_cons_zero] at h1
    injection h1 with h1
    subst h1
    unfold pastP pastLine at h2
    injection h2 with h2 _
    simp only [List.getLast?_nil, startPref]
    congr 2
    unfold brk at h2
    dsimp only at h2
    omega
  · have h3 := at_prev hp h0
    cases e : (befL c).getLast? with
    | none =>
      have : befL c = [] := by simpa using e
      rw [this] at h0; simp at h0
    | some p =>
      rw [e] at h3
      have h4 := ends_at h3
      have e2 : (befL c).length - 1 + 1 = (befL c).length := by omega
      rw [e2, show allEnds root.leaves = (1, 0) :: endsOf root.leaves from rfl, h1] at h4
      injection h4 with h4
      rw [h4]
      simp only [startPref]
      rw [flat_end (hf p (List.mem_of_getElem? h3))]
end

theorem stop_tree {P : Prop} (h : Stop P) : P := h.out
/-- one statement, then what it leaves -/
theorem execs_mid {M : Model} {A : Around} {env : Env} {st : Stmt} {rest : List Stmt} {Q : Flow → Shared → Prop} {E : Value → Shared → Prop} {s : Shared} (P : Shared → Prop)
    (h1 : wpAny M A (exec st env) (fun f s' => match f with | .next => Stop (P s') | _ => False) E s) (h2 : ∀ s', P s' → wpAny M A (execs rest env) Q E s') : wpAny M A (execs (st :: rest) env) Q E s :=
  wpAny_execs_cons (wpAny_mono h1 (fun f s' x => by
    cases f with
    | next => exact h2 s' x.out
    | cont => exact x.elim
    | brk => exact x.elim
    | ret v => exact x.elim) fun _ _ e => e)
/-- the same where the statement may give back -/
theorem execs_midR {M : Model} {A : Around} {env : Env} {st : Stmt} {rest : List Stmt} {Q : Flow → Shared → Prop} {E : Value → Shared → Prop} {s : Shared} (P : Shared → Prop)
    (h1 : wpAny M A (exec st env) (fun f s' => match f with | .next => Stop (P s') | f => Stop (Q f s')) E s) (h2 : ∀ s', P s' → wpAny M A (execs rest env) Q E s') : wpAny M A (execs (st :: rest) env) Q E s :=
  wpAny_execs_cons (wpAny_mono h1 (fun f s' x => by
    cases f with
    | next => exact h2 s' x.out
    | cont => exact x.out
    | brk => exact x.out
    | ret v => exact x.out) fun _ _ e => e)

theorem Stop.imp {p q : Prop} (f : p → q) (h : Stop p) : Stop q := ⟨f h.out⟩
/-- execs_mid with the named state hidden while the statement is walked -/
theorem execs_midO {M : Model} {A : Around} {env : Env} {st : Stmt} {rest : List Stmt} {Q : Flow → Shared → Prop} {E : Value → Shared → Prop} {s : Shared} (P : Shared → Prop)
    (h1 : ∀ P' : Shared → Prop, (∀ s', P s' → P' s') → wpAny M A (exec st env) (fun f s' => match f with | .next => Stop (P' s') | _ => False) E s) (h2 : ∀ s', P s' → wpAny M A (execs rest env) Q E s') : wpAny M A (execs (st :: rest) env) Q E s :=
  execs_mid P (h1 P fun _ h => h) h2
theorem execs_midRO {M : Model} {A : Around} {env : Env} {st : Stmt} {rest : List Stmt} {Q : Flow → Shared → Prop} {E : Value → Shared → Prop} {s : Shared} (P : Shared → Prop)
    (h1 : ∀ P' : Shared → Prop, (∀ s', P s' → P' s') → wpAny M A (exec st env) (fun f s' => match f with | .next => Stop (P' s') | f => Stop (Q f s')) E s) (h2 : ∀ s', P s' → wpAny M A (execs rest env) Q E s') : wpAny M A (execs (st :: rest) env) Q E s :=
  execs_midR P (h1 P fun _ h => h) h2

/-- a for loop that stands before its first turn; what holds between the turns may speak of the heap -/
structure ForH (prog : Program) (w : World) (A : Around) (env : Env) (x : Str) (body : List Stmt) (Q : Flow → Shared → Prop) (I : Addr) (fp : List Addr) (n : Nat) (P : Nat → Value → Prop) (St : Nat → Heap → Prop)
    (J : Nat → (Str → Option Value) → Shared → Prop) (m : Str → Option Value) (s₂ : Shared) : Prop where
  W : Walks prog w A I (I :: fp) [I] n P St
  loc : env.locals ≠ I ∧ env.locals ∉ fp
  st : St 0 s₂.heap
  ns : s₂.heap.Ns env.locals m
  j0 : J 0 m s₂
  hJ : ∀ i m s h tk, s.toks ≤ tk → (∀ b o, b ≠ I → b ≠ env.locals → s.heap.get? b = some o → h.get? b = some o) → J i m s → J i m { s with heap := h, toks := tk }
  step : ∀ i v m₁ s₁, i < n → P i v → J i m₁ s₁ → s₁.heap.Ns env.locals (fun y => if y = x then some v else m₁ y) → St (i + 1) s₁.heap →
    wpAny (model prog w) A (execs body env) (fun f s₃ => match f with
      | .next => Stop (∃ m₂, J (i + 1) m₂ s₃ ∧ s₃.heap.Ns env.locals m₂ ∧ ∀ b ∈ I :: fp, ∀ o, s₁.heap.get? b = some o → s₃.heap.get? b = some o)
      | .cont => Stop (∃ m₂, J (i + 1) m₂ s₃ ∧ s₃.heap.Ns env.locals m₂ ∧ ∀ b ∈ I :: fp, ∀ o, s₁.heap.get? b = some o → s₃.heap.get? b = some o)
      | .brk => Q .next s₃
      | .ret v => Q (.ret v) s₃) (fun _ _ => False) s₁
  done : ∀ m₁ s₁, J n m₁ s₁ → s₁.heap.Ns env.locals m₁ → Q .next s₁
theorem for_h {prog : Program} {w : World} {A : Around} {s : Shared} {env : Env} {x : Str} {px pos : Pos} {iter : Expr} {body : List Stmt} {Q : Flow → Shared → Prop} (hx : env.kindOf x = some .local)
    (hp : (env.scope.kind == .class || (env.scope.kind == .module && env.locals != env.globals)) = false)
    (h : wpAny (model prog w) A (eval iter env) (fun xv s₁ => Stop (s.toks ≤ s₁.toks → wpAny (model prog w) A (pyIter xv) (fun it s₂ => ∃ I fp n P St J m, it = .ref I ∧ ForH prog w A env x body Q I fp n P St J m s₂) (fun _ _ => False) s₁)) (fun _ _ => False) s)
    (hs : ∀ x, foldedSetIterable iter env x = pure x) :
    wpAny (model prog w) A (exec (.For (.Name x px) iter body [] pos) env) Q (fun _ _ => False) s := by
  refine wpAny_For (wpAny_with_toks (Nat.le_refl s.toks) (wpAny_mono h (fun xv s₁ h₁ htk => wpAny_mono (h₁.out htk) (fun it s₂ h₂ => ?_) fun _ _ e => e.elim) fun _ _ e => e.elim)) hs
  obtain ⟨I, fp, n, P, St, J, m, rfl, c⟩ := h₂
  refine codeAny_forLoop (fun k s' => ∃ i m', i ≤ n ∧ k = n + 1 - i ∧ St i s'.heap ∧ s'.heap.Ns env.locals m' ∧ J i m' s') ?_ (n + 1) ⟨0, m, Nat.zero_le _, rfl, c.st, c.ns, c.j0⟩
  rintro k s' ⟨i, m', hi, rfl, hst, hns, hj⟩
  by_cases hlt : i < n
  · refine wpAny_with_toks (Nat.le_refl s'.toks) ?_
    refine c.W.item i _ _ _ hlt hst fun v h₁ tk₁ hP hst₁ hk₁ htk => ?_
    have kk : ∀ b o, b ≠ I → s'.heap.get? b = some o → h₁.get? b = some o := fun b o hb e => hk₁ b o (by simpa using hb) e
    have j₁ := c.hJ i m' s' h₁ tk₁ htk (fun b o h1 _ e => kk b o h1 e) hj
    refine wpAny_assign_Name (wpAny_storeName_local hx (hns.at' fun o e => kk _ o c.loc.1 e) (fun h₂ hn₂ hs₂ => ?_) hp)
    have j₂ := c.hJ i m' _ h₂ (tk₁ + 1) (Nat.le_succ _) (fun b o _ h2 e => hs₂.extBut b o h2 e) j₁
    have st₂ : St (i + 1) h₂ := c.W.frame _ _ _ hst₁ fun b hb o e => by
      refine hs₂.extBut b o (fun q => ?_) e
      rcases List.mem_cons.mp hb with rfl | hb
      · exact c.loc.1 q.symm
      · exact c.loc.2 (q ▸ hb)
    refine wpAny_mono (c.step i v m' _ hlt hP j₂ hn₂ st₂) (fun f s₃ h₃ => ?_) fun _ _ e => e.elim
    have again : (∃ m₂, J (i + 1) m₂ s₃ ∧ s₃.heap.Ns env.locals m₂ ∧ ∀ b ∈ I :: fp, ∀ o, h₂.get? b = some o → s₃.heap.get? b = some o) → ∃ k', k' < n + 1 - i ∧ ∃ i' m', i' ≤ n ∧ k' = n + 1 - i' ∧ St i' s₃.heap ∧ s₃.heap.Ns env.locals m' ∧ J i' m' s₃ := by
      rintro ⟨m₂, hj₂, hn₃, hk₃⟩
      exact ⟨n + 1 - (i + 1), by omega, i + 1, m₂, hlt, rfl, c.W.frame _ _ _ st₂ hk₃, hn₃, hj₂⟩
    cases f with
    | ret v => exact h₃
    | brk => exact h₃
    | cont => exact again h₃.out
    | next => exact again h₃.out
  · have hin : i = n := Nat.le_antisymm hi (Nat.not_lt.mp hlt)
    subst hin
    refine wpAny_with_toks (Nat.le_refl s'.toks) ?_
    refine c.W.done _ _ _ hst fun h₁ tk₁ hk₁ htk => wpAny_execs_nil ?_
    have kk : ∀ b o, b ≠ I → s'.heap.get? b = some o → h₁.get? b = some o := fun b o hb e => hk₁ b o (by simpa using hb) e
    exact c.done m' _ (c.hJ _ _ _ _ _ htk (fun b o h1 _ e => kk b o h1 e) hj) (hns.at' fun o e => kk _ o c.loc.1 e)
theorem my_newList {M : Model} {A : Around} {E : Value → Shared → Prop} {s : Shared} {h₀ : Heap} {L : Addr} {m : Str → Option Value} {news : List (Addr × Obj)} {vs : List Value} {Q : Value → Shared → Prop} (F : Fr h₀ L s.heap m) (N : News h₀ L s.heap news)
    (h : ∀ l h', Fr h₀ L h' m → News h₀ L h' ((l, W.listOf vs.toArray 0) :: news) → (∀ p ∈ news, p.1 < l) → @LT.lt Nat _ L l → Q (.ref l) { s with heap := h' }) (hsz : vs.length ≤ sizeLine := by size_fits) : wpAny M A (newList vs) Q E s :=
  newList_N F N (fun h' F' N' => h _ h' F' N' (fun p hp => Heap.lt_size (N p hp).1) F.ns.lt) hsz
theorem range_it {prog : Program} {w : World} {A : Around} {E : Value → Shared → Prop} {s : Shared} {r : Addr} {a b : Int} {t u v : Tok} {Q : Value → Shared → Prop} (hr : IsRange s.heap r a b 1 t u v) (ha : 0 ≤ a) (hab : a ≤ b) (hb : b < 1000000)
    (hQ : ∀ (h₂ : Heap) (I : Addr), s.heap.objs.size = I → (∀ b o, s.heap.get? b = some o → h₂.get? b = some o) → h₂.objs.size = I + 1 → IsRangeIter h₂ I (a + ((0 : Nat) : Int) * 1) (((b - a).toNat : Int) - ((0 : Nat) : Int)) 1 → Q (.ref I) { s with heap := h₂ }) :
    wpAny (model prog w) A (pyIter (.ref r)) Q E s := by
  refine wpAny_pyIter_range hr (small_one (by omega) (by omega) (by omega) (by omega)) (hQ _ _ rfl (fun b o e => Heap.get?_push_of_some _ e) (Heap.size_push ..) ?_)
  have e1 : a + ((0 : Nat) : Int) * 1 = a := by omega
  have e2 : (((b - a).toNat : Int) - ((0 : Nat) : Int)) = Builtin.Range.rangeSize a b 1 := by
    rw [rangeSize_one]
    split <;> omega
  rw [e1, e2]
  exact Heap.get?_push_size _ rfl
theorem list_it {prog : Program} {w : World} {A : Around} {E : Value → Shared → Prop} {s : Shared} {l : Addr} {vs : List Value} {Q : Value → Shared → Prop} (IL : s.heap.IsList l vs.toArray)
    (hQ : ∀ (h₂ : Heap) (I : Addr), s.heap.objs.size = I → (∀ b o, s.heap.get? b = some o → h₂.get? b = some o) → h₂.objs.size = I + 1 → h₂.IsListIter I l 0 ∧ h₂.IsList l vs.toArray → Q (.ref I) { s with heap := h₂ }) :
    wpAny (model prog w) A (pyIter (.ref l)) Q E s :=
  wpAny_pyIter_list IL (hQ _ _ rfl (fun b o e => Heap.get?_push_of_some _ e) (Heap.size_push ..) ⟨⟨_, Heap.get?_push_size _ rfl, rfl, rfl⟩, IL.push _⟩)

noncomputable abbrev lobj (vs : List Value) (n : Nat) : Obj := { cls := .type "list", data := .seq vs.toArray n }
theorem kl_last_snoc (p : List Value) (y : Value) : kl_last (p ++ [y]) = some (p, y) := by
  induction p with
  | nil => rfl
  | cons a r ih =>
    rw [List.cons_append]
    simp [kl_last, ih]
section
variable {prog : Program} {w : World} {A : Around} {E : Value → Shared → Prop} {s : Shared} {g : Heap} {L D : Addr} {m : Str → Option Value} {news news' : List (Addr × Obj)}
theorem my_truthy {vs : List Value} {n : Nat} {Q : Bool → Shared → Prop} (N : News g L s.heap news) (hm : (D, lobj vs n) ∈ news) (hlen : vs.length ≤ 1000000) (h : Q (!vs.isEmpty) { s with toks := s.toks + 1 + 1 }) : wpAny (model prog w) A (truthy (.ref D)) Q E s :=
  wpAny_truthy_list (news_list N hm) (by simp; omega) (by simpa using h)
theorem my_pop {p : List Value} {y : Value} {n : Nat} {Q : Value → Shared → Prop} (F : Fr g L s.heap m) (N : News g L s.heap news) (U : Upd D (lobj (p ++ [y]) n) (lobj p (n + 1)) news news') (hlen : p.length ≤ 100000)
    (h : ∀ h', Fr g L h' m → News g L h' news' → Q y { s with heap := h' }) : wpAny (model prog w) A (call (.builtin "list.pop") [.ref D]) Q E s :=
  kl_pop (its := (p ++ [y]).toArray) (n := n) F N (kl_last_snoc p y) U (by
    have : 200000 ≤ sizeLine := by decide
    simp; omega) h
end
section
variable {prog : Program} {w : World} {A : Around} {E : Value → Shared → Prop} {s : Shared} {g : Heap} {L D : Addr} {m : Str → Option Value} {news news' : List (Addr × Obj)}
theorem tab_walk {f : Value} {l : List Str} {Q : Value → Shared → Prop} (C : PureRes prog w A s (.call f ⟨[], []⟩) fun v h' => NewTexts l v h' s.heap) (F : Fr g L s.heap m) (N : News g L s.heap news)
    (h : ∀ D its h' tk', @LE.le Nat _ s.toks tk' → its.map (·.1) = l → h'.PlainList D (strValues its).toArray → Fr g L h' m → News g L h' news → Q (.ref D) { s with heap := h', toks := tk' }) : wpAny (model prog w) A (call f [] []) Q E s := by
  refine wpAny_with_toks (Nat.le_refl s.toks) (PureRes.walk C F N fun v h' tk' F' N' k p hk => ?_)
  obtain ⟨D, its, rfl, _, hp, hm⟩ := p
  exact h D its h' tk' hk hm hp F' N'
theorem t_idx {its : List (Str × Tok)} {l : List Str} {i : Int} {u : Tok} {value slice : Expr} {Q : Value → Shared → Prop} (hl : s.heap.PlainList D (strValues its).toArray) (hm : its.map (·.1) = l) (h0 : 0 ≤ i) (hi : i < l.length) (hlen : l.length ≤ 1000) (h : ∀ tx tk, tx ∈ l → Q (.str tx tk) s)
    (hs : subscripted slice false (.ref D) (.int i u) = operate [.ref D, .int i u] (getItem (.ref D) (.int i u)) := by with_unfolding_all rfl) :
    wpAny (model prog w) A (subscriptTail value slice (.ref D) (.int i u)) Q E s := by
  have hlen2 : its.length = l.length := by rw [← hm]; simp
  have hlt : i.toNat < its.length := by omega
  have hx : (strValues its).toArray[i.toNat]? = some (.str its[i.toNat].1 its[i.toNat].2) := by simp [strValues, hlt]
  refine tail_any hl.isList.typeIs slot_list_getitem.lookup (wpAny_getItem_list hl.isList h0 (by omega) hx (h _ _ ?_)) hs
  rw [← hm]
  exact List.mem_map_of_mem (List.getElem_mem hlt)
end
theorem lines_G5_1 : True := by
  k_with_none
  k_with "call ref" => (((k_dflt (refine' tab_walk ?C_451 ?F_451 ?N_451 ?_; (case F_451 => k_asm); (case N_451 => k_asm); (case C_451 => first | exact law_values (Rm.deeper (by assumption) (by omega)) (st_of (by assumption) (by assumption)) | exact law_prefixes (Rm.deeper (by assumption) (by omega)) (st_of (by assumption) (by assumption)) | exact law_kinds (Rm.deeper (by assumption) (by omega)) (st_of (by assumption) (by assumption))); k_whole; intro _ _ _ _ _ _ _ _ _))))
  k_with "subscriptTail" => (((with_reducible show wpAny _ _ (subscriptTail _ _ (Value.ref _) (Value.int (Int.fmod _ _) _)) _ _ _); (k_dflt (refine' t_idx ?H_58 ?M_58 ?a_58 ?b_58 ?c_58 ?_; (case H_58 => assumption); (case M_58 => assumption); (case a_58 => exact Int.fmod_nonneg_of_pos _ (by decide)); (case b_58 => exact Int.fmod_lt_of_pos _ (by decide)); (case c_58 => decide +kernel); k_whole; intro _ _ _))))
  k_with "unpackItems ref" => ((k_dflt (refine' unpackItemsN_ ?k1_4d ?k2_4d ?k3_4d ?k4_4d ?k5_4d ?_; (case k1_4d => k_asm); (case k2_4d => k_asm); (case k3_4d => kun_tup); (case k4_4d => exact hh_deeper (by assumption)); (case k5_4d => exact rfl); k_whole); intro _ _ _; (try k_sweep)))
  trivial
theorem my_ends {prog : Program} {w : World} {A : Around} {E : Value → Shared → Prop} {s : Shared} {g : Heap} {L l : Addr} {news : List (Addr × Obj)} {value slice : Expr} {u : Tok} {its : List Value} {v : Value} {n : Nat} {Q : Value → Shared → Prop} (N : News g L s.heap news) (hm : (l, lobj (its ++ [v]) n) ∈ news) (h : Q v s)
    (hs : subscripted slice false (.ref l) (.int (-1) u) = operate [.ref l, .int (-1) u] (getItem (.ref l) (.int (-1) u)) := by with_unfolding_all rfl) :
    wpAny (model prog w) A (subscriptTail value slice (.ref l) (.int (-1) u)) Q E s := my_last N hm (by simp) h hs
theorem past_walk {prog : Program} {w : World} {A : Around} {E : Value → Shared → Prop} {s : Shared} {g : Heap} {L pl : Addr} {m : Str → Option Value} {news : List (Addr × Obj)} {a b : Int} {ta tb t : Tok} {tx : Str} {Q : Value → Shared → Prop} (hr : Rm A 2) (S : St w g) (h0 : @LT.lt Nat _ 0 s.toks) (ht : tx ∈ Texts) (hp : IsTup s.heap pl #[.int a ta, .int b tb]) (F : Fr g L s.heap m) (N : News g L s.heap news)
    (h : ∀ D t u h' tk', @LT.lt Nat _ 0 tk' → (∀ p ∈ news, @Ne Nat p.1 D) → Fr g L h' m → News g L h' ((D, { cls := .type "tuple", data := .seq #[.int (pastLine a tx) t, .int (pastCol b tx) u] }) :: news) → Q (.ref D) { s with heap := h', toks := tk' }) :
    wpAny (model prog w) A (call (.ref 447) [.ref pl, .str tx t]) Q E s := by
  refine wpAny_with_toks (Nat.le_refl s.toks) (PureRes.walk (past hr (st_of F S) h0 ht hp) F N fun v h' tk' F' N' k p hk => ?_)
  obtain ⟨D, t, u, rfl, hn, hg⟩ := p
  have hnD : ∀ q o, s.heap.get? q = some o → q ≠ D := fun q o e z => by rw [z, hn] at e; cases e
  refine h D t u h' tk' (Nat.lt_of_lt_of_le h0 hk) (fun p hp => hnD _ _ (N p hp).1) F' fun p hp => ?_
  rcases List.mem_cons.mp hp with rfl | hp
  · refine ⟨hg, ?_, ?_⟩
    · obtain ⟨o, _, _, e, _⟩ := F.ns
      exact fun z => hnD L o e z.symm
    · cases q : g.get? D with
      | none => rfl
      | some o => exact absurd rfl (hnD D o (F.keep _ _ q))
  · exact N' p hp
theorem lines_G5_2 : True := by
  k_with "call ref" => (((with_reducible show wpAny _ _ (call (Value.ref 447) _ _) _ _ _); (k_dflt (refine' past_walk ?R_c62 ?S_c62 ?Z_c62 ?H_c62 ?P_c62 ?F_c62 ?N_c62 ?_; (case F_c62 => k_asm); (case N_c62 => k_asm); (case S_c62 => assumption); (case R_c62 => exact Rm.deeper (by assumption) (by omega)); (case Z_c62 => first | assumption | exact Nat.succ_pos _); (case H_c62 => first | exact prefixes_texts _ (by assumption) | exact values_texts _ (by assumption)); (case P_c62 => first | exact Fr.tup (by assumption) (by assumption) | exact News.isTup (by assumption) (by k_mem)); k_whole; intro _ _ _ _ _ _ x_hne' _ _; (simp only [List.mem_cons, List.not_mem_nil, or_false, forall_eq_or_imp, forall_eq] at x_hne')))))
  k_with "subscriptTail" => (((with_reducible show wpAny _ _ (subscriptTail _ _ (Value.ref _) (Value.int (-1) _)) _ _ _); (k_dflt (refine' my_ends ?N_e95 ?m_e95 ?_; (case N_e95 => k_asm); (case m_e95 => k_mem); k_whole))))
  k_with "truthy ref" => ((k_dflt (refine' my_truthy ?N_f9d ?m_f9d ?z_f9d ?_; (case N_f9d => k_asm); (case m_f9d => k_mem); (case z_f9d => first | assumption | omega); k_whole)))
  k_with "call builtin:list.pop" => ((k_dflt (refine' my_pop ?F_411 ?N_411 ?U_411 ?z_411 ?_; (case F_411 => k_asm); (case N_411 => k_asm); (case U_411 => k_upd); (case z_411 => first | assumption | omega); k_whole; intro _ _ _)))
  trivial

/-- the three lists that grow on the way -/
structure Gst (h : Heap) (pool starts ends : Addr) (qs qe : List (Int × Int)) : Prop where
  pool : ∃ ps k, h.get? pool = some (lobj ps k) ∧ IntsV ps ∧ ps.length ≤ 7
  starts : ∃ ss k, h.get? starts = some (lobj ss k) ∧ TupsAt h ss qs
  ends : ∃ es k, h.get? ends = some (lobj es k) ∧ TupsAt h es qe
/-- what a call of _law_grow leaves -/
noncomputable def GrowR (R : Result → Shared → Prop) (w : World) (plain : Bool) (n : Nat) (s : Shared) (pool starts ends : Addr) (qs qe : List (Int × Int)) (p0 : Int × Int) : Prop :=
  ∀ h' tk t, (∀ b o, b ∉ [pool, starts, ends] → s.heap.get? b = some o → h'.get? b = some o) → Gst h' pool starts ends (qs ++ startsOf t.leaves) (qe ++ endsOf t.leaves) → Chain p0 t.leaves → GoodT plain t → ht t ≤ n → t.leaves.length ≤ 3 ^ n →
    TreeAt w.params h' t .none → (∀ b ∈ t.foot, s.heap.objs.size ≤ b) → t.foot.Nodup → R (.ok (.ret (.ref t.addr))) { s with heap := h', toks := tk }
noncomputable def GrowS (prog : Program) (w : World) (n : Nat) : Prop :=
  ∀ (A : Around) (s : Shared) (pool starts ends : Addr) (qs qe : List (Int × Int)) (p0 : Int × Int) (deep : Int) (td : Tok) (plain : Bool) (R : Result → Shared → Prop), Rm A (20 + 4 * n) → deep = n → @Ne Nat pool starts → @Ne Nat pool ends → @Ne Nat starts ends → St w (hideAll s.heap [pool, starts, ends]) → 0 < s.toks →
    Gst s.heap pool starts ends qs qe → qe.getLast? = some p0 → qs.length + 3 ^ n ≤ 1000 → qe.length + 3 ^ n ≤ 1000 → GrowR R w plain n s pool starts ends qs qe p0 →
    codeAny (model prog w) A (.call (.ref 454) ⟨[.ref pool, .int deep td, .bool plain, .ref starts, .ref ends], []⟩) R s
theorem TupsAt.mono {h h' : Heap} {vs : List Value} {ps : List (Int × Int)} (T : TupsAt h vs ps) (k : ∀ b o, h.get? b = some o → o.cls = .type "tuple" → (∃ its n, o.data = .seq its n) → h'.get? b = some o) : TupsAt h' vs ps := by
  induction T with
  | nil => exact .nil
  | cons a _ ih => exact .cons (a.keeps fun b o e x => by obtain ⟨its, n, y, x⟩ := x; exact k b o e x ⟨its, n, y⟩) ih
theorem TupsAt.len {h : Heap} {vs : List Value} {ps : List (Int × Int)} (T : TupsAt h vs ps) : vs.length = ps.length := by
  induction T with
  | nil => rfl
  | cons _ _ ih => simp [ih]
theorem TupsAt.get {h : Heap} {vs : List Value} {ps : List (Int × Int)} (T : TupsAt h vs ps) : ∀ {i : Nat} {p}, ps[i]? = some p → ∃ v, vs[i]? = some v ∧ TupAt h v p := by
  induction T with
  | nil => intro i p e; simp at e
  | cons a _ ih =>
    intro i p e
    cases i with
    | zero => simp at e; subst e; exact ⟨_, rfl, a⟩
    | succ i => simpa using ih (by simpa using e)
theorem TupsAt.last {h : Heap} {vs : List Value} {ps : List (Int × Int)} (T : TupsAt h vs ps) {p} (e : ps.getLast? = some p) : ∃ vs0 v, vs = vs0 ++ [v] ∧ TupAt h v p := by
  rw [List.getLast?_eq_getElem?] at e
  obtain ⟨v, h1, h2⟩ := T.get e
  rw [← T.len, ← List.getLast?_eq_getElem?] at h1
  have hne : vs ≠ [] := by rintro rfl; simp at h1
  refine ⟨vs.dropLast, v, ?_, h2⟩
  rw [List.getLast?_eq_some_getLast hne] at h1
  injection h1 with h1
  rw [← h1, List.dropLast_concat_getLast]
/-- a tuple is none of the lists -/
theorem hide_tup {h : Heap} {l : List Addr} {v : Value} {p : Int × Int} (hl : ∀ a ∈ l, ∀ o, h.get? a = some o → o.cls ≠ .type "tuple" ∨ ∀ its n, o.data ≠ .seq its n) (T : TupAt h v p) : TupAt (hideAll h l) v p := by
  obtain ⟨a, t, u, e, o, ho, hc, n, hd⟩ := T
  exact ⟨a, t, u, e, o, hideAll_get _ ho (fun hm => (hl a hm o ho).elim (fun q => q hc) fun q => q _ _ hd), hc, n, hd⟩
theorem hide_tups {h : Heap} {l : List Addr} {vs : List Value} {ps : List (Int × Int)} (hl : ∀ a ∈ l, ∀ o, h.get? a = some o → o.cls ≠ .type "tuple" ∨ ∀ its n, o.data ≠ .seq its n) (T : TupsAt h vs ps) : TupsAt (hideAll h l) vs ps := by
  induction T with
  | nil => exact .nil
  | cons a _ ih => exact .cons (hide_tup hl a) ih
theorem TupsAt.keeps {h h' : Heap} {vs : List Value} {ps : List (Int × Int)} (T : TupsAt h vs ps) (k : ∀ b o, h.get? b = some o → h'.get? b = some o) : TupsAt h' vs ps := T.mono fun b o e _ _ => k b o e
theorem list_tup {o : Obj} (h : o.cls = .type "list") : o.cls ≠ .type "tuple" := by
  rw [h]; intro q; injection q with q; exact absurd q (by decide)
/-- all that stands, but the base and the frame -/
noncomputable def rest (G h : Heap) (L : Addr) : List (Addr × Obj) := (List.range h.objs.size).filterMap fun a => if a = L ∨ (G.get? a).isSome = true then none else (h.get? a).map fun o => (a, o)
theorem rest_mem {G h : Heap} {L : Addr} {p : Addr × Obj} : p ∈ rest G h L ↔ p.1 ≠ L ∧ G.get? p.1 = none ∧ h.get? p.1 = some p.2 := by
  unfold rest
  simp only [List.mem_filterMap, List.mem_range]
  constructor
  · rintro ⟨a, ha, e⟩
    split at e
    · cases e
    · rename_i hn
      rw [Option.map_eq_some_iff] at e
      obtain ⟨o, h1, rfl⟩ := e
      exact ⟨fun q => hn (.inl q), Option.not_isSome_iff_eq_none.mp fun q => hn (.inr q), h1⟩
  · rintro ⟨h1, h2, h3⟩
    refine ⟨p.1, Heap.lt_size h3, ?_⟩
    rw [if_neg (by rw [h2]; simp [h1]), h3]; rfl
theorem news_rest {G h : Heap} {L : Addr} {l : List (Addr × Obj)} (N : News G L h l) : News G L h (l ++ rest G h L) := fun p hp => by
  rcases List.mem_append.mp hp with hp | hp
  · exact N p hp
  · obtain ⟨a, b, c⟩ := rest_mem.mp hp
    exact ⟨c, a, b⟩
theorem rest_keep {G h h' : Heap} {L : Addr} {m m' : Str → Option Value} {l : List (Addr × Obj)} (F : Fr G L h m) (F' : Fr G L h' m') (N' : News G L h' l) (hl : ∀ p ∈ rest G h L, p ∈ l) : ∀ b o, b ≠ L → h.get? b = some o → h'.get? b = some o := fun b o hb e => by
  cases q : G.get? b with
  | none => exact (N' (b, o) (hl _ (rest_mem.mpr ⟨hb, q, e⟩))).1
  | some o' =>
    have := F.keep b o' q
    rw [e] at this
    rw [this]
    exact F'.keep b o' q
theorem footL_append (a b : List Tr) : footL (a ++ b) = footL a ++ footL b := by
  induction a with
  | nil => simp [footL]
  | cons t r ih => simp [footL, ih]
theorem footL_one (t : Tr) : footL [t] = t.foot := by simp [footL]
theorem leavesL_one (t : Tr) : leavesL [t] = t.leaves := by simp [leavesL]
theorem foot_in {ts : List Tr} {b : Addr} (h : b ∈ footL ts) : ∃ t ∈ ts, b ∈ t.foot := by
  induction ts with
  | nil => simp [footL] at h
  | cons t r ih =>
    unfold footL at h
    rcases List.mem_append.mp h with h | h
    · exact ⟨t, by simp, h⟩
    · obtain ⟨u, hu, hb⟩ := ih h
      exact ⟨u, by simp [hu], hb⟩
/-- the children that stand so far -/
structure KidsSt (w : World) (plain : Bool) (k B : Nat) (p0 : Int × Int) (ts : List Tr) (h : Heap) : Prop where
  chain : Chain p0 (leavesL ts)
  good : ∀ t ∈ ts, GoodT plain t ∧ ht t ≤ k
  len : (leavesL ts).length ≤ ts.length * 3 ^ k
  tree : ∀ t ∈ ts, TreeAt w.params h t .none
  new : ∀ b ∈ footL ts, B ≤ b
  nd : (footL ts).Nodup
theorem KidsSt.nil {w : World} {plain : Bool} {k B : Nat} {p0 : Int × Int} {h : Heap} : KidsSt w plain k B p0 [] h :=
  ⟨by simp [leavesL, Chain], by simp, by simp [leavesL], by simp, by simp [footL], by simp [footL]⟩
theorem KidsSt.mono {w : World} {plain : Bool} {k B : Nat} {p0 : Int × Int} {ts : List Tr} {h h' : Heap} (K : KidsSt w plain k B p0 ts h) (hk : ∀ b o, B ≤ b → h.get? b = some o → h'.get? b = some o) : KidsSt w plain k B p0 ts h' :=
  ⟨K.chain, K.good, K.len, fun t ht => TreeAt.foot t (fun b hb o e => hk b o (K.new b (foot_mem ht b hb)) e) (K.tree t ht), K.new, K.nd⟩
theorem KidsSt.snoc {w : World} {plain : Bool} {k B : Nat} {p0 : Int × Int} {ts : List Tr} {t : Tr} {h h0 : Heap} (K : KidsSt w plain k B p0 ts h0) (hk : ∀ b o, B ≤ b → h0.get? b = some o → h.get? b = some o) (hB : B ≤ h0.objs.size)
    (hc : Chain (endP p0 (leavesL ts)) t.leaves) (hg : GoodT plain t) (hh : ht t ≤ k) (hl : t.leaves.length ≤ 3 ^ k) (hT : TreeAt w.params h t .none) (hn : ∀ b ∈ t.foot, h0.objs.size ≤ b) (hd : t.foot.Nodup) : KidsSt w plain k B p0 (ts ++ [t]) h := by
  have K' := K.mono hk
  refine ⟨?_, ?_, ?_, ?_, ?_, ?_⟩
  · rw [leavesL_append, leavesL_one]; exact K.chain.append hc
  · intro u hu
    rcases List.mem_append.mp hu with hu | hu
    · exact K.good u hu
    · rw [List.mem_singleton.mp hu]; exact ⟨hg, hh⟩
  · rw [leavesL_append, leavesL_one, List.length_append, List.length_append, List.length_singleton, Nat.add_mul, Nat.one_mul]
    exact Nat.add_le_add K.len hl
  · intro u hu
    rcases List.mem_append.mp hu with hu | hu
    · exact K'.tree u hu
    · rw [List.mem_singleton.mp hu]; exact hT
  · intro b hb
    rw [footL_append, footL_one] at hb
    rcases List.mem_append.mp hb with hb | hb
    · exact K.new b hb
    · exact Nat.le_trans hB (hn b hb)
  · rw [footL_append, footL_one]
    refine List.nodup_append.mpr ⟨K.nd, hd, fun a ha b hb e => ?_⟩
    obtain ⟨u, hu, hau⟩ := foot_in ha
    have h1 := foot_lt u (K.tree u hu) a hau
    exact absurd (e ▸ hn b hb) (Nat.not_le_of_lt h1)
theorem ends_last {qe : List (Int × Int)} : ∀ {xs : List LD} {p0 : Int × Int}, qe.getLast? = some p0 → (qe ++ endsOf xs).getLast? = some (endP p0 xs) := by
  intro xs
  induction xs generalizing qe with
  | nil => intro p0 h; simpa [endsOf, endP] using h
  | cons x r ih =>
    intro p0 h
    have := ih (qe := qe ++ [pastP (x.line, x.col) x.val]) (p0 := pastP (x.line, x.col) x.val) (by simp)
    rw [endP, ← this]
    simp [endsOf]
theorem startsOf_append (a b : List LD) : startsOf (a ++ b) = startsOf a ++ startsOf b := by simp [startsOf]
theorem endsOf_append (a b : List LD) : endsOf (a ++ b) = endsOf a ++ endsOf b := by simp [endsOf]
theorem startsOf_len (a : List LD) : (startsOf a).length = a.length := by simp [startsOf]
theorem endsOf_len (a : List LD) : (endsOf a).length = a.length := by simp [endsOf]
theorem Gst.unhid {h : Heap} {l : List Addr} {pool starts ends : Addr} {qs qe : List (Int × Int)} (g : Gst (hideAll h l) pool starts ends qs qe) : Gst h pool starts ends qs qe := by
  obtain ⟨⟨ps, k, e, r⟩, ⟨ss, k2, e2, r2⟩, ⟨es, k3, e3, r3⟩⟩ := g
  exact ⟨⟨ps, k, of_hideAll _ e, r⟩, ⟨ss, k2, of_hideAll _ e2, r2.keeps fun _ _ e => of_hideAll _ e⟩, ⟨es, k3, of_hideAll _ e3, r3.keeps fun _ _ e => of_hideAll _ e⟩⟩
theorem Gst.keeps {h h' : Heap} {pool starts ends : Addr} {qs qe : List (Int × Int)} (g : Gst h pool starts ends qs qe) (k : ∀ b o, h.get? b = some o → h'.get? b = some o) : Gst h' pool starts ends qs qe := by
  obtain ⟨⟨ps, k1, e, r⟩, ⟨ss, k2, e2, r2⟩, ⟨es, k3, e3, r3⟩⟩ := g
  exact ⟨⟨ps, k1, k _ _ e, r⟩, ⟨ss, k2, k _ _ e2, r2.keeps k⟩, ⟨es, k3, k _ _ e3, r3.keeps k⟩⟩
theorem Gst.hid {h : Heap} {l : List Addr} {pool starts ends : Addr} {qs qe : List (Int × Int)} (g : Gst h pool starts ends qs qe) (hl : ∀ a ∈ l, ∀ o, h.get? a = some o → ∀ its n, o.data ≠ .seq its n) : Gst (hideAll h l) pool starts ends qs qe := by
  obtain ⟨⟨ps, k1, e, r⟩, ⟨ss, k2, e2, r2⟩, ⟨es, k3, e3, r3⟩⟩ := g
  have f : ∀ {a vs k}, h.get? a = some (lobj vs k) → (hideAll h l).get? a = some (lobj vs k) := fun {a vs k} e => hideAll_get _ e fun hm => hl a hm _ e _ _ rfl
  exact ⟨⟨ps, k1, f e, r⟩, ⟨ss, k2, f e2, hide_tups (fun a ha o e => .inr (hl a ha o e)) r2⟩, ⟨es, k3, f e3, hide_tups (fun a ha o e => .inr (hl a ha o e)) r3⟩⟩
theorem full_of {ts : List Tr} (h : ∀ t ∈ ts, full t) : fulls ts := by
  induction ts with
  | nil => unfold fulls; trivial
  | cons a r ih => unfold fulls; exact ⟨h a (by simp), ih fun t ht => h t (by simp [ht])⟩
theorem slim_of {ts : List Tr} (h : ∀ t ∈ ts, slim t) : slimL ts := by
  induction ts with
  | nil => unfold slimL; trivial
  | cons a r ih => unfold slimL; exact ⟨h a (by simp), ih fun t ht => h t (by simp [ht])⟩
theorem texts_of {ts : List Tr} (h : ∀ t ∈ ts, texts t) : textsL ts := by
  induction ts with
  | nil => unfold textsL; trivial
  | cons a r ih => unfold textsL; exact ⟨h a (by simp), ih fun t ht => h t (by simp [ht])⟩
theorem fits_of {plain : Bool} {ts : List Tr} (h : ∀ t ∈ ts, fits plain t) : fitsL plain ts := by
  induction ts with
  | nil => unfold fitsL; trivial
  | cons a r ih => unfold fitsL; exact ⟨h a (by simp), ih fun t ht => h t (by simp [ht])⟩
theorem hts_le {n : Nat} {ts : List Tr} (h : ∀ t ∈ ts, ht t ≤ n) : hts ts ≤ n := by
  induction ts with
  | nil => unfold hts; exact Nat.zero_le _
  | cons a r ih => unfold hts; exact Nat.max_le.mpr ⟨h a (by simp), ih fun t ht => h t (by simp [ht])⟩
theorem node_end {w : World} {R : Result → Shared → Prop} {plain : Bool} {n' : Nat} {s : Shared} {pool starts ends : Addr} {qs qe : List (Int × Int)} {p0 : Int × Int} (hR : GrowR R w plain (n' + 1) s pool starts ends qs qe p0)
    {hc h' : Heap} {B : Nat} {ts : List Tr} {y : ND} (tk : Nat) (kc : ∀ b o, b ∉ [pool, starts, ends] → s.heap.get? b = some o → hc.get? b = some o) (KS : KidsSt w plain n' B p0 ts hc)
    (GS : Gst hc pool starts ends (qs ++ startsOf (leavesL ts)) (qe ++ endsOf (leavesL ts))) (hB : s.heap.objs.size ≤ B) (hlen1 : ts.length ≤ 3) (hlen0 : ts ≠ []) (e1 : y.c = if plain then NC.plain else NC.py) (e3 : y.kind ∈ Kinds)
    (z1 : hc.objs.size ≤ y.a) (z2 : hc.objs.size ≤ y.d) (zne : y.a ≠ y.d) (hl1 : s.heap.objs.size ≤ y.l) (hl2 : y.l < hc.objs.size) (hlB : y.l < B) (hsz : s.heap.objs.size ≤ hc.objs.size) (hp : ∀ a ∈ [pool, starts, ends], a < s.heap.objs.size)
    (k : ∀ b o, b ∉ ts.map Tr.dd → hc.get? b = some o → h'.get? b = some o) (TN : TreeAt w.params h' (.node y ts) .none) : R (.ok (.ret (.ref y.a))) { s with heap := h', toks := tk } := by
  have hdd : ∀ b ∈ ts.map Tr.dd, B ≤ b ∧ ∃ o es n, hc.get? b = some o ∧ o.data = .dict es n := fun b hb => by
    obtain ⟨t, ht, rfl⟩ := List.mem_map.mp hb
    refine ⟨KS.new _ (foot_mem ht _ (dd_foot t)), ?_⟩
    have := (tree_split.mp (KS.tree t ht)).2
    cases t with
    | leaf x => exact ⟨_, _, _, this, rfl⟩
    | node x us => exact ⟨_, _, _, this, rfl⟩
  have hlow : ∀ b, b < s.heap.objs.size → b ∉ ts.map Tr.dd := fun b hb hm => absurd (Nat.lt_of_lt_of_le hb hB) (Nat.not_lt_of_le (hdd b hm).1)
  have ktup : ∀ b o, hc.get? b = some o → o.cls = .type "tuple" → (∃ its n, o.data = .seq its n) → h'.get? b = some o := fun b o e _ hd => k b o (fun hm => by
    obtain ⟨_, o', es, n, e', hd'⟩ := hdd b hm
    rw [e] at e'
    injection e' with e'
    obtain ⟨its, n2, hd⟩ := hd
    rw [← e', hd] at hd'
    cases hd') e
  have hlt : ∀ b ∈ footL ts, b < hc.objs.size := fun b hb => by
    obtain ⟨t, ht, hbt⟩ := foot_in hb
    exact foot_lt t (KS.tree t ht) b hbt
  refine hR h' tk (.node y ts) (fun b o hb e => k b o (hlow b (Heap.lt_size e)) (kc b o hb e)) ?_ ?_ ?_ ?_ ?_ TN ?_ ?_
  · simp only [Tr.leaves]
    obtain ⟨⟨a1, a2, a3, a4⟩, ⟨b1, b2, b3, b4⟩, ⟨c1, c2, c3, c4⟩⟩ := GS
    exact ⟨⟨a1, a2, k _ _ (hlow _ (hp _ (by simp))) a3, a4⟩, ⟨b1, b2, k _ _ (hlow _ (hp _ (by simp))) b3, b4.mono ktup⟩, ⟨c1, c2, k _ _ (hlow _ (hp _ (by simp))) c3, c4.mono ktup⟩⟩
  · simp only [Tr.leaves]; exact KS.chain
  · refine ⟨?_, ?_, ?_, ?_⟩
    · unfold full; exact ⟨hlen0, full_of fun t ht => (KS.good t ht).1.full⟩
    · unfold slim; exact ⟨hlen1, slim_of fun t ht => (KS.good t ht).1.slim⟩
    · unfold texts; exact texts_of fun t ht => (KS.good t ht).1.texts
    · unfold fits; exact ⟨e1, e3, fits_of fun t ht => (KS.good t ht).1.fits⟩
  · rw [ht]; exact Nat.succ_le_succ (hts_le fun t ht => (KS.good t ht).2)
  · simp only [Tr.leaves]
    have h1 := KS.len
    have h2 := Nat.mul_le_mul_right (3 ^ n') hlen1
    rw [Nat.pow_succ, Nat.mul_comm]
    exact Nat.le_trans h1 h2
  · intro b hb
    simp only [Tr.foot, List.mem_cons] at hb
    rcases hb with rfl | rfl | rfl | hb
    · exact Nat.le_trans hsz z1
    · exact Nat.le_trans hsz z2
    · exact hl1
    · exact Nat.le_trans hB (KS.new b hb)
  · simp only [Tr.foot, List.nodup_cons, List.mem_cons, not_or]
    refine ⟨⟨zne, fun q => ?_, fun q => ?_⟩, ⟨fun q => ?_, fun q => ?_⟩, fun q => ?_, KS.nd⟩
    · rw [q] at z1; exact absurd hl2 (Nat.not_lt_of_le z1)
    · exact absurd (hlt _ q) (Nat.not_lt_of_le z1)
    · rw [q] at z2; exact absurd hl2 (Nat.not_lt_of_le z2)
    · exact absurd (hlt _ q) (Nat.not_lt_of_le z2)
    · exact absurd hlB (Nat.not_lt_of_le (KS.new _ q))

theorem lines_V1_1 : True := by
  k_with_none
  k_with "call ref" => (((k_dflt (refine' tab_walk ?C_451 ?F_451 ?N_451 ?_; (case F_451 => k_asm); (case N_451 => k_asm); (case C_451 => first | exact law_values (Rm.deeper (by assumption) (by omega)) (st_of (by assumption) (by assumption)) | exact law_prefixes (Rm.deeper (by assumption) (by omega)) (st_of (by assumption) (by assumption)) | exact law_kinds (Rm.deeper (by assumption) (by omega)) (st_of (by assumption) (by assumption))); k_whole; intro _ _ _ _ _ _ _ _ _))))
  k_with "subscriptTail" => (((with_reducible show wpAny _ _ (subscriptTail _ _ (Value.ref _) (Value.int (Int.fmod _ _) _)) _ _ _); (k_dflt (refine' t_idx ?H_58 ?M_58 ?a_58 ?b_58 ?c_58 ?_; (case H_58 => assumption); (case M_58 => assumption); (case a_58 => exact Int.fmod_nonneg_of_pos _ (by decide)); (case b_58 => exact Int.fmod_lt_of_pos _ (by decide)); (case c_58 => decide +kernel); k_whole; intro _ _ _))))
  k_with "unpackItems ref" => ((k_dflt (refine' unpackItemsN_ ?k1_4d ?k2_4d ?k3_4d ?k4_4d ?k5_4d ?_; (case k1_4d => k_asm); (case k2_4d => k_asm); (case k3_4d => kun_tup); (case k4_4d => exact hh_deeper (by assumption)); (case k5_4d => exact rfl); k_whole); intro _ _ _; (try k_sweep)))
  k_with "call ref" => (((with_reducible show wpAny _ _ (call (Value.ref 447) _ _) _ _ _); (k_dflt (refine' past_walk ?R_c62 ?S_c62 ?Z_c62 ?H_c62 ?P_c62 ?F_c62 ?N_c62 ?_; (case F_c62 => k_asm); (case N_c62 => k_asm); (case S_c62 => assumption); (case R_c62 => exact Rm.deeper (by assumption) (by omega)); (case Z_c62 => first | assumption | exact Nat.succ_pos _); (case H_c62 => first | exact prefixes_texts _ (by assumption) | exact values_texts _ (by assumption)); (case P_c62 => first | exact Fr.tup (by assumption) (by assumption) | exact News.isTup (by assumption) (by k_mem)); k_whole; intro _ _ _ _ _ _ x_hne' _ _; (simp only [List.mem_cons, List.not_mem_nil, or_false, forall_eq_or_imp, forall_eq] at x_hne')))))
  k_with "subscriptTail" => (((with_reducible show wpAny _ _ (subscriptTail _ _ (Value.ref _) (Value.int (-1) _)) _ _ _); (k_dflt (refine' my_ends ?N_e95 ?m_e95 ?_; (case N_e95 => k_asm); (case m_e95 => k_mem); k_whole))))
  k_with "truthy ref" => ((k_dflt (refine' my_truthy ?N_f9d ?m_f9d ?z_f9d ?_; (case N_f9d => k_asm); (case m_f9d => k_mem); (case z_f9d => first | assumption | omega); k_whole)))
  k_with "call builtin:list.pop" => ((k_dflt (refine' my_pop ?F_411 ?N_411 ?U_411 ?z_411 ?_; (case F_411 => k_asm); (case N_411 => k_asm); (case U_411 => k_upd); (case z_411 => first | assumption | omega); k_whole; intro _ _ _)))
  trivial

theorem lines_V1_2 : True := by
  k_with "call ref" => (((with_reducible show wpAny _ _ (call (Value.ref 454) _ _) _ _ _); refine' stop_tree ?_))
  trivial
structure StopApp : Prop where
theorem lines_V1_3 : True := by
  k_with "newList" => ((k_dflt (refine' my_newList ?k1_853 ?k2_853 ?_; (case k1_853 => k_asm); (case k2_853 => k_asm); k_whole); intro _ _ _ _ x_l1 _; (try k_lt x_l1); (try k_sweep); (try (revert x_l1; intro _))))
  k_with "call builtin:list.append" => (((have _h : StopApp := by with_reducible assumption); refine' stop_tree ?_))
  trivial

theorem lt_ne3 {l p q e : Nat} (h : p < l ∧ q < l ∧ e < l) : l ≠ p ∧ l ≠ q ∧ l ≠ e := ⟨Nat.ne_of_gt h.1, Nat.ne_of_gt h.2.1, Nat.ne_of_gt h.2.2⟩
theorem deep4 (a n : Nat) : a + 4 * n + 1 ≤ a + 4 * (n + 1) := Nat.add_le_add_left (Nat.add_le_add_left (by decide : 1 ≤ 4) (4 * n)) a
theorem deepk {k c n : Nat} (h : Nat.ble (k + 1) c = true) : k + 1 ≤ c + n := Nat.le_trans (Nat.le_of_ble_eq_true h) (Nat.le_add_right c n)
theorem n3 {x : Int} (h : x < 3) : (1 + x - 0).toNat ≤ 3 := by omega
theorem n3' {x : Int} (h0 : 0 ≤ x) (h : x < 3) : (1 + x).toNat ≤ 3 ∧ (1 + x).toNat ≠ 0 := by omega
theorem len_le {q l m p : Nat} (h1 : q + p ≤ 1000) (h2 : l + m ≤ p) : q + l + m ≤ 1000 := Nat.add_assoc q l m ▸ Nat.le_trans (Nat.add_le_add_left h2 q) h1
theorem sz1 {a q p : Nat} (h : q + p ≤ 1000) (e : a = q) (h1 : 1 ≤ p) : a + 1 ≤ 1000000 := by omega
theorem execs_midF {M : Model} {A : Around} {env : Env} {st : Stmt} {rest : List Stmt} {Q : Flow → Shared → Prop} {E : Value → Shared → Prop} {s : Shared} (P : Shared → Prop)
    (h1 : wpAny M A (exec st env) (fun f s' => match f with | .next => Stop (P s') | f => Stop (Q f s')) E s) (h2 : ∀ s', P s' → wpAny M A (execs rest env) Q E s') : wpAny M A (execs (st :: rest) env) Q E s := execs_midR P h1 h2
theorem news_tail {g : Heap} {L : Addr} {h : Heap} {p : Addr × Obj} {l : List (Addr × Obj)} (N : News g L h (p :: l)) : News g L h l := fun q hq => N q (List.mem_cons_of_mem _ hq)
theorem codeAny_with_toks {M : Model} {A : Around} {c : Code} {R : Result → Shared → Prop} {s : Shared} {n : Nat} (hn : n ≤ s.toks) (h : codeAny M A c (fun r s' => n ≤ s'.toks → R r s') s) : codeAny M A c R s :=
  codeAny_mono (codeAny_toks_of hn h) fun _ _ x => x.2 x.1
theorem flat_val {v : Str} (hv : v ∈ Values) (h1 : (Builtin.Str.occurrences v (Str.ofString "\n") 0 v.length 1).isEmpty = true) (h2 : (Builtin.Str.occurrences v (Str.ofString "\x0d") 0 v.length 1).isEmpty = true) : linesOf v = [v] := by
  have : ∀ v ∈ Values, (!((Builtin.Str.occurrences v (Str.ofString "\n") 0 v.length 1).isEmpty && (Builtin.Str.occurrences v (Str.ofString "\x0d") 0 v.length 1).isEmpty) || decide (linesOf v = [v])) = true := by decide +kernel
  have := this v hv
  rw [h1, h2] at this
  simpa using this
noncomputable abbrev tup2 (a b : Int) (t u : Tok) : Obj := { cls := .type "tuple", data := .seq #[.int a t, .int b u] }
theorem leaf_end {w : World} {R : Result → Shared → Prop} {plain : Bool} {n : Nat} {s : Shared} {pool starts ends : Addr} {qs qe : List (Int × Int)} {p0 : Int × Int} (hR : GrowR R w plain n s pool starts ends qs qe p0)
    {G : Heap} (hGG : hideAll s.heap [pool, starts, ends] = G) {L' : Addr} {h' : Heap} {m : Str → Option Value} {D1 D2 : Addr} {p ss es : List Value} {np ns ne : Nat} {v px : Str} {t1 u1 t2 u2 : Tok}
    (TS : TupsAt G ss qs) (TE : TupsAt G es qe) (F : Fr G L' h' m)
    (N : News G L' h' [(D2, tup2 (pastLine (pastLine p0.1 px) v) (pastCol (pastCol p0.2 px) v) t2 u2), (D1, tup2 (pastLine p0.1 px) (pastCol p0.2 px) t1 u1), (pool, lobj p np), (starts, W.listOf (ss.toArray.push (.ref D1)) ns), (ends, W.listOf (es.toArray.push (.ref D2)) ne)])
    (hint : IntsV p) (hpl : p.length ≤ 7) (hv : v ∈ Values) (hpx : px ∈ Prefixes) {x : LD} (e1 : x.val = v) (e2 : x.pre = px) (e3 : x.line = pastLine p0.1 px) (e4 : x.col = pastCol p0.2 px) (hl : LeafAt w.params h' x .none)
    (hcls : x.c.isPlain = plain ∧ (x.c.flat = true → linesOf x.val = [x.val])) (s1 : s.heap.objs.size ≤ x.a) (s2 : s.heap.objs.size ≤ x.d) (hne : x.a ≠ x.d) (tk : Nat) : R (.ok (.ret (.ref x.a))) { s with heap := h', toks := tk } := by
  have k : ∀ b o, b ∉ [pool, starts, ends] → s.heap.get? b = some o → h'.get? b = some o := fun b o hb e => F.keep b o (hGG ▸ hideAll_get _ e hb)
  have i2 : IsTup h' D2 #[.int (pastLine (pastLine p0.1 px) v) t2, .int (pastCol (pastCol p0.2 px) v) u2] := News.isTup N (List.mem_cons_self ..)
  have i1 : IsTup h' D1 #[.int (pastLine p0.1 px) t1, .int (pastCol p0.2 px) u1] := News.isTup N (List.mem_cons_of_mem _ (List.mem_cons_self ..))
  refine hR h' tk (.leaf x) k ⟨⟨p, np, N.get (by simp), hint, hpl⟩, ⟨ss ++ [.ref D1], ns, by simpa using N.get (a := starts) (by simp), (TS.keeps F.keep).append (.cons ?_ .nil)⟩, ⟨es ++ [.ref D2], ne, by simpa using N.get (a := ends) (by simp), (TE.keeps F.keep).append ?_⟩⟩ ?_ ?_ ?_ ?_ ?_ ?_ ?_
  · exact ⟨D1, t1, u1, rfl, by show IsTup h' D1 #[.int x.line t1, .int x.col u1]; rw [e3, e4]; exact i1⟩
  · simp only [Tr.leaves, endsOf, List.map]
    exact .cons ⟨D2, t2, u2, rfl, by show IsTup h' D2 #[.int (pastLine x.line x.val) t2, .int (pastCol x.col x.val) u2]; rw [e1, e3, e4]; exact i2⟩ .nil
  · simp only [Tr.leaves, Chain, and_true]
    rw [e2, e3, e4]; rfl
  · exact ⟨by unfold full; trivial, by unfold slim; trivial, by unfold texts; rw [e1, e2]; exact ⟨values_texts _ hv, prefixes_texts _ hpx⟩, by unfold fits; exact hcls⟩
  · rw [ht]; exact Nat.zero_le _
  · simp only [Tr.leaves, List.length_singleton]
    exact Nat.one_le_pow n 3 (by decide)
  · unfold TreeAt; exact hl
  · intro b hb
    simp only [Tr.foot, List.mem_cons, List.not_mem_nil, or_false] at hb
    rcases hb with rfl | rfl
    · exact s1
    · exact s2
  · simp [Tr.foot, hne]
theorem grow_all0 {prog : Program} {w : World} (hpr : ProgOk prog) (n : Nat) (ih : ∀ k, n = k + 1 → GrowS prog w k) : GrowS prog w n := by
  intro A s pool starts ends qs qe p0 deep td plain R hr hdeep ne1 ne2 ne3 S h0 GS hlast hq1 hq2 hR
  have ⟨X, p', loose, mg, mb, T, _⟩ := S
  obtain ⟨ps, np, h1, hints, hpl⟩ := GS.pool
  obtain ⟨ss, ns, h2, TS⟩ := GS.starts
  obtain ⟨es, ne, h3, TE⟩ := GS.ends
  have hll : ∀ a ∈ [pool, starts, ends], ∀ o, s.heap.get? a = some o → o.cls = .type "list" := by
    intro a ha o e
    simp only [List.mem_cons, List.not_mem_nil, or_false] at ha
    rcases ha with rfl | rfl | rfl
    · rw [h1] at e; injection e with e; rw [← e]
    · rw [h2] at e; injection e with e; rw [← e]
    · rw [h3] at e; injection e with e; rw [← e]
  replace TS := hide_tups (fun a ha o e => .inl (list_tup (hll a ha o e))) TS
  replace TE := hide_tups (fun a ha o e => .inl (list_tup (hll a ha o e))) TE
  have hsl := TS.len
  have hel := TE.len
  generalize hGG : hideAll s.heap [pool, starts, ends] = G at *
  refine' enterN [(pool, lobj ps np), (starts, lobj ss ns), (ends, lobj es ne)] [(Str.ofString "pool", .ref pool), (Str.ofString "deep", .int deep td), (Str.ofString "plain", .bool plain), (Str.ofString "starts", .ref starts), (Str.ofString "ends", .ref ends)] (X.keeps fun _ _ e => of_hideAll _ (hGG ▸ e)) ((TopRead.nolimit T).keeps fun _ _ e => of_hideAll _ (hGG ▸ e)) ?kh ?k6 ?k7 ?k8 ?k9 ?kB ?c1 ?c2 ?c3 ?c4 ?_
  (case kh => intro p hp; simp at hp; rcases hp with rfl | rfl | rfl; exact h1; exact h2; exact h3)
  (case k6 => k_is)
  (case k7 => k_is)
  (case k8 => exact hr.lt)
  (case k9 => exact BindsTo.of_eq rfl)
  (case kB => exact locs rfl)
  (case c1 => decide)
  (case c2 => rfl)
  (case c3 => rfl)
  (case c4 => rfl)
  intro L' h₁ tk F N
  try dsimp only
  dsimp only [List.map] at F N
  rw [hGG] at F N
  k_fold
  have hpl1 : ps.length ≤ 1000000 := by omega
  refine execs_midRO (fun s' => ∃ h tk num tn p n, s' = { s with heap := h, toks := tk } ∧ @LT.lt Nat _ 0 tk ∧ Fr G L' h (fun y => if y = Str.ofString "number" then some (.int num tn) else List.lookup y [(Str.ofString "pool", .ref pool), (Str.ofString "deep", .int deep td), (Str.ofString "plain", .bool plain), (Str.ofString "starts", .ref starts), (Str.ofString "ends", .ref ends)].reverse) ∧
    News G L' h [(pool, lobj p n), (starts, lobj ss ns), (ends, lobj es ne)] ∧ IntsV p ∧ p.length ≤ 7) ?first ?rest
  case first =>
    intro P' hP'
    rcases List.eq_nil_or_concat ps with rfl | ⟨p, y, hpy⟩
    · k_steps
      all_goals try refine Stop.imp (hP' _) ?_
      all_goals first | exact ⟨⟨_, _, _, _, _, _, rfl, Nat.succ_pos _, by assumption, by assumption, hints, hpl⟩⟩ | (exfalso; simp at *)
    · rw [List.concat_eq_append] at hpy
      subst hpy
      obtain ⟨num, tn, rfl⟩ := hints y (by simp)
      have hp2 : p.length ≤ 100000 := by simp at hpl; omega
      k_steps
      all_goals try refine Stop.imp (hP' _) ?_
      all_goals first | exact ⟨⟨_, _, _, _, _, _, rfl, Nat.succ_pos _, by assumption, by assumption, fun v hv => hints v (by simp [hv]), by simp at hpl; omega⟩⟩ | (exfalso; simp at *)
  case rest =>
    rintro s' ⟨h₂, tk₂, num, tn, p, np', rfl, hz₂, F₂, N₂, hint₂, hpl₂⟩
    clear F N hints hpl hpl1 h1
    refine wpAny_execs_cons (wpAny_If (wpAny_mono (Q := fun b s₁ => Stop (b = decide (deep = 0 ∨ Int.fmod num 2 = 0) ∧ ∃ tk', s₁ = { s with heap := h₂, toks := tk' } ∧ @LT.lt Nat _ 0 tk')) ?test (fun b s₁ hbs => ?after) fun _ _ e => e))
    case test =>
      clear hdeep
      k_steps
      all_goals exact ⟨by simp [*], _, rfl, Nat.succ_pos _⟩
    case after =>
      obtain ⟨hb, tk₃, rfl, hz₃⟩ := hbs.out
      clear hbs hz₂
      by_cases hleaf : deep = 0 ∨ Int.fmod num 2 = 0
      · have hbt : b = true := by rw [hb]; simpa using hleaf
        subst hbt
        simp only [if_true]
        clear hb
        obtain ⟨es0, pv, rfl, TP⟩ := TE.last hlast
        obtain ⟨pe, pt, pu, rfl, hpe⟩ := TP
        refine execs_midRO (fun s' => ∃ h tk v tv px tp kd tkd, s' = { s with heap := h, toks := tk } ∧ @LT.lt Nat _ 0 tk ∧ v ∈ Values ∧ px ∈ Prefixes ∧
          Fr G L' h (fun y => if y = Str.ofString "value" then some (.str v tv) else if y = Str.ofString "prefix" then some (.str px tp) else if y = Str.ofString "kind" then some (.int kd tkd) else if y = Str.ofString "number" then some (.int num tn) else List.lookup y [(Str.ofString "pool", .ref pool), (Str.ofString "deep", .int deep td), (Str.ofString "plain", .bool plain), (Str.ofString "starts", .ref starts), (Str.ofString "ends", .ref ends)].reverse) ∧
          News G L' h [(pool, lobj p np'), (starts, lobj ss ns), (ends, lobj (es0 ++ [Value.ref pe]) ne)]) ?s1 ?r1
        case s1 =>
          intro P' hP'
          k_steps
          refine Stop.imp (hP' _) ?_
          refine ⟨⟨_, _, _, _, _, _, _, _, rfl, Nat.succ_pos _, by assumption, by assumption, by assumption, news_tail (by assumption)⟩⟩
        case r1 =>
          rintro s' ⟨h₄, tk₄, v, tv, px, tp, kd, tkd, rfl, hz₄, hv, hpx, F₄, N₄⟩
          clear F₂ N₂ hz₃ hleaf
          have hss : ss.length + 1 ≤ 1000000 := sz1 (q := qs.length) (by assumption) (by assumption) (Nat.one_le_pow n 3 (by decide))
          have hes : (es0 ++ [Value.ref pe]).length + 1 ≤ 1000000 := sz1 (q := qe.length) (by assumption) (by assumption) (Nat.one_le_pow n 3 (by decide))
          refine execs_stop ?_
          k_steps
          refine ⟨?_⟩
          refine execs_stop ?_
          k_steps
          refine ⟨?_⟩
          refine execs_stop ?_
          k_steps
          refine ⟨?_⟩
          cases plain with
          | true =>
            k_steps
            rename Fr _ _ _ _ => F₈
            rename News _ _ _ _ => N₈
            have hsz₈ := Nat.le_trans (Nat.le_trans (Nat.le_of_eq (show s.heap.objs.size = G.objs.size by rw [← hGG, hideAll_size])) F₈.above) (Nat.le_of_lt F₈.ns.lt)
            refine PureRes.walk (make_plain (hr.deeper (by exact deepk rfl)) (st_of F₈ S) (News.isTup N₈ (List.mem_cons_of_mem _ (List.mem_cons_self ..)))) F₈ N₈ fun v' h' tk' F' N' k' p' => ?_
            obtain ⟨x, rfl, e0, e1, e2, e3, e4, hl, s1, s2, s3, s4⟩ := p'
            exact leaf_end hR hGG TS TE F' N' hint₂ hpl₂ hv hpx e1 e2 e3 e4 hl ⟨by rw [e0]; rfl, by rw [e0]; intro q; cases q⟩ (Nat.le_trans hsz₈ s1) (Nat.le_trans hsz₈ s3) s4 _
          | false =>
            k_steps
            · rename Fr _ _ _ _ => F₈
              rename News _ _ _ _ => N₈
              have hsz₈ := Nat.le_trans (Nat.le_trans (Nat.le_of_eq (show s.heap.objs.size = G.objs.size by rw [← hGG, hideAll_size])) F₈.above) (Nat.le_of_lt F₈.ns.lt)
              refine PureRes.walk (make_str (hr.deeper (by exact deepk rfl)) (st_of F₈ S) (News.isTup N₈ (List.mem_cons_of_mem _ (List.mem_cons_self ..)))) F₈ N₈ fun v' h' tk' F' N' k' p' => ?_
              obtain ⟨x, rfl, e0, e1, e2, e3, e4, hl, s1, s2, s3, s4⟩ := p'
              exact leaf_end hR hGG TS TE F' N' hint₂ hpl₂ hv hpx e1 e2 e3 e4 hl ⟨by rw [e0]; rfl, by rw [e0]; intro q; cases q⟩ (Nat.le_trans hsz₈ s1) (Nat.le_trans hsz₈ s3) s4 _
            · rename Fr _ _ _ _ => F₈
              rename News _ _ _ _ => N₈
              have hsz₈ := Nat.le_trans (Nat.le_trans (Nat.le_of_eq (show s.heap.objs.size = G.objs.size by rw [← hGG, hideAll_size])) F₈.above) (Nat.le_of_lt F₈.ns.lt)
              refine PureRes.walk (make_name (hr.deeper (by exact deepk rfl)) (st_of F₈ S) (News.isTup N₈ (List.mem_cons_of_mem _ (List.mem_cons_self ..)))) F₈ N₈ fun v' h' tk' F' N' k' p' => ?_
              obtain ⟨x, rfl, e0, e1, e2, e3, e4, hl, s1, s2, s3, s4⟩ := p'
              exact leaf_end hR hGG TS TE F' N' hint₂ hpl₂ hv hpx e1 e2 e3 e4 hl ⟨by rw [e0]; rfl, fun _ => by rw [e1]; exact flat_val hv (by assumption) (by assumption)⟩ (Nat.le_trans hsz₈ s1) (Nat.le_trans hsz₈ s3) s4 _
            · rename Fr _ _ _ _ => F₈
              rename News _ _ _ _ => N₈
              have hsz₈ := Nat.le_trans (Nat.le_trans (Nat.le_of_eq (show s.heap.objs.size = G.objs.size by rw [← hGG, hideAll_size])) F₈.above) (Nat.le_of_lt F₈.ns.lt)
              refine PureRes.walk (make_oper (hr.deeper (by exact deepk rfl)) (st_of F₈ S) (News.isTup N₈ (List.mem_cons_of_mem _ (List.mem_cons_self ..)))) F₈ N₈ fun v' h' tk' F' N' k' p' => ?_
              obtain ⟨x, rfl, e0, e1, e2, e3, e4, hl, s1, s2, s3, s4⟩ := p'
              exact leaf_end hR hGG TS TE F' N' hint₂ hpl₂ hv hpx e1 e2 e3 e4 hl ⟨by rw [e0]; rfl, fun _ => by rw [e1]; exact flat_val hv (by assumption) (by assumption)⟩ (Nat.le_trans hsz₈ s1) (Nat.le_trans hsz₈ s3) s4 _
            · rename Fr _ _ _ _ => F₈
              rename News _ _ _ _ => N₈
              have hsz₈ := Nat.le_trans (Nat.le_trans (Nat.le_of_eq (show s.heap.objs.size = G.objs.size by rw [← hGG, hideAll_size])) F₈.above) (Nat.le_of_lt F₈.ns.lt)
              refine PureRes.walk (make_str (hr.deeper (by exact deepk rfl)) (st_of F₈ S) (News.isTup N₈ (List.mem_cons_of_mem _ (List.mem_cons_self ..)))) F₈ N₈ fun v' h' tk' F' N' k' p' => ?_
              obtain ⟨x, rfl, e0, e1, e2, e3, e4, hl, s1, s2, s3, s4⟩ := p'
              exact leaf_end hR hGG TS TE F' N' hint₂ hpl₂ hv hpx e1 e2 e3 e4 hl ⟨by rw [e0]; rfl, by rw [e0]; intro q; cases q⟩ (Nat.le_trans hsz₈ s1) (Nat.le_trans hsz₈ s3) s4 _
            · rename Fr _ _ _ _ => F₈
              rename News _ _ _ _ => N₈
              have hsz₈ := Nat.le_trans (Nat.le_trans (Nat.le_of_eq (show s.heap.objs.size = G.objs.size by rw [← hGG, hideAll_size])) F₈.above) (Nat.le_of_lt F₈.ns.lt)
              refine PureRes.walk (make_str (hr.deeper (by exact deepk rfl)) (st_of F₈ S) (News.isTup N₈ (List.mem_cons_of_mem _ (List.mem_cons_self ..)))) F₈ N₈ fun v' h' tk' F' N' k' p' => ?_
              obtain ⟨x, rfl, e0, e1, e2, e3, e4, hl, s1, s2, s3, s4⟩ := p'
              exact leaf_end hR hGG TS TE F' N' hint₂ hpl₂ hv hpx e1 e2 e3 e4 hl ⟨by rw [e0]; rfl, by rw [e0]; intro q; cases q⟩ (Nat.le_trans hsz₈ s1) (Nat.le_trans hsz₈ s3) s4 _
      · have hbf : b = false := by rw [hb]; simpa using hleaf
        subst hbf
        simp only [Bool.false_eq_true, if_false]
        clear hb
        refine wpAny_execs_nil ?_
        dsimp only
        refine execs_stop ?_
        k_steps
        refine ⟨?_⟩
        rename Fr _ _ _ _ => F₄
        rename News _ _ _ _ => N₄
        clear hz₃
        rename_i l _ _ _ _
        have hlL : @Ne Nat l L' := (N₄ _ (List.mem_cons_self ..)).2.1
        have hlG : G.get? l = none := (N₄ _ (List.mem_cons_self ..)).2.2
        have hLl : @LT.lt Nat _ L' l := by assumption
        have hl1 : @LE.le Nat _ s.heap.objs.size l := Nat.le_trans (Nat.le_of_eq (show s.heap.objs.size = G.objs.size by rw [← hGG, hideAll_size])) (Nat.le_trans F₄.above (Nat.le_of_lt hLl))
        have hlne : @Ne Nat l pool ∧ @Ne Nat l starts ∧ @Ne Nat l ends := lt_ne3 (by assumption)
        obtain ⟨n', rfl⟩ : ∃ k, n = k + 1 := by
          cases n with
          | zero => exact absurd (by simpa using hdeep) (not_or.mp hleaf).1
          | succ k => exact ⟨k, rfl⟩
        have ihk := ih n' rfl
        have hGs : G.objs.size = s.heap.objs.size := by rw [← hGG, hideAll_size]
        refine execs_midO (fun s' => ∃ h tk ts B m kk, s' = { s with heap := h, toks := tk } ∧ KidsSt w plain n' B p0 ts h ∧ Gst h pool starts ends (qs ++ startsOf (leavesL ts)) (qe ++ endsOf (leavesL ts)) ∧ h.get? l = some (lobj (ts.map fun t => Value.ref t.addr) kk) ∧ ts.length = (1 + Int.fmod (Int.fdiv num 2) 3).toNat ∧
          Fr G L' h (fun y => if y = Str.ofString "k" then m else if y = Str.ofString "children" then some (.ref l) else if y = Str.ofString "number" then some (.int num tn) else List.lookup y [(Str.ofString "pool", .ref pool), (Str.ofString "deep", .int deep td), (Str.ofString "plain", .bool plain), (Str.ofString "starts", .ref starts), (Str.ofString "ends", .ref ends)].reverse) ∧ L' < B ∧ l < B) ?loop ?behind
        case loop =>
          intro P' hP'
          refine for_h rfl rfl ?_ (fun _ => rfl)
          k_steps
          refine ⟨fun htk₅ => ?_⟩
          replace htk₅ := Nat.lt_of_lt_of_le (Nat.succ_pos _) htk₅
          rename IsRange _ _ _ _ _ _ _ _ => IR
          rename Fr _ _ _ _ => F₄
          rename News _ _ _ _ => N₄
          have hq0 : 0 ≤ Int.fmod (Int.fdiv num 2) 3 := Int.fmod_nonneg_of_pos _ (by decide)
          have hq3 : Int.fmod (Int.fdiv num 2) 3 < 3 := Int.fmod_lt_of_pos _ (by decide)
          refine range_it IR (by decide) (by omega) (by omega) fun h₅ I hI k₅ sz₅ it₅ => ?_
          clear IR
          dsimp only at k₅ hI ⊢
          have hGL := F₄.above
          have hLI : @LT.lt Nat _ L' I := hI ▸ F₄.ns.lt
          have hlI : @LT.lt Nat _ l I := hI ▸ Heap.lt_size (N₄.get (List.mem_cons_self ..))
          have hlL : @Ne Nat l L' := (N₄ _ (List.mem_cons_self ..)).2.1
          have hlG : G.get? l = none := (N₄ _ (List.mem_cons_self ..)).2.2
          have hpG : @LT.lt Nat _ pool G.objs.size := by obtain ⟨_, _, e, _⟩ := GS.pool; exact hGs ▸ Heap.lt_size e
          have hsG : @LT.lt Nat _ starts G.objs.size := by obtain ⟨_, _, e, _⟩ := GS.starts; exact hGs ▸ Heap.lt_size e
          have heG : @LT.lt Nat _ ends G.objs.size := by obtain ⟨_, _, e, _⟩ := GS.ends; exact hGs ▸ Heap.lt_size e
          have hGn : ∀ a ∈ [pool, starts, ends], G.get? a = none := fun a ha => hGG ▸ hideAll_none _ ha
          have hGb : ∀ b o, G.get? b = some o → b ≠ I ∧ b ≠ L' := fun b o e => by
            have := Heap.lt_size e
            exact ⟨fun q => by subst q; exact absurd (Nat.lt_of_lt_of_le this hGL) (Nat.not_lt_of_lt hLI), fun q => by subst q; exact absurd this (Nat.not_lt_of_le hGL)⟩
          obtain ⟨m0, hm0⟩ : ∃ m0 : Str → Option Value, m0 = fun y => if y = Str.ofString "children" then some (.ref l) else if y = Str.ofString "number" then some (.int num tn) else List.lookup y [(Str.ofString "pool", .ref pool), (Str.ofString "deep", .int deep td), (Str.ofString "plain", .bool plain), (Str.ofString "starts", .ref starts), (Str.ofString "ends", .ref ends)].reverse := ⟨_, rfl⟩
          have hk₄ : ∀ b o, G.get? b = some o → h₅.get? b = some o := fun b o e => k₅ b o (F₄.keep b o e)
          refine ⟨I, [], (1 + Int.fmod (Int.fdiv num 2) 3 - 0).toNat, _, _, fun i m s' => ∃ ts kk, ts.length = i ∧ (s'.gens = s.gens ∧ s'.drawn = s.drawn ∧ s'.os = s.os) ∧ @LT.lt Nat _ 0 s'.toks ∧ (∀ y, y ≠ Str.ofString "k" → m y = m0 y) ∧ (∀ b o, G.get? b = some o → s'.heap.get? b = some o) ∧
            Gst (hideAll s'.heap [I, L']) pool starts ends (qs ++ startsOf (leavesL ts)) (qe ++ endsOf (leavesL ts)) ∧ KidsSt w plain n' (I + 1) p0 ts s'.heap ∧ s'.heap.get? l = some (lobj (ts.map fun t => Value.ref t.addr) kk), m0, rfl,
            { W := Walks.range (hh_deeper hr) I 0 1 _, loc := ⟨Nat.ne_of_lt hLI, by simp⟩, st := it₅, ns := hm0 ▸ F₄.ns.keeps k₅, j0 := ?j0, hJ := ?hJ, step := ?step, done := ?done }⟩
          case j0 =>
            refine ⟨[], 0, rfl, ⟨rfl, rfl, rfl⟩, htk₅, fun _ _ => rfl, hk₄, ?_, KidsSt.nil, k₅ _ _ (N₄.get (List.mem_cons_self ..))⟩
            have f : ∀ a o, a < G.objs.size → h₅.get? a = some o → (hideAll h₅ [I, L']).get? a = some o := fun a o ha e => hideAll_get _ e (by
              simp only [List.mem_cons, List.not_mem_nil, or_false, not_or]
              exact ⟨Nat.ne_of_lt (Nat.lt_trans (Nat.lt_of_lt_of_le ha hGL) hLI), Nat.ne_of_lt (Nat.lt_of_lt_of_le ha hGL)⟩)
            have kG : ∀ b o, G.get? b = some o → (hideAll h₅ [I, L']).get? b = some o := fun b o e => f b o (Heap.lt_size e) (hk₄ b o e)
            simp only [leavesL, startsOf, endsOf, List.map_nil, List.append_nil]
            exact ⟨⟨p, np', f _ _ hpG (k₅ _ _ (N₄.get (by simp))), hint₂, hpl₂⟩, ⟨ss, ns, f _ _ hsG (k₅ _ _ (N₄.get (by simp))), TS.keeps kG⟩, ⟨es, ne, f _ _ heG (k₅ _ _ (N₄.get (by simp))), TE.keeps kG⟩⟩
          case hJ =>
            rintro i m s' h tk htk hk ⟨ts, kk, e1, e2, e3, e4, e5, e6, e7, e8⟩
            refine ⟨ts, kk, e1, e2, Nat.lt_of_lt_of_le e3 htk, e4, fun b o e => hk b o (hGb b o e).1 (hGb b o e).2 (e5 b o e), e6.keeps fun b o e => ?_, e7.mono fun b o hb e => ?_, hk _ _ (Nat.ne_of_lt hlI) hlL e8⟩
            · have hb : b ∉ [I, L'] := fun hm => by rw [hideAll_none _ hm] at e; cases e
              simp only [List.mem_cons, List.not_mem_nil, or_false, not_or] at hb
              exact hideAll_get _ (hk b o hb.1 hb.2 (of_hideAll _ e)) (by simp [hb.1, hb.2])
            · exact hk b o (Nat.ne_of_gt hb) (Nat.ne_of_gt (Nat.lt_of_lt_of_le (Nat.lt_succ_of_lt hLI) hb)) e
          case done =>
            rintro m₁ ⟨h₆, g₆, d₆, t₆, o₆⟩ ⟨ts, kk, e1, ⟨r1, r2, r3⟩, e3, e4, e5, e6, e7, e8⟩ hn
            dsimp only at r1 r2 r3
            subst r1 r2 r3
            refine Stop.imp (hP' _) ?_
            refine ⟨⟨h₆, t₆, ts, I + 1, m₁ (Str.ofString "k"), kk, rfl, e7, e6.unhid, e8, by rw [e1, Int.sub_zero], ⟨?_, e5, hGL⟩, Nat.lt_succ_of_lt hLI, Nat.lt_succ_of_lt hlI⟩⟩
            have : m₁ = (fun y => if y = Str.ofString "k" then m₁ (Str.ofString "k") else m0 y) := by
              funext y
              split
              · rename_i q; rw [q]
              · exact e4 y (by assumption)
            rw [this, hm0] at hn
            exact hn
          case step =>
            rintro i v m₁ ⟨h₆, g₆, d₆, t₆, o₆⟩ hi ⟨tv, rfl⟩ ⟨ts, kk, e1, ⟨r1, r2, r3⟩, e3, e4, e5, e6, e7, e8⟩ hn hst
            dsimp only at r1 r2 r3 e3 e5 e6 e7 e8 hn hst
            subst r1 r2 r3
            have F₆ : Fr G L' h₆ (fun y => if y = Str.ofString "k" then some (.int (0 + (i : Int) * 1) tv) else if y = Str.ofString "children" then some (.ref l) else if y = Str.ofString "number" then some (.int num tn) else List.lookup y [(Str.ofString "pool", .ref pool), (Str.ofString "deep", .int deep td), (Str.ofString "plain", .bool plain), (Str.ofString "starts", .ref starts), (Str.ofString "ends", .ref ends)].reverse) := by
              refine ⟨?_, e5, hGL⟩
              have : (fun y => if y = Str.ofString "k" then some (Value.int (0 + (i : Int) * 1) tv) else m₁ y) = (fun y => if y = Str.ofString "k" then some (Value.int (0 + (i : Int) * 1) tv) else m0 y) := by
                funext y
                split
                · rfl
                · exact e4 y (by assumption)
              rw [this, hm0] at hn
              exact hn
            obtain ⟨⟨ps6, k6, x6, y6⟩, ⟨ss6, k7, x7, y7⟩, ⟨es6, k8, x8, y8⟩⟩ := id e6
            have N₆ : News G L' h₆ [(l, lobj (ts.map fun t => Value.ref t.addr) kk), (pool, lobj ps6 k6), (starts, lobj ss6 k7), (ends, lobj es6 k8)] := by
              have f : ∀ a o, a < G.objs.size → G.get? a = none → h₆.get? a = some o → h₆.get? a = some o ∧ a ≠ L' ∧ G.get? a = none := fun a o h1 h2 h3 => ⟨h3, Nat.ne_of_lt (Nat.lt_of_lt_of_le h1 hGL), h2⟩
              intro q hq
              simp only [List.mem_cons, List.not_mem_nil, or_false] at hq
              rcases hq with rfl | rfl | rfl | rfl
              · exact ⟨e8, hlL, hlG⟩
              · exact f _ _ hpG (hGn _ (by simp)) (of_hideAll _ x6)
              · exact f _ _ hsG (hGn _ (by simp)) (of_hideAll _ x7)
              · exact f _ _ heG (hGn _ (by simp)) (of_hideAll _ x8)
            clear F₄ N₄
            k_steps
            have hIlt : @LT.lt Nat _ I h₆.objs.size := Heap.lt_size hst
            have hgl : Gst h₆ pool starts ends _ _ := e6.unhid
            have hlen6 : (leavesL ts).length + 3 ^ n' ≤ 3 ^ (n' + 1) := by
              have h1 := e7.len
              have h2 : i + 1 ≤ 3 := Nat.lt_of_lt_of_le (by assumption) (n3 hq3)
              rw [e1] at h1
              have h3 : i * 3 ^ n' + 3 ^ n' ≤ 3 * 3 ^ n' := by
                have := Nat.mul_le_mul_right (3 ^ n') h2
                rw [Nat.add_mul, Nat.one_mul] at this
                exact this
              rw [Nat.pow_succ, Nat.mul_comm]; exact Nat.le_trans (Nat.add_le_add_right (by assumption) _) (by assumption)
            refine ⟨wpAny_call (codeAny_with_toks (n := 1) (Nat.succ_pos _) (ihk _ _ pool starts ends _ _ _ _ _ plain _ (hr.deeper (deep4 20 n')) (by rw [hdeep]; push_cast; omega) ne1 ne2 ne3 (S.keeps (hide_sub F₆.keep hGn)) (Nat.succ_pos _) hgl (ends_last hlast) (by rw [List.length_append, startsOf_len]; exact len_le (q := qs.length) (by assumption) (by assumption)) (by rw [List.length_append, endsOf_len]; exact len_le (q := qe.length) (by assumption) (by assumption)) ?_))⟩
            intro h₇ tk₇ t k₇ g₇ c₇ gt₇ ht₇ ln₇ T₇ new₇ nd₇ htk₇
            dsimp only at k₇ new₇ ⊢
            have hl3 : ∀ a ∈ [pool, starts, ends], a < G.objs.size := by
              intro a ha
              simp only [List.mem_cons, List.not_mem_nil, or_false] at ha
              rcases ha with rfl | rfl | rfl
              · exact hpG
              · exact hsG
              · exact heG
            have up₇ : ∀ b o, G.objs.size ≤ b → h₆.get? b = some o → h₇.get? b = some o := fun b o hb e => k₇ b o (fun hm => absurd (hl3 b hm) (Nat.not_lt_of_le hb)) e
            have hIG : G.objs.size ≤ I := Nat.le_of_lt (Nat.lt_of_le_of_lt hGL hLI)
            have e8₇ := k₇ l _ (by simp only [List.mem_cons, List.not_mem_nil, or_false, not_or]; exact hlne) e8
            have hst₇ := up₇ _ _ hIG hst
            have F₇ : Fr G L' h₇ _ := ⟨F₆.ns.at' fun o e => up₇ _ o hGL e, fun b o e => k₇ b o (fun hm => by rw [hGn b hm] at e; cases e) (e5 b o e), hGL⟩
            have N₇ : News G L' h₇ [(l, lobj (ts.map fun t => Value.ref t.addr) kk)] := by
              intro q hq
              rw [List.mem_singleton.mp hq]
              exact ⟨e8₇, hlL, hlG⟩
            have mark : StopApp := ⟨⟩
            clear F₆ N₆
            k_steps
            refine ⟨wpAny_list_append_plain ⟨kk, e8₇⟩ (fun h₈ p₈ s₈ => ?_) (by
              have : 1000 ≤ sizeLine := by decide
              simp; omega)⟩
            refine wpAny_execs_nil ⟨?_⟩
            have hILn : ∀ a ∈ [I, L'], ∀ o, h₈.get? a = some o → ∀ its n, o.data ≠ .seq its n := by
              intro a ha o e
              simp only [List.mem_cons, List.not_mem_nil, or_false] at ha
              rcases ha with rfl | rfl
              · rw [s₈.extBut _ _ (Ne.symm (Nat.ne_of_lt hlI)) hst₇] at e
                injection e with e
                rw [← e]
                intro its n q; cases q
              · obtain ⟨oL, es', ep', hL, hd, _⟩ := F₇.ns
                rw [s₈.extBut _ _ (Ne.symm hlL) hL] at e
                injection e with e
                rw [← e, hd]
                intro its n q; cases q
            obtain ⟨kk', p₈'⟩ := p₈
            refine ⟨_, ⟨ts ++ [t], kk', by simp [e1], ⟨rfl, rfl, rfl⟩, htk₇, fun y hy => ?_, fun b o e => s₈.extBut b o (fun q => by rw [q, hlG] at e; cases e) (F₇.keep b o e), ?_, ?_, by simpa using p₈'⟩, F₇.ns.at' fun o e => s₈.extBut _ o (Ne.symm hlL) e, fun b hb o e => ?_⟩
            · rw [hm0, if_neg hy]
            · refine Gst.hid ?_ hILn
              rw [leavesL_append, leavesL_one, startsOf_append, endsOf_append, ← List.append_assoc, ← List.append_assoc]
              obtain ⟨⟨a1, a2, a3, a4⟩, ⟨b1, b2, b3, b4⟩, ⟨c1, c2, c3, c4⟩⟩ := g₇
              exact ⟨⟨a1, a2, s₈.extBut _ _ hlne.1.symm a3, a4⟩, ⟨b1, b2, s₈.extBut _ _ hlne.2.1.symm b3, b4.mono fun b o e ec _ => s₈.extBut b o (fun q => by rw [q, e8₇] at e; injection e with e; rw [← e] at ec; exact absurd ec (list_tup rfl)) e⟩, ⟨c1, c2, s₈.extBut _ _ hlne.2.2.symm c3, c4.mono fun b o e ec _ => s₈.extBut b o (fun q => by rw [q, e8₇] at e; injection e with e; rw [← e] at ec; exact absurd ec (list_tup rfl)) e⟩⟩
            · have hlB : ∀ b, I + 1 ≤ b → b ≠ l := fun b hb q => by rw [q] at hb; exact absurd hlI (Nat.not_lt_of_lt hb)
              refine e7.snoc (fun b o hb e => s₈.extBut b o (hlB b hb) (up₇ b o (Nat.le_trans hIG (Nat.le_of_lt hb)) e)) hIlt c₇ gt₇ ht₇ ln₇ (TreeAt.foot t (fun b hb o e => s₈.extBut b o (fun q => ?_) e) T₇) new₇ nd₇
              have := new₇ b hb
              rw [q] at this
              exact absurd (Nat.lt_trans hlI hIlt) (Nat.not_lt_of_le this)
            · rw [List.mem_singleton.mp hb] at e ⊢
              exact s₈.extBut _ _ (Ne.symm (Nat.ne_of_lt hlI)) (up₇ _ _ hIG e)
        case behind =>
          rintro s' ⟨h₅, tk₅, ts, B, mk, kk, rfl, KS, GS₅, e8, hlen, F₅, hLB, hlB⟩
          clear F₄ N₄
          have hq0 : 0 ≤ Int.fmod (Int.fdiv num 2) 3 := Int.fmod_nonneg_of_pos _ (by decide)
          have hq3 : Int.fmod (Int.fdiv num 2) 3 < 3 := Int.fmod_lt_of_pos _ (by decide)
          have hlen3 : ts.length ≤ 3 ∧ ts.length ≠ 0 := by rw [hlen]; exact n3' (by assumption) (by assumption)
          have hGn : ∀ a ∈ [pool, starts, ends], G.get? a = none := fun a ha => hGG ▸ hideAll_none _ ha
          have hGL := F₅.above
          have N₅ : News G L' h₅ ((l, lobj (ts.map fun t => Value.ref t.addr) kk) :: rest G h₅ L') := news_rest (l := [(l, lobj (ts.map fun t => Value.ref t.addr) kk)]) fun q hq => by
            rw [List.mem_singleton.mp hq]
            exact ⟨e8, hlL, hlG⟩
          have kq : ∀ h' m' (l : List (Addr × Obj)), Fr G L' h' m' → News G L' h' l → (∀ p ∈ rest G h₅ L', p ∈ l) → ∀ b o, b ≠ L' → h₅.get? b = some o → h'.get? b = some o := fun h' m' l F' N' hl => rest_keep F₅ F' N' hl
          have ns₅ := F₅.ns
          have hps : ∀ a ∈ [pool, starts, ends], a < s.heap.objs.size := by
            intro a ha
            simp only [List.mem_cons, List.not_mem_nil, or_false] at ha
            rcases ha with rfl | rfl | rfl
            · obtain ⟨_, _, e, _⟩ := GS.pool; exact Heap.lt_size e
            · obtain ⟨_, _, e, _⟩ := GS.starts; exact Heap.lt_size e
            · obtain ⟨_, _, e, _⟩ := GS.ends; exact Heap.lt_size e
          cases plain with
          | true =>
            k_steps
            rename Fr _ _ _ _ => F₆
            rename News _ _ _ _ => N₆
            have kc := kq _ _ _ F₆ N₆ (fun _ hp => List.mem_cons_of_mem _ hp)
            have KS₆ := KS.mono fun b o hb e => kc b o (Nat.ne_of_gt (Nat.lt_of_lt_of_le hLB hb)) e
            have hdn : ∀ a ∈ ts.map Tr.dd, G.get? a = none := fun a ha => by
              obtain ⟨t, ht, rfl⟩ := List.mem_map.mp ha
              have h1 := KS.new _ (foot_mem ht _ (dd_foot t))
              cases q : G.get? t.dd with
              | none => rfl
              | some o => exact absurd (Nat.lt_of_lt_of_le (Nat.lt_of_lt_of_le (Heap.lt_size q) hGL) (Nat.le_of_lt hLB)) (Nat.not_lt_of_le h1)
            refine wpAny_call (make_node_plain hpr (hr.deeper (by exact deepk rfl)) (S.keeps (hide_sub F₆.keep hdn)) KS₆.tree ⟨_, N₆.get (List.mem_cons_self ..), rfl, _, rfl⟩ KS.nd (fun q => absurd hlB (Nat.not_lt_of_le (KS.new _ q))) fun h' tk' y y1 y2 y3 z1 z2 z3 k' TN => ?_)
            refine node_end hR tk' (fun b o hb e => F₆.keep b o (hGG ▸ hideAll_get _ e hb)) KS₆ ?_ (Nat.le_trans (Nat.le_of_eq hGs.symm) (Nat.le_trans hGL (Nat.le_of_lt hLB))) hlen3.1 (fun q => hlen3.2 (by rw [q]; rfl)) y1 (y3 ▸ by assumption) z1 z2 z3 (y2 ▸ ?_) (y2 ▸ Heap.lt_size (N₆.get (List.mem_cons_self ..))) (y2 ▸ hlB) (Nat.le_trans (Nat.le_of_eq hGs.symm) (Nat.le_trans hGL (Nat.le_of_lt F₆.ns.lt))) hps k' TN
            · obtain ⟨oL, es', ep', hL, hd, _⟩ := ns₅
              have kt : ∀ b o, h₅.get? b = some o → o.cls = .type "tuple" → (∃ its n, o.data = .seq its n) → Heap.get? _ b = some o := fun b o e _ hs => kc b o (fun q => by
                obtain ⟨its, n, hs⟩ := hs
                rw [q, hL] at e
                injection e with e
                rw [← e, hd] at hs
                cases hs) e
              obtain ⟨⟨a1, a2, a3, a4⟩, ⟨b1, b2, b3, b4⟩, ⟨c1, c2, c3, c4⟩⟩ := GS₅
              have hne : ∀ a ∈ [pool, starts, ends], a ≠ L' := fun a ha => Nat.ne_of_lt (Nat.lt_of_lt_of_le (hGs ▸ hps a ha) hGL)
              exact ⟨⟨a1, a2, kc _ _ (hne _ (by simp)) a3, a4⟩, ⟨b1, b2, kc _ _ (hne _ (by simp)) b3, b4.mono kt⟩, ⟨c1, c2, kc _ _ (hne _ (by simp)) c3, c4.mono kt⟩⟩
            · exact hl1
          | false =>
            k_steps
            rename Fr _ _ _ _ => F₆
            rename News _ _ _ _ => N₆
            have kc := kq _ _ _ F₆ N₆ (fun _ hp => List.mem_cons_of_mem _ hp)
            have KS₆ := KS.mono fun b o hb e => kc b o (Nat.ne_of_gt (Nat.lt_of_lt_of_le hLB hb)) e
            have hdn : ∀ a ∈ ts.map Tr.dd, G.get? a = none := fun a ha => by
              obtain ⟨t, ht, rfl⟩ := List.mem_map.mp ha
              have h1 := KS.new _ (foot_mem ht _ (dd_foot t))
              cases q : G.get? t.dd with
              | none => rfl
              | some o => exact absurd (Nat.lt_of_lt_of_le (Nat.lt_of_lt_of_le (Heap.lt_size q) hGL) (Nat.le_of_lt hLB)) (Nat.not_lt_of_le h1)
            refine wpAny_call (make_node_py hpr (hr.deeper (by exact deepk rfl)) (S.keeps (hide_sub F₆.keep hdn)) KS₆.tree ⟨_, N₆.get (List.mem_cons_self ..), rfl, _, rfl⟩ KS.nd (fun q => absurd hlB (Nat.not_lt_of_le (KS.new _ q))) fun h' tk' y y1 y2 y3 z1 z2 z3 k' TN => ?_)
            refine node_end hR tk' (fun b o hb e => F₆.keep b o (hGG ▸ hideAll_get _ e hb)) KS₆ ?_ (Nat.le_trans (Nat.le_of_eq hGs.symm) (Nat.le_trans hGL (Nat.le_of_lt hLB))) hlen3.1 (fun q => hlen3.2 (by rw [q]; rfl)) y1 (y3 ▸ by assumption) z1 z2 z3 (y2 ▸ ?_) (y2 ▸ Heap.lt_size (N₆.get (List.mem_cons_self ..))) (y2 ▸ hlB) (Nat.le_trans (Nat.le_of_eq hGs.symm) (Nat.le_trans hGL (Nat.le_of_lt F₆.ns.lt))) hps k' TN
            · obtain ⟨oL, es', ep', hL, hd, _⟩ := ns₅
              have kt : ∀ b o, h₅.get? b = some o → o.cls = .type "tuple" → (∃ its n, o.data = .seq its n) → Heap.get? _ b = some o := fun b o e _ hs => kc b o (fun q => by
                obtain ⟨its, n, hs⟩ := hs
                rw [q, hL] at e
                injection e with e
                rw [← e, hd] at hs
                cases hs) e
              obtain ⟨⟨a1, a2, a3, a4⟩, ⟨b1, b2, b3, b4⟩, ⟨c1, c2, c3, c4⟩⟩ := GS₅
              have hne : ∀ a ∈ [pool, starts, ends], a ≠ L' := fun a ha => Nat.ne_of_lt (Nat.lt_of_lt_of_le (hGs ▸ hps a ha) hGL)
              exact ⟨⟨a1, a2, kc _ _ (hne _ (by simp)) a3, a4⟩, ⟨b1, b2, kc _ _ (hne _ (by simp)) b3, b4.mono kt⟩, ⟨c1, c2, kc _ _ (hne _ (by simp)) c3, c4.mono kt⟩⟩
            · exact hl1
theorem grow_all {prog : Program} {w : World} (hpr : ProgOk prog) : ∀ n, GrowS prog w n := by
  intro n
  induction n with
  | zero => exact grow_all0 hpr 0 fun k e => by cases e
  | succ n ih => exact grow_all0 hpr (n + 1) fun k e => by cases e; exact ih

/-- these values are the lists of these rows -/
inductive RowsAt (n : Nat) (h : Heap) : List Value → List Row → Prop
  | nil : RowsAt n h [] []
  | cons {D : Addr} {r : Row} {vs : List Value} {R : List Row} : @LE.le Nat _ n D → (∃ t1 t2 t3, h.IsList D #[.ref r.t.addr, .int r.up t1, .int r.low t2, .int r.high t3]) → RowsAt n h vs R → RowsAt n h (.ref D :: vs) (r :: R)
theorem RowsAt.append {n : Nat} {h : Heap} {vs ws : List Value} {R S : List Row} (a : RowsAt n h vs R) (b : RowsAt n h ws S) : RowsAt n h (vs ++ ws) (R ++ S) := by
  induction a with
  | nil => exact b
  | cons x y _ ih => exact .cons x y ih
theorem RowsAt.mono {n n' : Nat} {h h' : Heap} {vs : List Value} {R : List Row} (a : RowsAt n h vs R) (hn : n' ≤ n) (k : ∀ b o, @LE.le Nat _ n b → h.get? b = some o → h'.get? b = some o) : RowsAt n' h' vs R := by
  induction a with
  | nil => exact .nil
  | cons x y _ ih => exact .cons (Nat.le_trans hn x) (let ⟨t1, t2, t3, l⟩ := y; ⟨t1, t2, t3, isList_at l fun o e => k _ o x e⟩) ih
theorem RowsAt.len {n : Nat} {h : Heap} {vs : List Value} {R : List Row} (a : RowsAt n h vs R) : vs.length = R.length := by
  induction a with
  | nil => rfl
  | cons _ _ _ ih => simp [ih]
theorem RowsAt.get {n : Nat} {h : Heap} {vs : List Value} {R : List Row} (a : RowsAt n h vs R) : ∀ {i : Nat} {r : Row}, R[i]? = some r → ∃ D t1 t2 t3, vs[i]? = some (.ref D) ∧ h.IsList D #[.ref r.t.addr, .int r.up t1, .int r.low t2, .int r.high t3] := by
  induction a with
  | nil => intro i r e; simp at e
  | cons x y _ ih =>
    intro i r e
    cases i with
    | zero => simp at e; subst e; obtain ⟨t1, t2, t3, l⟩ := y; exact ⟨_, t1, t2, t3, rfl, l⟩
    | succ i => simpa using ih (by simpa using e)
noncomputable abbrev lvals (xs : List LD) : List Value := xs.map fun x => Value.ref x.a
noncomputable def RowsR (R : Result → Shared → Prop) (s : Shared) (rows leaves : Addr) (vs ls : List Value) (t : Tr) (c : Ctx) (up : Int) : Prop :=
  ∀ h' tk vs' k1' k2', (∀ b o, b ∉ [rows, leaves] → s.heap.get? b = some o → h'.get? b = some o) → h'.get? rows = some (lobj (vs ++ vs') k1') → h'.get? leaves = some (lobj (ls ++ lvals t.leaves) k2') → RowsAt s.heap.objs.size h' vs' (rowsOf t c up vs.length ls.length) → R (.ok (.ret .none)) { s with heap := h', toks := tk }
noncomputable def RowsS (prog : Program) (w : World) (n : Nat) : Prop :=
  ∀ (A : Around) (s : Shared) (t : Tr) (par : Value) (c : Ctx) (up : Int) (tu : Tok) (rows leaves : Addr) (vs ls : List Value) (k1 k2 : Nat) (R : Result → Shared → Prop), Rm A (10 + 4 * n) → ht t ≤ n → @Ne Nat rows leaves → St w (hideAll s.heap [rows, leaves]) → TreeAt w.params (hideAll s.heap [rows, leaves]) t par →
    s.heap.get? rows = some (lobj vs k1) → s.heap.get? leaves = some (lobj ls k2) → vs.length + sizeT t ≤ 10000 → ls.length + t.leaves.length ≤ 10000 → RowsR R s rows leaves vs ls t c up →
    codeAny (model prog w) A (.call (.ref 461) ⟨[.ref t.addr, .int up tu, .ref rows, .ref leaves], []⟩) R s
theorem sizeT_pos (t : Tr) : 0 < sizeT t := by cases t <;> simp [sizeT]

theorem own_row {prog : Program} {w : World} {A : Around} {E : Value → Shared → Prop} {s : Shared} {g : Heap} {L l : Addr} {news : List (Addr × Obj)} {value slice : Expr} {u : Tok} {pre post : List Value} {v : Value} {n : Nat} {Q : Value → Shared → Prop} (N : News g L s.heap news) (hm : (l, W.listOf (pre ++ v :: post).toArray n) ∈ news) (hlen : pre.length ≤ 1000000) (h : Q v s)
    (hs : subscripted slice false (.ref l) (.int (pre.length : Int) u) = operate [.ref l, .int (pre.length : Int) u] (getItem (.ref l) (.int (pre.length : Int) u)) := by with_unfolding_all rfl) :
    wpAny (model prog w) A (subscriptTail value slice (.ref l) (.int (pre.length : Int) u)) Q E s := by
  have hl := news_list N hm
  refine tail_any hl.typeIs slot_list_getitem.lookup (wpAny_getItem_list hl (by omega) (by omega) (by simp) h) hs
theorem lines_W1_1 : True := by
  k_with_none
  k_with "newList" => ((k_dflt (refine' my_newList ?k1_853 ?k2_853 ?_; (case k1_853 => k_asm); (case k2_853 => k_asm); k_whole); intro _ _ _ _ x_l1 _; (try k_lt x_l1); (try k_sweep); (try (revert x_l1; intro _))))
  k_with "call ref" => (((with_reducible show wpAny _ _ (call (Value.ref 461) _ _) _ _ _); refine' stop_tree ?_))
  k_with "call builtin:len" => (((with_reducible show wpAny _ _ (call _ [Value.ref _]) _ _ _); (k_dflt (refine' my_len ?N_2a6 ?m_2a6 ?f_2a6 ?_; (case N_2a6 => k_asm); (case m_2a6 => k_mem); (case f_2a6 => first | assumption | omega); k_whole))))
  k_with "call builtin:isinstance" => (((k_dflt (first | (refine' isi_leaf_no ?F_4d6 ?X_4d6 ?T_4d6 ?_; (case F_4d6 => k_asm); (case X_4d6 => k_asm); (case T_4d6 => assumption); k_whole) | (refine' isi_node_yes ?F_4d6 ?X_4d6 ?T_4d6 ?_; (case F_4d6 => k_asm); (case X_4d6 => k_asm); (case T_4d6 => assumption); k_whole)))))
  k_with "getAttr ref" => (((with_reducible show wpAny _ _ (getAttr (Value.ref _) (PySem.Str.ofString "children") _) _ _ _); (k_dflt (refine' w_children ?F_c81 ?X_c81 ?T_c81 ?_; (case F_c81 => k_asm); (case X_c81 => k_asm); (case T_c81 => assumption); k_whole))))
  k_with "subscriptTail" => ((k_dflt (refine' own_row ?N_a72 ?m_a72 ?z_a72 ?_; (case N_a72 => k_asm); (case m_a72 => k_mem); (case z_a72 => omega); k_whole)))
  trivial

theorem dp4 (n : Nat) : 10 + 4 * n + 1 ≤ 14 + 4 * n := Nat.add_right_comm 10 (4 * n) 1 ▸ Nat.add_le_add_right (by decide) _
theorem dp5 (n : Nat) : 14 + 4 * n ≤ 10 + 4 * (n + 1) := by rw [Nat.mul_succ, Nat.add_comm (4 * n) 4, ← Nat.add_assoc]; exact Nat.le_refl _
theorem vl1 {v r z a k n : Nat} (h : v + (a + 1) ≤ k) (h2 : r + z ≤ a) (e : n = v + 1 + r) : n + z ≤ k := by omega
theorem ll1 {l r z a k n : Nat} (h : l + a ≤ k) (h2 : r + z ≤ a) (e : n = l + r) : n + z ≤ k := by omega
theorem rows_leaf {prog : Program} {w : World} {x : LD} {par : Value} {A : Around} {s : Shared} {c : Ctx} {up : Int} {tu : Tok} {rows leaves : Addr} {vs ls : List Value} {k1 k2 : Nat} {R : Result → Shared → Prop} (hr : Rm A 10) (ne : @Ne Nat rows leaves) (S : St w (hideAll s.heap [rows, leaves])) (T1 : LeafAt w.params (hideAll s.heap [rows, leaves]) x par)
    (h1 : s.heap.get? rows = some (lobj vs k1)) (h2 : s.heap.get? leaves = some (lobj ls k2)) (hv : vs.length ≤ 10000) (hl : ls.length ≤ 10000) (hR : RowsR R s rows leaves vs ls (.leaf x) c up) :
    codeAny (model prog w) A (.call (.ref 461) ⟨[.ref x.a, .int up tu, .ref rows, .ref leaves], []⟩) R s := by
  generalize hGG : hideAll s.heap [rows, leaves] = G at *
  have ⟨X, p', loose, mg, mb, T, _⟩ := S
  have hv1 : vs.length < 1000000 := Nat.lt_of_le_of_lt hv (by decide)
  have hl1 : ls.length < 1000000 := Nat.lt_of_le_of_lt hl (by decide)
  have hv2 : vs.length + 1 ≤ 1000000 := Nat.le_trans (Nat.succ_le_succ hv) (by decide)
  have hl2 : (ls ++ [Value.ref x.a]).length < 1000000 := by simp; omega
  refine' enterN [(rows, lobj vs k1), (leaves, lobj ls k2)] [(Str.ofString "one", .ref x.a), (Str.ofString "up", .int up tu), (Str.ofString "rows", .ref rows), (Str.ofString "leaves", .ref leaves)] (X.keeps fun _ _ e => of_hideAll _ (hGG ▸ e)) ((TopRead.nolimit T).keeps fun _ _ e => of_hideAll _ (hGG ▸ e)) ?kh ?k6 ?k7 ?k8 ?k9 ?kB ?c1 ?c2 ?c3 ?c4 ?_
  (case kh => intro p hp; simp at hp; rcases hp with rfl | rfl; exact h1; exact h2)
  (case k6 => k_is)
  (case k7 => k_is)
  (case k8 => exact hr.lt)
  (case k9 => exact BindsTo.of_eq rfl)
  (case kB => exact locs rfl)
  (case c1 => decide)
  (case c2 => rfl)
  (case c3 => rfl)
  (case c4 => rfl)
  intro L' h₁ tk F N
  try dsimp only
  dsimp only [List.map] at F N
  rw [hGG] at F N
  k_fold
  k_steps
  rename Fr _ _ _ _ => F₉
  rename News _ _ _ _ => N₉
  refine hR _ _ [_] _ (k2 + 1) (fun b o hb e => F₉.keep b o (hGG ▸ hideAll_get _ e hb)) (N₉.get (List.mem_cons_of_mem _ (List.mem_cons_self ..))) ?_ ?_
  · simp only [Tr.leaves, lvals, List.map]
    exact N₉.get (List.mem_cons_of_mem _ (List.mem_cons_of_mem _ (List.mem_cons_self ..)))
  · unfold rowsOf
    have hsz : s.heap.objs.size = G.objs.size := by rw [← hGG, hideAll_size]
    refine .cons ?_ ⟨_, _, _, _, N₉.get (List.mem_cons_self ..), rfl, _, by rw [List.length_append, List.length_singleton]; rfl⟩ .nil
    exact Nat.le_trans (Nat.le_of_eq hsz) (Nat.le_trans F₉.above (Nat.le_of_lt (by assumption)))
structure StopApp2 : Prop where
theorem lines_W1_2 : True := by
  k_with "exec For Name Attribute cons nil" => ((refine' stop_tree ?_))
  k_with "setItem ref int" => (((have _h : StopApp2 := by with_reducible assumption); refine' stop_tree ?_))
  trivial
theorem rows_node {prog : Program} {w : World} {n : Nat} (ih : RowsS prog w n) {x : ND} {ts : List Tr} {par : Value} {A : Around} {s : Shared} {c : Ctx} {up : Int} {tu : Tok} {rows leaves : Addr} {vs ls : List Value} {k1 k2 : Nat} {R : Result → Shared → Prop} (hr : Rm A (14 + 4 * n)) (hht : hts ts ≤ n) (ne : @Ne Nat rows leaves) (S : St w (hideAll s.heap [rows, leaves])) (T0 : TreeAt w.params (hideAll s.heap [rows, leaves]) (.node x ts) par)
    (h1 : s.heap.get? rows = some (lobj vs k1)) (h2 : s.heap.get? leaves = some (lobj ls k2)) (hv : vs.length + (sizeTs ts + 1) ≤ 10000) (hl : ls.length + (leavesL ts).length ≤ 10000) (hR : RowsR R s rows leaves vs ls (.node x ts) c up) :
    codeAny (model prog w) A (.call (.ref 461) ⟨[.ref x.a, .int up tu, .ref rows, .ref leaves], []⟩) R s := by
  generalize hGG : hideAll s.heap [rows, leaves] = G at *
  have ⟨X, p', loose, mg, mb, T, _⟩ := S
  unfold TreeAt at T0
  obtain ⟨T1, KK⟩ := T0
  have hv1 : vs.length < 1000000 := Nat.lt_of_le_of_lt (Nat.le_trans (Nat.le_add_right _ _) hv) (by decide)
  have hl1 : ls.length < 1000000 := Nat.lt_of_le_of_lt (Nat.le_trans (Nat.le_add_right _ _) hl) (by decide)
  have hv2 : vs.length + 1 ≤ 1000000 := Nat.le_trans (Nat.le_trans (Nat.add_le_add_left (Nat.le_add_left 1 _) _) hv) (by decide)
  refine' enterN [(rows, lobj vs k1), (leaves, lobj ls k2)] [(Str.ofString "one", .ref x.a), (Str.ofString "up", .int up tu), (Str.ofString "rows", .ref rows), (Str.ofString "leaves", .ref leaves)] (X.keeps fun _ _ e => of_hideAll _ (hGG ▸ e)) ((TopRead.nolimit T).keeps fun _ _ e => of_hideAll _ (hGG ▸ e)) ?kh ?k6 ?k7 ?k8 ?k9 ?kB ?c1 ?c2 ?c3 ?c4 ?_
  (case kh => intro p hp; simp at hp; rcases hp with rfl | rfl; exact h1; exact h2)
  (case k6 => k_is)
  (case k7 => k_is)
  (case k8 => exact hr.lt)
  (case k9 => exact BindsTo.of_eq rfl)
  (case kB => exact locs rfl)
  (case c1 => decide)
  (case c2 => rfl)
  (case c3 => rfl)
  (case c4 => rfl)
  intro L' h₁ tk F N
  try dsimp only
  dsimp only [List.map] at F N
  rw [hGG] at F N
  k_fold
  refine execs_stop ?_
  k_steps
  refine ⟨?_⟩
  refine execs_stop ?_
  k_steps
  refine ⟨?_⟩
  rename Fr _ _ _ _ => F₂
  rename News _ _ _ _ => N₂
  rename_i D _ hLD hlD _
  obtain ⟨tm, F₂⟩ : ∃ tm, Fr G L' _ (fun y => if y = Str.ofString "mine" then some (.int vs.length tm) else List.lookup y [(Str.ofString "one", Value.ref x.a), (Str.ofString "up", Value.int up tu), (Str.ofString "rows", Value.ref rows), (Str.ofString "leaves", Value.ref leaves)].reverse) := ⟨_, F₂⟩
  obtain ⟨td1, td2, N₂⟩ : ∃ t1 t2, News G L' _ [(D, W.listOf #[.ref x.a, .int up tu, .int ls.length t1, .int 0 t2] 0), (rows, W.listOf (vs.toArray.push (Value.ref D)) (k1 + 1)), (leaves, lobj ls k2)] := ⟨_, _, N₂⟩
  have hGs : G.objs.size = s.heap.objs.size := by rw [← hGG, hideAll_size]
  have hGL := F₂.above
  have hGn : ∀ a ∈ [rows, leaves], G.get? a = none := fun a ha => hGG ▸ hideAll_none _ ha
  have hrG : @LT.lt Nat _ rows G.objs.size := hGs ▸ Heap.lt_size h1
  have hlG : @LT.lt Nat _ leaves G.objs.size := hGs ▸ Heap.lt_size h2
  have hDn := (N₂ _ (List.mem_cons_self ..)).2.2
  refine execs_midO (fun s' => ∃ h tk vs' kr kl mc, s' = { s with heap := h, toks := tk } ∧ h.get? rows = some (lobj (vs ++ .ref D :: vs') kr) ∧ h.get? leaves = some (lobj (ls ++ lvals (leavesL ts)) kl) ∧ RowsAt (D + 1) h vs' (rowsL x c vs.length [] ts (vs.length + 1) ls.length) ∧
    h.get? D = some (W.listOf #[.ref x.a, .int up tu, .int ls.length td1, .int 0 td2] 0) ∧ Fr G L' h (fun y => if y = Str.ofString "child" then mc else if y = Str.ofString "mine" then some (.int vs.length tm) else List.lookup y [(Str.ofString "one", Value.ref x.a), (Str.ofString "up", Value.int up tu), (Str.ofString "rows", Value.ref rows), (Str.ofString "leaves", Value.ref leaves)].reverse)) ?loop ?behind
  case loop =>
    intro P' hP'
    k_steps
    refine ⟨for_h rfl rfl ?_ (fun _ => rfl)⟩
    k_steps
    refine ⟨fun _ => ?_⟩
    rename Fr _ _ _ _ => F₃
    rename News _ _ _ _ => N₃
    refine list_it (isList_keeps T1.list F₃.keep) fun h₅ I hI k₅ sz₅ it₅ => ?_
    dsimp only at k₅ hI ⊢
    have hLI : @LT.lt Nat _ L' I := hI ▸ F₃.ns.lt
    have hDI : @LT.lt Nat _ D I := hI ▸ Heap.lt_size (N₃.get (List.mem_cons_self ..))
    have hxl : @LT.lt Nat _ x.l G.objs.size := by obtain ⟨_, e, _⟩ := T1.list; exact Heap.lt_size e
    have hGb : ∀ b o, G.get? b = some o → b ≠ I ∧ b ≠ L' := fun b o e => by
      have := Heap.lt_size e
      exact ⟨fun q => by subst q; exact absurd (Nat.lt_of_lt_of_le this hGL) (Nat.not_lt_of_lt hLI), fun q => by subst q; exact absurd this (Nat.not_lt_of_le hGL)⟩
    obtain ⟨m0, hm0⟩ : ∃ m0 : Str → Option Value, m0 = (fun y => if y = Str.ofString "mine" then some (.int vs.length tm) else List.lookup y [(Str.ofString "one", Value.ref x.a), (Str.ofString "up", Value.int up tu), (Str.ofString "rows", Value.ref rows), (Str.ofString "leaves", Value.ref leaves)].reverse) := ⟨_, rfl⟩
    refine ⟨I, [x.l], (ts.map fun t => Value.ref t.addr).toArray.size, _, _, fun i m s' => ∃ vs' Rd kr kl, (s'.gens = s.gens ∧ s'.drawn = s.drawn ∧ s'.os = s.os) ∧ (∀ y, y ≠ Str.ofString "child" → m y = m0 y) ∧ (∀ b o, G.get? b = some o → s'.heap.get? b = some o) ∧
      s'.heap.get? rows = some (lobj (vs ++ .ref D :: vs') kr) ∧ s'.heap.get? leaves = some (lobj (ls ++ lvals (leavesL (ts.take i))) kl) ∧ RowsAt (I + 1) s'.heap vs' Rd ∧ s'.heap.get? D = some (W.listOf #[.ref x.a, .int up tu, .int ls.length td1, .int 0 td2] 0) ∧
      Rd ++ rowsL x c vs.length (ts.take i) (ts.drop i) (vs.length + 1 + Rd.length) (ls.length + (leavesL (ts.take i)).length) = rowsL x c vs.length [] ts (vs.length + 1) ls.length, m0, rfl,
      { W := Walks.list (hh_deeper hr) I x.l (Nat.ne_of_lt (Nat.lt_trans (Nat.lt_of_lt_of_le hxl hGL) hLI)) _, loc := ⟨Nat.ne_of_lt hLI, fun hm => by rw [← show L' = x.l from List.mem_singleton.mp hm] at hxl; exact absurd hxl (Nat.not_lt_of_le hGL)⟩, st := it₅, ns := hm0 ▸ F₃.ns.keeps k₅, j0 := ?j0, hJ := ?hJ, step := ?step, done := ?done }⟩
    case j0 =>
      refine ⟨[], [], k1 + 1, k2, ⟨rfl, rfl, rfl⟩, fun _ _ => rfl, fun b o e => k₅ b o (F₃.keep b o e), ?_, ?_, .nil, k₅ _ _ (N₃.get (List.mem_cons_self ..)), by simp [leavesL]⟩
      · have := k₅ _ _ (N₃.get (List.mem_cons_of_mem _ (List.mem_cons_self ..)))
        simpa using this
      · have := k₅ _ _ (N₃.get (List.mem_cons_of_mem _ (List.mem_cons_of_mem _ (List.mem_cons_self ..))))
        simpa [leavesL] using this
    case hJ =>
      rintro i m s' h tk htk hk ⟨vs', Rd, kr, kl, e1, e2, e3, e4, e5, e6, e7, e8⟩
      have f : ∀ a, a < G.objs.size → a ≠ I ∧ a ≠ L' := fun a ha => ⟨Nat.ne_of_lt (Nat.lt_trans (Nat.lt_of_lt_of_le ha hGL) hLI), Nat.ne_of_lt (Nat.lt_of_lt_of_le ha hGL)⟩
      exact ⟨vs', Rd, kr, kl, e1, e2, fun b o e => hk b o (hGb b o e).1 (hGb b o e).2 (e3 b o e), hk _ _ (f _ hrG).1 (f _ hrG).2 e4, hk _ _ (f _ hlG).1 (f _ hlG).2 e5,
        e6.mono (Nat.le_refl _) fun b o hb e => hk b o (Nat.ne_of_gt hb) (Nat.ne_of_gt (Nat.lt_of_lt_of_le (Nat.lt_succ_of_lt hLI) hb)) e, hk _ _ (Nat.ne_of_lt hDI) (Nat.ne_of_gt hLD) e7, e8⟩
    case done =>
      rintro m₁ ⟨h₆, g₆, d₆, t₆, o₆⟩ ⟨vs', Rd, kr, kl, ⟨r1, r2, r3⟩, e2, e3, e4, e5, e6, e7, e8⟩ hn
      dsimp only at r1 r2 r3
      subst r1 r2 r3
      k_steps
      have en : (ts.map fun t => Value.ref t.addr).toArray.size = ts.length := by simp
      rw [en] at e5 e8
      rw [List.take_length] at e5
      rw [List.drop_length, rowsL, List.append_nil] at e8
      refine Stop.imp (hP' _) ?_
      refine ⟨⟨h₆, t₆, vs', kr, kl, m₁ (Str.ofString "child"), rfl, e4, e5, e8 ▸ e6.mono (Nat.le_of_lt (Nat.succ_lt_succ hDI)) (fun _ _ _ e => e), e7, ⟨?_, e3, hGL⟩⟩⟩
      have : m₁ = (fun y => if y = Str.ofString "child" then m₁ (Str.ofString "child") else m0 y) := by
        funext y
        split
        · rename_i q; rw [q]
        · exact e2 y (by assumption)
      rw [this, hm0] at hn
      exact hn
    case step =>
      rintro i v m₁ ⟨h₆, g₆, d₆, t₆, o₆⟩ hi hv ⟨vs', Rd, kr, kl, ⟨r1, r2, r3⟩, e2, e3, e4, e5, e6, e7, e8⟩ hn hst
      dsimp only at r1 r2 r3 e3 e4 e5 e6 e7 hn hst
      subst r1 r2 r3
      have F₆ : Fr G L' h₆ (fun y => if y = Str.ofString "child" then some v else if y = Str.ofString "mine" then some (.int vs.length tm) else List.lookup y [(Str.ofString "one", Value.ref x.a), (Str.ofString "up", Value.int up tu), (Str.ofString "rows", Value.ref rows), (Str.ofString "leaves", Value.ref leaves)].reverse) := by
        refine ⟨?_, e3, hGL⟩
        have : (fun y => if y = Str.ofString "child" then some v else m₁ y) = (fun y => if y = Str.ofString "child" then some v else m0 y) := by
          funext y
          split
          · rfl
          · exact e2 y (by assumption)
        rw [this, hm0] at hn
        exact hn
      have N₆ : News G L' h₆ [] := News.nil
      obtain ⟨t, ht, rfl⟩ : ∃ t, ts[i]? = some t ∧ v = .ref t.addr := by
        simp at hv
        obtain ⟨t, e, q⟩ := hv
        exact ⟨t, e, q.symm⟩
      clear F₃ N₃ F₂ N₂
      k_steps
      have hlt : i < ts.length := by
        rcases Nat.lt_or_ge i ts.length with q | q
        · exact q
        · rw [List.getElem?_eq_none q] at ht; cases ht
      have hti : ts[i] = t := by
        rw [List.getElem?_eq_getElem hlt] at ht
        injection ht
      have hd : ts.drop i = t :: ts.drop (i + 1) := by rw [List.drop_eq_getElem_cons hlt, hti]
      have htk : ts.take (i + 1) = ts.take i ++ [t] := by rw [List.take_succ_eq_append_getElem hlt, hti]
      have hmem : t ∈ ts := List.mem_of_getElem? ht
      have T2 : TreeAt w.params G t (.ref x.a) := kid_at KK hmem
      have hvl := e6.len
      rw [hd, rowsL] at e8
      have hsz1 : Rd.length + sizeT t ≤ sizeTs ts := by
        have := congrArg List.length e8
        rw [List.length_append, List.length_append, rows_len, rowsL_len, rowsL_len] at this
        omega
      have hsz2 : (leavesL (ts.take i)).length + t.leaves.length ≤ (leavesL ts).length := by
        have : leavesL ts = leavesL (ts.take i) ++ (t.leaves ++ leavesL (ts.drop (i + 1))) := by
          have h0 : leavesL (ts.drop i) = t.leaves ++ leavesL (ts.drop (i + 1)) := by rw [hd, leavesL]
          rw [← h0, ← leavesL_append, List.take_append_drop]
        rw [this]; simp
      have q1 : (vs ++ Value.ref D :: vs').length = vs.length + 1 + Rd.length := by simp; omega
      have q2 : (ls ++ lvals (leavesL (ts.take i))).length = ls.length + (leavesL (ts.take i)).length := by simp
      have hIlt : @LT.lt Nat _ I h₆.objs.size := by obtain ⟨_, e, _⟩ := hst.1; exact Heap.lt_size e
      have hnot : ∀ b, G.objs.size ≤ b → b ∉ [rows, leaves] := fun b hb hm => by
        simp only [List.mem_cons, List.not_mem_nil, or_false] at hm
        rcases hm with rfl | rfl
        · exact absurd hrG (Nat.not_lt_of_le hb)
        · exact absurd hlG (Nat.not_lt_of_le hb)
      have hIG : @LE.le Nat _ G.objs.size I := Nat.le_of_lt (Nat.lt_of_le_of_lt hGL hLI)
      have hDG : @LE.le Nat _ G.objs.size D := Nat.le_of_lt (Nat.lt_of_le_of_lt hGL hLD)
      refine ⟨wpAny_call (ih _ _ t _ (⟨x, ts.take i, ts.drop (i + 1)⟩ :: c) _ tm rows leaves _ _ kr kl _ (hr.deeper (dp4 n)) (Nat.le_trans (ht_kid hmem) hht) ne (S.keeps (hide_sub F₆.keep hGn)) (T2.keeps (hide_sub F₆.keep hGn)) e4 e5 (vl1 (by assumption) hsz1 q1) (ll1 (by assumption) hsz2 q2) ?_)⟩
      intro h₇ tk₇ ws k1' k2' kk rr ll RA
      dsimp only at kk RA ⊢
      rw [q1, q2] at RA
      refine wpAny_execs_nil ⟨_, ⟨vs' ++ ws, Rd ++ rowsOf t (⟨x, ts.take i, ts.drop (i + 1)⟩ :: c) vs.length (vs.length + 1 + Rd.length) (ls.length + (leavesL (ts.take i)).length), k1', k2', ⟨rfl, rfl, rfl⟩, fun y hy => ?_, fun b o e => kk b o (fun hm => by rw [hGn b hm] at e; cases e) (e3 b o e), ?_, ?_, ?_, kk _ _ (hnot _ hDG) e7, ?_⟩, F₆.ns.at' fun o e => kk _ o (hnot _ hGL) e, ?_⟩
      · rw [hm0, if_neg hy]
      · simpa using rr
      · rw [htk, leavesL_append, leavesL_one]
        simpa using ll
      · exact (e6.mono (Nat.le_refl _) fun b o hb e => kk b o (hnot b (Nat.le_trans hIG (Nat.le_of_lt hb))) e).append (RA.mono hIlt fun _ _ _ e => e)
      · rw [htk, leavesL_append, leavesL_one, List.length_append, List.length_append, rows_len, List.append_assoc]
        simpa [Nat.add_assoc] using e8
      · intro b hb o e
        refine kk b o (fun hm => ?_) e
        simp only [List.mem_cons, List.not_mem_nil, or_false] at hb
        rcases hb with rfl | rfl
        · exact hnot _ hIG hm
        · obtain ⟨_, e', _⟩ := T1.list
          rw [hGn _ hm] at e'
          cases e'
  case behind =>
    rintro s' ⟨h₅, tk₅, vs', kr, kl, mc, rfl, e4, e5, e6, e7, F₅⟩
    clear F₂ N₂
    have N₅ : News G L' h₅ [(D, W.listOf #[.ref x.a, .int up tu, .int ls.length td1, .int 0 td2] 0), (rows, W.listOf (vs ++ .ref D :: vs').toArray kr), (leaves, lobj (ls ++ lvals (leavesL ts)) kl)] := by
      intro q hq
      simp only [List.mem_cons, List.not_mem_nil, or_false] at hq
      rcases hq with rfl | rfl | rfl
      · exact ⟨e7, Nat.ne_of_gt hLD, hDn⟩
      · exact ⟨e4, Nat.ne_of_lt (Nat.lt_of_lt_of_le hrG hGL), hGn _ (by simp)⟩
      · exact ⟨e5, Nat.ne_of_lt (Nat.lt_of_lt_of_le hlG hGL), hGn _ (by simp)⟩
    have hl9 : (ls ++ lvals (leavesL ts)).length < 1000000 := by simp; omega
    have mark : StopApp2 := ⟨⟩
    k_steps
    refine ⟨wpAny_setItem_list (items := #[.ref x.a, .int up tu, .int ls.length td1, .int 0 td2]) ⟨_, e7, rfl, 0, rfl⟩ (by decide) (by decide) (by show (3 : Int) < 4; decide) fun h₆ IL s₆ => wpAny_execs_nil ?_⟩
    have hDG : @LE.le Nat _ s.heap.objs.size D := Nat.le_trans (Nat.le_of_eq hGs.symm) (Nat.le_of_lt (Nat.lt_of_le_of_lt hGL hLD))
    have hne : ∀ b, b < G.objs.size → b ≠ D := fun b hb q => by subst q; exact absurd (Nat.lt_of_lt_of_le hb (hGs ▸ hDG)) (Nat.lt_irrefl _)
    refine hR h₆ _ (.ref D :: vs') kr kl (fun b o hb e => s₆.extBut b o (hne b (hGs ▸ Heap.lt_size e)) (F₅.keep b o (hGG ▸ hideAll_get _ e hb))) (s₆.extBut _ _ (hne _ hrG) e4) ?_ ?_
    · simp only [Tr.leaves]
      exact s₆.extBut _ _ (hne _ hlG) e5
    · unfold rowsOf
      refine .cons hDG ⟨tu, td1, tk₅ + 1, ?_⟩ (e6.mono (Nat.le_succ_of_le hDG) fun b o hb e => s₆.extBut b o (Nat.ne_of_gt hb) e)
      have e9 : ((ls ++ lvals (leavesL ts)).length : Int) = ((ls.length + (leavesL ts).length : Nat) : Int) := by simp
      show h₆.IsList D #[.ref x.a, .int up tu, .int (ls.length : Int) td1, .int ((ls.length + (leavesL ts).length : Nat) : Int) (tk₅ + 1)]
      rw [← e9]
      exact IL
theorem rows_all {prog : Program} {w : World} : ∀ n, RowsS prog w n := by
  have leaf : ∀ n, ∀ (A : Around) (s : Shared) (x : LD) (par : Value) (c : Ctx) (up : Int) (tu : Tok) (rows leaves : Addr) (vs ls : List Value) (k1 k2 : Nat) (R : Result → Shared → Prop), Rm A (10 + 4 * n) → @Ne Nat rows leaves → St w (hideAll s.heap [rows, leaves]) → TreeAt w.params (hideAll s.heap [rows, leaves]) (.leaf x) par →
    s.heap.get? rows = some (lobj vs k1) → s.heap.get? leaves = some (lobj ls k2) → vs.length + sizeT (.leaf x) ≤ 10000 → ls.length + (Tr.leaf x).leaves.length ≤ 10000 → RowsR R s rows leaves vs ls (.leaf x) c up →
    codeAny (model prog w) A (.call (.ref 461) ⟨[.ref (Tr.leaf x).addr, .int up tu, .ref rows, .ref leaves], []⟩) R s := by
    intro n A s x par c up tu rows leaves vs ls k1 k2 R hr ne S T h1 h2 z1 z2 hR
    unfold TreeAt at T
    exact rows_leaf (hr.mono (Nat.le_add_right _ _)) ne S T h1 h2 (Nat.le_trans (Nat.le_add_right _ _) z1) (Nat.le_trans (Nat.le_add_right _ _) z2) hR
  intro n
  induction n with
  | zero =>
    intro A s t par c up tu rows leaves vs ls k1 k2 R hr hh ne S T h1 h2 z1 z2 hR
    cases t with
    | leaf x => exact leaf 0 A s x par c up tu rows leaves vs ls k1 k2 R hr ne S T h1 h2 z1 z2 hR
    | node x ts => rw [ht] at hh; omega
  | succ n ih =>
    intro A s t par c up tu rows leaves vs ls k1 k2 R hr hh ne S T h1 h2 z1 z2 hR
    cases t with
    | leaf x => exact leaf (n + 1) A s x par c up tu rows leaves vs ls k1 k2 R hr ne S T h1 h2 z1 z2 hR
    | node x ts =>
      rw [ht] at hh
      rw [sizeT] at z1
      rw [Tr.leaves] at z2
      exact rows_node ih (hr.mono (dp5 n)) (Nat.le_of_succ_le_succ hh) ne S T h1 h2 (by omega) z2 hR

theorem lines_N1_1 : True := by
  k_with_none
  k_with "getAttr ref" => (((with_reducible show wpAny _ _ (getAttr (Value.ref _) (PySem.Str.ofString "children") _) _ _ _); (k_dflt (refine' w_children ?F_c81 ?X_c81 ?T_c81 ?_; (case F_c81 => k_asm); (case X_c81 => k_asm); (case T_c81 => assumption); k_whole))))
  k_with "getAttr ref" => (((with_reducible show wpAny _ _ (getAttr (Value.ref _) (PySem.Str.ofString "parent") _) _ _ _); (k_dflt (refine' w_parent ?P_4de ?F_4de ?X_4de ?T_4de ?_; (case F_4de => k_asm); (case X_4de => k_asm); (case T_4de => assumption); (case P_4de => first | rfl | exact parV_handed _); k_whole))))
  k_with "exec For Tuple Call" => (((with_reducible show wpAny _ _ (exec (Stmt.For (Expr.Tuple _ _ _) (Expr.Call (Expr.Name (Str.ofString "enumerate") _) _ _ _) _ _ _) _) _ _ _); (k_dflt (refine' For_pair3F ?F_3ec ?hh_3ec ?xi_3ec ?xc_3ec ?hp_3ec ?_ ?hs_3ec; (case F_3ec => k_asm); (case hh_3ec => exact hh_deeper (by assumption)); (case xi_3ec => rfl); (case xc_3ec => rfl); (case hp_3ec => rfl); (case hs_3ec => intro _; rfl); k_whole))))
  k_with "call type:enumerate" => (((k_dflt (refine' my_enum ?hh_6cb ?hl_6cb ?F_6cb ?N_6cb ?_; (case F_6cb => k_asm); (case N_6cb => k_asm); (case hh_6cb => exact hh_deeper (by assumption)); (case hl_6cb => assumption); k_whole; intro _ _ _ _ _))))
  k_with "compareOp Is ref ref" => (((k_dflt (refine' is_trees ?F_f4a ?Ta_f4a ?Tb_f4a ?ne_f4a ?_; (case F_f4a => k_asm); (case Ta_f4a => assumption); (case Tb_f4a => assumption); (case ne_f4a => assumption); k_whole))))
  k_with "subscriptTail" => (((with_reducible show wpAny _ _ (subscriptTail _ _ (Value.ref _) (Value.int _ _)) _ _ _); (k_dflt (refine' l_item ?F_d25 ?T_d25 ?V_d25 ?Z_d25 ?Y_d25 ?_; (case F_d25 => k_asm); (case T_d25 => assumption); (case V_d25 => assumption); (case Z_d25 => first | assumption | omega); (case Y_d25 => first | assumption | omega); k_whole))))
  trivial

theorem enterO {prog : Program} {w : World} {A : Around} {s : Shared} {K : Frag} {R : Result → Shared → Prop} {name qual : Str} {params : Arguments} {body : List Stmt} {scope : Scope} {dV kV doc pm cdv ct oc : Value} {an od : Option Addr} {osl : Array (Option Value)} {f : Addr} {args : Args} (hide : List (Addr × Obj)) (binds : List (Str × Value))
    (X : K.In s.heap) (hlim : s.heap.NoLimit) (hh : ∀ p ∈ hide, s.heap.get? p.1 = some p.2)
    (ho : K.lookup f = some ⟨oc, od, .func (fnX name qual params body scope [] dV kV doc pm an cdv ct), osl⟩) (hcd : codeIn K cdv qual = true) (hroom : A.depth < recursionLimit)
    (hbind : BindsTo s (fnX name qual params body scope [] dV kV doc pm an cdv ct) args binds) (hloc : ∀ y ∈ binds, scope.names.lookup y.1 = some .local)
    (hcell : ∀ x ∈ scope.names, x.2 ≠ .cell) (hco : scope.isCoroutine = false) (hgen : scope.isGenerator = false) (hk : scope.kind = .function)
    (h : ∀ L' h₁ tk, Fr (hideAll s.heap (hide.map (·.1))) L' h₁ (fun y => binds.reverse.lookup y) → News (hideAll s.heap (hide.map (·.1))) L' h₁ hide →
      wpAny (model prog w) (A.deeper (envOf qual scope L' f cdv)) (execs body (envOf qual scope L' f cdv))
        (fun fl s' => R (.ok (.ret (match fl with | .ret v => v | _ => .none))) s') (fun _ _ => False) { s with heap := h₁, toks := tk }) :
    codeAny (model prog w) A (.call (.ref f) args) R s := enterN hide binds X hlim hh ho hcd hroom hbind hloc hcell hco hgen hk h
theorem sub_out {prog : Program} {w : World} {A : Around} {E : Value → Shared → Prop} {s : Shared} {Q : Value → Shared → Prop} {g : Heap} {L : Addr} {m : Str → Option Value} {l : Addr} {vs : List Value} {i : Int} {u : Tok} {value slice : Expr} (hA : A.handled = none) (F : Fr g L s.heap m) (T : g.IsList l vs.toArray) (hout : (vs.length : Int) ≤ i) (hlen : i ≤ 1000000)
    (hE : ∀ h' tk e, Heap.NewExc s.heap h' e "IndexError" → E (.ref e) { s with heap := h', toks := tk })
    (hs : subscripted slice false (.ref l) (.int i u) = operate [.ref l, .int i u] (getItem (.ref l) (.int i u)) := by with_unfolding_all rfl) :
    wpAny (model prog w) A (subscriptTail value slice (.ref l) (.int i u)) Q E s :=
  item_outK hA (isList_keeps T F.keep) (.inr (by simpa using hout)) (by omega) (by omega) hE hs
section
variable {prog : Program} {w : World} {A₀ : Around} {E : Value → Shared → Prop} {s' : Shared} {h₀ : Heap} {L a e : Addr} {m mg mb : Str → Option Value} {name : Str} {scope : Scope} {cd : Value} {news : List (Addr × Obj)}
  {b₀ : Stmt} {suite : List Stmt} {pos np : Pos} {rest : List ExceptHandler} {Q : Flow → Shared → Prop} {p : Program} {loose : List Str} {fl : Value}
theorem clause_here (H : TT.HeldNA h₀ L s'.heap m e "IndexError" news fl) (X : (hd.heap_1 w.params).In h₀) (T : TopRead p loose mg mb h₀)
    (k : ∀ h', Fr h₀ L h' m → News h₀ L h' news → wpAny (model prog w) ((A₀.deeper (envOf name scope L a cd)).mark (some (.ref e))) (execs (b₀ :: suite) (envOf name scope L a cd)) Q E { s' with heap := h' })
    (hk : scope.kind = .function := by rfl) (hxk : (envOf name scope L a cd).kindOf (Str.ofString "IndexError") = some .globalImplicit := by rfl)
    (hE : PassesOwnAt (model prog w) ((A₀.deeper (envOf name scope L a cd)).mark (some (.ref e))) (A₀.deeper (envOf name scope L a cd)) (envOf name scope L a cd) E := by passes_own) :
    wpAny (model prog w) (A₀.deeper (envOf name scope L a cd)) (handleBy (.ref e) (envOf name scope L a cd) (.ExceptHandler (some (.Name (Str.ofString "IndexError") np)) none (b₀ :: suite) pos :: rest)) Q E s' := by
  refine wpAny_handleBy_builtin (X := "IndexError") (T := "IndexError") (b := true) PySem.F.isExc_IndexError PySem.F.notTuple_IndexError (by rw [isSubtype_type]; kernel_rfl) (wpAny_passesOwnAt hE (name_B H.held.fr X T (by kernel_rfl!) PyProof.Rows.Boot.«IndexError» (by decide) ⟨rfl, H.isA, ?_⟩ hk hxk (by decide)))
  rw [if_pos rfl]
  exact H.lands fun h' F' N' => wpAny_passesOwnAt hE (k h' F' N')
end
theorem next_sib {prog : Program} {w : World} {t : Tr} {u : Up} {up : Ctx} {A : Around} {s : Shared} {L₀ : Addr} {oL : Obj} {envL : Env} (hr : Rm A 4) (hfr : A.frames = some [envL]) (Fs : TI.Frs [envL] [(L₀, oL)]) (hL : s.heap.get? L₀ = some oL) (S : St w (hideAll s.heap [L₀])) (TT : TreeAt w.params (hideAll s.heap [L₀]) (plug t (u :: up)) .none) (nd : (plug t (u :: up)).addrs.Nodup) (hlen : u.ls.length + u.rs.length ≤ 1000)
    {R : Result → Shared → Prop} (hR : ∀ h' tk sl, (∀ b o, b ≠ L₀ → s.heap.get? b = some o → h'.get? b = some o) → h'.get? L₀ = some { oL with slots := sl } → R (.ok (.ret (match u.rs.head? with | none => .none | some b => .ref b.addr))) { s with heap := h', toks := tk }) :
    codeAny (model prog w) A (.call (.ref 73) ⟨[.ref t.addr], []⟩) R s := by
  generalize hGG : hideAll s.heap [L₀] = G at *
  have ⟨X, p, loose, mg, mb, T, _⟩ := S
  have T0 := ctx_tree _ _ TT
  have T1 := ctx_node TT
  have ⟨n1, n2⟩ := sib_apart nd
  have TL := T1.list
  have KK := ctx_up TT
  unfold TreeAt at KK
  replace KK := KK.2
  unfold parV at T0
  refine' enterO [(L₀, oL)] [(Str.ofString "self", .ref t.addr)] (X.keeps fun _ _ e => of_hideAll _ (hGG ▸ e)) ((TopRead.nolimit T).keeps fun _ _ e => of_hideAll _ (hGG ▸ e)) ?kh ?k6 ?k7 ?k8 ?k9 ?kB ?c1 ?c2 ?c3 ?c4 ?_
  (case kh => intro p hp; rw [List.mem_singleton.mp hp]; exact hL)
  (case k6 => k_is)
  (case k7 => k_is)
  (case k8 => exact hr.lt)
  (case k9 => exact BindsTo.of_eq rfl)
  (case kB => exact locs rfl)
  (case c1 => decide)
  (case c2 => rfl)
  (case c3 => rfl)
  (case c4 => rfl)
  intro L' h₁ tk F N
  try dsimp only
  dsimp only [List.map] at F N
  rw [hGG] at F N
  k_fold
  k_steps
  refine enum_src (k := u.ls.length) (PairSrcL.at (by assumption) _ rfl) (by simp) ?_ ?_
  · intro i v tv hp tkp own hi hv F N
    obtain ⟨b, hb, rfl⟩ := (kids_get hv).1 hi
    have hne := n1 b hb
    have Tb := kid_at KK (t := b) (by simp [hb])
    dsimp only [bind2] at F
    k_steps
    all_goals assumption
  · intro v tv hp tkp own hv F N
    have e := (kids_get hv).2 rfl
    subst e
    dsimp only [bind2] at F
    have hll : (u.ls.map (fun t => Value.ref t.addr) ++ Value.ref t.addr :: u.rs.map (fun t => Value.ref t.addr)).length ≤ 1000000 := by simp; omega
    cases hgl : u.rs with
    | nil =>
      k_steps
      refine sub_out (hh_deeper hr) (by assumption) TL (by rw [hgl]; simp) (by omega) fun h₄ tk₄ e hx => ?_
      have N' : News G L' hp ([] ++ [(L₀, oL)]) := fun p hp => N p (List.mem_append_right _ hp)
      refine TLg.noted_new1 (new := []) hfr Fs hx F N' True.intro fun h₅ sl Fs' H => ?_
      refine PyProof.Rows.TT.HeldNA.land H fun h₆ H₆ => ?_
      refine clause_here H₆ X T fun h₇ F₇ N₇ => ?_
      clear F N N'
      k_steps
      rw [hgl] at hR
      exact hR _ _ sl (fun b o hb e => F₇.keep b o (hGG ▸ hideAll_get _ e (by simpa using hb))) (N₇ _ (List.mem_singleton.mpr rfl)).1
    | cons b r =>
      have hb : (u.ls.map (fun t => Value.ref t.addr) ++ Value.ref t.addr :: u.rs.map (fun t => Value.ref t.addr))[((u.ls.length : Int) + 1).toNat]? = some (.ref b.addr) := by
        have e : ((u.ls.length : Int) + 1).toNat = u.ls.length + 1 := by omega
        rw [e, List.getElem?_append_right (by simp), hgl]
        simp
      have h0 : (0 : Int) ≤ (u.ls.length : Int) + 1 := by omega
      k_steps
      rename Fr _ _ _ _ => F₉
      rename News _ _ _ _ => N₉
      have h9 := (N₉ (L₀, oL) (List.mem_append_right _ (List.mem_singleton.mpr rfl))).1
      rw [hgl] at hR
      exact hR _ _ oL.slots (fun b o hb e => F₉.keep b o (hGG ▸ hideAll_get _ e (by simpa using hb))) h9

section
variable {prog : Program} {w : World} {A : Around} {E : Value → Shared → Prop} {s : Shared}
theorem lri_no_len : typeLookup (.type "list_reverseiterator") "__len__" = pure none := by rw [typeLookup_type, builtinLookup_eq_fast]; kernel_rfl
theorem lri_has_hint : typeLookup (.type "list_reverseiterator") "__length_hint__" = pure (some (.builtin "list_reverseiterator.__length_hint__")) := by rw [typeLookup_type, builtinLookup_eq_fast]; kernel_rfl
theorem lri_hint {a : Addr} {Q : Bool → Shared → Prop} (hT : s.TypeIs (.ref a) "list_reverseiterator") (h : Q false s) : wpAny (model prog w) A (Builtin.List.listLengthHint (.ref a)) Q E s := by
  unfold Builtin.List.listLengthHint
  refine wpAny_bind (wpAny_specialOf hT lri_no_len ?_)
  show wpAny _ A (specialOf (Value.ref a) (Str.ofString "__length_hint__") >>= _) _ _ _
  refine wpAny_bind (wpAny_specialOf hT lri_has_hint ?_)
  generalize hid : ("list_reverseiterator.__length_hint__" : String) = id0
  wp_delta
  rw [show splitId id0 = some ("list_reverseiterator", "__length_hint__") from by subst hid; decide +kernel]
  subst hid
  refine wpAny_bind (wpAny_isInstance (T := "list_reverseiterator") (b := true) hT (by rw [isSubtype_type]; kernel_rfl) ?_)
  refine wpAny_ite_split (fun hab => absurd hab (by decide)) (fun _ => ?_)
  refine wpAny_ite_split (fun _ => ?_) (fun hab => absurd (by decide +kernel) hab)
  refine wpAny_ite_split (fun hab => absurd hab (by decide +kernel)) (fun _ => ?_)
  exact wpAny_pure h
theorem list_rev {a l : Addr} {vs : List Value} {Q : Value → Shared → Prop} (hh : A.handled = none) (hit : s.heap.IsRevIter a l ((vs.length : Int) - 1)) (hl : s.heap.IsList l vs.toArray) (hla : l ≠ a) (hn : vs.length ≤ 1000)
    (hQ : ∀ h' tk (ws : List Value) c, (∀ b o, b ≠ a → s.heap.get? b = some o → h'.get? b = some o) → h'.get? s.heap.objs.size = some (W.listOf ws.toArray c) → ws.length = vs.length → (∀ v ∈ ws, v ∈ vs) → Q (.ref s.heap.objs.size) { s with heap := h', toks := tk }) :
    wpAny (model prog w) A (call (.type "list") [.ref a]) Q E s := by
  have hn' : vs.toArray.size ≤ sizeLine := by
    have : 1000 ≤ sizeLine := by decide
    simp; omega
  have W := (Walks.listRev (prog := prog) (w := w) (A := A.in1.in1) hh a l hla vs.toArray).toS
  have hTy : ∀ s' : Shared, (0 ≤ vs.toArray.size ∧ s'.heap.IsRevIter a l ((vs.toArray.size : Int) - 1 - ((0 : Nat) : Int)) ∧ s'.heap.IsList l vs.toArray) → s'.TypeIs (.ref a) "list_reverseiterator" := fun s' x => x.2.1.typeIs
  have st0 : (0 ≤ vs.toArray.size ∧ s.heap.IsRevIter a l ((vs.toArray.size : Int) - 1 - ((0 : Nat) : Int)) ∧ s.heap.IsList l vs.toArray) := ⟨Nat.zero_le _, by
    have e : (vs.toArray.size : Int) - 1 - ((0 : Nat) : Int) = (vs.length : Int) - 1 := by simp
    rw [e]; exact hit, hl⟩
  generalize hS0 : s.heap.objs.size = S at hQ ⊢
  have hSf : S ∉ [a, l] := by
    simp only [List.mem_cons, List.not_mem_nil, or_false, not_or]
    obtain ⟨_, e1, _⟩ := hit
    obtain ⟨_, e2, _⟩ := hl
    exact ⟨hS0 ▸ (Nat.ne_of_gt (Heap.lt_size e1)), hS0 ▸ (Nat.ne_of_gt (Heap.lt_size e2))⟩
  have frame : ∀ h h' : Heap, (0 ≤ vs.toArray.size ∧ h.IsRevIter a l ((vs.toArray.size : Int) - 1 - ((0 : Nat) : Int)) ∧ h.IsList l vs.toArray) → (∀ b, b ≠ S → ∀ o, h.get? b = some o → h'.get? b = some o) → (0 ≤ vs.toArray.size ∧ h'.IsRevIter a l ((vs.toArray.size : Int) - 1 - ((0 : Nat) : Int)) ∧ h'.IsList l vs.toArray) := fun h h' x k =>
    ⟨x.1, x.2.1.at fun o e => k a (fun q => hSf (by simp [q])) o e, x.2.2.at fun o e => k l (fun q => hSf (by simp [q])) o e⟩
  refine callType_codes (Q₁ := fun obj s₁ => obj = .ref S ∧ s₁ = { s with heap := s.heap.push { cls := .type "list", data := .seq #[] } }) PySem.F.called_list (PySem.F.typeCall_list_1 _) PySem.F.entry_list_init
    (code_list_new _ ⟨by rw [hS0], rfl⟩) fun obj s₁ h₁ => ?_
  obtain ⟨rfl, rfl⟩ := h₁
  have k1 : ∀ b o, s.heap.get? b = some o → (s.heap.push { cls := .type "list", data := .seq #[] }).get? b = some o := fun b o e => Heap.get?_push_of_some _ e
  have hS : (s.heap.push { cls := .type "list", data := .seq #[] }).get? S = some { cls := .type "list", data := .seq #[] } := hS0 ▸ Heap.get?_push_size _ rfl
  have st1 := frame _ _ st0 fun b _ o e => k1 b o e
  generalize (s.heap.push { cls := .type "list", data := .seq #[] }) = H1 at k1 hS st1 ⊢
  refine ⟨⟨_, hS, rfl⟩, PySem.F.args_list_init_2 _ _, ?_⟩
  show wpAny _ A.in1.in1 (do let old ← Builtin.List.listItems (.ref S); Builtin.List.listUpdate (.ref S) (fun _ => #[]); letGo old.toList.reverse; Builtin.List.listExtendWith (.ref S) (.ref a) .none) _ _ _
  refine wpAny_bind ?_
  unfold Builtin.List.listItems
  refine wpAny_bind (wpAny_seqItems hS rfl (wpAny_pure ?_))
  show wpAny _ A.in1.in1 (updateSeq S (fun _ => #[]) >>= fun _ => letGo (#[] : Array Value).toList.reverse >>= fun _ => Builtin.List.listExtendWith (.ref S) (.ref a) .none) _ _ _
  refine wpAny_bind (wpAny_updateSeq hS rfl ?_)
  have hS₂ := Heap.get?_update_self (Obj.mapSeq (fun _ => (#[] : Array Value))) hS rfl
  have k2 : ∀ b o, b ≠ S → H1.get? b = some o → (H1.update S (Obj.mapSeq (fun _ => (#[] : Array Value)))).get? b = some o := fun b o hb e => (Heap.get?_update_other _ _ (Ne.symm hb)).trans e
  have st2 := frame _ _ st1 fun b hb o e => k2 b o hb e
  generalize (H1.update S (Obj.mapSeq (fun _ => (#[] : Array Value)))) = H2 at hS₂ k2 st2 ⊢
  refine wpAny_bind (wpAny_letGo ?_)
  unfold Builtin.List.listExtendWith
  refine wpAny_bind (wpAny_typeOf st2.2.1.typeIs ?_)
  have g1 : Builtin.List.listSameRef (.ref S) (.ref a) = false := by
    simp only [Builtin.List.listSameRef, beq_eq_false_iff_ne]
    exact fun q => hSf (by simp [q])
  have g2 : (Value.type "list_reverseiterator" == Value.type "list") = false := by decide
  have g3 : (Value.type "list_reverseiterator" == Value.type "tuple") = false := by decide
  simp only [g1, g2, g3, Bool.or_false, Bool.false_eq_true, if_false]
  refine wpAny_bind (wpAny_pyIter_revIter st2.2.1 ?_)
  refine wpAny_bind (wpAny_holding (lri_hint st2.2.1.typeIs ?_))
  refine wpAny_ite_split (fun hab => absurd hab (by decide +kernel)) (fun _ => ?_)
  refine wpAny_pure ⟨plainId_quiet PySem.F.plain_extend_loop _, codeAny_extend_loopS W hn' _ hSf _ _ 0 _ _ _ rfl (Nat.zero_le _) st2 hS₂ (ItemsOf.nil _) fun s' acc' c' hm hS' hacc => ?_⟩
  rw [Moved.eq_with hm]
  refine ⟨rfl, ?_⟩
  refine hQ s'.heap s'.toks acc'.toList c' (fun b o hb e => ?_) (by simpa using hS') (by simpa using hacc.1) fun v hv => ?_
  · have hbS : b ≠ S := fun q => by rw [q] at e; exact absurd (Heap.lt_size e) (by rw [hS0]; exact Nat.lt_irrefl _)
    exact hm.heap b o (by simp [hbS, hb]) (k2 b o hbS (k1 b o e))
  · obtain ⟨j, hj, e⟩ := List.getElem_of_mem hv
    have := hacc.2 j v (by rw [← Array.getElem?_toList, List.getElem?_eq_getElem hj, e])
    dsimp only at this
    rw [List.getElem?_toArray] at this
    exact List.mem_of_getElem? this
end

/-- all that stands, but the base and these -/
noncomputable def restX (X : List Addr) (G h : Heap) : List (Addr × Obj) := (List.range h.objs.size).filterMap fun a => if a ∈ X ∨ (G.get? a).isSome = true then none else (h.get? a).map fun o => (a, o)
theorem restX_mem {X : List Addr} {G h : Heap} {p : Addr × Obj} : p ∈ restX X G h ↔ p.1 ∉ X ∧ G.get? p.1 = none ∧ h.get? p.1 = some p.2 := by
  unfold restX
  simp only [List.mem_filterMap, List.mem_range]
  constructor
  · rintro ⟨a, ha, e⟩
    split at e
    · cases e
    · rename_i hn
      rw [Option.map_eq_some_iff] at e
      obtain ⟨o, h1, rfl⟩ := e
      exact ⟨fun q => hn (.inl q), Option.not_isSome_iff_eq_none.mp fun q => hn (.inr q), h1⟩
  · rintro ⟨h1, h2, h3⟩
    refine ⟨p.1, Heap.lt_size h3, ?_⟩
    rw [if_neg (by rw [h2]; simp [h1]), h3]; rfl
theorem restX_ne {X : List Addr} {G h : Heap} {a : Addr} (ha : a ∈ X) : ∀ p ∈ restX X G h, p.1 ≠ a := fun p hp q => (restX_mem.mp hp).1 (q ▸ ha)
theorem news_restX {X : List Addr} {G h : Heap} {L : Addr} {l : List (Addr × Obj)} (N : News G L h l) (hL : L ∈ X) : News G L h (l ++ restX X G h) := fun p hp => by
  rcases List.mem_append.mp hp with hp | hp
  · exact N p hp
  · obtain ⟨a, b, c⟩ := restX_mem.mp hp
    exact ⟨c, fun q => a (q ▸ hL), b⟩
theorem restX_keep {X : List Addr} {G h h' : Heap} {L : Addr} {m m' : Str → Option Value} {l : List (Addr × Obj)} (F : Fr G L h m) (F' : Fr G L h' m') (N' : News G L h' l) (hl : ∀ p ∈ restX X G h, p ∈ l) : ∀ b o, b ∉ X → h.get? b = some o → h'.get? b = some o := fun b o hb e => by
  cases q : G.get? b with
  | none => exact (N' (b, o) (hl _ (restX_mem.mpr ⟨hb, q, e⟩))).1
  | some o' =>
    have := F.keep b o' q
    rw [e] at this
    rw [this]
    exact F'.keep b o' q
theorem fr_hid {h h' : Heap} {L : Addr} {m : Str → Option Value} (F : Fr h L h' m) : Fr (hid h) L h' m := ⟨F.ns, fun b o e => F.keep b o (hid_of e), by rw [show (hid h).objs.size = h.objs.size from hideAll_size _ _]; exact F.above⟩
theorem hid_none {h : Heap} {b : Addr} (e : h.get? b = none) : (hid h).get? b = none := by
  cases q : (hid h).get? b with
  | none => rfl
  | some o => rw [hid_of q] at e; cases e
theorem news_hid {h h' : Heap} {L : Addr} {l : List (Addr × Obj)} (N : News h L h' l) : News (hid h) L h' l := fun p hp => ⟨(N p hp).1, (N p hp).2.1, hid_none (N p hp).2.2⟩
theorem Gst.keepX {h h' : Heap} {X : List Addr} {pool starts ends : Addr} {qs qe : List (Int × Int)} (g : Gst h pool starts ends qs qe) (off : ∀ a ∈ X, ∀ o, h.get? a = some o → ∀ its n, o.data ≠ .seq its n) (k : ∀ b o, b ∉ X → h.get? b = some o → h'.get? b = some o) : Gst h' pool starts ends qs qe :=
  (g.hid off).keeps fun b o e => k b o (fun hm => by rw [hideAll_none _ hm] at e; cases e) (of_hideAll _ e)
/-- the frame and its cells are no lists and no tuples -/
theorem off_frame {h : Heap} {L a b : Addr} {m : Str → Option Value} {oa ob : Obj} {va vb : Option Value} (ns : h.Ns L m) (ea : h.get? a = some oa) (eb : h.get? b = some ob) (da : oa.data = .cell va) (db : ob.data = .cell vb) : ∀ c ∈ [L, a, b], ∀ o, h.get? c = some o → ∀ its n, o.data ≠ .seq its n := by
  obtain ⟨oL, es, ep, hL, hd, _⟩ := ns
  intro c hc o e its n q
  simp only [List.mem_cons, List.not_mem_nil, or_false] at hc
  rcases hc with rfl | rfl | rfl
  · rw [hL] at e; injection e with e; rw [← e, hd] at q; cases q
  · rw [ea] at e; injection e with e; rw [← e, da] at q; cases q
  · rw [eb] at e; injection e with e; rw [← e, db] at q; cases q
theorem allLt_mem {d : Addr} : ∀ {l : List (Addr × Obj)}, AllLt d l → ∀ p ∈ l, @LT.lt Nat _ p.1 d
  | [], _, _, h => nomatch h
  | _ :: _, x, p, h => by
    rcases List.mem_cons.mp h with rfl | h
    · exact x.1
    · exact allLt_mem x.2 p h
/-- what stood is below what is new -/
theorem old_lt {X : List Addr} {G h : Heap} {L d : Addr} {m : Str → Option Value} (F : Fr G L h m) (A : AllLt d (restX X G h)) (hL : @LT.lt Nat _ L d) : ∀ b o, b ∉ X → h.get? b = some o → @LT.lt Nat _ b d := fun b o hb e => by
  cases q : G.get? b with
  | none => exact allLt_mem A (b, o) (restX_mem.mpr ⟨hb, q, e⟩)
  | some o' => exact Nat.lt_trans (Nat.lt_of_lt_of_le (Heap.lt_size q) F.above) hL
mutual
theorem size_le : ∀ (n : Nat) (t : Tr), ht t ≤ n → full t → sizeT t ≤ (n + 1) * t.leaves.length
  | n, .leaf x, _, _ => by simp [sizeT, Tr.leaves]
  | 0, .node x ts, h, _ => by rw [ht] at h; omega
  | n + 1, .node x ts, h, hf => by
    have hp := leaves_pos hf
    rw [ht] at h
    unfold full at hf
    have := sizeL_le n ts (by omega) hf.2
    rw [Tr.leaves] at hp ⊢
    rw [sizeT, Nat.add_mul (n + 1) 1]
    omega
theorem sizeL_le : ∀ (n : Nat) (ts : List Tr), hts ts ≤ n → fulls ts → sizeTs ts ≤ (n + 1) * (leavesL ts).length
  | n, [], _, _ => by simp [sizeTs]
  | n, t :: ts, h, hf => by
    unfold fulls at hf
    unfold hts at h
    have h1 := size_le n t (Nat.le_trans (Nat.le_max_left ..) h) hf.1
    have h2 := sizeL_le n ts (Nat.le_trans (Nat.le_max_right ..) h) hf.2
    rw [sizeTs, leavesL, List.length_append, Nat.mul_add]
    omega
end
/-- all that the law has built -/
structure Big (w : World) (root : Tr) (aS aE aR aL : Addr) (h : Heap) : Prop where
  tree : TreeAt w.params h root .none
  starts : ∃ ss k, h.get? aS = some (lobj ss k) ∧ TupsAt h ss (startsOf root.leaves)
  ends : ∃ es k, h.get? aE = some (lobj es k) ∧ TupsAt h es (allEnds root.leaves)
  rows : ∃ vs k, h.get? aR = some (lobj vs k) ∧ RowsAt 0 h vs (table root)
  leaves : ∃ k, h.get? aL = some (lobj (lvals root.leaves) k)
theorem Big.keeps {w : World} {root : Tr} {aS aE aR aL : Addr} {h h' : Heap} (B : Big w root aS aE aR aL h) (k : ∀ b o, h.get? b = some o → h'.get? b = some o) : Big w root aS aE aR aL h' := by
  obtain ⟨t, ⟨a1, a2, a3, a4⟩, ⟨b1, b2, b3, b4⟩, ⟨c1, c2, c3, c4⟩, ⟨d1, d2⟩⟩ := B
  exact ⟨t.keeps k, ⟨a1, a2, k _ _ a3, a4.keeps k⟩, ⟨b1, b2, k _ _ b3, b4.keeps k⟩, ⟨c1, c2, k _ _ c3, c4.mono (Nat.le_refl _) fun b o _ e => k b o e⟩, ⟨d1, k _ _ d2⟩⟩
/-- what the tree itself is -/
structure GoodRoot (plain : Bool) (root : Tr) : Prop where
  good : GoodT plain root
  ht : ht root ≤ 4
  len : root.leaves.length ≤ 81
  chain : Chain (1, 0) root.leaves
  nd : root.addrs.Nodup
mutual
theorem addrs_foot : ∀ (t : Tr), t.foot.Nodup → t.addrs.Nodup ∧ ∀ b ∈ t.addrs, b ∈ t.foot
  | .leaf x, h => by simp [Tr.addrs, Tr.foot]
  | .node x ts, h => by
    unfold Tr.foot at h ⊢
    unfold Tr.addrs
    obtain ⟨h1, h2⟩ := List.nodup_cons.mp h
    obtain ⟨_, h3⟩ := List.nodup_cons.mp h2
    obtain ⟨_, h4⟩ := List.nodup_cons.mp h3
    obtain ⟨i1, i2⟩ := addrsL_foot ts h4
    refine ⟨List.nodup_cons.mpr ⟨fun hm => h1 (by simp [i2 _ hm]), i1⟩, fun b hb => ?_⟩
    rcases List.mem_cons.mp hb with rfl | hb
    · simp
    · simp [i2 _ hb]
theorem addrsL_foot : ∀ (ts : List Tr), (footL ts).Nodup → (addrsL ts).Nodup ∧ ∀ b ∈ addrsL ts, b ∈ footL ts
  | [], _ => by simp [addrsL]
  | t :: ts, h => by
    unfold footL at h ⊢
    unfold addrsL
    obtain ⟨h1, h2, h3⟩ := List.nodup_append.mp h
    obtain ⟨i1, i2⟩ := addrs_foot t h1
    obtain ⟨j1, j2⟩ := addrsL_foot ts h2
    refine ⟨List.nodup_append.mpr ⟨i1, j1, fun a ha b hb => h3 a (i2 _ ha) b (j2 _ hb)⟩, fun b hb => ?_⟩
    rcases List.mem_append.mp hb with hb | hb
    · exact List.mem_append_left _ (i2 _ hb)
    · exact List.mem_append_right _ (j2 _ hb)
end
theorem list_revN {prog : Program} {w : World} {A : Around} {E : Value → Shared → Prop} {s : Shared} {G : Heap} {L a l : Addr} {m : Str → Option Value} {vs : List Value} {k : Nat} {ns : List Int} {news : List (Addr × Obj)} {Q : Value → Shared → Prop} (hh : A.handled = none) (F : Fr G L s.heap m)
    (N : News G L s.heap ((a, revObj l ((vs.length : Int) - 1)) :: (l, W.listOf vs.toArray k) :: news)) (hne : ∀ p ∈ (l, W.listOf vs.toArray k) :: news, p.1 ≠ a) (hi : IntsAre vs ns) (hn : ns.length ≤ 7)
    (hQ : ∀ D h' tk (ws : List Value) c, Fr G L h' m → News G L h' ((D, lobj ws c) :: (l, W.listOf vs.toArray k) :: news) → IntsV ws → ws.length ≤ 7 → @LT.lt Nat _ L D → (∀ p ∈ (l, W.listOf vs.toArray k) :: news, p.1 < D) → s.toks ≤ tk → Q (.ref D) { s with heap := h', toks := tk }) :
    wpAny (model prog w) A (call (.type "list") [.ref a]) Q E s := by
  have hlen := IntsAre.length hi
  have na := N _ (List.mem_cons_self ..)
  refine wpAny_with_toks (Nat.le_refl s.toks) (list_rev (vs := vs) hh ⟨_, na.1, rfl, rfl⟩ ⟨_, (N _ (List.mem_cons_of_mem _ (List.mem_cons_self ..))).1, rfl, _, rfl⟩ (hne _ (List.mem_cons_self ..)) (by omega) fun h' tk ws c k1 k2 k3 k4 htk => ?_)
  have kk : ∀ b o, b ≠ a → s.heap.get? b = some o → h'.get? b = some o := k1
  refine hQ _ h' tk ws c ⟨F.ns.at' fun o e => kk _ o (Ne.symm na.2.1) e, fun b o e => kk b o (fun q => by have := na.2.2; rw [← q, e] at this; cases this) (F.keep b o e), F.above⟩ (fun p hp => ?_) (fun v hv => ?_) (by omega) F.ns.lt (fun p hp => Heap.lt_size (N p (List.mem_cons_of_mem _ hp)).1) htk
  · rcases List.mem_cons.mp hp with rfl | hp
    · refine ⟨k2, Nat.ne_of_gt F.ns.lt, ?_⟩
      cases q : G.get? s.heap.objs.size with
      | none => rfl
      | some o => exact absurd (Heap.lt_size (F.keep _ _ q)) (Nat.lt_irrefl _)
    · have := N p (List.mem_cons_of_mem _ hp)
      exact ⟨kk _ _ (hne p hp) this.1, this.2⟩
  · exact IntsAre.all hi v (k4 v hv)

/-- the law's own body, as it stands in the written part -/
noncomputable def lawFd (P : Params) : Option FuncData := match (hd.heap_1 P).lookup 466 with
  | some ⟨_, _, .func fd, _⟩ => some fd
  | _ => none
noncomputable def lawScope (P : Params) : Scope := match lawFd P with
  | some fd => fd.scope
  | none => { kind := .function, names := [], isGenerator := false, isCoroutine := false }
noncomputable def lawFn (P : Params) : List Stmt := match lawFd P with
  | some fd => (match fd.body with | .stmts b => b | _ => [])
  | none => []
noncomputable def turnOf : List Stmt → List Stmt
  | .For _ _ b _ _ :: _ => b
  | _ => []
noncomputable def lawTurn (P : Params) : List Stmt := turnOf ((lawFn P).drop 4)
noncomputable abbrev lawEnv (P : Params) (L : Addr) : Env := envOfC (Str.ofString "law") (lawScope P) L 466 (.ref 465)
example (P : Params) : (lawTurn P).length = 16 := by rfl
example (P : Params) (L : Addr) : (lawEnv P L).kindOf (Str.ofString "one") = some .local := by rfl
/-- the law's state, once all is built -/
structure LawSt (w : World) (root : Tr) (s₀ : Shared) (L aS aE aR aL : Addr) (M : List Addr) (oR : Obj) (m : Str → Option Value) (s' : Shared) : Prop where
  kx : KX [217] s₀ s'
  ns : s'.heap.Ns L m
  keep : ∀ b o, (hid s₀.heap).get? b = some o → s'.heap.get? b = some o
  big : Big w root aS aE aR aL (hideAll s'.heap M)
  cR : s'.heap.get? (L + 1) = some oR
  cU : ∃ oU v, s'.heap.get? (L + 1 + 1) = some oU ∧ oU.data = .cell v
  tab : TabOk s'.heap

section
theorem lines_X2_1 : True := by
  k_with_none
  k_with "unpackItems ref" => ((k_dflt (refine' unpackItemsN_ ?k1_4d ?k2_4d ?k3_4d ?k4_4d ?k5_4d ?_; (case k1_4d => k_asm); (case k2_4d => k_asm); (case k3_4d => kun_tup); (case k4_4d => exact hh_deeper (by assumption)); (case k5_4d => exact rfl); k_whole); intro _ _ _; (try k_sweep)))
  trivial
structure StopApp3 : Prop where
theorem lines_X2_2 : True := by
  k_with "assign Tuple" => (((with_reducible show wpAny _ _ (assign (Expr.Tuple _ _ _) _ (Value.ref _)) _ _ _); k_dflt (refine' unpackN_ ?F_82e ?N_82e ?T_82e ?k1_82e ?k2_82e ?k3_82e ?_; (case F_82e => k_asm); (case N_82e => k_asm); (case T_82e => first | with_reducible assumption | (refine News.isTup (by k_asm) (by k_mem))); (case k1_82e => exact hh_deeper (by assumption)); (case k2_82e => exact rfl); (case k3_82e => exact rfl)); intro _ _ _; (try k_sweep)))
  trivial
local macro_rules | `(tactic| k_all) => `(tactic| exact restX_ne (by simp))
theorem lines_X2_3 : True := by
  k_with "newList" => ((k_dflt (refine' my_newList ?k1_853 ?k2_853 ?_; (case k1_853 => k_asm); (case k2_853 => k_asm); k_whole); intro _ _ _ _ x_l1 _; (try k_lt x_l1); (try k_sweep); (try (revert x_l1; intro _))))
  k_with "call ref" => (((with_reducible show wpAny _ _ (call (Value.ref 454) _ _) _ _ _); refine' stop_tree ?_))
  k_with "call ref" => (((with_reducible show wpAny _ _ (call (Value.ref 461) _ _) _ _ _); refine' stop_tree ?_))
  k_with "call type:list" => ((refine' stop_tree ?_))
  k_with "call type:list cons nil" => ((refine' stop_tree ?_))
  trivial

theorem law_build {prog : Program} {w : World} {A : Around} {s : Shared} {sc : Addr} {vs : List Value} {ns : List Int} {R : Result → Shared → Prop} (hpr : ProgOk prog) (hr : Rm A 100) (S : St w (hid s.heap)) (hl : (hid s.heap).IsList sc vs.toArray) (hi : IntsAre vs ns) (hlen : ns.length ≤ 63) (TO : TabOk s.heap)
    (hrest : ∀ L s' plain t aS aE aR aL oR m, @LT.lt Nat _ 217 L → (hid s.heap).objs.size ≤ L → oR.data = .cell (some (.ref aR)) → GoodRoot plain t → m (Str.ofString "leaves") = some (.ref aL) → m (Str.ofString "root") = some (.ref t.addr) → m (Str.ofString "starts") = some (.ref aS) → m (Str.ofString "ends") = some (.ref aE) →
      LawSt w t s L aS aE aR aL [L, L + 1, L + 1 + 1, 217] oR m s' → wpAny (model prog w) (A.deeper (lawEnv w.params L)) (execs ((lawFn w.params).drop 4) (lawEnv w.params L)) (fun fl s'' => R (.ok (.ret (match fl with | .ret v => v | _ => .none))) s'') (fun _ _ => False) s') : codeAny (model prog w) A (.call (.ref 466) ⟨[.ref sc], []⟩) R s := by
  have S1 := S.unhid
  have ⟨X1, p, loose, mg, mb, T1, _⟩ := S1
  obtain ⟨oT, hT, hTd⟩ : ∃ oT, s.heap.get? 217 = some oT ∧ ∀ its n, oT.data ≠ .seq its n := by
    obtain ⟨ps, _, t⟩ := TO
    exact ⟨_, t.2, fun its n q => by cases q⟩
  refine' enterC [(Str.ofString "script", .ref sc)] X1 (TopRead.nolimit T1) ?k6 ?k7 ?k8 ?k9 ?kB ?kD ?c2 ?c3 ?c4 ?_
  (case k6 => k_is)
  (case k7 => k_is)
  (case k8 => exact (Rm.lt hr))
  (case k9 => first | exact BindsTo.of_eq rfl | exact binds_K (by k_in) rfl (by k_is) rfl rfl rfl)
  (case kB => exact kindsX rfl)
  (case kD => decide +kernel)
  (case c2 => rfl)
  (case c3 => rfl)
  (case c4 => rfl)
  intro L h₁ tk cells F N Y
  have hT₁ := F.keep _ _ hT
  have hTL : @LT.lt Nat _ 217 L := Nat.lt_of_lt_of_le (Heap.lt_size hT) F.above
  replace F := fr_hid F
  replace N := news_hid N
  clear X1 T1
  have ⟨X, p', loose', mg', mb', T, _⟩ := S
  generalize hGG : hid s.heap = G at *
  k_cells Y
  try simp only [List.cons_append, List.nil_append] at N
  try dsimp only
  try k_fold
  obtain ⟨oR, oU, N, dR, dU⟩ : ∃ oR oU : Obj, News G L h₁ [(L + 1 + 1, oU), (L + 1, oR), (217, oT)] ∧ (∃ v, oR.data = .cell v) ∧ (∃ v, oU.data = .cell v) := ⟨_, _, fun p hp => by
    rcases List.mem_cons.mp hp with rfl | hp
    · exact N _ (List.mem_cons_self ..)
    · rcases List.mem_cons.mp hp with rfl | hp
      · exact N _ (List.mem_cons_of_mem _ (List.mem_cons_self ..))
      · rw [List.mem_singleton.mp hp]
        exact ⟨hT₁, Nat.ne_of_lt hTL, hGG ▸ hideAll_none _ (by simp)⟩, ⟨_, by assumption⟩, ⟨_, by assumption⟩⟩
  replace F := Fr.congr (m' := fun y => if y = Str.ofString "script" then some (.ref sc) else none) F (fun y => by rfl)
  obtain ⟨vR, dR⟩ := dR
  obtain ⟨vU, dU⟩ := dU
  with_reducible refine execs_midO (fun s' => ∃ h tk aS aE D0 t1 t2, s' = { s with heap := h, toks := tk } ∧ Fr G L h (fun y => if y = Str.ofString "starts" then some (.ref aS) else if y = Str.ofString "ends" then some (.ref aE) else if y = Str.ofString "script" then some (.ref sc) else none) ∧
    News G L h [(aE, lobj [.ref D0] 0), (D0, tup2 1 0 t1 t2), (aS, lobj [] 0), (L + 1 + 1, oU), (L + 1, oR), (217, oT)] ∧ @LT.lt Nat _ (L + 1 + 1) aS ∧ @LT.lt Nat _ aS D0 ∧ @LT.lt Nat _ D0 aE) ?b1 ?r1
  case b1 =>
    intro P' hP'
    k_steps
    refine Stop.imp (hP' _) ?_
    exact ⟨⟨_, _, _, _, _, _, _, rfl, by assumption, news_tail (by assumption), by omega, by omega, by omega⟩⟩
  case r1 =>
    rintro s' ⟨h₂, tk₂, aS, aE, D0, t1, t2, rfl, F₂, N₂, o1, o2, o3⟩
    clear F N
    with_reducible refine execs_midO (fun s' => ∃ h tk t plain, s' = { s with heap := h, toks := tk } ∧ Fr G L h (fun y => if y = Str.ofString "root" then some (.ref t.addr) else if y = Str.ofString "starts" then some (.ref aS) else if y = Str.ofString "ends" then some (.ref aE) else if y = Str.ofString "script" then some (.ref sc) else none) ∧
      News G L h [(L + 1 + 1, oU), (L + 1, oR), (217, oT)] ∧ GoodRoot plain t ∧ TreeAt w.params h t .none ∧ (∃ ss k, h.get? aS = some (lobj ss k) ∧ TupsAt h ss (startsOf t.leaves)) ∧ (∃ es k, h.get? aE = some (lobj es k) ∧ TupsAt h es (allEnds t.leaves)) ∧ (∀ b ∈ t.foot, @LT.lt Nat _ (L + 1 + 1) b)) ?b2 ?r2
    case b2 =>
      intro P' hP'
      k_steps
      rename Fr _ _ _ _ => F₃
      rename News _ _ _ _ => N₃
      rename IntsAre _ (List.take 7 ns) => hi₃
      have hn7 : (List.take 7 ns).length ≤ 7 := by rw [List.length_take]; exact Nat.min_le_left _ _
      refine ⟨list_revN (hh_deeper hr) F₃ N₃ (by k_all) hi₃ hn7 fun D h₄ tk₄ ws c F₄ N₄ hint hwl hLD hlt htk₄ => ?_⟩
      replace hlt := allLt_of hlt
      simp only [AllLt, and_true] at hlt
      clear F₃ N₃
      k_steps
      have hz₄ : 0 < tk₄ := Nat.lt_of_lt_of_le (Nat.succ_pos _) htk₄
      have gn : ∀ a ∈ [D, aS, aE], G.get? a = none := fun a ha => by
        simp only [List.mem_cons, List.not_mem_nil, or_false] at ha
        rcases ha with rfl | rfl | rfl
        · exact (N₄ _ (List.mem_cons_self ..)).2.2
        · exact (N₄ (_, lobj [] 0) (by simp)).2.2
        · exact (N₄ (_, lobj [Value.ref D0] 0) (by simp)).2.2
      have q1 : @Ne Nat D aS := by omega
      have q2 : @Ne Nat D aE := by omega
      have q3 : @Ne Nat aS aE := by omega
      have iD0 : IsTup h₄ D0 #[.int 1 t1, .int 0 t2] := News.isTup N₄ (by k_mem)
      refine ⟨wpAny_call (grow_all hpr 4 _ _ D aS aE [] [(1, 0)] (1, 0) 4 _ _ _ (hr.deeper (by omega)) rfl q1 q2 q3 (S.keeps (hide_sub F₄.keep gn)) (Nat.lt_of_lt_of_le hz₄ (by first | exact Nat.le_refl _ | exact Nat.le_add_right _ _ | (dsimp only; omega)))
        ⟨⟨ws, c, N₄.get (List.mem_cons_self ..), hint, hwl⟩, ⟨[], 0, N₄.get (by simp), .nil⟩, ⟨[.ref D0], 0, N₄.get (by simp), .cons ⟨D0, t1, t2, rfl, iD0⟩ .nil⟩⟩ rfl (by decide) (by decide) ?_)⟩
      intro h₅ tk₅ t kk GS chain gt ht len TA new nd
      dsimp only at kk new GS
      have hX : ∀ a ∈ [L, L + 1, L + 1 + 1], a ∉ [D, aS, aE] := fun a ha hm => by
        have h1 : a ≤ L + 1 + 1 := by
          simp only [List.mem_cons, List.not_mem_nil, or_false] at ha
          rcases ha with rfl | rfl | rfl
          · exact Nat.le_succ_of_le (Nat.le_succ _)
          · exact Nat.le_succ _
          · exact Nat.le_refl _
        simp only [List.mem_cons, List.not_mem_nil, or_false] at hm
        have h2 : @LT.lt Nat _ (L + 1 + 1) a := by
          rcases hm with rfl | rfl | rfl
          · exact hlt.2.2.2.2.1
          · exact o1
          · exact Nat.lt_trans o1 (Nat.lt_trans o2 o3)
        exact absurd h1 (Nat.not_le_of_lt h2)
      have F₅ : Fr G L h₅ _ := ⟨F₄.ns.at' fun o e => kk L o (hX L (by simp)) e, fun b o e => kk b o (fun hm => by rw [gn b hm] at e; cases e) (F₄.keep b o e), F₄.above⟩
      have N₅ : News G L h₅ ((L + 1 + 1, oU) :: (L + 1, oR) :: restX [L, L + 1, L + 1 + 1] G h₅) := news_restX (l := [(L + 1 + 1, oU), (L + 1, oR)]) (fun p hp => by
        have h3 := N₄ p (by simp only [List.mem_cons] at hp ⊢; rcases hp with rfl | rfl | hp <;> simp_all)
        refine ⟨kk _ _ (hX _ ?_) h3.1, h3.2⟩
        simp only [List.mem_cons, List.not_mem_nil, or_false] at hp
        rcases hp with rfl | rfl <;> simp) (by simp)
      have ns₅ := F₅.ns
      have kq : ∀ h' m' (l : List (Addr × Obj)), Fr G L h' m' → News G L h' l → (∀ p ∈ restX [L, L + 1, L + 1 + 1] G h₅, p ∈ l) → ∀ b o, b ∉ [L, L + 1, L + 1 + 1] → h₅.get? b = some o → h'.get? b = some o := fun h' m' l F' N' hl => restX_keep F₅ F' N' hl
      have nU := (N₅ _ (List.mem_cons_self ..)).1
      have nR := (N₅ _ (List.mem_cons_of_mem _ (List.mem_cons_self ..))).1
      have h217 : h₅.get? 217 = some oT := kk _ _ (fun hm => by
        simp only [List.mem_cons, List.not_mem_nil, or_false] at hm
        rcases hm with q | q | q
        · exact absurd (q ▸ hTL) (Nat.not_lt_of_lt hLD)
        · exact absurd (q ▸ hTL) (Nat.not_lt_of_lt (Nat.lt_trans (Nat.lt_succ_of_lt (Nat.lt_succ_self _)) o1))
        · exact absurd (q ▸ hTL) (Nat.not_lt_of_lt (Nat.lt_trans (Nat.lt_trans (Nat.lt_succ_of_lt (Nat.lt_succ_self _)) o1) (Nat.lt_trans o2 o3)))) (N₄ (217, oT) (by simp)).1
      have hDs : @LT.lt Nat _ D h₄.objs.size := Heap.lt_size (N₄.get (List.mem_cons_self ..))
      clear F₄ N₄
      k_steps
      rename Fr _ _ _ _ => F₆
      rename News _ _ _ _ => N₆
      have kc := kq _ _ _ F₆ N₆ (fun _ hp => List.mem_cons_of_mem _ (List.mem_cons_of_mem _ hp))
      have GS₆ := GS.keepX (off_frame ns₅ nR nU dR dU) kc
      have hfx : ∀ b ∈ t.foot, b ∉ [L, L + 1, L + 1 + 1] := fun b hb hm => by
        have h1 : @LT.lt Nat _ (L + 1 + 1) b := Nat.lt_of_lt_of_le (Nat.lt_trans hlt.2.2.2.2.1 hDs) (new b hb)
        simp only [List.mem_cons, List.not_mem_nil, or_false] at hm
        rcases hm with rfl | rfl | rfl
        · exact absurd h1 (Nat.not_lt_of_le (Nat.le_succ_of_le (Nat.le_succ _)))
        · exact absurd h1 (Nat.not_lt_of_le (Nat.le_succ _))
        · exact absurd h1 (Nat.lt_irrefl _)
      have n217 : (217 : Addr) ∉ [L, L + 1, L + 1 + 1] := fun hm => by
        simp only [List.mem_cons, List.not_mem_nil, or_false] at hm
        rcases hm with q | q | q
        · exact absurd (q ▸ hTL) (Nat.lt_irrefl _)
        · exact absurd (q ▸ hTL) (Nat.not_lt_of_le (Nat.le_succ _))
        · exact absurd (q ▸ hTL) (Nat.not_lt_of_le (Nat.le_succ_of_le (Nat.le_succ _)))
      refine Stop.imp (hP' _) ?_
      refine ⟨⟨_, _, t, _, rfl, F₆, fun p hp => ?_, ⟨gt, ht, len, chain, (addrs_foot t nd).1⟩, TreeAt.foot t (fun b hb o e => kc b o (hfx b hb) e) TA, by simpa using GS₆.starts, GS₆.ends, fun b hb => Nat.lt_of_lt_of_le (Nat.lt_trans hlt.2.2.2.2.1 hDs) (new b hb)⟩⟩
      simp only [List.mem_cons, List.not_mem_nil, or_false] at hp
      rcases hp with rfl | rfl | rfl
      · exact N₆ _ (by simp)
      · exact N₆ _ (by simp)
      · exact ⟨kc _ _ n217 h217, Nat.ne_of_lt hTL, hGG ▸ hideAll_none _ (by simp)⟩
    case r2 =>
      rintro s' ⟨h₃, tk₃, t, plain, rfl, F₃, N₃, GR, TA, ⟨ss, k1, es1, TS⟩, ⟨es, k2, ee1, TE⟩, hfoot⟩
      clear F₂ N₂
      have nU := (N₃ _ (List.mem_cons_self ..)).1
      have nR := (N₃ _ (List.mem_cons_of_mem _ (List.mem_cons_self ..))).1
      have off := off_frame F₃.ns nR nU dR dU
      have kq : ∀ h' m' (l : List (Addr × Obj)), Fr G L h' m' → News G L h' l → (∀ p ∈ restX [L, L + 1, L + 1 + 1] G h₃, p ∈ l) → ∀ b o, b ∉ [L, L + 1, L + 1 + 1] → h₃.get? b = some o → h'.get? b = some o := fun h' m' l F' N' hl => restX_keep F₃ F' N' hl
      have old : ∀ d, AllLt d (restX [L, L + 1, L + 1 + 1] G h₃) → @LT.lt Nat _ L d → ∀ b o, b ∉ [L, L + 1, L + 1 + 1] → h₃.get? b = some o → @LT.lt Nat _ b d := fun d a b => old_lt F₃ a b
      have h217 := (N₃ (217, oT) (by simp)).1
      have N₄ : News G L h₃ ((L + 1 + 1, oU) :: (L + 1, oR) :: restX [L, L + 1, L + 1 + 1] G h₃) := news_restX (l := [(L + 1 + 1, oU), (L + 1, oR)]) (fun p hp => N₃ p (by
        simp only [List.mem_cons, List.not_mem_nil, or_false] at hp ⊢
        rcases hp with rfl | rfl <;> simp)) (by simp)
      clear N₃
      with_reducible refine execs_midO (fun s' => ∃ h tk aR aL oR', s' = { s with heap := h, toks := tk } ∧ Fr G L h (fun y => if y = Str.ofString "leaves" then some (.ref aL) else if y = Str.ofString "root" then some (.ref t.addr) else if y = Str.ofString "starts" then some (.ref aS) else if y = Str.ofString "ends" then some (.ref aE) else if y = Str.ofString "script" then some (.ref sc) else none) ∧
        News G L h [(aL, lobj [] 0), (aR, lobj [] 0), (L + 1 + 1, oU), (L + 1, oR')] ∧ oR'.data = .cell (some (.ref aR)) ∧ (∀ b o, b ∉ [L, L + 1, L + 1 + 1] → h₃.get? b = some o → h.get? b = some o ∧ @LT.lt Nat _ b aR) ∧ @LT.lt Nat _ aR aL ∧ @LT.lt Nat _ (L + 1 + 1) aR) ?b3 ?r3
      case b3 =>
        intro P' hP'
        k_steps
        rename Fr _ _ _ _ => F₅
        rename News _ _ _ _ => N₅
        rename_i aR _ _ zR aL _ _ zL D₅ _ zD _ _ oR' dR' _
        have ho := old aR zR.2.2 (Nat.lt_trans (Nat.lt_succ_of_lt (Nat.lt_succ_self _)) zR.1)
        have kc := kq _ _ _ F₅ N₅ (fun p hp => by repeat (first | exact hp | refine List.mem_cons_of_mem _ ?_))
        refine Stop.imp (hP' _) ?_
        refine ⟨⟨_, _, aR, aL, oR', rfl, F₅, fun p hp => N₅ p ?_, dR', fun b o hb e => ⟨kc b o hb e, ho b o hb e⟩, zL.1, zR.1⟩⟩
        simp only [List.mem_cons, List.not_mem_nil, or_false] at hp ⊢
        rcases hp with rfl | rfl | rfl | rfl <;> simp
      case r3 =>
        rintro s' ⟨h₄, tk₄, aR, aL, oR', rfl, F₄, N₅, dR', hold, oRL, oR2⟩
        clear F₃ N₄
        have gn : ∀ a ∈ [aR, aL], G.get? a = none := fun a ha => by
          simp only [List.mem_cons, List.not_mem_nil, or_false] at ha
          rcases ha with rfl | rfl
          · exact (N₅ (_, lobj [] 0) (by simp)).2.2
          · exact (N₅ _ (List.mem_cons_self ..)).2.2
        have hfX : ∀ b ∈ t.foot, b ∉ [L, L + 1, L + 1 + 1] := fun b hb hm => by
          have h1 := hfoot b hb
          simp only [List.mem_cons, List.not_mem_nil, or_false] at hm
          rcases hm with rfl | rfl | rfl
          · exact absurd h1 (Nat.not_lt_of_le (Nat.le_succ_of_le (Nat.le_succ _)))
          · exact absurd h1 (Nat.not_lt_of_le (Nat.le_succ _))
          · exact absurd h1 (Nat.lt_irrefl _)
        with_reducible refine execs_midO (fun s' => ∃ h tk vs k1 k2, s' = { s with heap := h, toks := tk } ∧ (∀ b o, b ∉ [aR, aL] → h₄.get? b = some o → h.get? b = some o) ∧ h.get? aR = some (lobj vs k1) ∧ h.get? aL = some (lobj (lvals t.leaves) k2) ∧ RowsAt h₄.objs.size h vs (table t)) ?b4 ?r4
        case b4 =>
          intro P' hP'
          k_steps
          have hsz := size_le 4 t GR.ht GR.good.full
          have hln := GR.len
          refine ⟨wpAny_call (rows_all 4 _ _ t .none [] (-1) _ aR aL [] [] 0 0 _ (hr.deeper (by omega)) GR.ht (Nat.ne_of_lt oRL) (S.keeps (hide_sub F₄.keep gn)) (TreeAt.foot t (fun b hb o e => hideAll_get _ (hold b o (hfX b hb) e).1 (fun hm => by
            have h2 := (hold b o (hfX b hb) e).2
            simp only [List.mem_cons, List.not_mem_nil, or_false] at hm
            rcases hm with rfl | rfl
            · exact absurd h2 (Nat.lt_irrefl _)
            · exact absurd h2 (Nat.not_lt_of_lt oRL))) TA) (N₅.get (by simp)) (N₅.get (List.mem_cons_self ..)) (by simp; omega) (by simp; omega) ?_)⟩
          intro h' tk' vs' k1' k2' kk rr ll RA
          refine Stop.imp (hP' _) ?_
          exact ⟨⟨h', tk', vs', k1', k2', rfl, kk, by simpa using rr, by simpa using ll, RA⟩⟩
        case r4 =>
          rintro s' ⟨h₅, tk₅, vr, kr, kl, rfl, kk, er, el, RA⟩
          have hGL := F₄.above
          have nX : ∀ b, @LT.lt Nat _ (L + 1 + 1) b → b ∉ [L, L + 1, L + 1 + 1] ∧ b ∉ [L, L + 1, L + 1 + 1, 217] := fun b hb => by
            have g1 : b ≠ L := fun q => by rw [q] at hb; exact absurd hb (Nat.not_lt_of_le (Nat.le_succ_of_le (Nat.le_succ _)))
            have g2 : b ≠ L + 1 := fun q => by rw [q] at hb; exact absurd hb (Nat.not_lt_of_le (Nat.le_succ _))
            have g3 : b ≠ L + 1 + 1 := fun q => by rw [q] at hb; exact absurd hb (Nat.lt_irrefl _)
            have g4 : b ≠ 217 := fun q => by rw [q] at hb; exact absurd (Nat.lt_trans hTL (Nat.lt_succ_of_lt (Nat.lt_succ_self _))) (Nat.not_lt_of_lt hb)
            simp [g1, g2, g3, g4]
          have nA : ∀ b, b < aR → b ∉ [aR, aL] := fun b hb hm => by
            simp only [List.mem_cons, List.not_mem_nil, or_false] at hm
            rcases hm with rfl | rfl
            · exact absurd hb (Nat.lt_irrefl _)
            · exact absurd hb (Nat.not_lt_of_lt oRL)
          have up : ∀ b o, b ∉ [L, L + 1, L + 1 + 1] → h₃.get? b = some o → h₅.get? b = some o := fun b o hb e => kk b o (nA b (hold b o hb e).2) (hold b o hb e).1
          have kG : ∀ b o, G.get? b = some o → h₅.get? b = some o := fun b o e => kk b o (fun hm => by rw [gn b hm] at e; cases e) (F₄.keep b o e)
          have n217 : (217 : Addr) ∉ [L, L + 1, L + 1 + 1] := fun hm => by
            simp only [List.mem_cons, List.not_mem_nil, or_false] at hm
            rcases hm with q | q | q
            · exact absurd (q ▸ hTL) (Nat.lt_irrefl _)
            · exact absurd (q ▸ hTL) (Nat.not_lt_of_le (Nat.le_succ _))
            · exact absurd (q ▸ hTL) (Nat.not_lt_of_le (Nat.le_succ_of_le (Nat.le_succ _)))
          have e217 := up _ _ n217 h217
          have eR : h₅.get? (L + 1) = some oR' := kk _ _ (nA _ (Nat.lt_trans (Nat.lt_succ_self _) oR2)) (N₅ (L + 1, oR') (by simp)).1
          have eU : h₅.get? (L + 1 + 1) = some oU := kk _ _ (nA _ oR2) (N₅ (L + 1 + 1, oU) (by simp)).1
          have eNs := F₄.ns.at' (h' := h₅) fun o e => kk _ o (nA _ (Nat.lt_trans (Nat.lt_succ_of_lt (Nat.lt_succ_self _)) oR2)) e
          have off5 : ∀ c ∈ [L, L + 1, L + 1 + 1, 217], ∀ o, h₅.get? c = some o → ∀ its n, o.data ≠ .seq its n := fun c hc o e its n q => by
            simp only [List.mem_cons, List.not_mem_nil, or_false] at hc
            rcases hc with rfl | rfl | rfl | rfl
            · obtain ⟨oL, es', ep', hL, hd, _⟩ := eNs
              rw [hL] at e; injection e with e; rw [← e, hd] at q; cases q
            · rw [eR] at e; injection e with e; rw [← e, dR'] at q; cases q
            · rw [eU] at e; injection e with e; rw [← e, dU] at q; cases q
            · rw [e217] at e; injection e with e; rw [← e] at q; exact hTd its n q
          have tups : ∀ {vs : List Value} {ps : List (Int × Int)}, TupsAt h₃ vs ps → TupsAt (hideAll h₅ [L, L + 1, L + 1 + 1, 217]) vs ps := fun {vs ps} T =>
            hide_tups (fun a ha o e => .inr (off5 a ha o e)) ((hide_tups (l := [L, L + 1, L + 1 + 1]) (fun a ha o e => .inr (off a (by simp only [List.mem_cons, List.not_mem_nil, or_false] at ha ⊢; rcases ha with h | h | h <;> simp [h]) o e)) T).keeps fun b o e => up b o (fun hm => by rw [hideAll_none _ hm] at e; cases e) (of_hideAll _ e))
          refine hrest L _ plain t aS aE aR aL oR' _ hTL hGL dR' GR rfl rfl rfl rfl ⟨KX.of_heap fun b o hb e => kG b o (hGG ▸ hid_get e (by simpa using hb)), eNs, fun b o e => kG b o (hGG ▸ e), ⟨?_, ?_, ?_, ?_, ?_⟩, eR, ⟨oU, vU, eU, dU⟩, ?_⟩
          · exact TreeAt.foot t (fun b hb o e => hideAll_get _ (up b o (nX b (hfoot b hb)).1 e) (nX b (hfoot b hb)).2) TA
          · exact ⟨ss, k1, hideAll_get _ (up _ _ (nX _ o1).1 es1) (nX _ o1).2, tups TS⟩
          · have o4 : @LT.lt Nat _ (L + 1 + 1) aE := Nat.lt_trans o1 (Nat.lt_trans o2 o3)
            exact ⟨es, k2, hideAll_get _ (up _ _ (nX _ o4).1 ee1) (nX _ o4).2, tups TE⟩
          · exact ⟨vr, kr, hideAll_get _ er (nX _ oR2).2, RA.mono (Nat.zero_le _) fun b o hb e => hideAll_get _ e (nX _ (Nat.lt_of_lt_of_le (Nat.lt_trans oR2 (Heap.lt_size (N₅.get (a := aR) (o := lobj [] 0) (by simp)))) hb)).2⟩
          · exact ⟨kl, hideAll_get _ el (nX _ (Nat.lt_trans oR2 oRL)).2⟩
          · refine TO.at (fun o e => kG 221 o (hGG ▸ hid_get e (by decide))) fun o e => ?_
            rw [hT] at e
            exact e ▸ e217
end

section
variable {prog : Program} {w : World} {A : Around} {E : Value → Shared → Prop} {s : Shared} {par : Value} {t : Tr} {pl : Sem Bool} {Q : Value × List Value → Shared → Prop} (X : (hd.heap_1 w.params).In s.heap) (T : TreeAt w.params s.heap t par)
include X T
theorem gm_same0 {name : Str} {f : Nat} (hl : ∀ (c : LC) (P : Params), findIn (hd.heap_1 P) (.ref c.addr) name = some (some (.ref f)) ∧ typeIn (hd.heap_1 P) (.ref f) = some (.type "function")) (hn : ∀ (c : NC) (P : Params), findIn (hd.heap_1 P) (.ref c.addr) name = some (some (.ref f)))
    (sl : ∀ x : LD, shadowIn (some (leafDict w.params x par)) name = some false) (sn : ∀ x : ND, shadowIn (some (nodeDict w.params x par)) name = some false)
    (h : Q (.ref f, [.ref t.addr]) s) : wpAny (model prog w) A (getMethod (.ref t.addr) name pl) Q E s :=
  gm_tree0 (par := par) (f := fun _ => f) (fun x => ⟨(hl x.c w.params).1, (hl x.c w.params).2, sl x⟩) (fun x _ => ⟨hn x.c w.params, (hl .plain w.params).2, sn x⟩) X T h
theorem gm0_first (h : Q (.ref t.fFirst, [.ref t.addr]) s) : wpAny (model prog w) A (getMethod (.ref t.addr) "get_first_leaf" pl) Q E s :=
  gm_tree0 (par := par) (f := Tr.fFirst) (fun x => by obtain ⟨_, _, c, _⟩ := x; cases c <;> exact ⟨by kernel_rfl, by kernel_rfl, by kernel_rfl⟩) (fun x ts => by obtain ⟨_, _, _, c, _⟩ := x; cases c <;> exact ⟨by kernel_rfl, by kernel_rfl, by kernel_rfl⟩) X T h
theorem gm0_last (h : Q (.ref t.fLast, [.ref t.addr]) s) : wpAny (model prog w) A (getMethod (.ref t.addr) "get_last_leaf" pl) Q E s :=
  gm_tree0 (par := par) (f := Tr.fLast) (fun x => by obtain ⟨_, _, c, _⟩ := x; cases c <;> exact ⟨by kernel_rfl, by kernel_rfl, by kernel_rfl⟩) (fun x ts => by obtain ⟨_, _, _, c, _⟩ := x; cases c <;> exact ⟨by kernel_rfl, by kernel_rfl, by kernel_rfl⟩) X T h
theorem gm0_pref (h : Q (.ref t.fPref, [.ref t.addr]) s) : wpAny (model prog w) A (getMethod (.ref t.addr) "get_start_pos_of_prefix" pl) Q E s :=
  gm_tree0 (par := par) (f := Tr.fPref) (fun x => by obtain ⟨_, _, c, _⟩ := x; cases c <;> exact ⟨by kernel_rfl, by kernel_rfl, by kernel_rfl⟩) (fun x ts => by obtain ⟨_, _, _, c, _⟩ := x; cases c <;> exact ⟨by kernel_rfl, by kernel_rfl, by kernel_rfl⟩) X T h
theorem gm0_prevLeaf (h : Q (.ref 85, [.ref t.addr]) s) : wpAny (model prog w) A (getMethod (.ref t.addr) "get_previous_leaf" pl) Q E s :=
  gm_same0 X T (fun c P => by cases c <;> exact ⟨by kernel_rfl, by kernel_rfl⟩) (fun c P => by cases c <;> kernel_rfl) (fun x => by kernel_rfl) (fun x => by kernel_rfl) h
theorem gm0_nextLeaf (h : Q (.ref 90, [.ref t.addr]) s) : wpAny (model prog w) A (getMethod (.ref t.addr) "get_next_leaf" pl) Q E s :=
  gm_same0 X T (fun c P => by cases c <;> exact ⟨by kernel_rfl, by kernel_rfl⟩) (fun c P => by cases c <;> kernel_rfl) (fun x => by kernel_rfl) (fun x => by kernel_rfl) h
theorem gm0_prevSib (h : Q (.ref 80, [.ref t.addr]) s) : wpAny (model prog w) A (getMethod (.ref t.addr) "get_previous_sibling" pl) Q E s :=
  gm_same0 X T (fun c P => by cases c <;> exact ⟨by kernel_rfl, by kernel_rfl⟩) (fun c P => by cases c <;> kernel_rfl) (fun x => by kernel_rfl) (fun x => by kernel_rfl) h
theorem gm0_nextSib (h : Q (.ref 73, [.ref t.addr]) s) : wpAny (model prog w) A (getMethod (.ref t.addr) "get_next_sibling" pl) Q E s :=
  gm_same0 X T (fun c P => by cases c <;> exact ⟨by kernel_rfl, by kernel_rfl⟩) (fun c P => by cases c <;> kernel_rfl) (fun x => by kernel_rfl) (fun x => by kernel_rfl) h
theorem gm0_root (h : Q (.ref 66, [.ref t.addr]) s) : wpAny (model prog w) A (getMethod (.ref t.addr) "get_root_node" pl) Q E s :=
  gm_same0 X T (fun c P => by cases c <;> exact ⟨by kernel_rfl, by kernel_rfl⟩) (fun c P => by cases c <;> kernel_rfl) (fun x => by kernel_rfl) (fun x => by kernel_rfl) h
end

/-- what stands in every heap that keeps the base and these things -/
noncomputable def BigT (w : World) (root : Tr) (aS aE aR aL : Addr) (G : Heap) (T : List (Addr × Obj)) : Prop := ∀ h' : Heap, (∀ b o, G.get? b = some o → h'.get? b = some o) → (∀ p ∈ T, h'.get? p.1 = some p.2) → Big w root aS aE aR aL h'
/-- what is so of a place in the tree -/
structure Place (plain : Bool) (root : Tr) (t : Tr) (c : Ctx) : Prop where
  plug : plug t c = root
  good : GoodT plain t
  ctx : ∀ v ∈ c, Good2 (!plain) v
  ht : ht t ≤ 4
  nd : root.addrs.Nodup
  len : t.leaves.length ≤ 1000
theorem Place.good1 {plain : Bool} {root t : Tr} {c : Ctx} (p : Place plain root t c) : ∀ v ∈ c, Good1 v := fun v hv => (p.ctx v hv).1
theorem place_of {plain : Bool} {root : Tr} (g : GoodRoot plain root) {r : Row} (o : RowOk root r) : Place plain root r.t r.c := by
  have h := good_ctx (plain := plain) r.c r.t (by rw [o.plug]; exact g.good)
  refine ⟨o.plug, h.1, h.2, Nat.le_trans (ctx_ht r.c r.t) (by rw [o.plug]; exact g.ht), g.nd, ?_⟩
  have := ctx_leaves_le r.c r.t
  rw [o.plug] at this
  have := g.len
  omega
section
variable {prog : Program} {w : World} {A : Around} {E : Value → Shared → Prop} {s : Shared} {G : Heap} {L aS aE aR aL : Addr} {m : Str → Option Value} {news T : List (Addr × Obj)} {root : Tr} {plain : Bool} {t : Tr} {c : Ctx} {Q : Value → Shared → Prop}
theorem BigT.here (B : BigT w root aS aE aR aL G T) (F : Fr G L s.heap m) (N : News G L s.heap news) (hT : ∀ p ∈ T, p ∈ news) : Big w root aS aE aR aL s.heap := B _ F.keep fun p hp => (N p (hT p hp)).1
theorem ne_tups {l l' : Addr} {a b : Int} {t u t' u' : Tok} (hu : A.units + 64 < cLine) (h1 : IsTup s.heap l #[.int a t, .int b u]) (h2 : IsTup s.heap l' #[.int a t', .int b u']) (h : Q (.bool false) s) :
    wpAny (model prog w) A (compareOp .NotEq (.ref l) (.ref l')) Q E s := by
  obtain ⟨o, ho, hc, n, hd⟩ := h1
  obtain ⟨o', ho', hc', n', hd'⟩ := h2
  refine ne_dataH (reads_tuple_at ho hc hd (.cons (.int _ _) (.cons (.int _ _) .nil))) (reads_tuple_at ho' hc' hd' (.cons (.int _ _) (.cons (.int _ _) .nil))) (by rfl) (by rfl) hu ?_
  simpa [PyData.eqv, PyData.eqvAll] using h
theorem Rm.units64 {n : Nat} (r : Rm A n) (h : 9 ≤ n) : A.units + 64 < cLine := by have := r.units; omega
theorem list_at {l : Addr} {vs : List Value} {n : Nat} (e : s.heap.get? l = some (lobj vs n)) : s.heap.IsList l vs.toArray := ⟨_, e, rfl, n, rfl⟩
theorem b_lenR (F : Fr G L s.heap m) (N : News G L s.heap news) (hT : ∀ p ∈ T, p ∈ news) (B : BigT w root aS aE aR aL G T) (hz : (table root).length ≤ 1000) (h : Q (.int (table root).length (s.toks + 1)) { s with toks := s.toks + 1 + 1 }) : wpAny (model prog w) A (call (.builtin "len") [.ref aR]) Q E s := by
  obtain ⟨vs, k, e, R⟩ := (B.here F N hT).rows
  have hl := R.len
  exact len_list (list_at e) (by simp; omega) (by simpa [hl] using h)
theorem b_lenL (F : Fr G L s.heap m) (N : News G L s.heap news) (hT : ∀ p ∈ T, p ∈ news) (B : BigT w root aS aE aR aL G T) (hz : root.leaves.length ≤ 1000) (h : Q (.int root.leaves.length (s.toks + 1)) { s with toks := s.toks + 1 + 1 }) : wpAny (model prog w) A (call (.builtin "len") [.ref aL]) Q E s := by
  obtain ⟨k, e⟩ := (B.here F N hT).leaves
  exact len_list (list_at e) (by simp; omega) (by simpa using h)
theorem item_at {l : Addr} {vs : List Value} {i : Int} {u : Tok} {v : Value} {value slice : Expr} (hl : s.heap.IsList l vs.toArray) (hv : vs[i.toNat]? = some v) (h0 : 0 ≤ i) (hb : i < 1000000) (h : Q v s)
    (hs : subscripted slice false (.ref l) (.int i u) = operate [.ref l, .int i u] (getItem (.ref l) (.int i u)) := by with_unfolding_all rfl) :
    wpAny (model prog w) A (subscriptTail value slice (.ref l) (.int i u)) Q E s :=
  tail_any hl.typeIs slot_list_getitem.lookup (wpAny_getItem_list hl h0 (by omega) (by simpa using hv) h) hs
theorem b_row {i : Int} {u : Tok} {value slice : Expr} {r : Row} (F : Fr G L s.heap m) (N : News G L s.heap news) (hT : ∀ p ∈ T, p ∈ news) (B : BigT w root aS aE aR aL G T) (hr : (table root)[i.toNat]? = some r) (h0 : 0 ≤ i) (hb : i < 1000000)
    (h : ∀ D t1 t2 t3, s.heap.IsList D #[.ref r.t.addr, .int r.up t1, .int r.low t2, .int r.high t3] → Q (.ref D) s)
    (hs : subscripted slice false (.ref aR) (.int i u) = operate [.ref aR, .int i u] (getItem (.ref aR) (.int i u)) := by with_unfolding_all rfl) :
    wpAny (model prog w) A (subscriptTail value slice (.ref aR) (.int i u)) Q E s := by
  obtain ⟨vs, k, e, R⟩ := (B.here F N hT).rows
  obtain ⟨D, t1, t2, t3, ev, IL⟩ := R.get hr
  exact item_at (list_at e) ev h0 hb (h D t1 t2 t3 IL) hs
theorem b_start {i : Int} {u : Tok} {value slice : Expr} {p : Int × Int} (F : Fr G L s.heap m) (N : News G L s.heap news) (hT : ∀ p ∈ T, p ∈ news) (B : BigT w root aS aE aR aL G T) (hr : (startsOf root.leaves)[i.toNat]? = some p) (h0 : 0 ≤ i) (hb : i < 1000000)
    (h : ∀ l t u, IsTup s.heap l #[.int p.1 t, .int p.2 u] → Q (.ref l) s)
    (hs : subscripted slice false (.ref aS) (.int i u) = operate [.ref aS, .int i u] (getItem (.ref aS) (.int i u)) := by with_unfolding_all rfl) :
    wpAny (model prog w) A (subscriptTail value slice (.ref aS) (.int i u)) Q E s := by
  obtain ⟨vs, k, e, R⟩ := (B.here F N hT).starts
  obtain ⟨v, ev, l, t, u, rfl, it⟩ := R.get hr
  exact item_at (list_at e) ev h0 hb (h l t u it) hs
theorem b_end {i : Int} {u : Tok} {value slice : Expr} {p : Int × Int} (F : Fr G L s.heap m) (N : News G L s.heap news) (hT : ∀ p ∈ T, p ∈ news) (B : BigT w root aS aE aR aL G T) (hr : (allEnds root.leaves)[i.toNat]? = some p) (h0 : 0 ≤ i) (hb : i < 1000000)
    (h : ∀ l t u, IsTup s.heap l #[.int p.1 t, .int p.2 u] → Q (.ref l) s)
    (hs : subscripted slice false (.ref aE) (.int i u) = operate [.ref aE, .int i u] (getItem (.ref aE) (.int i u)) := by with_unfolding_all rfl) :
    wpAny (model prog w) A (subscriptTail value slice (.ref aE) (.int i u)) Q E s := by
  obtain ⟨vs, k, e, R⟩ := (B.here F N hT).ends
  obtain ⟨v, ev, l, t, u, rfl, it⟩ := R.get hr
  exact item_at (list_at e) ev h0 hb (h l t u it) hs
theorem b_leaf {i : Int} {u : Tok} {value slice : Expr} {x : LD} (F : Fr G L s.heap m) (N : News G L s.heap news) (hT : ∀ p ∈ T, p ∈ news) (B : BigT w root aS aE aR aL G T) (hr : root.leaves[i.toNat]? = some x) (h0 : 0 ≤ i) (hb : i < 1000000) (h : Q (.ref x.a) s)
    (hs : subscripted slice false (.ref aL) (.int i u) = operate [.ref aL, .int i u] (getItem (.ref aL) (.int i u)) := by with_unfolding_all rfl) :
    wpAny (model prog w) A (subscriptTail value slice (.ref aL) (.int i u)) Q E s := by
  obtain ⟨k, e⟩ := (B.here F N hT).leaves
  exact item_at (list_at e) (by rw [List.getElem?_map, hr]; rfl) h0 hb h hs
theorem b_tree (P : Place plain root t c) (B : BigT w root aS aE aR aL G T) (F : Fr G L s.heap m) (N : News G L s.heap news) (hT : ∀ p ∈ T, p ∈ news) : TreeAt w.params s.heap t (parV c) :=
  ctx_tree c t (by rw [P.plug]; exact (B.here F N hT).tree)
theorem b_plug (P : Place plain root t c) (B : BigT w root aS aE aR aL G T) (F : Fr G L s.heap m) (N : News G L s.heap news) (hT : ∀ p ∈ T, p ∈ news) : TreeAt w.params s.heap (plug t c) .none := by
  rw [P.plug]; exact (B.here F N hT).tree
/-- a call that leaves all as it was gives a pair -/
theorem pair_walk {f : Value} {args : List Value} {kw : List (Str × Value)} {a b : Int} (C : PureRes prog w A s (.call f ⟨args, kw⟩) fun v h' => Tup2 a b v h' s.heap) (F : Fr G L s.heap m) (N : News G L s.heap news)
    (h : ∀ l t u h' tk', Fr G L h' m → News G L h' news → IsTup h' l #[.int a t, .int b u] → Q (.ref l) { s with heap := h', toks := tk' }) : wpAny (model prog w) A (call f args kw) Q E s :=
  PureRes.walk C F N fun v h' tk' F' N' k p => by
    obtain ⟨l, t, u, rfl, _, hg⟩ := p
    exact h l t u h' tk' F' N' ⟨_, hg, rfl, _, rfl⟩
theorem is_walk {f : Value} {args : List Value} {kw : List (Str × Value)} {v₀ : Value} (C : PureRes prog w A s (.call f ⟨args, kw⟩) fun v h' => v = v₀) (F : Fr G L s.heap m) (N : News G L s.heap news)
    (h : ∀ h' tk', Fr G L h' m → News G L h' news → Q v₀ { s with heap := h', toks := tk' }) : wpAny (model prog w) A (call f args kw) Q E s :=
  PureRes.walk C F N fun v h' tk' F' N' k p => by
    subst p
    exact h h' tk' F' N'
theorem b_startpos {expr : Bool} (P : Place plain root t c) (hr : Rm A 30) (S : St w G) (F : Fr G L s.heap m) (N : News G L s.heap news) (hT : ∀ p ∈ T, p ∈ news) (B : BigT w root aS aE aR aL G T)
    (h : ∀ l t' u h' tk', Fr G L h' m → News G L h' news → IsTup h' l #[.int (firstOf t).line t', .int (firstOf t).col u] → Q (.ref l) { s with heap := h', toks := tk' }) : wpAny (model prog w) A (getAttr (.ref t.addr) "start_pos" expr) Q E s := by
  have T' := b_tree P B F N hT
  have C := start_all (prog := prog) (w := w) _ t (Nat.le_refl _) P.good.full A.in1 { s with toks := s.toks + 1 } (parV c) (hr.in1 (by have := P.ht; omega)) (st_of F S) T'
  have h2 : ∀ v h' tk', (∀ b o, s.heap.get? b = some o → h'.get? b = some o) → Tup2 (firstOf t).line (firstOf t).col v h' s.heap → Q v { s with heap := h', toks := tk' } := fun v h' tk' k p => by
    obtain ⟨l, t', u, rfl, _, hg⟩ := p
    exact h l t' u h' tk' (F.after k) (fun p hp => ⟨k _ _ (N p hp).1, (N p hp).2⟩) ⟨_, hg, rfl, _, rfl⟩
  have X := S.1
  cases t with
  | leaf x =>
    unfold TreeAt at T'
    exact get_prop (p := 136) (fget := 126) (rest := [.ref 135, .none, .none, .str (Str.ofString "start_pos") 454, .bool false]) F X T'.at (by obtain ⟨_, _, c, _⟩ := x; cases c <;> kernel_rfl!) (by obtain ⟨_, _, c, _⟩ := x; cases c <;> kernel_rfl!) (by obtain ⟨_, _, c, _⟩ := x; cases c <;> kernel_rfl!) (by kernel_rfl!) (by kernel_rfl!) (by kernel_rfl!) (prop_step C (fun _ _ h => h.handed) h2)
  | node x ts =>
    unfold TreeAt at T'
    exact get_prop (p := 200) (fget := 199) (rest := [.none, .none, .none, .str (Str.ofString "start_pos") 545, .bool false]) F X T'.1.at (by obtain ⟨_, _, _, c, _⟩ := x; cases c <;> kernel_rfl!) (by obtain ⟨_, _, _, c, _⟩ := x; cases c <;> kernel_rfl!) (by obtain ⟨_, _, _, c, _⟩ := x; cases c <;> kernel_rfl!) (by kernel_rfl!) (by kernel_rfl!) (by kernel_rfl!) (prop_step C (fun _ _ h => h.handed) h2)
theorem b_endpos {expr : Bool} (P : Place plain root t c) (hr : Rm A 30) (S : St w G) (F : Fr G L s.heap m) (N : News G L s.heap news) (hT : ∀ p ∈ T, p ∈ news) (B : BigT w root aS aE aR aL G T)
    (h : ∀ l t' u h' tk', Fr G L h' m → News G L h' news → IsTup h' l #[.int (eLine (lastOf t)) t', .int (eCol (lastOf t)) u] → Q (.ref l) { s with heap := h', toks := tk' }) : wpAny (model prog w) A (getAttr (.ref t.addr) "end_pos" expr) Q E s := by
  have T' := b_tree P B F N hT
  have C := end_all (prog := prog) (w := w) _ t (Nat.le_refl _) P.good.full A.in1 { s with toks := s.toks + 1 } (parV c) (hr.in1 (by have := P.ht; omega)) (st_of F S) T' P.good.texts
  have h2 : ∀ v h' tk', (∀ b o, s.heap.get? b = some o → h'.get? b = some o) → Tup2 (eLine (lastOf t)) (eCol (lastOf t)) v h' s.heap → Q v { s with heap := h', toks := tk' } := fun v h' tk' k p => by
    obtain ⟨l, t', u, rfl, _, hg⟩ := p
    exact h l t' u h' tk' (F.after k) (fun p hp => ⟨k _ _ (N p hp).1, (N p hp).2⟩) ⟨_, hg, rfl, _, rfl⟩
  have X := S.1
  cases t with
  | leaf x =>
    unfold TreeAt at T'
    have LL := T'.at
    obtain ⟨a, d, c, _⟩ := x
    cases c with
    | plain => exact get_prop (p := 173) (fget := 172) (rest := [.none, .none, .none, .str (Str.ofString "end_pos") 506, .bool false]) F X LL (by kernel_rfl!) (by kernel_rfl!) (by kernel_rfl!) (by kernel_rfl!) (by kernel_rfl!) (by kernel_rfl!) (prop_step C (fun _ _ h => h.handed) h2)
    | str => exact get_prop (p := 173) (fget := 172) (rest := [.none, .none, .none, .str (Str.ofString "end_pos") 506, .bool false]) F X LL (by kernel_rfl!) (by kernel_rfl!) (by kernel_rfl!) (by kernel_rfl!) (by kernel_rfl!) (by kernel_rfl!) (prop_step C (fun _ _ h => h.handed) h2)
    | name => exact get_prop (p := 333) (fget := 332) (rest := [.none, .none, .none, .str (Str.ofString "end_pos") 710, .bool false]) F X LL (by kernel_rfl!) (by kernel_rfl!) (by kernel_rfl!) (by kernel_rfl!) (by kernel_rfl!) (by kernel_rfl!) (prop_step C (fun _ _ h => h.handed) h2)
    | oper => exact get_prop (p := 333) (fget := 332) (rest := [.none, .none, .none, .str (Str.ofString "end_pos") 710, .bool false]) F X LL (by kernel_rfl!) (by kernel_rfl!) (by kernel_rfl!) (by kernel_rfl!) (by kernel_rfl!) (by kernel_rfl!) (prop_step C (fun _ _ h => h.handed) h2)
  | node x ts =>
    unfold TreeAt at T'
    exact get_prop (p := 215) (fget := 214) (rest := [.none, .none, .none, .str (Str.ofString "end_pos") 560, .bool false]) F X T'.1.at (by obtain ⟨_, _, _, c, _⟩ := x; cases c <;> kernel_rfl!) (by obtain ⟨_, _, _, c, _⟩ := x; cases c <;> kernel_rfl!) (by obtain ⟨_, _, _, c, _⟩ := x; cases c <;> kernel_rfl!) (by kernel_rfl!) (by kernel_rfl!) (by kernel_rfl!) (prop_step C (fun _ _ h => h.handed) h2)
theorem b_pref (P : Place plain root t c) (hr : Rm A 30) (S : St w G) (F : Fr G L s.heap m) (N : News G L s.heap news) (hT : ∀ p ∈ T, p ∈ news) (B : BigT w root aS aE aR aL G T)
    (h : ∀ l t' u h' tk', Fr G L h' m → News G L h' news → IsTup h' l #[.int (startPref (firstOf t) (prevLeafOf c)).1 t', .int (startPref (firstOf t) (prevLeafOf c)).2 u] → Q (.ref l) { s with heap := h', toks := tk' }) : wpAny (model prog w) A (call (.ref t.fPref) [.ref t.addr]) Q E s :=
  pair_walk (pref_all (prog := prog) (w := w) (py := !plain) _ t (Nat.le_refl _) P.good.full P.good.slim P.good.texts (fun y hy => by rw [(fits_leaf t P.good.fits y hy).1]; simp) A s c (hr.mono (by have := P.ht; omega)) (st_of F S) (b_plug P B F N hT) (by rw [P.plug]; exact P.nd) P.ctx) F N h
theorem b_first (P : Place plain root t c) (hr : Rm A 30) (S : St w G) (F : Fr G L s.heap m) (N : News G L s.heap news) (hT : ∀ p ∈ T, p ∈ news) (B : BigT w root aS aE aR aL G T)
    (h : ∀ h' tk', Fr G L h' m → News G L h' news → Q (.ref (firstOf t).a) { s with heap := h', toks := tk' }) : wpAny (model prog w) A (call (.ref t.fFirst) [.ref t.addr]) Q E s :=
  is_walk (first_all (prog := prog) (w := w) _ t (Nat.le_refl _) P.good.full A s (parV c) (hr.mono (by have := P.ht; omega)) (st_of F S) (b_tree P B F N hT)) F N h
theorem b_last (P : Place plain root t c) (hr : Rm A 30) (S : St w G) (F : Fr G L s.heap m) (N : News G L s.heap news) (hT : ∀ p ∈ T, p ∈ news) (B : BigT w root aS aE aR aL G T)
    (h : ∀ h' tk', Fr G L h' m → News G L h' news → Q (.ref (lastOf t).a) { s with heap := h', toks := tk' }) : wpAny (model prog w) A (call (.ref t.fLast) [.ref t.addr]) Q E s :=
  is_walk (last_all (prog := prog) (w := w) _ t (Nat.le_refl _) P.good.full A s (parV c) (hr.mono (by have := P.ht; omega)) (st_of F S) (b_tree P B F N hT)) F N h
theorem b_prevLeaf (P : Place plain root t c) (hr : Rm A 30) (S : St w G) (F : Fr G L s.heap m) (N : News G L s.heap news) (hT : ∀ p ∈ T, p ∈ news) (B : BigT w root aS aE aR aL G T)
    (h : ∀ h' tk', Fr G L h' m → News G L h' news → Q (prevOf c) { s with heap := h', toks := tk' }) : wpAny (model prog w) A (call (.ref 85) [.ref t.addr]) Q E s :=
  is_walk (prev_leaf (hr.mono (by omega)) (st_of F S) (b_plug P B F N hT) (by rw [P.plug]; exact P.nd) P.good1) F N h
theorem b_nextLeaf (P : Place plain root t c) (hr : Rm A 30) (S : St w G) (F : Fr G L s.heap m) (N : News G L s.heap news) (hT : ∀ p ∈ T, p ∈ news) (B : BigT w root aS aE aR aL G T)
    (h : ∀ h' tk', Fr G L h' m → News G L h' news → Q (nextOf c) { s with heap := h', toks := tk' }) : wpAny (model prog w) A (call (.ref 90) [.ref t.addr]) Q E s :=
  is_walk (next_leaf (hr.mono (by omega)) (st_of F S) (b_plug P B F N hT) (by rw [P.plug]; exact P.nd) P.good1) F N h
noncomputable def sibV : Option Tr → Value
  | none => .none
  | some b => .ref b.addr
theorem b_prevSib (P : Place plain root t c) (hr : Rm A 30) (S : St w G) (F : Fr G L s.heap m) (N : News G L s.heap news) (hT : ∀ p ∈ T, p ∈ news) (B : BigT w root aS aE aR aL G T)
    (h : ∀ h' tk', Fr G L h' m → News G L h' news → Q (sibV (lsOf c).getLast?) { s with heap := h', toks := tk' }) : wpAny (model prog w) A (call (.ref 80) [.ref t.addr]) Q E s := by
  have TP := b_plug P B F N hT
  have hn : (Mine.plug t c).addrs.Nodup := by rw [P.plug]; exact P.nd
  have hg := P.good1
  cases c with
  | nil => exact is_walk (prev_sib0 (hr.mono (by omega)) (st_of F S) TP) F N h
  | cons u up =>
    have C := prev_sib (prog := prog) (w := w) (A := A) (s := s) (hr.mono (k := 4) (by omega)) (st_of F S) TP hn (by have := (hg u (by simp)).1; omega)
    refine is_walk (v₀ := sibV u.ls.getLast?) (fun R hR => C R fun v h' tk' k p => hR v h' tk' k ?_) F N h
    rw [p]
    cases u.ls.getLast? <;> rfl
theorem b_root (P : Place plain root t c) (hr : Rm A 30) (S : St w G) (F : Fr G L s.heap m) (N : News G L s.heap news) (hT : ∀ p ∈ T, p ∈ news) (B : BigT w root aS aE aR aL G T)
    (h : ∀ h' tk', Fr G L h' m → News G L h' news → Q (.ref root.addr) { s with heap := h', toks := tk' }) : wpAny (model prog w) A (call (.ref 66) [.ref t.addr]) Q E s := by
  have C := root_node (prog := prog) (w := w) (A := A) (s := s) (hr.mono (k := 4) (by omega)) (st_of F S) (b_plug P B F N hT)
  rw [P.plug] at C
  exact is_walk C F N h
theorem isnot_same {v : Value} (hv : v = .none ∨ ∃ a, v = .ref a) (h : Q (.bool false) s) : wpAny (model prog w) A (compareOp .IsNot v v) Q E s := by
  rcases hv with rfl | ⟨a, rfl⟩
  · exact wpAny_isNot_self (by rfl) h
  · exact wpAny_isNot_ref_self h
end

noncomputable abbrev X4 (L : Addr) : List Addr := [L, L + 1, L + 1 + 1, 217]
/-- what does not change while the loop runs -/
structure Law (prog : Program) (w : World) (A : Around) (plain : Bool) (root : Tr) (s₀ : Shared) (L aR : Addr) (oR : Obj) : Prop where
  hr : Rm A 100
  hfr : A.frames = some []
  S : St w (hid s₀.heap)
  gl : (hid s₀.heap).objs.size ≤ L
  l217 : @LT.lt Nat _ 217 L
  l221 : @LT.lt Nat _ 221 L
  dR : oR.data = .cell (some (.ref aR))
  GR : GoodRoot plain root
/-- the state between two statements; hK is the heap at the turn's start, M what is left out of it -/
structure TS (w : World) (root : Tr) (s₀ : Shared) (L aS aE aR aL : Addr) (oR : Obj) (hK : Heap) (M : List Addr) (m : Str → Option Value) (s' : Shared) : Prop where
  kx : KX [217] s₀ s'
  ns : s'.heap.Ns L m
  keep : ∀ b o, (hid s₀.heap).get? b = some o → s'.heap.get? b = some o
  kept : ∀ b o, b ∉ X4 L → hK.get? b = some o → s'.heap.get? b = some o
  cR : s'.heap.get? (L + 1) = some oR
  tab : TabOk s'.heap
  bigK : Big w root aS aE aR aL (hideAll hK M)
  hM : ∀ a ∈ X4 L, a ∈ M
noncomputable def UpIs (L : Addr) (s' : Shared) (v : Option Value) : Prop := ∃ oU, s'.heap.get? (L + 1 + 1) = some oU ∧ oU.data = .cell v
structure Vars0 (root : Tr) (aS aE aL : Addr) (k : Nat) (m : Str → Option Value) : Prop where
  k : ∃ t, m (Str.ofString "k") = some (.int k t)
  leaves : m (Str.ofString "leaves") = some (.ref aL)
  root : m (Str.ofString "root") = some (.ref root.addr)
  starts : m (Str.ofString "starts") = some (.ref aS)
  ends : m (Str.ofString "ends") = some (.ref aE)
structure Vars (root : Tr) (aS aE aL : Addr) (k : Nat) (r : Row) (m : Str → Option Value) : Prop extends Vars0 root aS aE aL k m where
  one : m (Str.ofString "one") = some (.ref r.t.addr)
  low : ∃ t, m (Str.ofString "low") = some (.int r.low t)
  high : ∃ t, m (Str.ofString "high") = some (.int r.high t)
section
variable {prog : Program} {w : World} {A : Around} {plain : Bool} {root : Tr} {s₀ s' : Shared} {L aS aE aR aL : Addr} {oR : Obj} {hK : Heap} {M : List Addr} {m : Str → Option Value}
theorem TS.open (Lw : Law prog w A plain root s₀ L aR oR) (H : TS w root s₀ L aS aE aR aL oR hK M m s') {v : Option Value} (hU : UpIs L s' v) :
    ∃ oU oT, oU.data = .cell v ∧ Fr (hid s₀.heap) L s'.heap m ∧ News (hid s₀.heap) L s'.heap ((L + 1 + 1, oU) :: (L + 1, oR) :: (217, oT) :: restX (X4 L) (hid s₀.heap) s'.heap) ∧ BigT w root aS aE aR aL (hid s₀.heap) (restX (X4 L) (hid s₀.heap) s'.heap) := by
  obtain ⟨oU, eU, dU⟩ := hU
  obtain ⟨oT, eT⟩ : ∃ oT, s'.heap.get? 217 = some oT := by obtain ⟨ps, _, t⟩ := H.tab; exact ⟨_, t.2⟩
  have above : ∀ a, L < a → (hid s₀.heap).get? a = none := fun a ha => by
    cases q : (hid s₀.heap).get? a with
    | none => rfl
    | some o => exact absurd (Nat.lt_of_lt_of_le (Heap.lt_size q) Lw.gl) (Nat.not_lt_of_le (Nat.le_of_lt ha))
  refine ⟨oU, oT, dU, ⟨H.ns, H.keep, Lw.gl⟩, news_restX (l := [(L + 1 + 1, oU), (L + 1, oR), (217, oT)]) (fun p hp => ?_) (by simp), fun h'' k1 k2 => H.bigK.keeps fun b o e => ?_⟩
  · simp only [List.mem_cons, List.not_mem_nil, or_false] at hp
    rcases hp with rfl | rfl | rfl
    · exact ⟨eU, Nat.ne_of_gt (Nat.lt_succ_of_lt (Nat.lt_succ_self _)), above _ (Nat.lt_succ_of_lt (Nat.lt_succ_self _))⟩
    · exact ⟨H.cR, Nat.ne_of_gt (Nat.lt_succ_self _), above _ (Nat.lt_succ_self _)⟩
    · exact ⟨eT, Nat.ne_of_lt Lw.l217, hideAll_none _ (by simp)⟩
  · have hbM : b ∉ M := fun hm => by rw [hideAll_none _ hm] at e; cases e
    have hbX : b ∉ X4 L := fun hm => hbM (H.hM b hm)
    have e2 := H.kept b o hbX (of_hideAll _ e)
    cases q : (hid s₀.heap).get? b with
    | none => exact k2 (b, o) (restX_mem.mpr ⟨hbX, q, e2⟩)
    | some o' =>
      have := H.keep b o' q
      rw [e2] at this
      rw [this]
      exact k1 b o' q
theorem TS.close {h' : Heap} {m' : Str → Option Value} {tk : Nat} {oT : Obj} {news : List (Addr × Obj)} (Lw : Law prog w A plain root s₀ L aR oR) (H : TS w root s₀ L aS aE aR aL oR hK M m s') (hT : s'.heap.get? 217 = some oT) (F' : Fr (hid s₀.heap) L h' m') (N' : News (hid s₀.heap) L h' news)
    (sub : ∀ p ∈ (L + 1, oR) :: (217, oT) :: restX (X4 L) (hid s₀.heap) s'.heap, p ∈ news) : TS w root s₀ L aS aE aR aL oR hK M m' { s' with heap := h', toks := tk } := by
  have k : ∀ b o, b ∉ X4 L → s'.heap.get? b = some o → h'.get? b = some o := restX_keep ⟨H.ns, H.keep, Lw.gl⟩ F' N' fun p hp => sub p (List.mem_cons_of_mem _ (List.mem_cons_of_mem _ hp))
  have e217 := (N' _ (sub _ (List.mem_cons_of_mem _ (List.mem_cons_self ..)))).1
  refine ⟨⟨fun b o hb e => F'.keep b o (hid_get e (by simpa using hb)), H.kx.gsz, H.kx.gold, H.kx.gnew, H.kx.drawn, H.kx.os⟩, F'.ns, F'.keep, fun b o hb e => k b o hb (H.kept b o hb e), (N' _ (sub _ (List.mem_cons_self ..))).1, ?_, H.bigK, H.hM⟩
  obtain ⟨ps, hc, ht⟩ := H.tab
  have h221 : (221 : Addr) ∉ X4 L := by
    intro hm
    simp only [List.mem_cons, List.not_mem_nil, or_false] at hm
    have h2 := Lw.l221
    rcases hm with q | q | q | q
    · exact absurd (q ▸ h2) (Nat.lt_irrefl _)
    · exact absurd (q ▸ h2) (Nat.not_lt_of_le (Nat.le_succ _))
    · exact absurd (q ▸ h2) (Nat.not_lt_of_le (Nat.le_succ_of_le (Nat.le_succ _)))
    · exact absurd q (by decide)
  refine TabOk.at ⟨ps, hc, ht⟩ (fun o e => k 221 o h221 e) fun o e => ?_
  rw [hT] at e
  exact e ▸ e217
theorem Vars0.fr {G h : Heap} {k : Nat} (V : Vars0 root aS aE aL k m) (F : Fr G L h m) : ∃ tk, Fr G L h (fun y => if y = Str.ofString "k" then some (.int k tk) else if y = Str.ofString "leaves" then some (.ref aL) else if y = Str.ofString "root" then some (.ref root.addr) else if y = Str.ofString "starts" then some (.ref aS) else if y = Str.ofString "ends" then some (.ref aE) else m y) := by
  obtain ⟨tk, hk⟩ := V.k
  refine ⟨tk, Fr.congr F fun y => ?_⟩
  repeat (split; rename_i q; rw [q]; first | exact hk | exact V.leaves | exact V.root | exact V.starts | exact V.ends)
  rfl
theorem Vars.fr {G h : Heap} {k : Nat} {r : Row} (V : Vars root aS aE aL k r m) (F : Fr G L h m) : ∃ tk tl th, Fr G L h (fun y => if y = Str.ofString "one" then some (.ref r.t.addr) else if y = Str.ofString "low" then some (.int r.low tl) else if y = Str.ofString "high" then some (.int r.high th) else if y = Str.ofString "k" then some (.int k tk) else if y = Str.ofString "leaves" then some (.ref aL) else if y = Str.ofString "root" then some (.ref root.addr) else if y = Str.ofString "starts" then some (.ref aS) else if y = Str.ofString "ends" then some (.ref aE) else m y) := by
  obtain ⟨tk, hk⟩ := V.k
  obtain ⟨tl, hl⟩ := V.low
  obtain ⟨th, hh⟩ := V.high
  refine ⟨tk, tl, th, Fr.congr F fun y => ?_⟩
  repeat (split; rename_i q; rw [q]; first | exact hk | exact V.leaves | exact V.root | exact V.starts | exact V.ends | exact V.one | exact hl | exact hh)
  rfl
end

section
local macro_rules | `(tactic| k_all) => `(tactic| exact restX_ne (by simp))
theorem lines_T1_1 : True := by
  k_with_none
  k_with "call builtin:len" => (((with_reducible show wpAny _ _ (call _ [Value.ref _]) _ _ _); k_dflt (refine' b_lenR ?F_909 ?N_909 ?T_909 ?B_909 ?z_909 ?_; (case F_909 => k_asm); (case N_909 => k_asm); (case B_909 => assumption); (case T_909 => (intro _ x_hp; repeat (first | exact x_hp | refine List.mem_cons_of_mem _ ?_))); (case z_909 => assumption); k_whole)))
  k_with "call builtin:len" => (((with_reducible show wpAny _ _ (call _ [Value.ref _]) _ _ _); k_dflt (refine' b_lenL ?F_da5 ?N_da5 ?T_da5 ?B_da5 ?z_da5 ?_; (case F_da5 => k_asm); (case N_da5 => k_asm); (case B_da5 => assumption); (case T_da5 => (intro _ x_hp; repeat (first | exact x_hp | refine List.mem_cons_of_mem _ ?_))); (case z_da5 => assumption); k_whole)))
  k_with "subscriptTail" => (((with_reducible show wpAny _ _ (subscriptTail _ _ (Value.ref _) (Value.int _ _)) _ _ _); k_dflt (refine' b_row ?F_5fe ?N_5fe ?T_5fe ?B_5fe ?H_5fe ?a_5fe ?b_5fe ?_; (case F_5fe => k_asm); (case N_5fe => k_asm); (case B_5fe => assumption); (case T_5fe => (intro _ x_hp; repeat (first | exact x_hp | refine List.mem_cons_of_mem _ ?_))); (case H_5fe => assumption); (case a_5fe => first | assumption | omega); (case b_5fe => first | assumption | omega); k_whole; intro _ _ _ _ _)))
  k_with "subscriptTail" => (((with_reducible show wpAny _ _ (subscriptTail _ _ (Value.ref _) (Value.int _ _)) _ _ _); k_dflt (refine' b_start ?F_45a ?N_45a ?T_45a ?B_45a ?H_45a ?a_45a ?b_45a ?_; (case F_45a => k_asm); (case N_45a => k_asm); (case B_45a => assumption); (case T_45a => (intro _ x_hp; repeat (first | exact x_hp | refine List.mem_cons_of_mem _ ?_))); (case H_45a => assumption); (case a_45a => first | assumption | omega); (case b_45a => first | assumption | omega); k_whole; intro _ _ _ _)))
  k_with "subscriptTail" => (((with_reducible show wpAny _ _ (subscriptTail _ _ (Value.ref _) (Value.int _ _)) _ _ _); k_dflt (refine' b_end ?F_97c ?N_97c ?T_97c ?B_97c ?H_97c ?a_97c ?b_97c ?_; (case F_97c => k_asm); (case N_97c => k_asm); (case B_97c => assumption); (case T_97c => (intro _ x_hp; repeat (first | exact x_hp | refine List.mem_cons_of_mem _ ?_))); (case H_97c => assumption); (case a_97c => first | assumption | omega); (case b_97c => first | assumption | omega); k_whole; intro _ _ _ _)))
  k_with "subscriptTail" => (((with_reducible show wpAny _ _ (subscriptTail _ _ (Value.ref _) (Value.int _ _)) _ _ _); k_dflt (refine' b_leaf ?F_5f0 ?N_5f0 ?T_5f0 ?B_5f0 ?H_5f0 ?a_5f0 ?b_5f0 ?_; (case F_5f0 => k_asm); (case N_5f0 => k_asm); (case B_5f0 => assumption); (case T_5f0 => (intro _ x_hp; repeat (first | exact x_hp | refine List.mem_cons_of_mem _ ?_))); (case H_5f0 => assumption); (case a_5f0 => first | assumption | omega); (case b_5f0 => first | assumption | omega); k_whole)))
  k_with "getAttr ref" => (((with_reducible show wpAny _ _ (getAttr (Value.ref _) (PySem.Str.ofString "start_pos") _) _ _ _); k_dflt (refine' b_startpos ?P_bba ?R_bba ?S_bba ?F_bba ?N_bba ?T_bba ?B_bba ?_; (case F_bba => k_asm); (case N_bba => k_asm); (case B_bba => assumption); (case T_bba => (intro _ x_hp; repeat (first | exact x_hp | refine List.mem_cons_of_mem _ ?_))); (case P_bba => assumption); (case R_bba => exact Rm.deeper (k := 30) (Law.hr (by assumption)) (by omega)); (case S_bba => assumption); k_whole; intro _ _ _ _ _ _ _ _; (try dsimp only); (try k_sweep))))
  k_with "getAttr ref" => (((with_reducible show wpAny _ _ (getAttr (Value.ref _) (PySem.Str.ofString "end_pos") _) _ _ _); k_dflt (refine' b_endpos ?P_c9c ?R_c9c ?S_c9c ?F_c9c ?N_c9c ?T_c9c ?B_c9c ?_; (case F_c9c => k_asm); (case N_c9c => k_asm); (case B_c9c => assumption); (case T_c9c => (intro _ x_hp; repeat (first | exact x_hp | refine List.mem_cons_of_mem _ ?_))); (case P_c9c => assumption); (case R_c9c => exact Rm.deeper (k := 30) (Law.hr (by assumption)) (by omega)); (case S_c9c => assumption); k_whole; intro _ _ _ _ _ _ _ _; (try dsimp only); (try k_sweep))))
  k_with "getMethod ref" => (((with_reducible show wpAny _ _ (getMethod (Value.ref _) (PySem.Str.ofString "get_first_leaf") _) _ _ _); (k_dflt (refine' gm0_first ?X_3a1 ?V_3a1 ?_; (case X_3a1 => exact (st_of (by k_asm) (by assumption)).1); (case V_3a1 => exact b_tree (by assumption) (by assumption) (by k_asm) (by k_asm) (by intro _ x_hp; repeat (first | exact x_hp | refine List.mem_cons_of_mem _ ?_))); k_whole; try dsimp only))))
  k_with "getMethod ref" => (((with_reducible show wpAny _ _ (getMethod (Value.ref _) (PySem.Str.ofString "get_last_leaf") _) _ _ _); (k_dflt (refine' gm0_last ?X_d9c ?V_d9c ?_; (case X_d9c => exact (st_of (by k_asm) (by assumption)).1); (case V_d9c => exact b_tree (by assumption) (by assumption) (by k_asm) (by k_asm) (by intro _ x_hp; repeat (first | exact x_hp | refine List.mem_cons_of_mem _ ?_))); k_whole; try dsimp only))))
  k_with "getMethod ref" => (((with_reducible show wpAny _ _ (getMethod (Value.ref _) (PySem.Str.ofString "get_start_pos_of_prefix") _) _ _ _); (k_dflt (refine' gm0_pref ?X_765 ?V_765 ?_; (case X_765 => exact (st_of (by k_asm) (by assumption)).1); (case V_765 => exact b_tree (by assumption) (by assumption) (by k_asm) (by k_asm) (by intro _ x_hp; repeat (first | exact x_hp | refine List.mem_cons_of_mem _ ?_))); k_whole; try dsimp only))))
  k_with "getMethod ref" => (((with_reducible show wpAny _ _ (getMethod (Value.ref _) (PySem.Str.ofString "get_previous_leaf") _) _ _ _); (k_dflt (refine' gm0_prevLeaf ?X_bbc ?V_bbc ?_; (case X_bbc => exact (st_of (by k_asm) (by assumption)).1); (case V_bbc => exact b_tree (by assumption) (by assumption) (by k_asm) (by k_asm) (by intro _ x_hp; repeat (first | exact x_hp | refine List.mem_cons_of_mem _ ?_))); k_whole; try dsimp only))))
  k_with "getMethod ref" => (((with_reducible show wpAny _ _ (getMethod (Value.ref _) (PySem.Str.ofString "get_next_leaf") _) _ _ _); (k_dflt (refine' gm0_nextLeaf ?X_81b ?V_81b ?_; (case X_81b => exact (st_of (by k_asm) (by assumption)).1); (case V_81b => exact b_tree (by assumption) (by assumption) (by k_asm) (by k_asm) (by intro _ x_hp; repeat (first | exact x_hp | refine List.mem_cons_of_mem _ ?_))); k_whole; try dsimp only))))
  k_with "getMethod ref" => (((with_reducible show wpAny _ _ (getMethod (Value.ref _) (PySem.Str.ofString "get_previous_sibling") _) _ _ _); (k_dflt (refine' gm0_prevSib ?X_585 ?V_585 ?_; (case X_585 => exact (st_of (by k_asm) (by assumption)).1); (case V_585 => exact b_tree (by assumption) (by assumption) (by k_asm) (by k_asm) (by intro _ x_hp; repeat (first | exact x_hp | refine List.mem_cons_of_mem _ ?_))); k_whole; try dsimp only))))
  k_with "getMethod ref" => (((with_reducible show wpAny _ _ (getMethod (Value.ref _) (PySem.Str.ofString "get_next_sibling") _) _ _ _); (k_dflt (refine' gm0_nextSib ?X_3f0 ?V_3f0 ?_; (case X_3f0 => exact (st_of (by k_asm) (by assumption)).1); (case V_3f0 => exact b_tree (by assumption) (by assumption) (by k_asm) (by k_asm) (by intro _ x_hp; repeat (first | exact x_hp | refine List.mem_cons_of_mem _ ?_))); k_whole; try dsimp only))))
  k_with "getMethod ref" => (((with_reducible show wpAny _ _ (getMethod (Value.ref _) (PySem.Str.ofString "get_root_node") _) _ _ _); (k_dflt (refine' gm0_root ?X_339 ?V_339 ?_; (case X_339 => exact (st_of (by k_asm) (by assumption)).1); (case V_339 => exact b_tree (by assumption) (by assumption) (by k_asm) (by k_asm) (by intro _ x_hp; repeat (first | exact x_hp | refine List.mem_cons_of_mem _ ?_))); k_whole; try dsimp only))))
  k_with "callWith ref" => (((k_dflt (refine' callWith_K0 ?k1_57 ?k2_57 ?_; (case k1_57 => exact (st_of (by k_asm) (by assumption)).1); (case k2_57 => first | exact keep_first _ _ | exact keep_last _ _ | exact keep_pref _ _ | kernel_rfl!); k_whole; try dsimp only [List.cons_append, List.nil_append]))))
  k_with "call ref" => (((with_reducible show wpAny _ _ (call (Value.ref (Tr.fPref _)) _ _) _ _ _); k_dflt (refine' b_pref ?P_dcb ?R_dcb ?S_dcb ?F_dcb ?N_dcb ?T_dcb ?B_dcb ?_; (case F_dcb => k_asm); (case N_dcb => k_asm); (case B_dcb => assumption); (case T_dcb => (intro _ x_hp; repeat (first | exact x_hp | refine List.mem_cons_of_mem _ ?_))); (case P_dcb => assumption); (case R_dcb => exact Rm.deeper (k := 30) (Law.hr (by assumption)) (by omega)); (case S_dcb => assumption); k_whole; intro _ _ _ _ _ _ _ _; (try dsimp only); (try k_sweep))))
  k_with "call ref" => (((with_reducible show wpAny _ _ (call (Value.ref (Tr.fFirst _)) _ _) _ _ _); k_dflt (refine' b_first ?P_c2c ?R_c2c ?S_c2c ?F_c2c ?N_c2c ?T_c2c ?B_c2c ?_; (case F_c2c => k_asm); (case N_c2c => k_asm); (case B_c2c => assumption); (case T_c2c => (intro _ x_hp; repeat (first | exact x_hp | refine List.mem_cons_of_mem _ ?_))); (case P_c2c => assumption); (case R_c2c => exact Rm.deeper (k := 30) (Law.hr (by assumption)) (by omega)); (case S_c2c => assumption); k_whole; intro _ _ _ _; (try dsimp only); (try k_sweep))))
  k_with "call ref" => (((with_reducible show wpAny _ _ (call (Value.ref (Tr.fLast _)) _ _) _ _ _); k_dflt (refine' b_last ?P_f9 ?R_f9 ?S_f9 ?F_f9 ?N_f9 ?T_f9 ?B_f9 ?_; (case F_f9 => k_asm); (case N_f9 => k_asm); (case B_f9 => assumption); (case T_f9 => (intro _ x_hp; repeat (first | exact x_hp | refine List.mem_cons_of_mem _ ?_))); (case P_f9 => assumption); (case R_f9 => exact Rm.deeper (k := 30) (Law.hr (by assumption)) (by omega)); (case S_f9 => assumption); k_whole; intro _ _ _ _; (try dsimp only); (try k_sweep))))
  k_with "call ref" => (((with_reducible show wpAny _ _ (call (Value.ref 85) _ _) _ _ _); k_dflt (refine' b_prevLeaf ?P_3af ?R_3af ?S_3af ?F_3af ?N_3af ?T_3af ?B_3af ?_; (case F_3af => k_asm); (case N_3af => k_asm); (case B_3af => assumption); (case T_3af => (intro _ x_hp; repeat (first | exact x_hp | refine List.mem_cons_of_mem _ ?_))); (case P_3af => assumption); (case R_3af => exact Rm.deeper (k := 30) (Law.hr (by assumption)) (by omega)); (case S_3af => assumption); k_whole; intro _ _ _ _; (try dsimp only); (try k_sweep))))
  k_with "call ref" => (((with_reducible show wpAny _ _ (call (Value.ref 90) _ _) _ _ _); k_dflt (refine' b_nextLeaf ?P_85f ?R_85f ?S_85f ?F_85f ?N_85f ?T_85f ?B_85f ?_; (case F_85f => k_asm); (case N_85f => k_asm); (case B_85f => assumption); (case T_85f => (intro _ x_hp; repeat (first | exact x_hp | refine List.mem_cons_of_mem _ ?_))); (case P_85f => assumption); (case R_85f => exact Rm.deeper (k := 30) (Law.hr (by assumption)) (by omega)); (case S_85f => assumption); k_whole; intro _ _ _ _; (try dsimp only); (try k_sweep))))
  k_with "call ref" => (((with_reducible show wpAny _ _ (call (Value.ref 80) _ _) _ _ _); k_dflt (refine' b_prevSib ?P_252 ?R_252 ?S_252 ?F_252 ?N_252 ?T_252 ?B_252 ?_; (case F_252 => k_asm); (case N_252 => k_asm); (case B_252 => assumption); (case T_252 => (intro _ x_hp; repeat (first | exact x_hp | refine List.mem_cons_of_mem _ ?_))); (case P_252 => assumption); (case R_252 => exact Rm.deeper (k := 30) (Law.hr (by assumption)) (by omega)); (case S_252 => assumption); k_whole; intro _ _ _ _; (try dsimp only); (try k_sweep))))
  k_with "call ref" => (((with_reducible show wpAny _ _ (call (Value.ref 66) _ _) _ _ _); k_dflt (refine' b_root ?P_cfb ?R_cfb ?S_cfb ?F_cfb ?N_cfb ?T_cfb ?B_cfb ?_; (case F_cfb => k_asm); (case N_cfb => k_asm); (case B_cfb => assumption); (case T_cfb => (intro _ x_hp; repeat (first | exact x_hp | refine List.mem_cons_of_mem _ ?_))); (case P_cfb => assumption); (case R_cfb => exact Rm.deeper (k := 30) (Law.hr (by assumption)) (by omega)); (case S_cfb => assumption); k_whole; intro _ _ _ _; (try dsimp only); (try k_sweep))))
  k_with "compareOp NotEq ref ref" => (((k_dflt (refine' ne_tups ?U_c64 ?a_c64 ?b_c64 ?_; (case U_c64 => exact Rm.units64 (Rm.deeper (k := 30) (Law.hr (by assumption)) (by omega)) (by omega)); (case a_c64 => assumption); (case b_c64 => assumption); k_whole))))
  k_with "assign Tuple" => (((with_reducible show wpAny _ _ (assign (Expr.Tuple _ _ _) _ (Value.ref _)) _ _ _); k_dflt (refine' kun_list ?F_4d1 ?N_4d1 ?l_4d1 ?k1_4d1 ?k2_4d1 ?k3_4d1 ?_; (case F_4d1 => k_asm); (case N_4d1 => k_asm); (case l_4d1 => assumption); (case k1_4d1 => exact Rm.hh (Rm.deeper (k := 30) (Law.hr (by assumption)) (by omega))); (case k2_4d1 => exact rfl); (case k3_4d1 => exact rfl)); intro _ _ _; (try k_sweep)))
  trivial

theorem table_len {root : Tr} {plain : Bool} (g : GoodRoot plain root) : (table root).length ≤ 1000 := by
  rw [show (table root).length = sizeT root from rows_len root [] (-1) 0 0]
  have h1 := size_le 4 root g.ht g.good.full
  have h2 := g.len
  omega
theorem table_lt {root : Tr} {plain : Bool} (g : GoodRoot plain root) {k : Nat} {r : Row} (h : (table root)[k]? = some r) : k < 1000 := by
  have h1 := table_len g
  rcases Nat.lt_or_ge k (table root).length with q | q
  · omega
  · rw [List.getElem?_eq_none q] at h; cases h
theorem table_ok {root : Tr} {k : Nat} {r : Row} (h : (table root)[k]? = some r) : RowOk root r := rows_ok root [] (-1) 0 0 rfl rfl r (List.mem_of_getElem? h)
theorem turn_1 {prog : Program} {w : World} {A : Around} {plain : Bool} {root : Tr} {s₀ s' : Shared} {L aS aE aR aL : Addr} {oR : Obj} {hK : Heap} {M : List Addr} {m : Str → Option Value} {k : Nat} {r : Row} {Q : Flow → Shared → Prop} (Lw : Law prog w A plain root s₀ L aR oR) (hk : (table root)[k]? = some r)
    (H : TS w root s₀ L aS aE aR aL oR hK M m s') (V : Vars0 root aS aE aL k m) {v : Option Value} (U : UpIs L s' v)
    (hQ : ∀ m' s'', TS w root s₀ L aS aE aR aL oR hK M m' s'' → Vars root aS aE aL k r m' → (∃ tu, UpIs L s'' (some (.int r.up tu))) → Stop (wpAny (model prog w) (A.deeper (lawEnv w.params L)) (execs ((lawTurn w.params).drop 1) (lawEnv w.params L)) Q (fun _ _ => False) s'')) :
    Stop (wpAny (model prog w) (A.deeper (lawEnv w.params L)) (execs (lawTurn w.params) (lawEnv w.params L)) Q (fun _ _ => False) s') := by
  refine ⟨?_⟩
  have ⟨X, p', loose, mg, mb, T, _⟩ := Lw.S
  have dR := Lw.dR
  have h217 := Lw.l217
  obtain ⟨oU, oT, dU, F, N, B⟩ := H.open Lw U
  have eT := (N (217, oT) (by simp)).1
  obtain ⟨tk, F⟩ := V.fr F
  have hkl := table_lt Lw.GR hk
  have hk2 : (table root)[((k : Int)).toNat]? = some r := by simpa using hk
  generalize hG : hid s₀.heap = G at *
  unfold lawEnv
  conv in (occs := *) lawScope _ => all_goals whnf
  conv in lawTurn _ => whnf
  show wpAny _ _ _ _ _ _
  try k_fold
  refine execs_mid (fun s'' => ∃ h m' tk oU, s'' = { s' with heap := h, toks := tk } ∧ Fr G L h m' ∧ News G L h ((L + 1 + 1, oU) :: (L + 1, oR) :: (217, oT) :: restX (X4 L) G s'.heap) ∧ (∃ tu, oU.data = .cell (some (.int r.up tu))) ∧ Vars root aS aE aL k r m') ?a ?b
  case a =>
    k_steps
    exact ⟨⟨_, _, _, _, rfl, by assumption, by assumption, ⟨_, by assumption⟩, ⟨⟨⟨_, rfl⟩, rfl, rfl, rfl, rfl⟩, rfl, ⟨_, rfl⟩, ⟨_, rfl⟩⟩⟩⟩
  case b =>
    rintro s'' ⟨h, m', tk', oU', rfl, F', N', ⟨tu, dU'⟩, V'⟩
    subst hG
    obtain ⟨z⟩ := hQ m' _ (H.close Lw eT F' N' fun p hp => List.mem_cons_of_mem _ hp) V' ⟨tu, oU', (N' _ (List.mem_cons_self ..)).1, dU'⟩
    assumption


/-- what the table says of one row -/
structure RowF (plain : Bool) (root : Tr) (r : Row) : Prop where
  P : Place plain root r.t r.c
  f1 : (startsOf root.leaves)[(r.low : Int).toNat]? = some ((firstOf r.t).line, (firstOf r.t).col)
  f2 : (allEnds root.leaves)[(r.high : Int).toNat]? = some (eLine (lastOf r.t), eCol (lastOf r.t))
  f3 : (allEnds root.leaves)[(r.low : Int).toNat]? = some (startPref (firstOf r.t) (prevLeafOf r.c))
  f4 : root.leaves[(r.low : Int).toNat]? = some (firstOf r.t)
  f5 : root.leaves[((r.high : Int) - 1).toNat]? = some (lastOf r.t)
  f6 : r.low < r.high
  f7 : r.high ≤ 81
  f8 : r.low = (befL r.c).length
  f9 : r.high = r.low + r.t.leaves.length
theorem row_f {plain : Bool} {root : Tr} {k : Nat} {r : Row} (g : GoodRoot plain root) (hk : (table root)[k]? = some r) : RowF plain root r := by
  have o := table_ok hk
  have P := place_of g o
  have e1 : ((r.low : Int)).toNat = (befL r.c).length := by rw [o.low]; simp
  have e2 : ((r.high : Int)).toNat = (befL r.c).length + r.t.leaves.length := by rw [o.high, o.low]; omega
  have e3 : ((r.high : Int) - 1).toNat = (befL r.c).length + r.t.leaves.length - 1 := by rw [o.high, o.low]; omega
  have hp := leaves_pos P.good.full
  have hl : (befL r.c).length + r.t.leaves.length ≤ root.leaves.length := by rw [← P.plug, plug_leaves, List.length_append, List.length_append]; omega
  have h81 := g.len
  refine ⟨P, ?_, ?_, ?_, ?_, ?_, ?_, ?_, o.low, o.high⟩
  · rw [e1]; exact starts_at (at_first P.good.full P.plug)
  · rw [e2]; exact end_at P.good P.plug
  · rw [e1]; exact pref_at P.good P.ctx g.chain (fun y hy => (fits_leaf root g.good.fits y hy).2) P.plug
  · rw [e1]; exact at_first P.good.full P.plug
  · rw [e3]; exact at_last P.good.full P.plug
  · rw [o.high]; omega
  · rw [o.high, o.low]; omega

theorem turn_2 {prog : Program} {w : World} {A : Around} {plain : Bool} {root : Tr} {s₀ s' : Shared} {L aS aE aR aL : Addr} {oR : Obj} {hK : Heap} {M : List Addr} {m : Str → Option Value} {k : Nat} {r : Row} {Q : Flow → Shared → Prop} {tu : Tok} (Lw : Law prog w A plain root s₀ L aR oR) (hk : (table root)[k]? = some r)
    (H : TS w root s₀ L aS aE aR aL oR hK M m s') (V : Vars root aS aE aL k r m) (U : UpIs L s' (some (.int r.up tu)))
    (hQ : ∀ m' s'', TS w root s₀ L aS aE aR aL oR hK M m' s'' → Vars root aS aE aL k r m' → UpIs L s'' (some (.int r.up tu)) → Stop (wpAny (model prog w) (A.deeper (lawEnv w.params L)) (execs ((lawTurn w.params).drop 2) (lawEnv w.params L)) Q (fun _ _ => False) s'')) :
    Stop (wpAny (model prog w) (A.deeper (lawEnv w.params L)) (execs ((lawTurn w.params).drop 1) (lawEnv w.params L)) Q (fun _ _ => False) s') := by
  refine ⟨?_⟩
  have S := Lw.S
  have ⟨X, p', loose, mg, mb, T, _⟩ := S
  have dR := Lw.dR
  have h217 := Lw.l217
  obtain ⟨P, f1, f2, f3, f4, f5, f6, f7, f8, f9⟩ := row_f Lw.GR hk
  have hll := Lw.GR.len
  obtain ⟨oU, oT, dU, F, N, B⟩ := H.open Lw U
  have eT := (N (217, oT) (by simp)).1
  obtain ⟨tk, tl, th, F⟩ := V.fr F
  generalize hG : hid s₀.heap = G at *
  unfold lawEnv
  conv in (occs := *) lawScope _ => all_goals whnf
  conv in List.drop _ (lawTurn _) => whnf
  show wpAny _ _ _ _ _ _
  refine execs_mid (fun s'' => ∃ h m' tk, s'' = { s' with heap := h, toks := tk } ∧ Fr G L h m' ∧ News G L h ((L + 1 + 1, oU) :: (L + 1, oR) :: (217, oT) :: restX (X4 L) G s'.heap) ∧ Vars root aS aE aL k r m') ?a ?b
  case a =>
    k_steps
    exact ⟨⟨_, _, _, rfl, by assumption, by assumption, ⟨⟨⟨_, rfl⟩, rfl, rfl, rfl, rfl⟩, rfl, ⟨_, rfl⟩, ⟨_, rfl⟩⟩⟩⟩
  case b =>
    rintro s'' ⟨h, m', tk', rfl, F', N', V'⟩
    subst hG
    obtain ⟨z⟩ := hQ m' _ (H.close Lw eT F' N' fun p hp => List.mem_cons_of_mem _ hp) V' ⟨oU, (N' _ (List.mem_cons_self ..)).1, dU⟩
    assumption

theorem turn_3 {prog : Program} {w : World} {A : Around} {plain : Bool} {root : Tr} {s₀ s' : Shared} {L aS aE aR aL : Addr} {oR : Obj} {hK : Heap} {M : List Addr} {m : Str → Option Value} {k : Nat} {r : Row} {Q : Flow → Shared → Prop} {tu : Tok} (Lw : Law prog w A plain root s₀ L aR oR) (hk : (table root)[k]? = some r)
    (H : TS w root s₀ L aS aE aR aL oR hK M m s') (V : Vars root aS aE aL k r m) (U : UpIs L s' (some (.int r.up tu)))
    (hQ : ∀ m' s'', TS w root s₀ L aS aE aR aL oR hK M m' s'' → Vars root aS aE aL k r m' → UpIs L s'' (some (.int r.up tu)) → Stop (wpAny (model prog w) (A.deeper (lawEnv w.params L)) (execs ((lawTurn w.params).drop 3) (lawEnv w.params L)) Q (fun _ _ => False) s'')) :
    Stop (wpAny (model prog w) (A.deeper (lawEnv w.params L)) (execs ((lawTurn w.params).drop 2) (lawEnv w.params L)) Q (fun _ _ => False) s') := by
  refine ⟨?_⟩
  have S := Lw.S
  have ⟨X, p', loose, mg, mb, T, _⟩ := S
  have dR := Lw.dR
  have h217 := Lw.l217
  obtain ⟨P, f1, f2, f3, f4, f5, f6, f7, f8, f9⟩ := row_f Lw.GR hk
  have hll := Lw.GR.len
  obtain ⟨oU, oT, dU, F, N, B⟩ := H.open Lw U
  have eT := (N (217, oT) (by simp)).1
  obtain ⟨tk, tl, th, F⟩ := V.fr F
  generalize hG : hid s₀.heap = G at *
  unfold lawEnv
  conv in (occs := *) lawScope _ => all_goals whnf
  conv in List.drop _ (lawTurn _) => whnf
  show wpAny _ _ _ _ _ _
  refine execs_mid (fun s'' => ∃ h m' tk, s'' = { s' with heap := h, toks := tk } ∧ Fr G L h m' ∧ News G L h ((L + 1 + 1, oU) :: (L + 1, oR) :: (217, oT) :: restX (X4 L) G s'.heap) ∧ Vars root aS aE aL k r m') ?a ?b
  case a =>
    k_steps
    exact ⟨⟨_, _, _, rfl, by assumption, by assumption, ⟨⟨⟨_, rfl⟩, rfl, rfl, rfl, rfl⟩, rfl, ⟨_, rfl⟩, ⟨_, rfl⟩⟩⟩⟩
  case b =>
    rintro s'' ⟨h, m', tk', rfl, F', N', V'⟩
    subst hG
    obtain ⟨z⟩ := hQ m' _ (H.close Lw eT F' N' fun p hp => List.mem_cons_of_mem _ hp) V' ⟨oU, (N' _ (List.mem_cons_self ..)).1, dU⟩
    assumption

theorem lines_T3_1 : True := by
  k_with "compareOp IsNot" => ((k_dflt (refine' isnot_same ?a_caf ?_; (case a_caf => first | exact Or.inr ⟨_, rfl⟩ | assumption); k_whole)))
  trivial

theorem fr_pin {G h : Heap} {L : Addr} {m : Str → Option Value} {x : Str} {v : Value} (hx : m x = some v) (F : Fr G L h m) : Fr G L h (fun y => if y = x then some v else m y) := Fr.congr F fun y => by
  split
  · rename_i q; rw [q]; exact hx
  · rfl
theorem prevOf_kind (c : Ctx) : prevOf c = .none ∨ ∃ a, prevOf c = .ref a := by
  rw [prevOf_eq]
  cases prevLeafOf c with
  | none => exact .inl rfl
  | some p => exact .inr ⟨_, rfl⟩
theorem nextOf_kind : ∀ (c : Ctx), nextOf c = .none ∨ ∃ a, nextOf c = .ref a
  | [] => .inl rfl
  | u :: c => by
    rw [nextOf]
    cases u.rs with
    | nil => exact nextOf_kind c
    | cons b _ => exact .inr ⟨_, rfl⟩
theorem prev_none {plain : Bool} {root t : Tr} {c : Ctx} (P : Place plain root t c) (h : (befL c).length = 0) : prevOf c = .none := by
  have : befL c = [] := List.length_eq_zero_iff.mp h
  rw [prevOf_eq, prevLeaf_bef c P.good1, this]; rfl
theorem prev_some {plain : Bool} {root t : Tr} {c : Ctx} (P : Place plain root t c) (h : 0 < (befL c).length) : ∃ x, root.leaves[(befL c).length - 1]? = some x ∧ prevOf c = .ref x.a := by
  have h1 := at_prev P.plug h
  cases e : (befL c).getLast? with
  | none =>
    have : befL c = [] := by simpa using e
    rw [this] at h; simp at h
  | some p =>
    rw [e] at h1
    exact ⟨p, h1, by rw [prevOf_eq, prevLeaf_bef c P.good1, e]⟩
theorem next_none {plain : Bool} {root t : Tr} {c : Ctx} (P : Place plain root t c) (h : root.leaves.length ≤ (befL c).length + t.leaves.length) : nextOf c = .none := by
  have h1 := at_next P.plug
  rw [List.getElem?_eq_none h] at h1
  rw [next_aft c P.good1, ← h1]
theorem next_some {plain : Bool} {root t : Tr} {c : Ctx} (P : Place plain root t c) (h : (befL c).length + t.leaves.length < root.leaves.length) : ∃ x, root.leaves[(befL c).length + t.leaves.length]? = some x ∧ nextOf c = .ref x.a := by
  have h1 := at_next P.plug
  rw [List.getElem?_eq_getElem h] at h1
  exact ⟨_, List.getElem?_eq_getElem h, by rw [next_aft c P.good1, ← h1]⟩

theorem turn_6 {prog : Program} {w : World} {A : Around} {plain : Bool} {root : Tr} {s₀ s' : Shared} {L aS aE aR aL : Addr} {oR : Obj} {hK : Heap} {M : List Addr} {m : Str → Option Value} {k : Nat} {r : Row} {Q : Flow → Shared → Prop} {tu : Tok} (Lw : Law prog w A plain root s₀ L aR oR) (hk : (table root)[k]? = some r)
    (H : TS w root s₀ L aS aE aR aL oR hK M m s') (V : Vars root aS aE aL k r m) (U : UpIs L s' (some (.int r.up tu)))
    (hQ : ∀ m' s'', TS w root s₀ L aS aE aR aL oR hK M m' s'' → Vars root aS aE aL k r m' → UpIs L s'' (some (.int r.up tu)) → Stop (wpAny (model prog w) (A.deeper (lawEnv w.params L)) (execs ((lawTurn w.params).drop 6) (lawEnv w.params L)) Q (fun _ _ => False) s'')) :
    Stop (wpAny (model prog w) (A.deeper (lawEnv w.params L)) (execs ((lawTurn w.params).drop 5) (lawEnv w.params L)) Q (fun _ _ => False) s') := by
  refine ⟨?_⟩
  have S := Lw.S
  have ⟨X, p', loose, mg, mb, T, _⟩ := S
  have dR := Lw.dR
  have h217 := Lw.l217
  obtain ⟨P, f1, f2, f3, f4, f5, f6, f7, f8, f9⟩ := row_f Lw.GR hk
  have hll := Lw.GR.len
  obtain ⟨oU, oT, dU, F, N, B⟩ := H.open Lw U
  have eT := (N (217, oT) (by simp)).1
  obtain ⟨tk, tl, th, F⟩ := V.fr F
  generalize hG : hid s₀.heap = G at *
  unfold lawEnv
  conv in (occs := *) lawScope _ => all_goals whnf
  conv in List.drop _ (lawTurn _) => whnf
  show wpAny _ _ _ _ _ _
  refine execs_mid (fun s'' => ∃ h m' tk, s'' = { s' with heap := h, toks := tk } ∧ Fr G L h m' ∧ News G L h ((L + 1 + 1, oU) :: (L + 1, oR) :: (217, oT) :: restX (X4 L) G s'.heap) ∧ Vars root aS aE aL k r m') ?a ?b
  case a =>
    k_steps
    exact ⟨⟨_, _, _, rfl, by assumption, by assumption, ⟨⟨⟨_, rfl⟩, rfl, rfl, rfl, rfl⟩, rfl, ⟨_, rfl⟩, ⟨_, rfl⟩⟩⟩⟩
  case b =>
    rintro s'' ⟨h, m', tk', rfl, F', N', V'⟩
    subst hG
    obtain ⟨z⟩ := hQ m' _ (H.close Lw eT F' N' fun p hp => List.mem_cons_of_mem _ hp) V' ⟨oU, (N' _ (List.mem_cons_self ..)).1, dU⟩
    assumption

theorem turn_15 {prog : Program} {w : World} {A : Around} {plain : Bool} {root : Tr} {s₀ s' : Shared} {L aS aE aR aL : Addr} {oR : Obj} {hK : Heap} {M : List Addr} {m : Str → Option Value} {k : Nat} {r : Row} {Q : Flow → Shared → Prop} {tu : Tok} (Lw : Law prog w A plain root s₀ L aR oR) (hk : (table root)[k]? = some r)
    (H : TS w root s₀ L aS aE aR aL oR hK M m s') (V : Vars root aS aE aL k r m) (U : UpIs L s' (some (.int r.up tu)))
    (hQ : ∀ m' s'', TS w root s₀ L aS aE aR aL oR hK M m' s'' → Vars root aS aE aL k r m' → UpIs L s'' (some (.int r.up tu)) → Stop (wpAny (model prog w) (A.deeper (lawEnv w.params L)) (execs ((lawTurn w.params).drop 15) (lawEnv w.params L)) Q (fun _ _ => False) s'')) :
    Stop (wpAny (model prog w) (A.deeper (lawEnv w.params L)) (execs ((lawTurn w.params).drop 14) (lawEnv w.params L)) Q (fun _ _ => False) s') := by
  refine ⟨?_⟩
  have S := Lw.S
  have ⟨X, p', loose, mg, mb, T, _⟩ := S
  have dR := Lw.dR
  have h217 := Lw.l217
  obtain ⟨P, f1, f2, f3, f4, f5, f6, f7, f8, f9⟩ := row_f Lw.GR hk
  have hll := Lw.GR.len
  obtain ⟨oU, oT, dU, F, N, B⟩ := H.open Lw U
  have eT := (N (217, oT) (by simp)).1
  obtain ⟨tk, tl, th, F⟩ := V.fr F
  generalize hG : hid s₀.heap = G at *
  unfold lawEnv
  conv in (occs := *) lawScope _ => all_goals whnf
  conv in List.drop _ (lawTurn _) => whnf
  show wpAny _ _ _ _ _ _
  refine execs_mid (fun s'' => ∃ h m' tk, s'' = { s' with heap := h, toks := tk } ∧ Fr G L h m' ∧ News G L h ((L + 1 + 1, oU) :: (L + 1, oR) :: (217, oT) :: restX (X4 L) G s'.heap) ∧ Vars root aS aE aL k r m') ?a ?b
  case a =>
    k_steps
    exact ⟨⟨_, _, _, rfl, by assumption, by assumption, ⟨⟨⟨_, rfl⟩, rfl, rfl, rfl, rfl⟩, rfl, ⟨_, rfl⟩, ⟨_, rfl⟩⟩⟩⟩
  case b =>
    rintro s'' ⟨h, m', tk', rfl, F', N', V'⟩
    subst hG
    obtain ⟨z⟩ := hQ m' _ (H.close Lw eT F' N' fun p hp => List.mem_cons_of_mem _ hp) V' ⟨oU, (N' _ (List.mem_cons_self ..)).1, dU⟩
    assumption

theorem turn_7 {prog : Program} {w : World} {A : Around} {plain : Bool} {root : Tr} {s₀ s' : Shared} {L aS aE aR aL : Addr} {oR : Obj} {hK : Heap} {M : List Addr} {m : Str → Option Value} {k : Nat} {r : Row} {Q : Flow → Shared → Prop} {tu : Tok} (Lw : Law prog w A plain root s₀ L aR oR) (hk : (table root)[k]? = some r)
    (H : TS w root s₀ L aS aE aR aL oR hK M m s') (V : Vars root aS aE aL k r m) (U : UpIs L s' (some (.int r.up tu)))
    (hQ : ∀ m' s'', TS w root s₀ L aS aE aR aL oR hK M m' s'' → Vars root aS aE aL k r m' → UpIs L s'' (some (.int r.up tu)) → (m' (Str.ofString "ahead") = some (prevOf r.c)) → Stop (wpAny (model prog w) (A.deeper (lawEnv w.params L)) (execs ((lawTurn w.params).drop 7) (lawEnv w.params L)) Q (fun _ _ => False) s'')) :
    Stop (wpAny (model prog w) (A.deeper (lawEnv w.params L)) (execs ((lawTurn w.params).drop 6) (lawEnv w.params L)) Q (fun _ _ => False) s') := by
  refine ⟨?_⟩
  have S := Lw.S
  have ⟨X, p', loose, mg, mb, T, _⟩ := S
  have dR := Lw.dR
  have h217 := Lw.l217
  obtain ⟨P, f1, f2, f3, f4, f5, f6, f7, f8, f9⟩ := row_f Lw.GR hk
  have hll := Lw.GR.len
  obtain ⟨oU, oT, dU, F, N, B⟩ := H.open Lw U
  have eT := (N (217, oT) (by simp)).1
  obtain ⟨tk, tl, th, F⟩ := V.fr F
  generalize hG : hid s₀.heap = G at *
  unfold lawEnv
  conv in (occs := *) lawScope _ => all_goals whnf
  conv in List.drop _ (lawTurn _) => whnf
  show wpAny _ _ _ _ _ _
  refine execs_mid (fun s'' => ∃ h m' tk, s'' = { s' with heap := h, toks := tk } ∧ Fr G L h m' ∧ News G L h ((L + 1 + 1, oU) :: (L + 1, oR) :: (217, oT) :: restX (X4 L) G s'.heap) ∧ Vars root aS aE aL k r m' ∧ (m' (Str.ofString "ahead") = some (prevOf r.c))) ?a ?b
  case a =>
    rcases Nat.eq_zero_or_pos r.low with h0 | h0
    · have ep : prevOf r.c = .none := prev_none P (by omega)
      rw [ep]
      k_steps
      exact ⟨⟨_, _, _, rfl, by assumption, by assumption, ⟨⟨⟨_, rfl⟩, rfl, rfl, rfl, rfl⟩, rfl, ⟨_, rfl⟩, ⟨_, rfl⟩⟩, rfl⟩⟩
    · obtain ⟨x, ex, ep⟩ := prev_some P (by omega)
      have f10 : root.leaves[((r.low : Int) - 1).toNat]? = some x := by rw [← ex]; congr 1; omega
      rw [ep]
      k_steps
      exact ⟨⟨_, _, _, rfl, by assumption, by assumption, ⟨⟨⟨_, rfl⟩, rfl, rfl, rfl, rfl⟩, rfl, ⟨_, rfl⟩, ⟨_, rfl⟩⟩, rfl⟩⟩

  case b =>
    rintro s'' ⟨h, m', tk', rfl, F', N', V', E⟩
    subst hG
    obtain ⟨z⟩ := hQ m' _ (H.close Lw eT F' N' fun p hp => List.mem_cons_of_mem _ hp) V' ⟨oU, (N' _ (List.mem_cons_self ..)).1, dU⟩ E
    assumption

theorem turn_8 {prog : Program} {w : World} {A : Around} {plain : Bool} {root : Tr} {s₀ s' : Shared} {L aS aE aR aL : Addr} {oR : Obj} {hK : Heap} {M : List Addr} {m : Str → Option Value} {k : Nat} {r : Row} {Q : Flow → Shared → Prop} {tu : Tok} (Lw : Law prog w A plain root s₀ L aR oR) (hk : (table root)[k]? = some r)
    (H : TS w root s₀ L aS aE aR aL oR hK M m s') (V : Vars root aS aE aL k r m) (U : UpIs L s' (some (.int r.up tu)))
    (hah : m (Str.ofString "ahead") = some (prevOf r.c))
    (hQ : ∀ m' s'', TS w root s₀ L aS aE aR aL oR hK M m' s'' → Vars root aS aE aL k r m' → UpIs L s'' (some (.int r.up tu)) → (m' (Str.ofString "ahead") = some (prevOf r.c)) ∧ (m' (Str.ofString "behind") = some (nextOf r.c)) → Stop (wpAny (model prog w) (A.deeper (lawEnv w.params L)) (execs ((lawTurn w.params).drop 8) (lawEnv w.params L)) Q (fun _ _ => False) s'')) :
    Stop (wpAny (model prog w) (A.deeper (lawEnv w.params L)) (execs ((lawTurn w.params).drop 7) (lawEnv w.params L)) Q (fun _ _ => False) s') := by
  refine ⟨?_⟩
  have S := Lw.S
  have ⟨X, p', loose, mg, mb, T, _⟩ := S
  have dR := Lw.dR
  have h217 := Lw.l217
  obtain ⟨P, f1, f2, f3, f4, f5, f6, f7, f8, f9⟩ := row_f Lw.GR hk
  have hll := Lw.GR.len
  obtain ⟨oU, oT, dU, F, N, B⟩ := H.open Lw U
  have eT := (N (217, oT) (by simp)).1
  obtain ⟨tk, tl, th, F⟩ := V.fr F
  replace F := fr_pin (x := Str.ofString "ahead") (v := prevOf r.c) (by exact hah) F
  generalize hG : hid s₀.heap = G at *
  unfold lawEnv
  conv in (occs := *) lawScope _ => all_goals whnf
  conv in List.drop _ (lawTurn _) => whnf
  show wpAny _ _ _ _ _ _
  refine execs_mid (fun s'' => ∃ h m' tk, s'' = { s' with heap := h, toks := tk } ∧ Fr G L h m' ∧ News G L h ((L + 1 + 1, oU) :: (L + 1, oR) :: (217, oT) :: restX (X4 L) G s'.heap) ∧ Vars root aS aE aL k r m' ∧ (m' (Str.ofString "ahead") = some (prevOf r.c)) ∧ (m' (Str.ofString "behind") = some (nextOf r.c))) ?a ?b
  case a =>
    have hz : root.leaves.length ≤ 1000 := by omega
    rcases Nat.lt_or_ge r.high root.leaves.length with h0 | h0
    · obtain ⟨x, ex, ep⟩ := next_some P (by omega)
      have f10 : root.leaves[(r.high : Int).toNat]? = some x := by rw [← ex]; congr 1; omega
      rw [ep]
      k_steps
      exact ⟨⟨_, _, _, rfl, by assumption, by assumption, ⟨⟨⟨_, rfl⟩, rfl, rfl, rfl, rfl⟩, rfl, ⟨_, rfl⟩, ⟨_, rfl⟩⟩, rfl, rfl⟩⟩
    · have ep : nextOf r.c = .none := next_none P (by omega)
      rw [ep]
      k_steps
      exact ⟨⟨_, _, _, rfl, by assumption, by assumption, ⟨⟨⟨_, rfl⟩, rfl, rfl, rfl, rfl⟩, rfl, ⟨_, rfl⟩, ⟨_, rfl⟩⟩, rfl, rfl⟩⟩

  case b =>
    rintro s'' ⟨h, m', tk', rfl, F', N', V', E⟩
    subst hG
    obtain ⟨z⟩ := hQ m' _ (H.close Lw eT F' N' fun p hp => List.mem_cons_of_mem _ hp) V' ⟨oU, (N' _ (List.mem_cons_self ..)).1, dU⟩ E
    assumption

theorem turn_9 {prog : Program} {w : World} {A : Around} {plain : Bool} {root : Tr} {s₀ s' : Shared} {L aS aE aR aL : Addr} {oR : Obj} {hK : Heap} {M : List Addr} {m : Str → Option Value} {k : Nat} {r : Row} {Q : Flow → Shared → Prop} {tu : Tok} (Lw : Law prog w A plain root s₀ L aR oR) (hk : (table root)[k]? = some r)
    (H : TS w root s₀ L aS aE aR aL oR hK M m s') (V : Vars root aS aE aL k r m) (U : UpIs L s' (some (.int r.up tu)))
    (hah : m (Str.ofString "ahead") = some (prevOf r.c)) (hbe : m (Str.ofString "behind") = some (nextOf r.c))
    (hQ : ∀ m' s'', TS w root s₀ L aS aE aR aL oR hK M m' s'' → Vars root aS aE aL k r m' → UpIs L s'' (some (.int r.up tu)) → Stop (wpAny (model prog w) (A.deeper (lawEnv w.params L)) (execs ((lawTurn w.params).drop 9) (lawEnv w.params L)) Q (fun _ _ => False) s'')) :
    Stop (wpAny (model prog w) (A.deeper (lawEnv w.params L)) (execs ((lawTurn w.params).drop 8) (lawEnv w.params L)) Q (fun _ _ => False) s') := by
  refine ⟨?_⟩
  have S := Lw.S
  have ⟨X, p', loose, mg, mb, T, _⟩ := S
  have dR := Lw.dR
  have h217 := Lw.l217
  obtain ⟨P, f1, f2, f3, f4, f5, f6, f7, f8, f9⟩ := row_f Lw.GR hk
  have hll := Lw.GR.len
  obtain ⟨oU, oT, dU, F, N, B⟩ := H.open Lw U
  have eT := (N (217, oT) (by simp)).1
  obtain ⟨tk, tl, th, F⟩ := V.fr F
  replace F := fr_pin (x := Str.ofString "behind") (v := nextOf r.c) (by exact hbe) (fr_pin (x := Str.ofString "ahead") (v := prevOf r.c) (by exact hah) F)
  generalize hG : hid s₀.heap = G at *
  have kp := prevOf_kind r.c
  have kn := nextOf_kind r.c
  unfold lawEnv
  conv in (occs := *) lawScope _ => all_goals whnf
  conv in List.drop _ (lawTurn _) => whnf
  show wpAny _ _ _ _ _ _
  refine execs_mid (fun s'' => ∃ h m' tk, s'' = { s' with heap := h, toks := tk } ∧ Fr G L h m' ∧ News G L h ((L + 1 + 1, oU) :: (L + 1, oR) :: (217, oT) :: restX (X4 L) G s'.heap) ∧ Vars root aS aE aL k r m') ?a ?b
  case a =>
    k_steps
    exact ⟨⟨_, _, _, rfl, by assumption, by assumption, ⟨⟨⟨_, rfl⟩, rfl, rfl, rfl, rfl⟩, rfl, ⟨_, rfl⟩, ⟨_, rfl⟩⟩⟩⟩
  case b =>
    rintro s'' ⟨h, m', tk', rfl, F', N', V'⟩
    subst hG
    obtain ⟨z⟩ := hQ m' _ (H.close Lw eT F' N' fun p hp => List.mem_cons_of_mem _ hp) V' ⟨oU, (N' _ (List.mem_cons_self ..)).1, dU⟩
    assumption

section
variable {prog : Program} {w : World} {A : Around} {E : Value → Shared → Prop} {s : Shared} {env : Env}
/-- what the walk of a comprehension stands on -/
structure CompW (s₁ : Shared) (I D C : Addr) (St : Nat → Heap → Prop) (n : Nat) (P : Nat → List Value → Prop) (k i : Nat) (h : Heap) (ys : List Value) (m : Str → Option Value) : Prop where
  le : i ≤ n
  fuel : k = n + 1 - i
  len : ys.length ≤ i
  rel : P i ys
  st : St i h
  ns : h.Ns C m
  acc : h.PlainList D ys.toArray
  base : ∀ b o, s₁.heap.get? b = some o → h.get? b = some o
theorem comp_core {elt ct iter : Expr} {x : Str} {px : Pos} {scope : Scope} {cl : List (Str × Addr)} {pos : Pos} {RR : Value → Addr → Result → Shared → Prop} {s₁ : Shared} {r : Addr} {a b : Int} {tr ur vr : Tok} {P : Nat → List Value → Prop} (hh : A.handled = none)
    (hcell : ∀ y ∈ scope.names, y.2 ≠ .cell) (hkind : scope.kind = .function) (hx : scope.names.lookup x = some .local)
    (hr : IsRange s₁.heap r a b 1 tr ur vr) (ha : 0 ≤ a) (hab : a ≤ b) (hb : b ≤ 1000) (hP0 : P 0 [])
    (body : ∀ (i : Nat) t hp tk C m ys, i < (b - a).toNat → P i ys → hp.Ns C m → m x = some (.int (a + i * 1) t) → (∀ b o, s₁.heap.get? b = some o → hp.get? b = some o) →
        wpAny (model prog w) A (isTrue ct (compEnvC scope cl C env) (eval ct (compEnvC scope cl C env))) (fun ok s' => ∃ h' tk', s' = { s₁ with heap := h', toks := tk' } ∧ (∀ b o, hp.get? b = some o → h'.get? b = some o) ∧
          if ok = true then wpAny (model prog w) A (eval elt (compEnvC scope cl C env)) (fun y s'' => ∃ h'' tk'', s'' = { s₁ with heap := h'', toks := tk'' } ∧ (∀ b o, h'.get? b = some o → h''.get? b = some o) ∧ P (i + 1) (ys ++ [y])) (fun _ _ => False) s'
          else P (i + 1) ys) (fun _ _ => False) { s₁ with heap := hp, toks := tk })
    (fin : ∀ D C h' tk m' ys, s₁.heap.objs.size ≤ D → s₁.heap.objs.size ≤ C → D ≠ C → h'.Ns C m' → h'.PlainList D ys.toArray → P (b - a).toNat ys → (∀ b o, s₁.heap.get? b = some o → h'.get? b = some o) → RR (.ref D) C (.ok .next) { s₁ with heap := h', toks := tk }) :
    wpAny (model prog w) A (pyIter (.ref r)) (fun it s₂ => wpAny (model prog w) A (newList []) (fun acc s₃ => wpAny (model prog w) A (newFunctionEnv scope env.globals cl [] env.qual none .none (some env)) (fun cenv s₄ =>
      codeAny (model prog w) A (.compStart (.ListComp elt [⟨.Name x px, iter, [ct], 0⟩] scope pos) 0 it acc { cenv with scope := relabel scope env }) (RR acc cenv.locals) s₄) E s₃) E s₂) E s₁ := by
  refine range_it hr ha hab (by omega) fun hI I hIs kI szI itI => ?_
  have W := Walks.range (prog := prog) (w := w) (A := A) hh I a 1 (b - a).toNat
  refine wpAny_newObj_type (wpAny_newFunctionEnv hcell (by intro y hy; simp at hy) (fun h₁ hns₁ hsb₁ => ?_) hkind)
  dsimp only at hns₁ hsb₁ ⊢
  generalize hD : hI.objs.size = D at hns₁ hsb₁ ⊢
  generalize hH2 : hI.push { cls := .type "list", dict := none, data := .seq ([] : List Value).toArray } = H2 at hns₁ hsb₁ ⊢
  have hCs : H2.objs.size = D + 1 := by rw [← hH2, Heap.size_push, hD]
  generalize hC : H2.objs.size = C at hns₁ hsb₁ ⊢
  have hCD : C = D + 1 := by rw [← hC]; exact hCs
  have hDC : D ≠ C := by rw [hCD]; exact Nat.ne_of_lt (Nat.lt_succ_self _)
  have hID : I < D := by rw [← hD, szI]; exact Nat.lt_succ_self _
  have hIC : I ≠ C := by rw [hCD]; exact Nat.ne_of_lt (Nat.lt_succ_of_lt hID)
  have oldI : ∀ b o, hI.get? b = some o → h₁.get? b = some o := fun b o e => by
    have hb : b < D := hD ▸ Heap.lt_size e
    refine hsb₁.extBut b o (Nat.ne_of_lt ?_) (Heap.get?_push_of_some _ (hH2 ▸ Heap.get?_push_of_some _ e))
    rw [hCD]; exact Nat.lt_succ_of_lt hb
  have old : ∀ b o, s₁.heap.get? b = some o → h₁.get? b = some o := fun b o e => oldI b o (kI b o e)
  have lts : ∀ b o, s₁.heap.get? b = some o → b ≠ I ∧ b ≠ D ∧ b ≠ C := fun b o e => by
    have h1 : b < I := hIs ▸ Heap.lt_size e
    exact ⟨Nat.ne_of_lt h1, Nat.ne_of_lt (Nat.lt_trans h1 hID), by rw [hCD]; exact Nat.ne_of_lt (Nat.lt_succ_of_lt (Nat.lt_trans h1 hID))⟩
  have hacc : h₁.PlainList D ([] : List Value).toArray := ⟨_, hsb₁.extBut _ _ hDC (Heap.get?_push_of_some _ (by rw [← hH2, ← hD]; exact Heap.get?_push_size _ rfl))⟩
  have loop : ∀ s₃ : Shared, s₃ = { s₁ with heap := h₁, toks := s₁.toks + ([] : List (Str × Value)).length } →
      codeAny (model prog w) A (.compLoop (.ListComp elt [⟨.Name x px, iter, [ct], 0⟩] scope pos) 0 (.ref I) (.ref D) (compEnvC scope cl C env))
        (RR (.ref D) C) s₃ := by
    rintro s₃ rfl
    refine compLoop_test (fun k s' => ∃ h' tk i ys m', s' = { s₁ with heap := h', toks := tk } ∧ CompW s₁ I D C (fun i h => IsRangeIter h I (a + (i : Nat) * 1) (((b - a).toNat : Int) - (i : Nat)) 1) (b - a).toNat P k i h' ys m') ?_ ((b - a).toNat + 1)
      ⟨h₁, _, 0, [], _, rfl, ⟨Nat.zero_le _, rfl, Nat.le_refl _, hP0, oldI _ _ itI, hns₁, hacc, old⟩⟩
    rintro k s' ⟨h', tk, i, ys, m', rfl, c⟩
    by_cases hlt : i < (b - a).toNat
    · refine W.item i { s₁ with heap := h', toks := tk } _ _ hlt c.st fun v h₂ tk₂ hPv hst₂ hk₂ => ?_
      obtain ⟨t, rfl⟩ := hPv
      have k2 : ∀ b o, b ≠ I → h'.get? b = some o → h₂.get? b = some o := fun b o hb e => hk₂ b o (by simpa using hb) e
      refine wpAny_of_eq (rfl : letOwnedTupleGo (.Name x px) (.ref I) _ = pure ()) ?_
      refine wpAny_assign_Name (wpAny_storeName_local (lookup_relabel_local hx) (c.ns.at' fun o e => k2 _ o (Ne.symm hIC) e) (fun h₃ hn₃ hs₃ => ?_) (by simp [compEnvC, relabel, hkind]))
      have k3 : ∀ b o, b ≠ I → b ≠ C → h'.get? b = some o → h₃.get? b = some o := fun b o h1 h2 e => hs₃.extBut b o h2 (k2 b o h1 e)
      have st₃ : IsRangeIter h₃ I (a + ((i + 1 : Nat) : Int) * 1) (((b - a).toNat : Int) - ((i + 1 : Nat) : Int)) 1 := hs₃.extBut _ _ hIC hst₂
      have base₃ : ∀ b o, s₁.heap.get? b = some o → h₃.get? b = some o := fun b o e => k3 b o (lts b o e).1 (lts b o e).2.2 (c.base b o e)
      have acc₃ : h₃.PlainList D ys.toArray := c.acc.at fun o e => k3 D o (Nat.ne_of_gt hID) hDC e
      refine wpAny_mono (body i t h₃ _ C _ ys hlt c.rel hn₃ (by simp) base₃) (fun ok s₇ h₇ => ?_) fun _ _ x => x
      obtain ⟨h₇', tk₇, rfl, g₇, q₇⟩ := h₇
      cases ok with
      | false =>
        simp only [Bool.false_eq_true, if_false] at q₇ ⊢
        exact ⟨(b - a).toNat + 1 - (i + 1), by rw [c.fuel]; omega, h₇', tk₇, i + 1, ys, _, rfl, hlt, rfl, Nat.le_succ_of_le c.len, q₇, g₇ _ _ st₃, hn₃.keeps g₇, acc₃.at fun o e => g₇ D o e, fun b o e => g₇ b o (base₃ b o e)⟩
      | true =>
        simp only [if_true] at q₇ ⊢
        refine wpAny_mono q₇ (fun y s₈ h₈ => ?_) fun _ _ x => x
        obtain ⟨h₈', tk₈, rfl, g₈, p₈⟩ := h₈
        refine wpAny_list_append_plain ((acc₃.at fun o e => g₇ D o e).at fun o e => g₈ D o e) (fun h₉ hp₉ hs₉ => ?_) (by
          have : 2000 ≤ sizeLine := by decide
          have := c.len
          simp; omega)
        have k9 : ∀ b o, b ≠ D → h₃.get? b = some o → h₉.get? b = some o := fun b o hb e => hs₉.extBut b o hb (g₈ b o (g₇ b o e))
        exact ⟨(b - a).toNat + 1 - (i + 1), by rw [c.fuel]; omega, h₉, tk₈, i + 1, ys ++ [y], _, rfl, hlt, rfl, by simp; exact c.len, p₈, k9 _ _ (Nat.ne_of_lt hID) st₃, ((hn₃.keeps g₇).keeps g₈).sameBut hs₉ (Ne.symm hDC), by simpa using hp₉,
          fun b o e => k9 b o (lts b o e).2.1 (base₃ b o e)⟩
    · have hin : i = (b - a).toNat := Nat.le_antisymm c.le (Nat.not_lt.mp hlt)
      subst hin
      refine W.done { s₁ with heap := h', toks := tk } _ _ c.st fun h₂ tk₂ hk₂ => ?_
      have k2 : ∀ b o, b ≠ I → h'.get? b = some o → h₂.get? b = some o := fun b o hb e => hk₂ b o (by simpa using hb) e
      exact fin D C h₂ tk₂ m' ys (hIs ▸ Nat.le_of_lt hID) (by rw [hCD]; exact Nat.le_succ_of_le (hIs ▸ Nat.le_of_lt hID)) hDC (c.ns.at' fun o e => k2 _ o (Ne.symm hIC) e) (c.acc.at fun o e => k2 D o (Nat.ne_of_gt hID) e) c.rel fun b o e => k2 b o (lts b o e).1 (c.base b o e)
  exact codeAny_compStart_list (loop _ rfl) (W.self 0 { s₁ with heap := h₁, toks := s₁.toks + ([] : List (Str × Value)).length } _ _ (oldI _ _ itI) (loop _ rfl))
/-- the same, put at once under a local name -/
theorem comp_assign {elt ct iter : Expr} {x y : Str} {px py : Pos} {scope : Scope} {cl : List (Str × Addr)} {pos spos : Pos} {Q : Flow → Shared → Prop} (hh : A.handled = none)
    (hsw : swapsWith (.ListComp elt [⟨.Name x px, iter, [ct], 0⟩] scope pos) (some (.Name y py)) spos.line env = pure true)
    (hclos : closureFor scope env = pure cl) (hcell : ∀ y ∈ scope.names, y.2 ≠ .cell) (hkind : scope.kind = .function)
    (hnames : ∀ y ∈ scope.names, y.2 = .local → scope.names.lookup y.1 = some .local) (hx : scope.names.lookup x = some .local)
    (hy : env.kindOf y = some .local) (hp : (env.scope.kind == .class || (env.scope.kind == .module && env.locals != env.globals)) = false)
    (h : wpAny (model prog w) A (eval iter env) (fun xv s₁ => Stop (∃ (r : Addr) (a b : Int) (t u v : Tok) (P : Nat → List Value → Prop) (mL : Str → Option Value), xv = .ref r ∧ IsRange s₁.heap r a b 1 t u v ∧ 0 ≤ a ∧ a ≤ b ∧ b ≤ 1000 ∧ s₁.heap.Ns env.locals mL ∧ P 0 [] ∧
      (∀ (i : Nat) t hp tk C m ys, i < (b - a).toNat → P i ys → hp.Ns C m → m x = some (.int (a + i * 1) t) → (∀ b o, s₁.heap.get? b = some o → hp.get? b = some o) →
        wpAny (model prog w) A (isTrue ct (compEnvC scope cl C env) (eval ct (compEnvC scope cl C env))) (fun ok s' => ∃ h' tk', s' = { s₁ with heap := h', toks := tk' } ∧ (∀ b o, hp.get? b = some o → h'.get? b = some o) ∧
          if ok = true then wpAny (model prog w) A (eval elt (compEnvC scope cl C env)) (fun y s'' => ∃ h'' tk'', s'' = { s₁ with heap := h'', toks := tk'' } ∧ (∀ b o, h'.get? b = some o → h''.get? b = some o) ∧ P (i + 1) (ys ++ [y])) (fun _ _ => False) s'
          else P (i + 1) ys) (fun _ _ => False) { s₁ with heap := hp, toks := tk }) ∧
      (∀ D h' tk ys, s₁.heap.objs.size ≤ D → h'.Ns env.locals (fun z => if z = y then some (.ref D) else mL z) → h'.PlainList D ys.toArray → P (b - a).toNat ys → (∀ b o, b ≠ env.locals → s₁.heap.get? b = some o → h'.get? b = some o) → Q .next { s₁ with heap := h', toks := tk }))) E s)
    (hs : ∀ x, foldedSetIterable iter env x = pure x := by intro _; rfl) :
    wpAny (model prog w) A (exec (.Assign [.Name y py] (.ListComp elt [⟨.Name x px, iter, [ct], 0⟩] scope pos) spos) env) Q E s := by
  rw [exec_Assign_Name_used _ _ _ _ hsw]
  refine wpAny_bind (wpAny_standAt (wpAny_bind ?_))
  show wpAny _ A (do let _ ← comprehension (.ListComp elt [⟨.Name x px, iter, [ct], 0⟩] scope pos) scope env _ (newList []) false (eval iter env) (some (assign (.Name y py) env))) _ _ s
  refine wpAny_bind (wpAny_mono (wpAny_comprehension_free (use := some (assign (.Name y py) env)) (Q := fun _ s' => Q .next s') rfl hs hclos hkind hnames
    (wpAny_mono h (fun xv s₁ h₁ => ?_) fun _ _ e => e)) (fun _ s' hq => wpAny_pure (wpAny_pure hq)) fun _ _ e => e)
  obtain ⟨r, a, b, tr, ur, vr, P, mL, rfl, hr, ha, hab, hb, hL, hP0, body, fin⟩ := h₁.out
  refine comp_core (RR := fun acc C => compPost (model prog w) A E (some (assign (.Name y py) env)) (fun _ s' => Q .next s') acc C) hh hcell hkind hx hr ha hab hb hP0 body fun D C h' tk m' ys hD hC hDC hn hpl hP hold => ?_
  obtain ⟨oL, _, _, eL, _⟩ := id hL
  have hLlt := Heap.lt_size eL
  have hLC : env.locals ≠ C := Nat.ne_of_lt (Nat.lt_of_lt_of_le hLlt hC)
  have hLD : env.locals ≠ D := Nat.ne_of_lt (Nat.lt_of_lt_of_le hLlt hD)
  show wpAny _ A (assign (.Name y py) env (.ref D)) _ _ _
  refine wpAny_assign_Name (wpAny_storeName_local hy (hL.at' fun o e => hold _ o e) (fun h₂ hn₂ hs₂ => ?_) hp)
  refine ⟨m', hn.sameBut hs₂ (Ne.symm hLC), fun h₃ hs₃ => ?_⟩
  exact fin D h₃ _ ys hD (hn₂.sameBut hs₃ hLC) ((hpl.at fun o e => hs₂.extBut D o (Ne.symm hLD) e).at fun o e => hs₃.extBut D o hDC e) hP fun b o hbL e =>
    hs₃.extBut b o (Nat.ne_of_lt (Nat.lt_of_lt_of_le (Heap.lt_size e) hC)) (hs₂.extBut b o hbL (hold b o e))
end

theorem lines_T4_1 : True := by
  k_with "exec Assign cons ListComp" => ((k_dflt (refine' comp_assign ?hh_b4b ?sw_b4b ?cl_b4b ?c1_b4b ?c2_b4b ?c3_b4b ?c4_b4b ?c5_b4b ?c6_b4b ?_ ?hs_b4b; (case hh_b4b => exact Rm.hh (Rm.deeper (k := 30) (Law.hr (by assumption)) (by omega))); (case sw_b4b => with_unfolding_all rfl); (case cl_b4b => exact rfl); (case c1_b4b => decide); (case c2_b4b => exact rfl); (case c3_b4b => decide); (case c4_b4b => exact rfl); (case c5_b4b => exact rfl); (case c6_b4b => exact rfl); (case hs_b4b => intro _; rfl); k_whole)))
  trivial

/-- which of n rows from a on hang under u -/
noncomputable def idxs (R : List Row) (u : Int) (a n : Nat) : List Nat := (List.range n).filter fun j => (R[a + j]?).any fun q => q.up == u
theorem idxs_succ {R : List Row} {u : Int} {a n : Nat} {q : Row} (h : R[a + n]? = some q) : idxs R u a (n + 1) = idxs R u a n ++ if q.up = u then [n] else [] := by
  unfold idxs
  rw [List.range_succ, List.filter_append]
  congr 1
  by_cases hq : q.up = u
  · rw [if_pos hq]; simp [h, hq]
  · rw [if_neg hq]; simp [h, hq]
theorem idxs_flt {R : List Row} {u : Int} {a : Nat} : ∀ n, a + n ≤ R.length → ((idxs R u a n).filterMap fun j => R[a + j]?) = ((R.drop a).take n).filter fun r => r.up == u := by
  intro n
  induction n with
  | zero => intro _; simp [idxs]
  | succ n ih =>
    intro h
    have hlt : a + n < R.length := by omega
    have hq : R[a + n]? = some R[a + n] := List.getElem?_eq_getElem hlt
    have ht : (R.drop a).take (n + 1) = (R.drop a).take n ++ [R[a + n]] := by
      rw [List.take_succ_eq_append_getElem (by rw [List.length_drop]; omega)]
      simp
    rw [idxs_succ hq, ht, List.filterMap_append, List.filter_append, ih (by omega)]
    congr 1
    by_cases hu : R[a + n].up = u
    · rw [if_pos hu]; simp [hu, hq]
    · rw [if_neg hu]; simp [hu]
theorem idxs_get {R : List Row} {u : Int} {a n : Nat} : ∀ j ∈ idxs R u a n, ∃ q, R[a + j]? = some q := by
  intro j hj
  unfold idxs at hj
  have := (List.mem_filter.mp hj).2
  cases e : R[a + j]? with
  | none => rw [e] at this; simp at this
  | some q => exact ⟨q, rfl⟩
theorem idxs_last {R : List Row} {u : Int} {a n : Nat} (h : a + n ≤ R.length) : (idxs R u a n = [] ∧ flt u ((R.drop a).take n) = []) ∨ (∃ js j q, idxs R u a n = js ++ [j] ∧ R[a + j]? = some q ∧ (flt u ((R.drop a).take n)).getLast? = some q.t) := by
  have hf := idxs_flt (R := R) (u := u) (a := a) n h
  rcases List.eq_nil_or_concat (idxs R u a n) with e | ⟨js, j, e⟩
  · refine .inl ⟨e, ?_⟩
    rw [e] at hf
    unfold flt
    rw [← hf]; rfl
  · rw [List.concat_eq_append] at e
    obtain ⟨q, hq⟩ := idxs_get (R := R) (u := u) (a := a) (n := n) j (by rw [e]; simp)
    refine .inr ⟨js, j, q, e, hq, ?_⟩
    unfold flt
    rw [← hf, e, List.filterMap_append]
    simp [hq]
theorem idxs_head {R : List Row} {u : Int} {a n : Nat} (h : a + n ≤ R.length) : (idxs R u a n = [] ∧ flt u ((R.drop a).take n) = []) ∨ (∃ js j q, idxs R u a n = j :: js ∧ R[a + j]? = some q ∧ (flt u ((R.drop a).take n)).head? = some q.t) := by
  have hf := idxs_flt (R := R) (u := u) (a := a) n h
  cases e : idxs R u a n with
  | nil =>
    refine .inl ⟨rfl, ?_⟩
    rw [e] at hf
    unfold flt
    rw [← hf]; rfl
  | cons j js =>
    obtain ⟨q, hq⟩ := idxs_get (R := R) (u := u) (a := a) (n := n) j (by rw [e]; simp)
    refine .inr ⟨js, j, q, rfl, hq, ?_⟩
    unfold flt
    rw [← hf, e]
    simp [hq]
theorem sib_idxs {root : Tr} {k : Nat} {r : Row} (hk : (table root)[k]? = some r) : flt r.up (((table root).drop 0).take k) = lsOf r.c ∧ flt r.up (((table root).drop (k + 1)).take ((table root).length - (k + 1))) = rsOf r.c := by
  have hlt : k < (table root).length := by
    rcases Nat.lt_or_ge k (table root).length with q | q
    · exact q
    · rw [List.getElem?_eq_none q] at hk; cases hk
  have hr : (table root)[k] = r := by rw [List.getElem?_eq_getElem hlt] at hk; injection hk
  have e : table root = (table root).take k ++ r :: (table root).drop (k + 1) := by
    rw [← hr, ← List.drop_eq_getElem_cons hlt, List.take_append_drop]
  have h := table_sibs e
  refine ⟨by simpa using h.1, ?_⟩
  rw [List.take_of_length_le (by rw [List.length_drop]; exact Nat.le_refl _)]
  exact h.2
theorem comp_test {prog : Program} {w : World} {A : Around} {s : Shared} {Q : Bool → Shared → Prop} {E : Value → Shared → Prop} {env' : Env} {cR cU aR D q : Addr} {m : Str → Option Value} {vs : List Value} {i up u x1 x2 : Int} {t tu t1 t2 t3 : Tok} {p1 p2 p3 p4 p5 p6 p7 : Pos} {kd : Nat} {whole : Sem Value}
    (hk : env'.scope.kind = .function) (lR : env'.kindOf (Str.ofString "rows") = some .cell) (kR : env'.cells.lookup (Str.ofString "rows") = some cR) (lU : env'.kindOf (Str.ofString "up") = some .cell) (kU : env'.cells.lookup (Str.ofString "up") = some cU) (lj : env'.kindOf (Str.ofString "j") = some .local)
    (hR : s.heap.IsCell cR (some (.ref aR))) (hU : s.heap.IsCell cU (some (.int u tu))) (hns : s.heap.Ns env'.locals m) (hm : m (Str.ofString "j") = some (.int i t)) (hrow : s.heap.IsList aR vs.toArray) (hv : vs[i.toNat]? = some (.ref D)) (hD : s.heap.IsList D #[.ref q, .int up t1, .int x1 t2, .int x2 t3]) (h0 : 0 ≤ i) (h1 : i < 1000000)
    (h : Q (up == u) { s with toks := s.toks + 1 }) :
    wpAny (model prog w) A (isTrue (.Compare (.Subscript (.Subscript (.Name (Str.ofString "rows") p1) (.Name (Str.ofString "j") p2) p3) (.Constant (.int 1) kd p4) p5) [.Eq] [.Name (Str.ofString "up") p6] p7) env' whole) Q E s := by
  refine wpAny_isTrue_Compare1 ?_
  refine Subscript_ (Subscript_ ?_)
  refine wpAny_Name (wpAny_loadName_cell hk lR kR hR ?_)
  refine wpAny_Name (wpAny_loadName_local hk lj hns hm ?_)
  refine item_at hrow hv h0 h1 ?_
  refine wpAny_Constant_int ?_
  refine item_at (vs := [.ref q, .int up t1, .int x1 t2, .int x2 t3]) hD rfl (by decide) (by decide) ?_
  refine wpAny_Name (wpAny_loadName_cell hk lU kU hU ?_)
  exact eq_int (wpAny_truthy_bool h)

/-- a list of row numbers, as the law's comprehensions make it -/
noncomputable def SibL (root : Tr) (r : Row) (L : Addr) (a n : Nat) (aI : Int) (D : Addr) (h : Heap) : Prop := ∃ ys kD, h.get? D = some (lobj ys kD) ∧ D ∉ X4 L ∧ IntsAre ys ((idxs (table root) r.up a n).map fun (j : Nat) => aI + (j : Int) * 1)
theorem SibL.keeps {root : Tr} {r : Row} {L : Addr} {a n : Nat} {aI : Int} {D : Addr} {h h' : Heap} (q : SibL root r L a n aI D h) (k : ∀ b o, b ∉ X4 L → h.get? b = some o → h'.get? b = some o) : SibL root r L a n aI D h' := by
  obtain ⟨ys, kD, e, hD, i⟩ := q
  exact ⟨ys, kD, k D _ hD e, hD, i⟩

theorem turn_10 {prog : Program} {w : World} {A : Around} {plain : Bool} {root : Tr} {s₀ s' : Shared} {L aS aE aR aL : Addr} {oR : Obj} {hK : Heap} {M : List Addr} {m : Str → Option Value} {k : Nat} {r : Row} {Q : Flow → Shared → Prop} {tu : Tok} (Lw : Law prog w A plain root s₀ L aR oR) (hk : (table root)[k]? = some r)
    (H : TS w root s₀ L aS aE aR aL oR hK M m s') (V : Vars root aS aE aL k r m) (U : UpIs L s' (some (.int r.up tu)))
    (hQ : ∀ m' s'', TS w root s₀ L aS aE aR aL oR hK M m' s'' → Vars root aS aE aL k r m' → UpIs L s'' (some (.int r.up tu)) → (∀ b o, b ∉ X4 L → s'.heap.get? b = some o → s''.heap.get? b = some o) → (∃ D, m' (Str.ofString "before") = some (.ref D) ∧ SibL root r L (0) (k) (0) D s''.heap) → Stop (wpAny (model prog w) (A.deeper (lawEnv w.params L)) (execs ((lawTurn w.params).drop 10) (lawEnv w.params L)) Q (fun _ _ => False) s'')) :
    Stop (wpAny (model prog w) (A.deeper (lawEnv w.params L)) (execs ((lawTurn w.params).drop 9) (lawEnv w.params L)) Q (fun _ _ => False) s') := by
  refine ⟨?_⟩
  have S := Lw.S
  have ⟨X, p', loose, mg, mb, T, _⟩ := S
  have dR := Lw.dR
  have h217 := Lw.l217
  obtain ⟨P, f1, f2, f3, f4, f5, f6, f7, f8, f9⟩ := row_f Lw.GR hk
  have hll := Lw.GR.len
  have htl := table_len Lw.GR
  obtain ⟨hkt, _⟩ := List.getElem?_eq_some_iff.mp hk
  have hkl := table_lt Lw.GR hk
  obtain ⟨oU, oT, dU, F, N, B⟩ := H.open Lw U
  have eT := (N (217, oT) (by simp)).1
  obtain ⟨tk, tl, th, F⟩ := V.fr F
  have keepX : ∀ h' m' (l : List (Addr × Obj)), Fr (hid s₀.heap) L h' m' → News (hid s₀.heap) L h' l → (∀ p ∈ restX (X4 L) (hid s₀.heap) s'.heap, p ∈ l) → ∀ b o, b ∉ X4 L → s'.heap.get? b = some o → h'.get? b = some o := fun h' m' l F' N' hl => restX_keep F F' N' hl
  generalize hG : hid s₀.heap = G at *
  unfold lawEnv
  conv in (occs := *) lawScope _ => all_goals whnf
  conv in List.drop _ (lawTurn _) => whnf
  show wpAny _ _ _ _ _ _
  refine execs_mid (fun s'' => ∃ h m' tk, s'' = { s' with heap := h, toks := tk } ∧ Fr G L h m' ∧ News G L h ((L + 1 + 1, oU) :: (L + 1, oR) :: (217, oT) :: restX (X4 L) G s'.heap) ∧ Vars root aS aE aL k r m' ∧ (∃ D, m' (Str.ofString "before") = some (.ref D) ∧ SibL root r L (0) (k) (0) D h)) ?a ?b
  case a =>
    k_steps
    refine ⟨?_⟩
    rename IsRange _ _ _ _ _ _ _ _ => IR
    rename Fr _ _ _ _ => F₁
    rename News _ _ _ _ => N₁
    refine ⟨_, _, _, _, _, _, (fun i ys => IntsAre ys ((idxs (table root) r.up 0 i).map fun (j : Nat) => (0 : Int) + (j : Int) * 1)), _, rfl, IR, by omega, by omega, by omega, F₁.ns, .nil, ?_, ?_⟩
    · intro i t hp tkp C mc ys hi hP hns hm hold
      have BH := B hp (fun b o e => hold b o (F₁.keep b o e)) (fun p hp' => hold _ _ (N₁ p (by repeat (first | exact hp' | refine List.mem_cons_of_mem _ ?_))).1)
      obtain ⟨vs, kv, ev, RA⟩ := BH.rows
      have hi2 : 0 + i < (table root).length := by have := hkt; omega
      have hq := List.getElem?_eq_getElem hi2
      generalize (table root)[0 + i] = q at hq
      obtain ⟨D, t1, t2, t3, eD, IL⟩ := RA.get hq
      refine comp_test (env' := compEnvC _ _ C _) (vs := vs) rfl rfl rfl rfl rfl rfl ⟨oR, hold _ _ (N₁ (L + 1, oR) (by simp)).1, dR⟩ ⟨oU, hold _ _ (N₁ (L + 1 + 1, oU) (by simp)).1, dU⟩ hns hm (list_at ev) (by rw [← eD]; congr 1; omega) IL (by omega) (by omega) ?_
      refine ⟨_, _, rfl, fun _ _ e => e, ?_⟩
      have ei := idxs_succ (u := r.up) hq
      by_cases hu : q.up = r.up
      · rw [if_pos hu] at ei
        rw [show (q.up == r.up) = true by simpa using hu]
        simp only [if_true]
        refine wpAny_Name (wpAny_loadName_local rfl rfl hns hm ?_)
        refine ⟨_, _, rfl, fun _ _ e => e, ?_⟩
        show IntsAre _ _
        rw [ei, List.map_append]
        exact IntsAre.append hP (.cons _ _ .nil)
      · rw [if_neg hu, List.append_nil] at ei
        rw [show (q.up == r.up) = false by simpa using hu]
        simp only [Bool.false_eq_true, if_false]
        show IntsAre _ _
        rw [ei]
        exact hP
    · intro D h' tk' ys hD hn hpl hP hold
      obtain ⟨kD, eD⟩ := hpl
      have hDL : @LT.lt Nat _ L D := Nat.lt_of_lt_of_le F₁.ns.lt hD
      have hDn : ∀ p ∈ (L + 1 + 1, oU) :: (L + 1, oR) :: (217, oT) :: restX (X4 L) G s'.heap, @LT.lt Nat _ p.1 D := fun p hp => Nat.lt_of_lt_of_le (Heap.lt_size (N₁ p (by repeat (first | exact hp | refine List.mem_cons_of_mem _ ?_))).1) hD
      refine ⟨⟨_, _, _, rfl, ⟨hn, fun b o e => hold b o (Nat.ne_of_lt (Nat.lt_of_lt_of_le (Heap.lt_size e) F₁.above)) (F₁.keep b o e), F₁.above⟩, fun p hp => ?_, ⟨⟨⟨_, rfl⟩, rfl, rfl, rfl, rfl⟩, rfl, ⟨_, rfl⟩, ⟨_, rfl⟩⟩, D, rfl, ys, kD, eD, fun hm => ?_, hP⟩⟩
      · have z := N₁ p (by repeat (first | exact hp | refine List.mem_cons_of_mem _ ?_))
        exact ⟨hold _ _ z.2.1 z.1, z.2⟩
      simp only [List.mem_cons, List.not_mem_nil, or_false] at hm
      rcases hm with e | e | e | e
      · exact absurd (e ▸ hDL) (Nat.lt_irrefl _)
      · exact absurd (e ▸ hDn (L + 1, oR) (by simp)) (Nat.lt_irrefl _)
      · exact absurd (e ▸ hDn (L + 1 + 1, oU) (by simp)) (Nat.lt_irrefl _)
      · exact absurd (e ▸ hDn (217, oT) (by simp)) (Nat.lt_irrefl _)
  case b =>
    rintro s'' ⟨h, m', tk', rfl, F', N', V', E⟩
    subst hG
    obtain ⟨z⟩ := hQ m' _ (H.close Lw eT F' N' fun p hp => List.mem_cons_of_mem _ hp) V' ⟨oU, (N' _ (List.mem_cons_self ..)).1, dU⟩ (keepX _ _ _ F' N' fun p hp => List.mem_cons_of_mem _ (List.mem_cons_of_mem _ (List.mem_cons_of_mem _ hp))) E
    assumption

theorem turn_11 {prog : Program} {w : World} {A : Around} {plain : Bool} {root : Tr} {s₀ s' : Shared} {L aS aE aR aL : Addr} {oR : Obj} {hK : Heap} {M : List Addr} {m : Str → Option Value} {k : Nat} {r : Row} {Q : Flow → Shared → Prop} {tu : Tok} (Lw : Law prog w A plain root s₀ L aR oR) (hk : (table root)[k]? = some r)
    (H : TS w root s₀ L aS aE aR aL oR hK M m s') (V : Vars root aS aE aL k r m) (U : UpIs L s' (some (.int r.up tu)))
    {D0 : Addr} (h0 : m (Str.ofString "before") = some (.ref D0))
    (hQ : ∀ m' s'', TS w root s₀ L aS aE aR aL oR hK M m' s'' → Vars root aS aE aL k r m' → UpIs L s'' (some (.int r.up tu)) → (∀ b o, b ∉ X4 L → s'.heap.get? b = some o → s''.heap.get? b = some o) → (m' (Str.ofString "before") = some (.ref D0)) ∧ (∃ D, m' (Str.ofString "after") = some (.ref D) ∧ SibL root r L (k + 1) ((table root).length - (k + 1)) ((k : Int) + 1) D s''.heap) → Stop (wpAny (model prog w) (A.deeper (lawEnv w.params L)) (execs ((lawTurn w.params).drop 11) (lawEnv w.params L)) Q (fun _ _ => False) s'')) :
    Stop (wpAny (model prog w) (A.deeper (lawEnv w.params L)) (execs ((lawTurn w.params).drop 10) (lawEnv w.params L)) Q (fun _ _ => False) s') := by
  refine ⟨?_⟩
  have S := Lw.S
  have ⟨X, p', loose, mg, mb, T, _⟩ := S
  have dR := Lw.dR
  have h217 := Lw.l217
  obtain ⟨P, f1, f2, f3, f4, f5, f6, f7, f8, f9⟩ := row_f Lw.GR hk
  have hll := Lw.GR.len
  have htl := table_len Lw.GR
  obtain ⟨hkt, _⟩ := List.getElem?_eq_some_iff.mp hk
  have hkl := table_lt Lw.GR hk
  obtain ⟨oU, oT, dU, F, N, B⟩ := H.open Lw U
  have eT := (N (217, oT) (by simp)).1
  obtain ⟨tk, tl, th, F⟩ := V.fr F
  have keepX : ∀ h' m' (l : List (Addr × Obj)), Fr (hid s₀.heap) L h' m' → News (hid s₀.heap) L h' l → (∀ p ∈ restX (X4 L) (hid s₀.heap) s'.heap, p ∈ l) → ∀ b o, b ∉ X4 L → s'.heap.get? b = some o → h'.get? b = some o := fun h' m' l F' N' hl => restX_keep F F' N' hl
  generalize hG : hid s₀.heap = G at *
  replace F := fr_pin (x := Str.ofString "before") (by exact h0) F
  unfold lawEnv
  conv in (occs := *) lawScope _ => all_goals whnf
  conv in List.drop _ (lawTurn _) => whnf
  show wpAny _ _ _ _ _ _
  refine execs_mid (fun s'' => ∃ h m' tk, s'' = { s' with heap := h, toks := tk } ∧ Fr G L h m' ∧ News G L h ((L + 1 + 1, oU) :: (L + 1, oR) :: (217, oT) :: restX (X4 L) G s'.heap) ∧ Vars root aS aE aL k r m' ∧ (m' (Str.ofString "before") = some (.ref D0)) ∧ (∃ D, m' (Str.ofString "after") = some (.ref D) ∧ SibL root r L (k + 1) ((table root).length - (k + 1)) ((k : Int) + 1) D h)) ?a ?b
  case a =>
    k_steps
    refine ⟨?_⟩
    rename IsRange _ _ _ _ _ _ _ _ => IR
    rename Fr _ _ _ _ => F₁
    rename News _ _ _ _ => N₁
    refine ⟨_, _, _, _, _, _, (fun i ys => IntsAre ys ((idxs (table root) r.up (k + 1) i).map fun (j : Nat) => ((k : Int) + 1 : Int) + (j : Int) * 1)), _, rfl, IR, by omega, by omega, by omega, F₁.ns, .nil, ?_, ?_⟩
    · intro i t hp tkp C mc ys hi hP hns hm hold
      have BH := B hp (fun b o e => hold b o (F₁.keep b o e)) (fun p hp' => hold _ _ (N₁ p (by repeat (first | exact hp' | refine List.mem_cons_of_mem _ ?_))).1)
      obtain ⟨vs, kv, ev, RA⟩ := BH.rows
      have hi2 : (k + 1) + i < (table root).length := by have := hkt; omega
      have hq := List.getElem?_eq_getElem hi2
      generalize (table root)[(k + 1) + i] = q at hq
      obtain ⟨D, t1, t2, t3, eD, IL⟩ := RA.get hq
      refine comp_test (env' := compEnvC _ _ C _) (vs := vs) rfl rfl rfl rfl rfl rfl ⟨oR, hold _ _ (N₁ (L + 1, oR) (by simp)).1, dR⟩ ⟨oU, hold _ _ (N₁ (L + 1 + 1, oU) (by simp)).1, dU⟩ hns hm (list_at ev) (by rw [← eD]; congr 1; omega) IL (by omega) (by omega) ?_
      refine ⟨_, _, rfl, fun _ _ e => e, ?_⟩
      have ei := idxs_succ (u := r.up) hq
      by_cases hu : q.up = r.up
      · rw [if_pos hu] at ei
        rw [show (q.up == r.up) = true by simpa using hu]
        simp only [if_true]
        refine wpAny_Name (wpAny_loadName_local rfl rfl hns hm ?_)
        refine ⟨_, _, rfl, fun _ _ e => e, ?_⟩
        show IntsAre _ _
        rw [ei, List.map_append]
        exact IntsAre.append hP (.cons _ _ .nil)
      · rw [if_neg hu, List.append_nil] at ei
        rw [show (q.up == r.up) = false by simpa using hu]
        simp only [Bool.false_eq_true, if_false]
        show IntsAre _ _
        rw [ei]
        exact hP
    · intro D h' tk' ys hD hn hpl hP hold
      obtain ⟨kD, eD⟩ := hpl
      have hDL : @LT.lt Nat _ L D := Nat.lt_of_lt_of_le F₁.ns.lt hD
      have hDn : ∀ p ∈ (L + 1 + 1, oU) :: (L + 1, oR) :: (217, oT) :: restX (X4 L) G s'.heap, @LT.lt Nat _ p.1 D := fun p hp => Nat.lt_of_lt_of_le (Heap.lt_size (N₁ p (by repeat (first | exact hp | refine List.mem_cons_of_mem _ ?_))).1) hD
      refine ⟨⟨_, _, _, rfl, ⟨hn, fun b o e => hold b o (Nat.ne_of_lt (Nat.lt_of_lt_of_le (Heap.lt_size e) F₁.above)) (F₁.keep b o e), F₁.above⟩, fun p hp => ?_, ⟨⟨⟨_, rfl⟩, rfl, rfl, rfl, rfl⟩, rfl, ⟨_, rfl⟩, ⟨_, rfl⟩⟩, rfl, D, rfl, ys, kD, eD, fun hm => ?_, (by rw [show (table root).length - (k + 1) = (((table root).length : Int) - ((k : Int) + 1)).toNat by omega]; exact hP)⟩⟩
      · have z := N₁ p (by repeat (first | exact hp | refine List.mem_cons_of_mem _ ?_))
        exact ⟨hold _ _ z.2.1 z.1, z.2⟩
      simp only [List.mem_cons, List.not_mem_nil, or_false] at hm
      rcases hm with e | e | e | e
      · exact absurd (e ▸ hDL) (Nat.lt_irrefl _)
      · exact absurd (e ▸ hDn (L + 1, oR) (by simp)) (Nat.lt_irrefl _)
      · exact absurd (e ▸ hDn (L + 1 + 1, oU) (by simp)) (Nat.lt_irrefl _)
      · exact absurd (e ▸ hDn (217, oT) (by simp)) (Nat.lt_irrefl _)
  case b =>
    rintro s'' ⟨h, m', tk', rfl, F', N', V', E⟩
    subst hG
    obtain ⟨z⟩ := hQ m' _ (H.close Lw eT F' N' fun p hp => List.mem_cons_of_mem _ hp) V' ⟨oU, (N' _ (List.mem_cons_self ..)).1, dU⟩ (keepX _ _ _ F' N' fun p hp => List.mem_cons_of_mem _ (List.mem_cons_of_mem _ (List.mem_cons_of_mem _ hp))) E
    assumption


/-- a thing that stands in every later state of the walk -/
structure Held (G : Heap) (L : Addr) (T : List (Addr × Obj)) (D : Addr) (o : Obj) : Prop where
  h : ∀ h' m l, Fr G L h' m → News G L h' l → (∀ p ∈ T, p ∈ l) → h'.get? D = some o
theorem ints_snoc {ys : List Value} {zs : List Int} {z : Int} (h : IntsAre ys (zs ++ [z])) : ∃ ys' t, ys = ys' ++ [.int z t] := by
  induction zs generalizing ys with
  | nil =>
    rw [List.nil_append] at h
    cases h with
    | cons _ t r => cases r; exact ⟨[], t, rfl⟩
  | cons a zs ih =>
    rw [List.cons_append] at h
    cases h with
    | cons _ t r =>
      obtain ⟨ys', t', e⟩ := ih r
      exact ⟨.int a t :: ys', t', by rw [e]; rfl⟩
section
variable {prog : Program} {w : World} {A : Around} {E : Value → Shared → Prop} {s : Shared} {G : Heap} {L D : Addr} {m : Str → Option Value} {news T : List (Addr × Obj)} {vs : List Value} {n : Nat}
theorem d_truthy0 {Q : Bool → Shared → Prop} (F : Fr G L s.heap m) (N : News G L s.heap news) (hT : ∀ p ∈ T, p ∈ news) (K : Held G L T D (lobj [] n)) (h : Q false { s with toks := s.toks + 1 + 1 }) : wpAny (model prog w) A (truthy (.ref D)) Q E s :=
  wpAny_truthy_list (list_at (K.h _ _ _ F N hT)) (by simp) (by simpa using h)
theorem d_truthy1 {v : Value} {Q : Bool → Shared → Prop} (F : Fr G L s.heap m) (N : News G L s.heap news) (hT : ∀ p ∈ T, p ∈ news) (K : Held G L T D (lobj (vs ++ [v]) n)) (hlen : (vs ++ [v]).length ≤ 1000) (h : Q true { s with toks := s.toks + 1 + 1 }) : wpAny (model prog w) A (truthy (.ref D)) Q E s :=
  wpAny_truthy_list (list_at (K.h _ _ _ F N hT)) (by simp at hlen ⊢; omega) (by cases vs <;> simpa using h)
theorem d_truthy2 {v : Value} {Q : Bool → Shared → Prop} (F : Fr G L s.heap m) (N : News G L s.heap news) (hT : ∀ p ∈ T, p ∈ news) (K : Held G L T D (lobj (v :: vs) n)) (hlen : (v :: vs).length ≤ 1000) (h : Q true { s with toks := s.toks + 1 + 1 }) : wpAny (model prog w) A (truthy (.ref D)) Q E s :=
  wpAny_truthy_list (list_at (K.h _ _ _ F N hT)) (by simp at hlen ⊢; omega) (by simpa using h)
theorem d_last {value slice : Expr} {u : Tok} {v : Value} {Q : Value → Shared → Prop} (F : Fr G L s.heap m) (N : News G L s.heap news) (hT : ∀ p ∈ T, p ∈ news) (K : Held G L T D (lobj (vs ++ [v]) n)) (h : Q v s)
    (hs : subscripted slice false (.ref D) (.int (-1) u) = operate [.ref D, .int (-1) u] (getItem (.ref D) (.int (-1) u)) := by with_unfolding_all rfl) :
    wpAny (model prog w) A (subscriptTail value slice (.ref D) (.int (-1) u)) Q E s := by
  have hl := list_at (K.h _ _ _ F N hT)
  have hx : (vs ++ [v]).toArray[(-1 + ((vs ++ [v]).toArray.size : Int)).toNat]? = some v := by
    have e : (-1 + ((vs ++ [v]).toArray.size : Int)).toNat = vs.length := by simp; omega
    rw [e]; simp
  exact tail_any hl.typeIs slot_list_getitem.lookup (wpAny_getItem_list_neg hl (by decide) (by simp; omega) (by decide) hx h) hs
theorem d_head {value slice : Expr} {u : Tok} {v : Value} {Q : Value → Shared → Prop} (F : Fr G L s.heap m) (N : News G L s.heap news) (hT : ∀ p ∈ T, p ∈ news) (K : Held G L T D (lobj (v :: vs) n)) (h : Q v s)
    (hs : subscripted slice false (.ref D) (.int 0 u) = operate [.ref D, .int 0 u] (getItem (.ref D) (.int 0 u)) := by with_unfolding_all rfl) :
    wpAny (model prog w) A (subscriptTail value slice (.ref D) (.int 0 u)) Q E s :=
  item_at (list_at (K.h _ _ _ F N hT)) rfl (by decide) (by decide) h hs
theorem row_head {l q : Addr} {a b c : Int} {t1 t2 t3 u : Tok} {value slice : Expr} {Q : Value → Shared → Prop} (hl : s.heap.IsList l #[.ref q, .int a t1, .int b t2, .int c t3]) (h : Q (.ref q) s)
    (hs : subscripted slice false (.ref l) (.int 0 u) = operate [.ref l, .int 0 u] (getItem (.ref l) (.int 0 u)) := by with_unfolding_all rfl) :
    wpAny (model prog w) A (subscriptTail value slice (.ref l) (.int 0 u)) Q E s :=
  item_at (vs := [.ref q, .int a t1, .int b t2, .int c t3]) hl rfl (by decide) (by decide) h hs
end
theorem lines_T5_2 : True := by
  k_with "truthy ref" => ((k_dflt (refine' d_truthy0 ?F_580 ?N_580 ?T_580 ?B_580 ?_; (case F_580 => k_asm); (case N_580 => k_asm); (case B_580 => assumption); (case T_580 => (intro _ x_hp; repeat (first | exact x_hp | refine List.mem_cons_of_mem _ ?_))); k_whole)))
  k_with "truthy ref" => ((k_dflt (refine' d_truthy1 ?F_b06 ?N_b06 ?T_b06 ?B_b06 ?z_b06 ?_; (case F_b06 => k_asm); (case N_b06 => k_asm); (case B_b06 => assumption); (case T_b06 => (intro _ x_hp; repeat (first | exact x_hp | refine List.mem_cons_of_mem _ ?_))); (case z_b06 => assumption); k_whole)))
  k_with "truthy ref" => ((k_dflt (refine' d_truthy2 ?F_cd7 ?N_cd7 ?T_cd7 ?B_cd7 ?z_cd7 ?_; (case F_cd7 => k_asm); (case N_cd7 => k_asm); (case B_cd7 => assumption); (case T_cd7 => (intro _ x_hp; repeat (first | exact x_hp | refine List.mem_cons_of_mem _ ?_))); (case z_cd7 => assumption); k_whole)))
  k_with "subscriptTail" => (((with_reducible show wpAny _ _ (subscriptTail _ _ (Value.ref _) (Value.int (-1) _)) _ _ _); k_dflt (refine' d_last ?F_58e ?N_58e ?T_58e ?B_58e ?_; (case F_58e => k_asm); (case N_58e => k_asm); (case B_58e => assumption); (case T_58e => (intro _ x_hp; repeat (first | exact x_hp | refine List.mem_cons_of_mem _ ?_))); k_whole)))
  k_with "subscriptTail" => (((with_reducible show wpAny _ _ (subscriptTail _ _ (Value.ref _) (Value.int 0 _)) _ _ _); k_dflt (refine' row_head ?F_9d7 ?_; (case F_9d7 => assumption); k_whole)))
  k_with "subscriptTail" => (((with_reducible show wpAny _ _ (subscriptTail _ _ (Value.ref _) (Value.int 0 _)) _ _ _); k_dflt (refine' d_head ?F_8a6 ?N_8a6 ?T_8a6 ?B_8a6 ?_; (case F_8a6 => k_asm); (case N_8a6 => k_asm); (case B_8a6 => assumption); (case T_8a6 => (intro _ x_hp; repeat (first | exact x_hp | refine List.mem_cons_of_mem _ ?_))); k_whole)))
  trivial

theorem turn_12 {prog : Program} {w : World} {A : Around} {plain : Bool} {root : Tr} {s₀ s' : Shared} {L aS aE aR aL : Addr} {oR : Obj} {hK : Heap} {M : List Addr} {m : Str → Option Value} {k : Nat} {r : Row} {Q : Flow → Shared → Prop} {tu : Tok} (Lw : Law prog w A plain root s₀ L aR oR) (hk : (table root)[k]? = some r)
    (H : TS w root s₀ L aS aE aR aL oR hK M m s') (V : Vars root aS aE aL k r m) (U : UpIs L s' (some (.int r.up tu)))
    {D0 : Addr} (h0 : m (Str.ofString "before") = some (.ref D0)) (hS : SibL root r L 0 k 0 D0 s'.heap) {D1 : Addr} (h1 : m (Str.ofString "after") = some (.ref D1))
    (hQ : ∀ m' s'', TS w root s₀ L aS aE aR aL oR hK M m' s'' → Vars root aS aE aL k r m' → UpIs L s'' (some (.int r.up tu)) → (∀ b o, b ∉ X4 L → s'.heap.get? b = some o → s''.heap.get? b = some o) → (m' (Str.ofString "left") = some (sibV (lsOf r.c).getLast?)) ∧ (m' (Str.ofString "after") = some (.ref D1)) → Stop (wpAny (model prog w) (A.deeper (lawEnv w.params L)) (execs ((lawTurn w.params).drop 12) (lawEnv w.params L)) Q (fun _ _ => False) s'')) :
    Stop (wpAny (model prog w) (A.deeper (lawEnv w.params L)) (execs ((lawTurn w.params).drop 11) (lawEnv w.params L)) Q (fun _ _ => False) s') := by
  refine ⟨?_⟩
  have S := Lw.S
  have ⟨X, p', loose, mg, mb, T, _⟩ := S
  have dR := Lw.dR
  have h217 := Lw.l217
  obtain ⟨P, f1, f2, f3, f4, f5, f6, f7, f8, f9⟩ := row_f Lw.GR hk
  have hll := Lw.GR.len
  have htl := table_len Lw.GR
  obtain ⟨hkt, _⟩ := List.getElem?_eq_some_iff.mp hk
  have hkl := table_lt Lw.GR hk
  obtain ⟨oU, oT, dU, F, N, B⟩ := H.open Lw U
  have eT := (N (217, oT) (by simp)).1
  obtain ⟨tk, tl, th, F⟩ := V.fr F
  have keepX : ∀ h' m' (l : List (Addr × Obj)), Fr (hid s₀.heap) L h' m' → News (hid s₀.heap) L h' l → (∀ p ∈ restX (X4 L) (hid s₀.heap) s'.heap, p ∈ l) → ∀ b o, b ∉ X4 L → s'.heap.get? b = some o → h'.get? b = some o := fun h' m' l F' N' hl => restX_keep F F' N' hl
  generalize hG : hid s₀.heap = G at *
  replace F := fr_pin (x := Str.ofString "before") (by exact h0) F
  replace F := fr_pin (x := Str.ofString "after") (by exact h1) F
  obtain ⟨ys, kD, eD, hDX, IA⟩ := hS
  have KD : Held G L (restX (X4 L) G s'.heap) D0 (lobj ys kD) := ⟨fun h' m' l F N hl => keepX h' m' l F N hl D0 _ hDX eD⟩
  have hlen : ys.length ≤ 1000 := by
    have h1 := IA.length
    rw [List.length_map] at h1
    have h2 : (idxs (table root) r.up (0) (k)).length ≤ k := by unfold idxs; exact Nat.le_trans (List.length_filter_le _ _) (by simp)
    omega
  have hsib := sib_idxs hk
  unfold lawEnv
  conv in (occs := *) lawScope _ => all_goals whnf
  conv in List.drop _ (lawTurn _) => whnf
  show wpAny _ _ _ _ _ _
  refine execs_mid (fun s'' => ∃ h m' tk, s'' = { s' with heap := h, toks := tk } ∧ Fr G L h m' ∧ News G L h ((L + 1 + 1, oU) :: (L + 1, oR) :: (217, oT) :: restX (X4 L) G s'.heap) ∧ Vars root aS aE aL k r m' ∧ (m' (Str.ofString "left") = some (sibV (lsOf r.c).getLast?)) ∧ (m' (Str.ofString "after") = some (.ref D1))) ?a ?b
  case a =>
    rcases idxs_last (R := table root) (u := r.up) (a := 0) (n := k) (by omega) with ⟨e1, e2⟩ | ⟨js, j, q, e1, e2, e3⟩
    · rw [show (lsOf r.c).getLast? = none by rw [← hsib.1, e2]; rfl]
      rw [e1] at IA
      cases IA
      k_steps
      exact ⟨⟨_, _, _, rfl, by assumption, by assumption, ⟨⟨⟨_, rfl⟩, rfl, rfl, rfl, rfl⟩, rfl, ⟨_, rfl⟩, ⟨_, rfl⟩⟩, rfl, rfl⟩⟩
    · rw [show (lsOf r.c).getLast? = some q.t by rw [← hsib.1, e3]]
      rw [e1, List.map_append] at IA
      obtain ⟨ys', t', rfl⟩ := ints_snoc IA
      obtain ⟨hj, _⟩ := List.getElem?_eq_some_iff.mp e2
      have e5 : (table root)[((0 : Int) + (j : Int) * 1).toNat]? = some q := by rw [← e2]; congr 1; omega
      k_steps
      exact ⟨⟨_, _, _, rfl, by assumption, by assumption, ⟨⟨⟨_, rfl⟩, rfl, rfl, rfl, rfl⟩, rfl, ⟨_, rfl⟩, ⟨_, rfl⟩⟩, rfl, rfl⟩⟩
  case b =>
    rintro s'' ⟨h, m', tk', rfl, F', N', V', E⟩
    subst hG
    obtain ⟨z⟩ := hQ m' _ (H.close Lw eT F' N' fun p hp => List.mem_cons_of_mem _ hp) V' ⟨oU, (N' _ (List.mem_cons_self ..)).1, dU⟩ (keepX _ _ _ F' N' fun p hp => List.mem_cons_of_mem _ (List.mem_cons_of_mem _ (List.mem_cons_of_mem _ hp))) E
    assumption

theorem turn_13 {prog : Program} {w : World} {A : Around} {plain : Bool} {root : Tr} {s₀ s' : Shared} {L aS aE aR aL : Addr} {oR : Obj} {hK : Heap} {M : List Addr} {m : Str → Option Value} {k : Nat} {r : Row} {Q : Flow → Shared → Prop} {tu : Tok} (Lw : Law prog w A plain root s₀ L aR oR) (hk : (table root)[k]? = some r)
    (H : TS w root s₀ L aS aE aR aL oR hK M m s') (V : Vars root aS aE aL k r m) (U : UpIs L s' (some (.int r.up tu)))
    {D0 : Addr} (h0 : m (Str.ofString "after") = some (.ref D0)) (hS : SibL root r L (k + 1) ((table root).length - (k + 1)) ((k : Int) + 1) D0 s'.heap) (h1 : m (Str.ofString "left") = some (sibV (lsOf r.c).getLast?))
    (hQ : ∀ m' s'', TS w root s₀ L aS aE aR aL oR hK M m' s'' → Vars root aS aE aL k r m' → UpIs L s'' (some (.int r.up tu)) → (∀ b o, b ∉ X4 L → s'.heap.get? b = some o → s''.heap.get? b = some o) → (m' (Str.ofString "right") = some (sibV (rsOf r.c).head?)) ∧ (m' (Str.ofString "left") = some (sibV (lsOf r.c).getLast?)) → Stop (wpAny (model prog w) (A.deeper (lawEnv w.params L)) (execs ((lawTurn w.params).drop 13) (lawEnv w.params L)) Q (fun _ _ => False) s'')) :
    Stop (wpAny (model prog w) (A.deeper (lawEnv w.params L)) (execs ((lawTurn w.params).drop 12) (lawEnv w.params L)) Q (fun _ _ => False) s') := by
  refine ⟨?_⟩
  have S := Lw.S
  have ⟨X, p', loose, mg, mb, T, _⟩ := S
  have dR := Lw.dR
  have h217 := Lw.l217
  obtain ⟨P, f1, f2, f3, f4, f5, f6, f7, f8, f9⟩ := row_f Lw.GR hk
  have hll := Lw.GR.len
  have htl := table_len Lw.GR
  obtain ⟨hkt, _⟩ := List.getElem?_eq_some_iff.mp hk
  have hkl := table_lt Lw.GR hk
  obtain ⟨oU, oT, dU, F, N, B⟩ := H.open Lw U
  have eT := (N (217, oT) (by simp)).1
  obtain ⟨tk, tl, th, F⟩ := V.fr F
  have keepX : ∀ h' m' (l : List (Addr × Obj)), Fr (hid s₀.heap) L h' m' → News (hid s₀.heap) L h' l → (∀ p ∈ restX (X4 L) (hid s₀.heap) s'.heap, p ∈ l) → ∀ b o, b ∉ X4 L → s'.heap.get? b = some o → h'.get? b = some o := fun h' m' l F' N' hl => restX_keep F F' N' hl
  generalize hG : hid s₀.heap = G at *
  replace F := fr_pin (x := Str.ofString "after") (by exact h0) F
  replace F := fr_pin (x := Str.ofString "left") (by exact h1) F
  obtain ⟨ys, kD, eD, hDX, IA⟩ := hS
  have KD : Held G L (restX (X4 L) G s'.heap) D0 (lobj ys kD) := ⟨fun h' m' l F N hl => keepX h' m' l F N hl D0 _ hDX eD⟩
  have hlen : ys.length ≤ 1000 := by
    have h1 := IA.length
    rw [List.length_map] at h1
    have h2 : (idxs (table root) r.up (k + 1) ((table root).length - (k + 1))).length ≤ (table root).length - (k + 1) := by unfold idxs; exact Nat.le_trans (List.length_filter_le _ _) (by simp)
    omega
  have hsib := sib_idxs hk
  unfold lawEnv
  conv in (occs := *) lawScope _ => all_goals whnf
  conv in List.drop _ (lawTurn _) => whnf
  show wpAny _ _ _ _ _ _
  refine execs_mid (fun s'' => ∃ h m' tk, s'' = { s' with heap := h, toks := tk } ∧ Fr G L h m' ∧ News G L h ((L + 1 + 1, oU) :: (L + 1, oR) :: (217, oT) :: restX (X4 L) G s'.heap) ∧ Vars root aS aE aL k r m' ∧ (m' (Str.ofString "right") = some (sibV (rsOf r.c).head?)) ∧ (m' (Str.ofString "left") = some (sibV (lsOf r.c).getLast?))) ?a ?b
  case a =>
    rcases idxs_head (R := table root) (u := r.up) (a := k + 1) (n := (table root).length - (k + 1)) (by omega) with ⟨e1, e2⟩ | ⟨js, j, q, e1, e2, e3⟩
    · rw [show (rsOf r.c).head? = none by rw [← hsib.2, e2]; rfl]
      rw [e1] at IA
      cases IA
      k_steps
      exact ⟨⟨_, _, _, rfl, by assumption, by assumption, ⟨⟨⟨_, rfl⟩, rfl, rfl, rfl, rfl⟩, rfl, ⟨_, rfl⟩, ⟨_, rfl⟩⟩, rfl, rfl⟩⟩
    · rw [show (rsOf r.c).head? = some q.t by rw [← hsib.2, e3]]
      rw [e1, List.map_cons] at IA
      obtain ⟨hj, _⟩ := List.getElem?_eq_some_iff.mp e2
      have e5 : (table root)[(((k : Int) + 1) + (j : Int) * 1).toNat]? = some q := by rw [← e2]; congr 1; omega
      cases IA with
      | cons _ t' r' =>
      k_steps
      exact ⟨⟨_, _, _, rfl, by assumption, by assumption, ⟨⟨⟨_, rfl⟩, rfl, rfl, rfl, rfl⟩, rfl, ⟨_, rfl⟩, ⟨_, rfl⟩⟩, rfl, rfl⟩⟩
  case b =>
    rintro s'' ⟨h, m', tk', rfl, F', N', V', E⟩
    subst hG
    obtain ⟨z⟩ := hQ m' _ (H.close Lw eT F' N' fun p hp => List.mem_cons_of_mem _ hp) V' ⟨oU, (N' _ (List.mem_cons_self ..)).1, dU⟩ (keepX _ _ _ F' N' fun p hp => List.mem_cons_of_mem _ (List.mem_cons_of_mem _ (List.mem_cons_of_mem _ hp))) E
    assumption


theorem sibV_kind (o : Option Tr) : sibV o = .none ∨ ∃ a, sibV o = .ref a := by
  cases o with
  | none => exact .inl rfl
  | some b => exact .inr ⟨_, rfl⟩
theorem b_nextSib {prog : Program} {w : World} {A : Around} {E : Value → Shared → Prop} {s : Shared} {G : Heap} {L aS aE aR aL : Addr} {m : Str → Option Value} {news T : List (Addr × Obj)} {root : Tr} {plain : Bool} {t : Tr} {c : Ctx} {Q : Value → Shared → Prop} {cn : Str} {cs : Scope} {f : Addr} {cd : Value}
    (P : Place plain root t c) (hr : Rm A 30) (S : St w G) (hfr : A.frames = some [envOfC cn cs L f cd]) (hkd : cs.kind ≠ .module) (F : Fr G L s.heap m) (N : News G L s.heap news) (hT : ∀ p ∈ T, p ∈ news) (B : BigT w root aS aE aR aL G T)
    (h : ∀ h' tk', Fr G L h' m → News G L h' news → Q (sibV (rsOf c).head?) { s with heap := h', toks := tk' }) : wpAny (model prog w) A (call (.ref 73) [.ref t.addr]) Q E s := by
  cases c with
  | nil => exact is_walk (next_sib0 (hr.mono (by omega)) (st_of F S) (b_plug P B F N hT)) F N h
  | cons u up =>
    obtain ⟨oL, es, ep, hL, hLd, hLk, hLf⟩ := F.ns
    have hg := P.good1 u (by simp)
    have kH : ∀ b o, G.get? b = some o → (hideAll s.heap [L]).get? b = some o := fun b o e => by
      have hb : b ≠ L := Nat.ne_of_lt (Nat.lt_of_lt_of_le (Heap.lt_size e) F.above)
      exact hideAll_get _ (F.keep b o e) (by simpa using hb)
    have TT : TreeAt w.params (hideAll s.heap [L]) (plug t (u :: up)) .none := by
      rw [P.plug]
      refine (B _ kH fun p hp => ?_).tree
      have z := N p (hT p hp)
      exact hideAll_get _ z.1 (by simpa using z.2.1)
    have C := next_sib (prog := prog) (hr.mono (k := 4) (by omega)) hfr (⟨hkd, rfl, ⟨es, ep, hLd⟩, trivial⟩ : TI.Frs [envOfC cn cs L f cd] [(L, oL)]) hL (S.keeps kH) TT (by rw [P.plug]; exact P.nd) (by have := hg.1; omega)
      (R := fun r s' => match r with | .ok (.ret v) => Q v s' | .ok _ => False | .error e => E e s') (fun h' tk sl k e => ?_)
    · exact wpAny_call C
    · have q : (match u.rs.head? with | none => Value.none | some b => Value.ref b.addr) = sibV (rsOf (u :: up)).head? := by
        show _ = sibV u.rs.head?
        cases u.rs.head? <;> rfl
      have z := h h' tk ⟨⟨_, es, ep, e, hLd, hLk, hLf⟩, fun b o g => k b o (Nat.ne_of_lt (Nat.lt_of_lt_of_le (Heap.lt_size g) F.above)) (F.keep b o g), F.above⟩ fun p hp => ⟨k _ _ (N p hp).2.1 (N p hp).1, (N p hp).2⟩
      rw [← q] at z
      assumption

theorem law_frames {A : Around} {env : Env} (h : A.frames = some []) : (A.deeper env).frames = some [env] := by
  show A.frames.map (env :: ·) = _
  rw [h]; rfl
theorem lines_T6_2 : True := by
  k_with "call ref" => (((with_reducible show wpAny _ _ (call (Value.ref 73) _ _) _ _ _); k_dflt (refine' b_nextSib ?P_21b ?R_21b ?S_21b ?H_21b ?K_21b ?F_21b ?N_21b ?T_21b ?B_21b ?_; (case F_21b => k_asm); (case N_21b => k_asm); (case B_21b => assumption); (case T_21b => (intro _ x_hp; repeat (first | exact x_hp | refine List.mem_cons_of_mem _ ?_))); (case P_21b => assumption); (case R_21b => exact Rm.deeper (k := 30) (Law.hr (by assumption)) (by omega)); (case S_21b => assumption); (case H_21b => exact law_frames (Law.hfr (by assumption))); (case K_21b => decide); k_whole; intro _ _ _ _; (try dsimp only); (try k_sweep))))
  k_with "compareOp IsNot" => ((k_dflt (refine' isnot_same ?a_dbc ?_; (case a_dbc => exact sibV_kind _); k_whole)))
  trivial

theorem turn_14 {prog : Program} {w : World} {A : Around} {plain : Bool} {root : Tr} {s₀ s' : Shared} {L aS aE aR aL : Addr} {oR : Obj} {hK : Heap} {M : List Addr} {m : Str → Option Value} {k : Nat} {r : Row} {Q : Flow → Shared → Prop} {tu : Tok} (Lw : Law prog w A plain root s₀ L aR oR) (hk : (table root)[k]? = some r)
    (H : TS w root s₀ L aS aE aR aL oR hK M m s') (V : Vars root aS aE aL k r m) (U : UpIs L s' (some (.int r.up tu)))
    (h0 : m (Str.ofString "left") = some (sibV (lsOf r.c).getLast?)) (h1 : m (Str.ofString "right") = some (sibV (rsOf r.c).head?))
    (hQ : ∀ m' s'', TS w root s₀ L aS aE aR aL oR hK M m' s'' → Vars root aS aE aL k r m' → UpIs L s'' (some (.int r.up tu)) → (∀ b o, b ∉ X4 L → s'.heap.get? b = some o → s''.heap.get? b = some o) → Stop (wpAny (model prog w) (A.deeper (lawEnv w.params L)) (execs ((lawTurn w.params).drop 14) (lawEnv w.params L)) Q (fun _ _ => False) s'')) :
    Stop (wpAny (model prog w) (A.deeper (lawEnv w.params L)) (execs ((lawTurn w.params).drop 13) (lawEnv w.params L)) Q (fun _ _ => False) s') := by
  refine ⟨?_⟩
  have S := Lw.S
  have ⟨X, p', loose, mg, mb, T, _⟩ := S
  have dR := Lw.dR
  have h217 := Lw.l217
  obtain ⟨P, f1, f2, f3, f4, f5, f6, f7, f8, f9⟩ := row_f Lw.GR hk
  have hll := Lw.GR.len
  have htl := table_len Lw.GR
  obtain ⟨hkt, _⟩ := List.getElem?_eq_some_iff.mp hk
  have hkl := table_lt Lw.GR hk
  obtain ⟨oU, oT, dU, F, N, B⟩ := H.open Lw U
  have eT := (N (217, oT) (by simp)).1
  obtain ⟨tk, tl, th, F⟩ := V.fr F
  have keepX : ∀ h' m' (l : List (Addr × Obj)), Fr (hid s₀.heap) L h' m' → News (hid s₀.heap) L h' l → (∀ p ∈ restX (X4 L) (hid s₀.heap) s'.heap, p ∈ l) → ∀ b o, b ∉ X4 L → s'.heap.get? b = some o → h'.get? b = some o := fun h' m' l F' N' hl => restX_keep F F' N' hl
  generalize hG : hid s₀.heap = G at *
  replace F := fr_pin (x := Str.ofString "left") (by exact h0) F
  replace F := fr_pin (x := Str.ofString "right") (by exact h1) F
  unfold lawEnv
  conv in (occs := *) lawScope _ => all_goals whnf
  conv in List.drop _ (lawTurn _) => whnf
  show wpAny _ _ _ _ _ _
  refine execs_mid (fun s'' => ∃ h m' tk, s'' = { s' with heap := h, toks := tk } ∧ Fr G L h m' ∧ News G L h ((L + 1 + 1, oU) :: (L + 1, oR) :: (217, oT) :: restX (X4 L) G s'.heap) ∧ Vars root aS aE aL k r m') ?a ?b
  case a =>
    k_steps
    exact ⟨⟨_, _, _, rfl, by assumption, by assumption, ⟨⟨⟨_, rfl⟩, rfl, rfl, rfl, rfl⟩, rfl, ⟨_, rfl⟩, ⟨_, rfl⟩⟩⟩⟩
  case b =>
    rintro s'' ⟨h, m', tk', rfl, F', N', V'⟩
    subst hG
    obtain ⟨z⟩ := hQ m' _ (H.close Lw eT F' N' fun p hp => List.mem_cons_of_mem _ hp) V' ⟨oU, (N' _ (List.mem_cons_self ..)).1, dU⟩ (keepX _ _ _ F' N' fun p hp => List.mem_cons_of_mem _ (List.mem_cons_of_mem _ (List.mem_cons_of_mem _ hp)))
    assumption

section
variable {prog : Program} {w : World} {A : Around} {E : Value → Shared → Prop} {s : Shared} {env : Env}
structure CompL (s₁ : Shared) (I D C l : Addr) (vs : List Value) (P : Nat → List Value → Prop) (k i : Nat) (h : Heap) (ys : List Value) (m : Str → Option Value) : Prop where
  le : i ≤ vs.length
  fuel : k = vs.length + 1 - i
  len : ys.length = i
  rel : P i ys
  st : h.IsListIter I l i ∧ h.IsList l vs.toArray
  ns : h.Ns C m
  acc : h.PlainList D ys.toArray
  base : ∀ b o, s₁.heap.get? b = some o → h.get? b = some o
/-- a list comprehension over a list, without a test -/
theorem comp_list {elt iter : Expr} {x : Str} {px : Pos} {scope : Scope} {cl : List (Str × Addr)} {pos : Pos} {Q : Value → Shared → Prop} (hh : A.handled = none)
    (hclos : closureFor scope env = pure cl) (hcell : ∀ y ∈ scope.names, y.2 ≠ .cell) (hkind : scope.kind = .function)
    (hnames : ∀ y ∈ scope.names, y.2 = .local → scope.names.lookup y.1 = some .local) (hx : scope.names.lookup x = some .local)
    (h : wpAny (model prog w) A (eval iter env) (fun xv s₁ => Stop (∃ (l : Addr) (vs : List Value) (P : Nat → List Value → Prop), xv = .ref l ∧ s₁.heap.IsList l vs.toArray ∧ vs.length ≤ 1000 ∧ P 0 [] ∧
      (∀ (i : Nat) v hp tk C m ys, vs[i]? = some v → P i ys → hp.Ns C m → m x = some v → (∀ b o, s₁.heap.get? b = some o → hp.get? b = some o) →
        wpAny (model prog w) A (eval elt (compEnvC scope cl C env)) (fun y s'' => ∃ h'' tk'', s'' = { s₁ with heap := h'', toks := tk'' } ∧ (∀ b o, hp.get? b = some o → h''.get? b = some o) ∧ P (i + 1) (ys ++ [y])) (fun _ _ => False) { s₁ with heap := hp, toks := tk }) ∧
      (∀ D h' tk ys, s₁.heap.objs.size ≤ D → h'.PlainList D ys.toArray → P vs.length ys → (∀ b o, s₁.heap.get? b = some o → h'.get? b = some o) → Q (.ref D) { s₁ with heap := h', toks := tk }))) E s)
    (hs : ∀ x, foldedSetIterable iter env x = pure x := by intro _; rfl) :
    wpAny (model prog w) A (eval (.ListComp elt [⟨.Name x px, iter, [], 0⟩] scope pos) env) Q E s := by
  rw [eval_ListComp]
  refine wpAny_comprehension_free (use := none) rfl hs hclos hkind hnames (wpAny_mono h (fun xv s₁ h₁ => ?_) fun _ _ e => e)
  obtain ⟨l, vs, P, rfl, hl, hvs, hP0, body, fin⟩ := h₁.out
  refine wpAny_pyIter_list hl ?_
  generalize hIs : s₁.heap.objs.size = I
  generalize hHI : s₁.heap.push { cls := .type "list_iterator", data := .fields #[.ref l, .int 0 0] } = hI
  have szI : hI.objs.size = I + 1 := by rw [← hHI, Heap.size_push, hIs]
  have kI : ∀ b o, s₁.heap.get? b = some o → hI.get? b = some o := fun b o e => hHI ▸ Heap.get?_push_of_some _ e
  have itI : hI.IsListIter I l 0 := by rw [← hHI, ← hIs]; exact ⟨_, Heap.get?_push_size _ rfl, rfl, rfl⟩
  have lI : hI.IsList l vs.toArray := hl.at fun o e => kI l o e
  have hlI : l ≠ I := by obtain ⟨o, e, _⟩ := hl; exact Nat.ne_of_lt (hIs ▸ Heap.lt_size e)
  have W := Walks.list (prog := prog) (w := w) (A := A) hh I l hlI vs.toArray
  refine wpAny_newObj_type (wpAny_newFunctionEnv hcell (by intro y hy; simp at hy) (fun h₁ hns₁ hsb₁ => ?_) hkind)
  dsimp only at hns₁ hsb₁ ⊢
  generalize hD : hI.objs.size = D at hns₁ hsb₁ ⊢
  generalize hH2 : hI.push { cls := .type "list", dict := none, data := .seq ([] : List Value).toArray } = H2 at hns₁ hsb₁ ⊢
  have hCs : H2.objs.size = D + 1 := by rw [← hH2, Heap.size_push, hD]
  generalize hC : H2.objs.size = C at hns₁ hsb₁ ⊢
  have hCD : C = D + 1 := by rw [← hC]; exact hCs
  have hDC : D ≠ C := by rw [hCD]; exact Nat.ne_of_lt (Nat.lt_succ_self _)
  have hID : I < D := by rw [← hD, szI]; exact Nat.lt_succ_self _
  have hIC : I ≠ C := by rw [hCD]; exact Nat.ne_of_lt (Nat.lt_succ_of_lt hID)
  have oldI : ∀ b o, hI.get? b = some o → h₁.get? b = some o := fun b o e => by
    have hb : b < D := hD ▸ Heap.lt_size e
    refine hsb₁.extBut b o (Nat.ne_of_lt ?_) (Heap.get?_push_of_some _ (hH2 ▸ Heap.get?_push_of_some _ e))
    rw [hCD]; exact Nat.lt_succ_of_lt hb
  have old : ∀ b o, s₁.heap.get? b = some o → h₁.get? b = some o := fun b o e => oldI b o (kI b o e)
  have lts : ∀ b o, s₁.heap.get? b = some o → b ≠ I ∧ b ≠ D ∧ b ≠ C := fun b o e => by
    have h1 : b < I := hIs ▸ Heap.lt_size e
    exact ⟨Nat.ne_of_lt h1, Nat.ne_of_lt (Nat.lt_trans h1 hID), by rw [hCD]; exact Nat.ne_of_lt (Nat.lt_succ_of_lt (Nat.lt_trans h1 hID))⟩
  have hacc : h₁.PlainList D ([] : List Value).toArray := ⟨_, hsb₁.extBut _ _ hDC (Heap.get?_push_of_some _ (by rw [← hH2, ← hD]; exact Heap.get?_push_size _ rfl))⟩
  have loop : ∀ s₃ : Shared, s₃ = { s₁ with heap := h₁, toks := s₁.toks + ([] : List (Str × Value)).length } →
      codeAny (model prog w) A (.compLoop (.ListComp elt [⟨.Name x px, iter, [], 0⟩] scope pos) 0 (.ref I) (.ref D) (compEnvC scope cl C env))
        (compPost (model prog w) A E none Q (.ref D) C) s₃ := by
    rintro s₃ rfl
    refine codeAny_compLoop_list (fun k s' => ∃ h' tk i ys m', s' = { s₁ with heap := h', toks := tk } ∧ CompL s₁ I D C l vs P k i h' ys m') ?_ (vs.length + 1)
      ⟨h₁, _, 0, [], _, rfl, ⟨Nat.zero_le _, rfl, rfl, hP0, ⟨itI.at fun o e => oldI _ o e, lI.at fun o e => oldI _ o e⟩, hns₁, hacc, old⟩⟩
    rintro k s' ⟨h', tk, i, ys, m', rfl, c⟩
    by_cases hlt : i < vs.length
    · refine wpAny_mono (W.item i { s₁ with heap := h', toks := tk } _ (fun _ _ => False) (by simpa using hlt) c.st fun v h₂ tk₂ hPv hst₂ hk₂ => ?_) (fun _ _ q => q) fun _ _ q => q.elim
      have k2 : ∀ b o, b ≠ I → h'.get? b = some o → h₂.get? b = some o := fun b o hb e => hk₂ b o (by simpa using hb) e
      refine wpAny_assign_Name (wpAny_storeName_local (lookup_relabel_local hx) (c.ns.at' fun o e => k2 _ o (Ne.symm hIC) e) (fun h₃ hn₃ hs₃ => ?_) (by simp [compEnvC, relabel, hkind]))
      have k3 : ∀ b o, b ≠ I → b ≠ C → h'.get? b = some o → h₃.get? b = some o := fun b o h1 h2 e => hs₃.extBut b o h2 (k2 b o h1 e)
      have hlC : l ≠ C := by obtain ⟨o, e, _⟩ := hl; exact (lts _ _ e).2.2
      have st₃ : h₃.IsListIter I l (i + 1) ∧ h₃.IsList l vs.toArray := ⟨hst₂.1.at fun o e => hs₃.extBut _ o hIC e, hst₂.2.at fun o e => hs₃.extBut _ o hlC e⟩
      have base₃ : ∀ b o, s₁.heap.get? b = some o → h₃.get? b = some o := fun b o e => k3 b o (lts b o e).1 (lts b o e).2.2 (c.base b o e)
      have acc₃ : h₃.PlainList D ys.toArray := c.acc.at fun o e => k3 D o (Nat.ne_of_gt hID) hDC e
      refine wpAny_mono (body i v h₃ _ C _ ys (by simpa using hPv) c.rel hn₃ (by simp) base₃) (fun y s₈ h₈ => ?_) fun _ _ x => x.elim
      obtain ⟨h₈', tk₈, rfl, g₈, p₈⟩ := h₈
      refine wpAny_list_append_plain (acc₃.at fun o e => g₈ D o e) (fun h₉ hp₉ hs₉ => ?_) (by
        have : 2000 ≤ sizeLine := by decide
        have := c.len
        simp; omega)
      have k9 : ∀ b o, b ≠ D → h₃.get? b = some o → h₉.get? b = some o := fun b o hb e => hs₉.extBut b o hb (g₈ b o e)
      have hlD : l ≠ D := by obtain ⟨o, e, _⟩ := hl; exact (lts _ _ e).2.1
      exact ⟨vs.length + 1 - (i + 1), by rw [c.fuel]; omega, h₉, tk₈, i + 1, ys ++ [y], _, rfl, hlt, rfl, by simp [c.len], p₈, ⟨st₃.1.at fun o e => k9 _ o (Nat.ne_of_lt hID) e, st₃.2.at fun o e => k9 _ o hlD e⟩, (hn₃.keeps g₈).sameBut hs₉ (Ne.symm hDC), by simpa using hp₉,
        fun b o e => k9 b o (lts b o e).2.1 (base₃ b o e)⟩
    · have hin : i = vs.length := Nat.le_antisymm c.le (Nat.not_lt.mp hlt)
      subst hin
      refine wpAny_mono (W.done { s₁ with heap := h', toks := tk } _ (fun _ _ => False) (by simpa using c.st) fun h₂ tk₂ hk₂ => ?_) (fun _ _ q => q) fun _ _ q => q.elim
      have k2 : ∀ b o, b ≠ I → h'.get? b = some o → h₂.get? b = some o := fun b o hb e => hk₂ b o (by simpa using hb) e
      refine ⟨m', c.ns.at' fun o e => k2 _ o (Ne.symm hIC) e, fun h'' hs'' => fin D h'' tk₂ ys (Nat.le_of_lt (hIs ▸ hID)) ?_ c.rel fun b o e => ?_⟩
      · exact c.acc.at fun o e => hs''.extBut D o hDC (k2 D o (Nat.ne_of_gt hID) e)
      · exact hs''.extBut b o (lts b o e).2.2 (k2 b o (lts b o e).1 (c.base b o e))
  exact codeAny_compStart_list (loop _ rfl) (W.self 0 { s₁ with heap := h₁, toks := s₁.toks + ([] : List (Str × Value)).length } _ _ ⟨itI.at fun o e => oldI _ o e, lI.at fun o e => oldI _ o e⟩ (loop _ rfl))
end


section
variable {prog : Program} {w : World} {A : Around} {E : Value → Shared → Prop} {s : Shared} {G : Heap} {L aS aE aR aL : Addr} {m : Str → Option Value} {news T : List (Addr × Obj)} {root : Tr}
theorem leaf_elt {env' : Env} {x : LD} {par : Value} {p1 p2 p3 p4 p5 : Pos} {Q : Value → Shared → Prop} (hk : env'.scope.kind = .function) (lx : env'.kindOf (Str.ofString "leaf") = some .local) (hns : s.heap.Ns env'.locals m) (hm : m (Str.ofString "leaf") = some (.ref x.a))
    (X : (hd.heap_1 w.params).In s.heap) (LL : LeafAt w.params s.heap x par) (ht : x.val ∈ Texts ∧ x.pre ∈ Texts) (h : ∀ t' tk, Q (.str (lcode x) t') { s with toks := tk }) :
    wpAny (model prog w) A (eval (.BinOp (.Attribute (.Name (Str.ofString "leaf") p1) (Str.ofString "prefix") p2) .Add (.Attribute (.Name (Str.ofString "leaf") p3) (Str.ofString "value") p4) p5) env') Q E s := by
  refine wpAny_BinOp (Attribute_name (wpAny_Name (wpAny_loadName_local hk lx hns hm ?_)))
  refine ga_prefix X LL ?_
  refine Attribute_name (wpAny_Name (wpAny_loadName_local hk lx hns hm ?_))
  refine ga_value X LL ?_
  have hl := lcode_le ht
  unfold lcode at hl
  rw [length_append] at hl
  exact PyProof.Rows.add_str (fun t' tk => h t' tk) (by
    have : 1000 ≤ sizeLine := by decide
    omega)
theorem leaf_slice {env : Env} {px py pz pp pos : Pos} {lo hi : Nat} {t u : Tok} {Q : Value → Shared → Prop} (hk : env.scope.kind = .function) (lx : env.kindOf (Str.ofString "leaves") = some .local) (ly : env.kindOf (Str.ofString "low") = some .local) (lz : env.kindOf (Str.ofString "high") = some .local)
    (F : Fr G env.locals s.heap m) (N : News G env.locals s.heap news) (hT : ∀ p ∈ T, p ∈ news) (B : BigT w root aS aE aR aL G T) (hx : m (Str.ofString "leaves") = some (.ref aL)) (hy : m (Str.ofString "low") = some (.int lo t)) (hz : m (Str.ofString "high") = some (.int hi u)) (hlo : lo ≤ hi) (hhi : hi ≤ root.leaves.length) (hlen : root.leaves.length ≤ 1000)
    (h : ∀ h' D, Fr G env.locals h' m → News G env.locals h' news → h'.IsList D (((root.leaves.drop lo).take (hi - lo)).map fun x => Value.ref x.a).toArray → Q (.ref D) { s with heap := h' }) :
    wpAny (model prog w) A (eval (.Subscript (.Name (Str.ofString "leaves") px) (.Slice (some (.Name (Str.ofString "low") py)) (some (.Name (Str.ofString "high") pz)) none pp) pos) env) Q E s := by
  obtain ⟨k, e⟩ := (B.here F N hT).leaves
  refine wpAny_Subscript_list_slice (wpAny_Name (wpAny_loadName_local hk lx F.ns hx ?_))
  show wpAny _ _ (eval (.Name (Str.ofString "low") py) env) _ _ _
  refine wpAny_Name (wpAny_loadName_local hk ly F.ns hy ?_)
  show wpAny _ _ (eval (.Name (Str.ofString "high") pz) env) _ _ _
  refine wpAny_Name (wpAny_loadName_local hk lz F.ns hz ?_)
  refine ⟨aL, _, some (lo : Int), some (hi : Int), rfl, list_at e, ?_, .int _ _, .int _ _, ?_⟩
  · have : 1000 ≤ sizeLine := by decide
    simp; omega
  · rw [slicePick_run _ _ _ (by simpa using hhi) hlo]
    have kk : ∀ b o, s.heap.get? b = some o → ((s.heap.push { cls := .type "slice", data := .fields #[.int lo t, .int hi u, .none] }).push { cls := .type "list", data := .seq ((((root.leaves.map fun x => Value.ref x.a).toArray.toList.drop lo).take (hi - lo)).toArray) }).get? b = some o := fun b o q => Heap.get?_push_of_some _ (Heap.get?_push_of_some _ q)
    refine h _ _ (F.after kk) (fun p hp => ⟨kk _ _ (N p hp).1, (N p hp).2⟩) ⟨{ cls := .type "list", data := .seq ((((root.leaves.map fun x => Value.ref x.a).toArray.toList.drop lo).take (hi - lo)).toArray) }, ?_, rfl, 0, ?_⟩
    · rw [show s.heap.objs.size + 1 = (s.heap.push { cls := .type "slice", data := .fields #[.int lo t, .int hi u, .none] }).objs.size from (Heap.size_push ..).symm]
      exact Heap.get?_push_size _ rfl
    · simp [List.map_drop, List.map_take]
end

mutual
theorem leaf_at {P : Params} {h : Heap} {x : LD} : ∀ (t : Tr) {par : Value}, TreeAt P h t par → x ∈ t.leaves → ∃ p, LeafAt P h x p
  | .leaf y, par, T, hx => by
    unfold TreeAt at T
    simp only [Tr.leaves, List.mem_singleton] at hx
    exact ⟨par, hx ▸ T⟩
  | .node y ts, par, T, hx => by
    unfold TreeAt at T
    simp only [Tr.leaves] at hx
    exact leaf_atL ts T.2 hx
theorem leaf_atL {P : Params} {h : Heap} {x : LD} : ∀ (ts : List Tr) {par : Value}, KidsAt P h ts par → x ∈ leavesL ts → ∃ p, LeafAt P h x p
  | [], par, T, hx => by simp [leavesL] at hx
  | t :: ts, par, T, hx => by
    unfold KidsAt at T
    simp only [leavesL, List.mem_append] at hx
    rcases hx with hx | hx
    · exact leaf_at t T.1 hx
    · exact leaf_atL ts T.2 hx
end
theorem strs_snoc {y : Str} {t : Tok} : ∀ {vs : List Value} {ys : List Str}, StrsAre vs ys → StrsAre (vs ++ [.str y t]) (ys ++ [y])
  | _, _, .nil => .cons _ _ .nil
  | _, _, .cons a b r => .cons a b (strs_snoc r)
theorem lines_T7_2 : True := by
  k_with "eval ListComp" => ((k_dflt (refine' comp_list ?hh_e1 ?cl_e1 ?c1_e1 ?c2_e1 ?c3_e1 ?c4_e1 ?_ ?hs_e1; (case hh_e1 => exact Rm.hh (Rm.deeper (k := 30) (Law.hr (by assumption)) (by omega))); (case cl_e1 => exact rfl); (case c1_e1 => decide); (case c2_e1 => exact rfl); (case c3_e1 => decide); (case c4_e1 => exact rfl); (case hs_e1 => intro _; rfl); k_whole)))
  k_with "eval Subscript" => (((with_reducible show wpAny _ _ (eval (Expr.Subscript (Expr.Name (Str.ofString "leaves") _) (Expr.Slice (some (Expr.Name _ _)) (some (Expr.Name _ _)) none _) _) _) _ _ _); k_dflt (refine' leaf_slice ?k0_d3d ?k1_d3d ?k2_d3d ?k3_d3d ?F_d3d ?N_d3d ?T_d3d ?B_d3d ?x_d3d ?y_d3d ?z_d3d ?lo_d3d ?hi_d3d ?len_d3d ?_; (case F_d3d => k_asm); (case N_d3d => k_asm); (case B_d3d => assumption); (case T_d3d => (intro _ x_hp; repeat (first | exact x_hp | refine List.mem_cons_of_mem _ ?_))); (case k0_d3d => rfl); (case k1_d3d => rfl); (case k2_d3d => rfl); (case k3_d3d => rfl); (case x_d3d => rfl); (case y_d3d => rfl); (case z_d3d => rfl); (case lo_d3d => omega); (case hi_d3d => omega); (case len_d3d => omega); k_whole); intro _ _ _ _ _))
  k_with "call builtin:str.join" => ((k_dflt (refine' PyProof.Rows.join_listW ?l_dac ?i_dac ?s_dac ?w_dac ?_; (case l_dac => assumption); (case i_dac => assumption); (case s_dac => decide); (case w_dac => assumption)); intro _ _))
  trivial

theorem turn_4 {prog : Program} {w : World} {A : Around} {plain : Bool} {root : Tr} {s₀ s' : Shared} {L aS aE aR aL : Addr} {oR : Obj} {hK : Heap} {M : List Addr} {m : Str → Option Value} {k : Nat} {r : Row} {Q : Flow → Shared → Prop} {tu : Tok} (Lw : Law prog w A plain root s₀ L aR oR) (hk : (table root)[k]? = some r)
    (H : TS w root s₀ L aS aE aR aL oR hK M m s') (V : Vars root aS aE aL k r m) (U : UpIs L s' (some (.int r.up tu)))
    (hQ : ∀ m' s'', TS w root s₀ L aS aE aR aL oR hK M m' s'' → Vars root aS aE aL k r m' → UpIs L s'' (some (.int r.up tu)) → (∀ b o, b ∉ X4 L → s'.heap.get? b = some o → s''.heap.get? b = some o) → (∃ tc, m' (Str.ofString "code") = some (.str (codeOf r.t) tc)) → Stop (wpAny (model prog w) (A.deeper (lawEnv w.params L)) (execs ((lawTurn w.params).drop 4) (lawEnv w.params L)) Q (fun _ _ => False) s'')) :
    Stop (wpAny (model prog w) (A.deeper (lawEnv w.params L)) (execs ((lawTurn w.params).drop 3) (lawEnv w.params L)) Q (fun _ _ => False) s') := by
  refine ⟨?_⟩
  have S := Lw.S
  have ⟨X, p', loose, mg, mb, T, _⟩ := S
  have dR := Lw.dR
  have h217 := Lw.l217
  obtain ⟨P, f1, f2, f3, f4, f5, f6, f7, f8, f9⟩ := row_f Lw.GR hk
  have hll := Lw.GR.len
  have htl := table_len Lw.GR
  obtain ⟨hkt, _⟩ := List.getElem?_eq_some_iff.mp hk
  have hkl := table_lt Lw.GR hk
  obtain ⟨oU, oT, dU, F, N, B⟩ := H.open Lw U
  have eT := (N (217, oT) (by simp)).1
  obtain ⟨tk, tl, th, F⟩ := V.fr F
  have keepX : ∀ h' m' (l : List (Addr × Obj)), Fr (hid s₀.heap) L h' m' → News (hid s₀.heap) L h' l → (∀ p ∈ restX (X4 L) (hid s₀.heap) s'.heap, p ∈ l) → ∀ b o, b ∉ X4 L → s'.heap.get? b = some o → h'.get? b = some o := fun h' m' l F' N' hl => restX_keep F F' N' hl
  generalize hG : hid s₀.heap = G at *
  have hle : r.low + r.t.leaves.length ≤ root.leaves.length := by rw [f8, ← P.plug, plug_leaves]; simp
  have hsl : (root.leaves.drop r.low).take (r.high - r.low) = r.t.leaves := by rw [show r.high - r.low = r.t.leaves.length by omega, f8]; exact at_slice P.plug
  have hw : ((r.t.leaves.map lcode).map (·.length)).sum + (r.t.leaves.map lcode).length ≤ 1048576 := by have := sum_le20 _ (leaves_texts _ P.good.texts); rw [List.length_map]; omega
  unfold lawEnv
  conv in (occs := *) lawScope _ => all_goals whnf
  conv in List.drop _ (lawTurn _) => whnf
  show wpAny _ _ _ _ _ _
  refine execs_mid (fun s'' => ∃ h m' tk, s'' = { s' with heap := h, toks := tk } ∧ Fr G L h m' ∧ News G L h ((L + 1 + 1, oU) :: (L + 1, oR) :: (217, oT) :: restX (X4 L) G s'.heap) ∧ Vars root aS aE aL k r m' ∧ (∃ tc, m' (Str.ofString "code") = some (.str (codeOf r.t) tc))) ?a ?b
  case a =>
    k_steps
    refine ⟨?_⟩
    rename Heap.IsList _ _ _ => IL
    rename Fr _ _ _ _ => F₁
    rename News _ _ _ _ => N₁
    rw [hsl] at IL
    refine ⟨_, _, fun i ys => StrsAre ys ((r.t.leaves.take i).map lcode), rfl, IL, by rw [List.length_map]; omega, .nil, ?_, ?_⟩
    · intro i v hp tkp C mc ys hv hP hns hm hold
      have BH := B hp (fun b o e => hold b o (F₁.keep b o e)) (fun p hp' => hold _ _ (N₁ p (by repeat (first | exact hp' | refine List.mem_cons_of_mem _ ?_))).1)
      rw [List.getElem?_map] at hv
      obtain ⟨x, hx, rfl⟩ := Option.map_eq_some_iff.mp hv
      have hxm : x ∈ r.t.leaves := List.mem_of_getElem? hx
      obtain ⟨par, LL⟩ := leaf_at _ BH.tree (x := x) (by rw [← P.plug, plug_leaves]; simp [hxm])
      refine leaf_elt (env' := compEnvC _ _ C _) (par := par) rfl rfl hns hm (X.keeps fun b o e => hold b o (F₁.keep b o e)) LL (leaves_texts _ P.good.texts x hxm) fun t' tk' => ⟨_, _, rfl, fun _ _ e => e, ?_⟩
      show StrsAre _ _
      rw [List.take_add_one, hx, Option.toList_some, List.map_append]
      exact strs_snoc hP
    · intro D h' tk' ys hD hpl hP hold
      have F₂ : Fr G L h' _ := ⟨F₁.ns.keeps hold, fun b o e => hold b o (F₁.keep b o e), F₁.above⟩
      have N₂ : News G L h' ((L + 1 + 1, oU) :: (L + 1, oR) :: (217, oT) :: restX (X4 L) G s'.heap) := fun p hp => by
        have z := N₁ p (by repeat (first | exact hp | refine List.mem_cons_of_mem _ ?_))
        exact ⟨hold _ _ z.1, z.2⟩
      have IL2 := hpl.isList
      have hP2 : StrsAre ys.toArray.toList (r.t.leaves.map lcode) := by
        have q : StrsAre ys ((r.t.leaves.take (List.length (r.t.leaves.map fun x => Value.ref x.a))).map lcode) := hP
        rw [List.length_map, List.take_length] at q
        exact q
      clear F₁ N₁ hP hold
      k_steps
      exact ⟨⟨_, _, _, rfl, by assumption, by assumption, ⟨⟨⟨_, rfl⟩, rfl, rfl, rfl, rfl⟩, rfl, ⟨_, rfl⟩, ⟨_, rfl⟩⟩, _, Eq.trans (b := some (.str (Txt.join (Str.ofString "") (r.t.leaves.map lcode)) _)) rfl (by rw [join_cat]; rfl)⟩⟩
  case b =>
    rintro s'' ⟨h, m', tk', rfl, F', N', V', E⟩
    subst hG
    obtain ⟨z⟩ := hQ m' _ (H.close Lw eT F' N' fun p hp => List.mem_cons_of_mem _ hp) V' ⟨oU, (N' _ (List.mem_cons_self ..)).1, dU⟩ (keepX _ _ _ F' N' fun p hp => List.mem_cons_of_mem _ (List.mem_cons_of_mem _ (List.mem_cons_of_mem _ hp))) E
    assumption

theorem lines_T8_1 : True := by
  k_with "getAttr ref" => (((with_reducible show wpAny _ _ (getAttr (Value.ref _) (PySem.Str.ofString "value") _) _ _ _); (k_dflt (refine' w_value ?F_f33 ?X_f33 ?T_f33 ?_; (case F_f33 => k_asm); (case X_f33 => k_asm); (case T_f33 => assumption); k_whole))))
  k_with "binaryOp Add str str" => ((k_dflt (refine' PyProof.Rows.add_str ?h_e4d ?z_e4d; (case z_e4d => assumption); k_whole; intro _ _)))
  k_with "getAttr ref" => (((with_reducible show wpAny _ _ (getAttr (Value.ref _) (PySem.Str.ofString "prefix") _) _ _ _); (k_dflt (refine' w_prefix ?F_da7 ?X_da7 ?T_da7 ?_; (case F_da7 => k_asm); (case X_da7 => k_asm); (case T_da7 => assumption); k_whole))))
  trivial
theorem bare_leaf0 {prog : Program} {w : World} {x : LD} {A : Around} {s : Shared} {par : Value} {R : Result → Shared → Prop} (hr : Rm A 20) (S0 : St w (hid s.heap)) (TT : TreeAt w.params (hid s.heap) (.leaf x) par) (hR : ∀ s' t, KX [] s s' → R (.ok (.ret (.str (x.val) t))) s') :
    codeAny (model prog w) A (.call (.ref (Tr.leaf x).fCode) ⟨[.ref (Tr.leaf x).addr], kwF⟩) R s := by
  have S := S0.unhid
  have ⟨X, p, loose, mg, mb, T, _⟩ := S
  unfold TreeAt at TT
  replace TT := TT.keeps (h' := s.heap) fun _ _ e => hid_of e
  show codeAny _ _ (.call (.ref 165) ⟨[.ref x.a], kwF⟩) _ _
  refine' enterX [(Str.ofString "self", .ref x.a), (Str.ofString "include_prefix", .bool false)] X (TopRead.nolimit T) ?k6 ?k7 ?k8 ?k9 ?kB ?c1 ?c2 ?c3 ?c4 ?_
  (case k6 => k_is)
  (case k7 => k_is)
  (case k8 => exact (Rm.lt hr))
  (case k9 => first | exact BindsTo.of_eq rfl | exact binds_K (by k_in) rfl (by k_is) rfl rfl rfl)
  (case kB => exact locs rfl)
  (case c1 => decide)
  (case c2 => rfl)
  (case c3 => rfl)
  (case c4 => rfl)
  intro L' h₁ tk F N
  try dsimp only
  k_fold
  k_steps
  have k := Fr.keep (h₀ := s.heap) (by assumption)
  exact hR _ _ (KX.of_heap fun b o _ e => k b o e)
theorem code_leaf0 {prog : Program} {w : World} {x : LD} {A : Around} {s : Shared} {par : Value} {R : Result → Shared → Prop} (hx : x.val ∈ Texts ∧ x.pre ∈ Texts) (hr : Rm A 20) (S0 : St w (hid s.heap)) (TT : TreeAt w.params (hid s.heap) (.leaf x) par) (hR : ∀ s' t, KX [] s s' → R (.ok (.ret (.str (x.pre ++ x.val) t))) s') :
    codeAny (model prog w) A (.call (.ref (Tr.leaf x).fCode) ⟨[.ref (Tr.leaf x).addr], []⟩) R s := by
  have S := S0.unhid
  have ⟨X, p, loose, mg, mb, T, _⟩ := S
  unfold TreeAt at TT
  replace TT := TT.keeps (h' := s.heap) fun _ _ e => hid_of e
  have hlen : x.pre.length + x.val.length ≤ sizeLine := by
    have h1 := short_text hx.1
    have h2 := short_text hx.2
    have h3 : 20 ≤ sizeLine := by decide
    omega
  show codeAny _ _ (.call (.ref 165) ⟨[.ref x.a], []⟩) _ _
  refine' enterX [(Str.ofString "self", .ref x.a), (Str.ofString "include_prefix", .bool true)] X (TopRead.nolimit T) ?k6 ?k7 ?k8 ?k9 ?kB ?c1 ?c2 ?c3 ?c4 ?_
  (case k6 => k_is)
  (case k7 => k_is)
  (case k8 => exact (Rm.lt hr))
  (case k9 => first | exact BindsTo.of_eq rfl | exact binds_K (by k_in) rfl (by k_is) rfl rfl rfl)
  (case kB => exact locs rfl)
  (case c1 => decide)
  (case c2 => rfl)
  (case c3 => rfl)
  (case c4 => rfl)
  intro L' h₁ tk F N
  try dsimp only
  k_fold
  k_steps
  have k := Fr.keep (h₀ := s.heap) (by assumption)
  exact hR _ _ (KX.of_heap fun b o _ e => k b o e)
theorem KX.of0 {s s' : Shared} (k : KX [] s s') : KX [217] s s' := ⟨fun b o _ e => k.heap b o (by simp) e, k.gsz, k.gold, k.gnew, k.drawn, k.os⟩
section
variable {prog : Program} {w : World} {A A₁ : Around} {E : Value → Shared → Prop} {plain : Bool} {root : Tr} {s₀ s : Shared} {L aS aE aR aL : Addr} {oR : Obj} {hK : Heap} {M : List Addr} {m : Str → Option Value} {v : Option Value} {t : Tr} {c : Ctx} {Q : Value → Shared → Prop}
theorem ts_pre (Lw : Law prog w A plain root s₀ L aR oR) (P : Place plain root t c) (H : TS w root s₀ L aS aE aR aL oR hK M m s) (U : UpIs L s v) : St w (hid s.heap) ∧ TreeAt w.params (hid s.heap) t (parV c) := by
  obtain ⟨oU, oT, dU, F, N, B⟩ := H.open Lw U
  have k1 : ∀ b o, (hid s₀.heap).get? b = some o → (hid s.heap).get? b = some o := fun b o e => hid_get (F.keep b o e) (hid_ne e)
  refine ⟨Lw.S.keeps k1, ctx_tree c t ?_⟩
  rw [P.plug]
  refine (B _ k1 fun p hp => hid_get (N p (by simp [hp])).1 fun e => ?_).tree
  exact (restX_mem.mp hp).1 (by rw [e]; simp)
theorem ts_step (Lw : Law prog w A plain root s₀ L aR oR) (H : TS w root s₀ L aS aE aR aL oR hK M m s) {s₂ : Shared} (k : KX [217] s s₂) (tab : TabOk s₂.heap) : TS w root s₀ L aS aE aR aL oR hK M m s₂ := by
  have hL : L ≠ 217 := Nat.ne_of_gt Lw.l217
  have hL1 : L + 1 ≠ 217 := Nat.ne_of_gt (Nat.lt_succ_of_lt Lw.l217)
  have kk : ∀ b o, b ≠ 217 → s.heap.get? b = some o → s₂.heap.get? b = some o := fun b o hb e => k.heap b o (by simpa using hb) e
  exact ⟨H.kx.trans k, H.ns.at' fun o e => kk L o hL e, fun b o e => kk b o (hid_ne e) (H.keep b o e), fun b o hb e => kk b o (fun q => hb (by rw [q]; simp)) (H.kept b o hb e), kk _ _ hL1 H.cR, tab, H.bigK, H.hM⟩
theorem up_step (Lw : Law prog w A plain root s₀ L aR oR) (U : UpIs L s v) {s₂ : Shared} (k : KX [217] s s₂) : UpIs L s₂ v := by
  obtain ⟨o, e, d⟩ := U
  exact ⟨o, k.heap _ o (by simpa using Nat.ne_of_gt (Nat.lt_succ_of_lt (Nat.lt_succ_of_lt Lw.l217))) e, d⟩
theorem ts_code (Lw : Law prog w A plain root s₀ L aR oR) (P : Place plain root t c) (hr : Rm A₁ 60) (H : TS w root s₀ L aS aE aR aL oR hK M m s) (U : UpIs L s v)
    (h : ∀ s₂ tk, TS w root s₀ L aS aE aR aL oR hK M m s₂ → UpIs L s₂ v → (t.isNode → TabHas pos1 s₂.heap) → KX [217] s s₂ → Q (.str (codeOf t) tk) s₂) :
    wpAny (model prog w) A₁ (call (.ref t.fCode) [.ref t.addr]) Q E s := by
  obtain ⟨S, TT⟩ := ts_pre Lw P H U
  cases t with
  | leaf x =>
    refine wpAny_call (code_leaf0 (R := fun r s' => match r with | .ok (.ret v) => Q v s' | .ok _ => False | .error e => E e s') (leaves_texts _ P.good.texts x (by simp [Tr.leaves])) (hr.mono (by omega)) S TT ?_)
    intro s₂ tk k1
    have z := h s₂ tk (ts_step Lw H k1.of0 (H.tab.keeps (KX.hid0 (ex := []) k1))) (up_step Lw U k1.of0) (fun q => q.elim) k1.of0
    rw [codeOf_leaf] at z
    assumption
  | node x ts =>
    refine wpAny_call (code_all (prog := prog) (w := w) _ (.node x ts) (Nat.le_refl _) (slim_thin _ P.good.slim) P.good.texts (by have := P.len; omega) A₁ s (parV c) (fun r s' => match r with | .ok (.ret v) => Q v s' | .ok _ => False | .error e => E e s') (hr.mono (by have := P.ht; omega)) S TT H.tab ?_)
    intro s₂ tk k1 k2 k3 k4
    exact h s₂ tk (ts_step Lw H k1 (k2 trivial).ok) (up_step Lw U k1) k2 k1
theorem ts_bare (Lw : Law prog w A plain root s₀ L aR oR) (P : Place plain root t c) (hr : Rm A₁ 60) (H : TS w root s₀ L aS aE aR aL oR hK M m s) (U : UpIs L s v) (hT : t.isNode → TabHas pos1 s.heap)
    (h : ∀ s₂ tk, TS w root s₀ L aS aE aR aL oR hK M m s₂ → UpIs L s₂ v → KX [217] s s₂ → Q (.str (codeBare t) tk) s₂) :
    wpAny (model prog w) A₁ (call (.ref t.fCode) [.ref t.addr] kwF) Q E s := by
  obtain ⟨S, TT⟩ := ts_pre Lw P H U
  cases t with
  | leaf x =>
    refine wpAny_call (bare_leaf0 (R := fun r s' => match r with | .ok (.ret v) => Q v s' | .ok _ => False | .error e => E e s') (hr.mono (by omega)) S TT ?_)
    intro s₂ tk k1
    exact h s₂ tk (ts_step Lw H k1.of0 (H.tab.keeps (KX.hid0 (ex := []) k1))) (up_step Lw U k1.of0) k1.of0
  | node x ts =>
    refine wpAny_call (bare_all (prog := prog) (w := w) _ (.node x ts) (Nat.le_refl _) P.good.full (slim_thin _ P.good.slim) P.good.texts (by have := P.len; omega) A₁ s (parV c) (fun r s' => match r with | .ok (.ret v) => Q v s' | .ok _ => False | .error e => E e s') (hr.mono (by have := P.ht; omega)) S TT (hT trivial) ?_)
    intro s₂ tk k1 k2
    exact h s₂ tk (ts_step Lw H k1 (k2 _ (hT trivial)).ok) (up_step Lw U k1) k1
end


theorem slice_app (a b : Str) : Txt.slice (a ++ b) (some (a.length : Int)) none = b := by
  have e : (a ++ b).cps.toList = a.cps.toList ++ b.cps.toList := by show (a.cps ++ b.cps).toList = _; simp
  rw [PyProof.Rows.slice_from_eq (b := ((a ++ b).length : Int)) (by omega) (by rw [length_append]; omega) rfl, e]
  have h : (a.length : Int).toNat = a.cps.toList.length := by show ((a.cps.size : Nat) : Int).toNat = _; simp
  have hl : b.cps.toList.length ≤ (((a ++ b).length : Int) - (a.length : Int)).toNat := by
    rw [length_append]
    have : b.cps.toList.length = b.length := by show _ = b.cps.size; simp
    omega
  rw [h, List.drop_left, List.take_of_length_le hl]
theorem cut_pre {prog : Program} {w : World} {A : Around} {E : Value → Shared → Prop} {s : Shared} {value slice : Expr} {x a b : Str} {t : Tok} {h₀ : Heap} {L : Addr} {m : Str → Option Value} {news : List (Addr × Obj)} {Q : Value → Shared → Prop} {ui : Tok} (hx : x = a ++ b) (hsz : x.length ≤ sizeLine)
    (hF : Fr h₀ L s.heap m) (hN : News h₀ L s.heap news) (h : ∀ h' t' k, Fr h₀ L h' m → News h₀ L h' news → Q (.str b t') { s with heap := h', toks := k })
    (hs : subscripted slice false (.str x t) (.ref s.heap.objs.size) = operate [.ref s.heap.objs.size, .str x t] (getItem (.str x t) (.ref s.heap.objs.size)) := by with_unfolding_all rfl)
    (ht : ∀ r, letTemporaryGo value (.str x t) r = pure () := by intro _; with_unfolding_all rfl) :
    wpAny (model prog w) A (subscriptTail value slice (.str x t) (.ref s.heap.objs.size)) Q E { s with heap := s.heap.push { cls := .type "slice", data := .fields #[.int (a.length : Int) ui, .none, .none] } } :=
  slice_strN_sn hF hN (fun h' t' k F N => by rw [hx, slice_app]; exact h h' t' k F N) hs ht hsz
theorem ne_same {prog : Program} {w : World} {A : Around} {E : Value → Shared → Prop} {s : Shared} {x : Str} {t u : Tok} {Q : Value → Shared → Prop} (h : Q (.bool false) s) : wpAny (model prog w) A (compareOp .NotEq (.str x t) (.str x u)) Q E s :=
  PySem.P.ne_str (by rw [show (x.cps.toList != x.cps.toList) = false by simp]; exact h)

theorem pre_of {prog : Program} {w : World} {A : Around} {E : Value → Shared → Prop} {s : Shared} {G : Heap} {L aS aE aR aL : Addr} {m : Str → Option Value} {news T : List (Addr × Obj)} {root : Tr} {x : LD} {i : Nat} {expr : Bool} {Q : Value → Shared → Prop}
    (hx : root.leaves[i]? = some x) (S : St w G) (F : Fr G L s.heap m) (N : News G L s.heap news) (hT : ∀ p ∈ T, p ∈ news) (B : BigT w root aS aE aR aL G T) (h : Q (.str x.pre x.tp) { s with toks := s.toks + 1 }) : wpAny (model prog w) A (getAttr (.ref x.a) "prefix" expr) Q E s := by
  obtain ⟨p, LL⟩ := leaf_at root (B.here F N hT).tree (List.mem_of_getElem? hx)
  exact ga_prefix (st_of F S).1 LL h
theorem lines_T9_2 : True := by
  k_with "getMethod ref" => (((with_reducible show wpAny _ _ (getMethod (Value.ref _) (PySem.Str.ofString "get_code") _) _ _ _); (k_dflt (refine' gm_code0 ?X_621 ?V_621 ?_; (case X_621 => exact (st_of (by k_asm) (by assumption)).1); (case V_621 => exact b_tree (by assumption) (by assumption) (by k_asm) (by k_asm) (by intro _ x_hp; repeat (first | exact x_hp | refine List.mem_cons_of_mem _ ?_))); k_whole; try dsimp only))))
  k_with "callWith ref" => (((k_dflt (refine' callWith_K0 ?k1_b53 ?k2_b53 ?_; (case k1_b53 => exact (st_of (by k_asm) (by assumption)).1); (case k2_b53 => exact keep_code _ _); k_whole; try dsimp only [List.cons_append, List.nil_append]))))
  k_with "call ref" => (((with_reducible show wpAny _ _ (call (Value.ref (Tr.fCode _)) _ _) _ _ _); refine' stop_tree ?_))
  k_with "call builtin:len" => (((with_reducible show wpAny _ _ (call _ [Value.str _ _]) _ _ _); k_dflt (refine' PySem.P.len_str ?z_b9b ?_; (case z_b9b => assumption); k_whole)))
  k_with "compareOp NotEq str str" => ((k_dflt (refine' ne_same ?_; k_whole)))
  k_with "subscriptTail Name Slice str ref" => ((k_dflt (refine' cut_pre (s := ⟨_, _, _, _, _⟩) ?x_40f ?z_40f ?F_40f ?N_40f ?_; (case x_40f => assumption); (case z_40f => assumption); (case F_40f => k_asm); (case N_40f => k_asm); k_whole; intro _ _ _ _ _)))
  k_with "getAttr ref" => (((with_reducible show wpAny _ _ (getAttr (Value.ref _) (PySem.Str.ofString "prefix") _) _ _ _); (k_dflt (refine' pre_of ?R_c89 ?S_c89 ?F_c89 ?N_c89 ?T_c89 ?B_c89 ?_; (case F_c89 => k_asm); (case N_c89 => k_asm); (case B_c89 => assumption); (case T_c89 => (intro _ x_hp; repeat (first | exact x_hp | refine List.mem_cons_of_mem _ ?_))); (case R_c89 => assumption); (case S_c89 => assumption); k_whole))))
  trivial

theorem turn_5 {prog : Program} {w : World} {A : Around} {plain : Bool} {root : Tr} {s₀ s' : Shared} {L aS aE aR aL : Addr} {oR : Obj} {hK : Heap} {M : List Addr} {m : Str → Option Value} {k : Nat} {r : Row} {Q : Flow → Shared → Prop} {tu : Tok} (Lw : Law prog w A plain root s₀ L aR oR) (hk : (table root)[k]? = some r)
    (H : TS w root s₀ L aS aE aR aL oR hK M m s') (V : Vars root aS aE aL k r m) (U : UpIs L s' (some (.int r.up tu))) {tc : Tok} (h0 : m (Str.ofString "code") = some (.str (codeOf r.t) tc))
    (hQ : ∀ m' s'', TS w root s₀ L aS aE aR aL oR hK M m' s'' → Vars root aS aE aL k r m' → UpIs L s'' (some (.int r.up tu)) → Stop (wpAny (model prog w) (A.deeper (lawEnv w.params L)) (execs ((lawTurn w.params).drop 5) (lawEnv w.params L)) Q (fun _ _ => False) s'')) :
    Stop (wpAny (model prog w) (A.deeper (lawEnv w.params L)) (execs ((lawTurn w.params).drop 4) (lawEnv w.params L)) Q (fun _ _ => False) s') := by
  refine ⟨?_⟩
  have S := Lw.S
  have ⟨X, p', loose, mg, mb, T, _⟩ := S
  have dR := Lw.dR
  have h217 := Lw.l217
  obtain ⟨P, f1, f2, f3, f4, f5, f6, f7, f8, f9⟩ := row_f Lw.GR hk
  have hll := Lw.GR.len
  obtain ⟨oU, oT, dU, F, N, B⟩ := H.open Lw U
  have eT := (N (217, oT) (by simp)).1
  obtain ⟨tk, tl, th, F⟩ := V.fr F
  replace F := fr_pin (x := Str.ofString "code") (by exact h0) F
  unfold lawEnv
  conv in (occs := *) lawScope _ => all_goals whnf
  conv in List.drop _ (lawTurn _) => whnf
  show wpAny _ _ _ _ _ _
  refine execs_mid (fun s'' => ∃ m', TS w root s₀ L aS aE aR aL oR hK M m' s'' ∧ Vars root aS aE aL k r m' ∧ UpIs L s'' (some (.int r.up tu))) ?a ?b
  case a =>
    k_steps
    refine ⟨?_⟩
    refine ts_code Lw P (Rm.deeper (k := 60) Lw.hr (by omega)) (H.close Lw eT (by assumption) (by assumption) fun p hp => List.mem_cons_of_mem _ hp) (U : UpIs L _ (some (.int r.up tu))) ?_
    intro s₂ tk₂ H2 U2 hT2 kx2
    clear F N B eT
    obtain ⟨oU2, oT2, dU2, F2, N2, B2⟩ := H2.open Lw U2
    have eT2 := (N2 (217, oT2) (by simp)).1
    k_steps
    refine callWith_KW0 (st_of (by assumption) S).1 (keep_code _ _) rfl ?_
    k_steps
    refine ⟨?_⟩
    refine ts_bare Lw P (Rm.deeper (k := 60) Lw.hr (by omega)) (H2.close Lw eT2 (by assumption) (by assumption) fun p hp => List.mem_cons_of_mem _ hp) (U2 : UpIs L _ (some (.int r.up tu))) hT2 ?_
    intro s₃ tk₃ H3 U3 kx3
    clear F2 N2 B2 eT2
    obtain ⟨oU3, oT3, dU3, F3, N3, B3⟩ := H3.open Lw U3
    have eT3 := (N3 (217, oT3) (by simp)).1
    have hcut : codeOf r.t = (firstOf r.t).pre ++ codeBare r.t := (bare_eq _ r.t (Nat.le_refl _) P.good.full).symm
    have hcl : (codeOf r.t).length ≤ sizeLine := by
      have h1 := codeOf_le P.good.texts
      have h2 := P.len
      have h3 : 20000 ≤ sizeLine := by decide
      omega
    have hpl : ¬ ((firstOf r.t).pre.length : Int) ≥ 2 ^ 63 := by
      have h1 := congrArg Str.length hcut
      rw [length_append] at h1
      have h2 : sizeLine < 2 ^ 63 := by decide
      omega
    k_steps
    exact ⟨⟨_, TS.close (s' := s₃) Lw H3 eT3 (by assumption) (by assumption) fun p hp => List.mem_cons_of_mem _ hp, ⟨⟨⟨_, rfl⟩, rfl, rfl, rfl, rfl⟩, rfl, ⟨_, rfl⟩, ⟨_, rfl⟩⟩, ⟨oU3, (by assumption : News _ _ _ _) _ (List.mem_cons_self ..) |>.1, dU3⟩⟩⟩
  case b =>
    rintro s'' ⟨m', H', V', U'⟩
    obtain ⟨z⟩ := hQ m' s'' H' V' U'
    assumption

theorem star_call {M : Model} {A : Around} {E : Value → Shared → Prop} {s : Shared} {env : Env} {n name : Str} {np apos p pos : Pos} {e : Expr} {Q : Value → Shared → Prop}
    (h : wpAny M A (eval (.Name n np) env) (fun ov s₁ => wpAny M A (getAttr ov name true) (fun f s₂ => wpAny M A (callWith pos f [] (backTo pos (starEach [.Starred e p] env)) []) Q E s₂) E s₁) E s) :
    wpAny M A (eval (.Call (.Attribute (.Name n np) name apos) [.Starred e p] [] pos) env) Q E s := by
  have he : eval (.Call (.Attribute (.Name n np) name apos) [.Starred e p] [] pos) env = (do
      let ov ← eval (.Name n np) env
      standAt apos.atName
      methodCall (.Name n np) name apos pos env ov 1 (backTo pos (starEach [.Starred e p] env)) []) := by rfl
  rw [he]
  refine wpAny_bind (wpAny_mono h (fun ov s₁ h₁ => wpAny_bind (wpAny_standAt ?_)) fun _ _ x => x)
  unfold methodCall
  have hc : methodCallForm 1 (backTo pos (starEach [.Starred e p] env)) [] = false := by rfl
  rw [hc]
  unfold calleeOf methodCallPos
  simp only [Bool.false_eq_true, if_false, Bool.not_false, Bool.true_or, if_true]
  refine wpAny_bind (wpAny_holding (wpAny_bind (wpAny_mono h₁ (fun f s₂ h₂ => wpAny_pure ?_) fun _ _ x => x)))
  exact wpAny_bind (wpAny_pure h₂)
section
variable {prog : Program} {w : World} {A : Around} {E : Value → Shared → Prop} {s : Shared} {G : Heap} {L aS aE aR aL : Addr} {m : Str → Option Value} {news T : List (Addr × Obj)} {root : Tr} {plain : Bool} {t : Tr} {c : Ctx} {Q : Value → Shared → Prop}
theorem leaf_anc {P : Params} {x : LD} {par : Value} : findObj (hd.heap_1 P) x.c.addr (some (leafDict P x par)) "search_ancestor" = some (.bind (.builtin "function.__get__") (.ref 97)) := by obtain ⟨a, d, c, _⟩ := x; cases c <;> kernel_rfl!
theorem node_anc {P : Params} {y : ND} {par : Value} : findObj (hd.heap_1 P) y.c.addr (some (nodeDict P y par)) "search_ancestor" = some (.bind (.builtin "function.__get__") (.ref 97)) := by obtain ⟨a, d, l, c, _⟩ := y; cases c <;> kernel_rfl!
theorem anc_fn {P : Params} : typeIn (hd.heap_1 P) (.ref 97) = some (.type "function") := by kernel_rfl!
theorem anc_fnIn {P : Params} : fnIn (hd.heap_1 P) 97 = true := by kernel_rfl!
theorem b_ancGet {expr : Bool} (P : Place plain root t c) (S : St w G) (F : Fr G L s.heap m) (N : News G L s.heap news) (hT : ∀ p ∈ T, p ∈ news) (B : BigT w root aS aE aR aL G T)
    (h : ∀ q h', Fr G L h' m → News G L h' ((q, methodObj (.ref 97) (.ref t.addr)) :: news) → Q (.ref q) { s with heap := h', toks := s.toks + 1 }) : wpAny (model prog w) A (getAttr (.ref t.addr) "search_ancestor" expr) Q E s := by
  have TT := b_tree P B F N hT
  have X := (st_of F S).1
  have fin : codeAny (model prog w) A.in1 (.call (.builtin "function.__get__") ⟨[.ref 97, .ref t.addr, .ref (match t with | .leaf x => x.c.addr | .node x _ => x.c.addr)], []⟩) (fun r s' => match r with | .ok (.ret v) => wpAny (model prog w) A (handedOut v) Q E s' | .ok _ => False | .error e => wpAny (model prog w) A (noteIf true (.ref t.addr) (.str "search_ancestor" s.toks) e) (fun _ s'' => E e s'') E s') { s with toks := s.toks + 1 } :=
    fn_get (s := { s with toks := s.toks + 1 }) X anc_fn (handed_on rfl (h s.heap.objs.size _ (F.push _) (N.push F _)))
  cases t with
  | leaf x =>
    unfold TreeAt at TT
    exact get_bind X TT.at (leaf_ga _ _) leaf_anc (leaf_gb _ _) (wpAny_call fin)
  | node x ts =>
    unfold TreeAt at TT
    exact get_bind X TT.1.at (node_ga _ _) node_anc (node_gb _ _) (wpAny_call fin)
theorem b_starAnc {env' : Env} {ks : List (Str × Tok)} {D : Addr} {n : Nat} {v : Value} {p1 p2 p3 p4 p5 : Pos} (hk : env'.scope.kind = .function) (l1 : env'.kindOf (Str.ofString "one") = some .local) (l2 : env'.kindOf (Str.ofString "kinds") = some .local) (hx : m (Str.ofString "one") = some (.ref t.addr)) (hy : m (Str.ofString "kinds") = some (.ref D))
    (hm : (D, lobj (strValues ks) n) ∈ news) (hz : (strValues ks).toArray.size ≤ sizeLine) (hv : ancOf (ks.map (·.1)) c = v) (P : Place plain root t c) (hr : Rm A 30) (S : St w G) (F : Fr G env'.locals s.heap m) (N : News G env'.locals s.heap news) (hT : ∀ p ∈ T, p ∈ news) (B : BigT w root aS aE aR aL G T) (hks : (∃ a u, ks = [(a, u)]) ∨ (∃ a u b v, ks = [(a, u), (b, v)]) ∨ ks = [])
    (h : ∀ h' tk', Fr G env'.locals h' m → News G env'.locals h' news → Q v { s with heap := h', toks := tk' }) :
    wpAny (model prog w) A (eval (.Call (.Attribute (.Name (Str.ofString "one") p1) (Str.ofString "search_ancestor") p2) [.Starred (.Name (Str.ofString "kinds") p3) p4] [] p5) env') Q E s := by
  refine star_call (wpAny_Name (wpAny_loadName_local hk l1 F.ns hx ?_))
  refine b_ancGet P S F N hT B fun q h₁ F₁ N₁ => ?_
  have X₁ := (st_of F₁ S).1
  rw [show starEach [.Starred (.Name (Str.ofString "kinds") p3) p4] env' = [(true, eval (.Name (Str.ofString "kinds") p3) env')] by rfl]
  refine ks_call (P := MethP (hd.heap_1 w.params) q 97 (.ref t.addr)) rfl (fun h X => keeps_M anc_fnIn h X) (ks_lone ?_)
  refine wpAny_Name (wpAny_loadName_local hk l2 F₁.ns hy ?_)
  refine star_seq F₁ N₁ (List.mem_cons_of_mem _ hm) rfl rfl (.inl rfl) rfl hz fun h₂ F₂ N₂ => ?_
  refine ⟨methP N₂ (List.mem_cons_self ..) (st_of F₂ S).1, ?_⟩
  refine call_meth N₂ (List.mem_cons_self ..) ?_
  have TP := b_plug (s := { s with heap := h₂, toks := s.toks + 1 }) P B F₂ N₂ fun p hp => List.mem_cons_of_mem _ (hT p hp)
  subst hv
  exact ancestor (s := { s with heap := h₂, toks := s.toks + 1 }) (hr.mono (by omega)) (st_of F₂ S) TP hks _ fun v h' tk' k p => by
    subst p
    exact h h' tk' (F₂.after k) fun p hp => ⟨k _ _ (N₂ p (List.mem_cons_of_mem _ hp)).1, (N₂ p (List.mem_cons_of_mem _ hp)).2⟩
end


noncomputable def lawKinds (P : Params) : List Stmt := turnOf ((lawTurn P).drop 15)
section
variable {prog : Program} {w : World} {A : Around} {E : Value → Shared → Prop} {s : Shared} {G : Heap} {L aS aE aR aL : Addr} {m : Str → Option Value} {news T : List (Addr × Obj)} {root : Tr} {plain : Bool} {t : Tr} {c : Ctx} {Q : Value → Shared → Prop}
theorem b_type {x : ND} {ts : List Tr} {expr : Bool} (ht : t = .node x ts) (P : Place plain root t c) (S : St w G) (F : Fr G L s.heap m) (N : News G L s.heap news) (hT : ∀ p ∈ T, p ∈ news) (B : BigT w root aS aE aR aL G T) (h : Q (.str x.kind x.tk) { s with toks := s.toks + 1 }) : wpAny (model prog w) A (getAttr (.ref t.addr) "type" expr) Q E s := by
  have TT := b_tree P B F N hT
  subst ht
  unfold TreeAt at TT
  exact ga_type (st_of F S).1 TT.1 h
theorem b_notin {D : Addr} {ks : List (Str × Tok)} {n : Nat} {x : Str} {u : Tok} {b : Bool} (N : News G L s.heap news) (hm : (D, lobj (strValues ks) n) ∈ news) (hb : hasKind (ks.map (·.1)) x = b) (h : Q (.bool (!b)) s) :
    wpAny (model prog w) A (compareOp .NotIn (.str x u) (.ref D)) Q E s := by
  obtain ⟨f, hf, hv⟩ : ∃ f : Value → Bool, (∀ a u, f (.str a u) = (a == x)) ∧ (strValues ks).toArray.any f = b := ⟨_, fun _ _ => rfl, (any_vals ks x).trans hb⟩
  refine PySem.SeqAt.notIn_listAt f (list_at (N.get hm)) (fun y hy => ?_) (by rw [hv]; exact h)
  simp [strValues] at hy
  obtain ⟨a, u, _, rfl⟩ := hy
  rw [hf]
  exact PySem.SeqAt.EqAt.str_str a u x _
theorem row_up {l q : Addr} {a b c : Int} {t1 t2 t3 u : Tok} {value slice : Expr} (hl : s.heap.IsList l #[.ref q, .int a t1, .int b t2, .int c t3]) (h : Q (.int a t1) s)
    (hs : subscripted slice false (.ref l) (.int 1 u) = operate [.ref l, .int 1 u] (getItem (.ref l) (.int 1 u)) := by with_unfolding_all rfl) :
    wpAny (model prog w) A (subscriptTail value slice (.ref l) (.int 1 u)) Q E s :=
  item_at (vs := [.ref q, .int a t1, .int b t2, .int c t3]) hl rfl (by decide) (by decide) h hs
end
theorem fr_dup {G h : Heap} {L : Addr} {x : Str} {a b : Option Value} {m : Str → Option Value} (F : Fr G L h (fun y => if y = x then a else if y = x then b else m y)) : Fr G L h (fun y => if y = x then a else m y) := Fr.congr F fun y => by
  by_cases h : y = x
  · rw [if_pos h, if_pos h]
  · rw [if_neg h, if_neg h, if_neg h]
theorem lines_T11_2 : True := by
  k_with "subscriptTail" => (((with_reducible show wpAny _ _ (subscriptTail _ _ (Value.ref _) (Value.int 1 _)) _ _ _); k_dflt (refine' row_up ?F_235 ?_; (case F_235 => assumption); k_whole)))
  k_with "getAttr ref" => (((with_reducible show wpAny _ _ (getAttr (Value.ref _) (PySem.Str.ofString "type") _) _ _ _); k_dflt (refine' b_type ?H_af7 ?P_af7 ?S_af7 ?F_af7 ?N_af7 ?T_af7 ?B_af7 ?_; (case F_af7 => k_asm); (case N_af7 => k_asm); (case B_af7 => assumption); (case T_af7 => (intro _ x_hp; repeat (first | exact x_hp | refine List.mem_cons_of_mem _ ?_))); (case H_af7 => assumption); (case P_af7 => assumption); (case S_af7 => assumption); k_whole)))
  k_with "compareOp NotIn str ref" => ((k_dflt (refine' b_notin ?N_5c4 ?m_5c4 ?b_5c4 ?_; (case N_5c4 => k_asm); (case m_5c4 => k_mem); (case b_5c4 => assumption); k_whole)))
  k_with "eval Call Attribute" => (((with_reducible show wpAny _ _ (eval (Expr.Call (Expr.Attribute (Expr.Name _ _) _ _) [Expr.Starred _ _] [] _) _) _ _ _); k_dflt (refine' b_starAnc ?e1_ba0 ?e2_ba0 ?e3_ba0 ?e4_ba0 ?e5_ba0 ?m_ba0 ?z_ba0 ?V_ba0 ?P_ba0 ?R_ba0 ?S_ba0 ?F_ba0 ?N_ba0 ?T_ba0 ?B_ba0 ?H_ba0 ?_; (case e1_ba0 => rfl); (case e2_ba0 => rfl); (case e3_ba0 => rfl); (case P_ba0 => assumption); (case F_ba0 => k_asm); (case N_ba0 => k_asm); (case e4_ba0 => rfl); (case e5_ba0 => rfl); (case m_ba0 => k_mem); (case z_ba0 => assumption); (case V_ba0 => assumption); (case B_ba0 => assumption); (case T_ba0 => (intro _ x_hp; repeat (first | exact x_hp | refine List.mem_cons_of_mem _ ?_))); (case R_ba0 => exact Rm.deeper (k := 30) (Law.hr (by assumption)) (by omega)); (case S_ba0 => assumption); (case H_ba0 => assumption); k_whole); intro _ _ _ _; (try dsimp only); (try k_sweep)))
  trivial

theorem kinds_body {prog : Program} {w : World} {A : Around} {plain : Bool} {root : Tr} {s₀ s' : Shared} {L aS aE aR aL : Addr} {oR : Obj} {hK : Heap} {M : List Addr} {m : Str → Option Value} {k : Nat} {r : Row} {Q : Flow → Shared → Prop} {tu : Tok} (Lw : Law prog w A plain root s₀ L aR oR) (hk : (table root)[k]? = some r)
    (H : TS w root s₀ L aS aE aR aL oR hK M m s') (V : Vars root aS aE aL k r m) (U : UpIs L s' (some (.int r.up tu))) {D : Addr} {ks : List (Str × Tok)} {kD : Nat} (hks : (∃ a u, ks = [(a, u)]) ∨ (∃ a u b v, ks = [(a, u), (b, v)]) ∨ ks = []) (hkin : m (Str.ofString "kinds") = some (.ref D)) (eD : s'.heap.get? D = some (lobj (strValues ks) kD)) (hDL : @LT.lt Nat _ L D) (hD1 : D ∉ X4 L)
    (hQ : ∀ m' s'', TS w root s₀ L aS aE aR aL oR hK M m' s'' → Vars root aS aE aL k r m' → UpIs L s'' (some (.int r.up tu)) → (∀ b o, b ∉ X4 L → s'.heap.get? b = some o → s''.heap.get? b = some o) → Q .next s'') :
    Stop (wpAny (model prog w) (A.deeper (lawEnv w.params L)) (execs (lawKinds w.params) (lawEnv w.params L)) Q (fun _ _ => False) s') := by
  refine ⟨?_⟩
  have S := Lw.S
  have ⟨X, p', loose, mg, mb, T, _⟩ := S
  have dR := Lw.dR
  have h217 := Lw.l217
  obtain ⟨P, f1, f2, f3, f4, f5, f6, f7, f8, f9⟩ := row_f Lw.GR hk
  have hll := Lw.GR.len
  have htl := table_len Lw.GR
  have hz : (strValues ks).toArray.size ≤ sizeLine := by
    have : 10 ≤ sizeLine := by decide
    obtain ⟨a, u, rfl⟩ | ⟨a, u, b, v, rfl⟩ | rfl := hks <;> simp [strValues] <;> omega
  obtain ⟨oU, oT, dU, F, N, B⟩ := H.open Lw U
  have eT := (N (217, oT) (by simp)).1
  obtain ⟨tk, tl, th, F⟩ := V.fr F
  replace F := fr_pin (x := Str.ofString "kinds") (by exact hkin) F
  have keepX : ∀ h' m' (l : List (Addr × Obj)), Fr (hid s₀.heap) L h' m' → News (hid s₀.heap) L h' l → (∀ p ∈ restX (X4 L) (hid s₀.heap) s'.heap, p ∈ l) → ∀ b o, b ∉ X4 L → s'.heap.get? b = some o → h'.get? b = some o := fun h' m' l F' N' hl => restX_keep F F' N' hl
  have N : News (hid s₀.heap) L s'.heap ((D, lobj (strValues ks) kD) :: (L + 1 + 1, oU) :: (L + 1, oR) :: (217, oT) :: restX (X4 L) (hid s₀.heap) s'.heap) := fun p hp => by
    rcases List.mem_cons.mp hp with rfl | hp
    · refine ⟨eD, Nat.ne_of_gt hDL, ?_⟩
      cases q : (hid s₀.heap).get? D with
      | none => rfl
      | some o => exact absurd (Nat.lt_of_lt_of_le (Heap.lt_size q) F.above) (Nat.not_lt_of_lt hDL)
    · exact N p hp
  have hDn : ∀ p ∈ (L + 1 + 1, oU) :: (L + 1, oR) :: (217, oT) :: restX (X4 L) (hid s₀.heap) s'.heap, p.1 = D → p = (D, lobj (strValues ks) kD) := fun p hp e => by
    have z := (N p (List.mem_cons_of_mem _ hp)).1
    rw [e, eD] at z
    obtain ⟨a, b⟩ := p
    injection z with z
    simp only at e
    rw [e, z]
  clear hkin
  generalize hG : hid s₀.heap = G at *
  unfold lawEnv
  conv in (occs := *) lawScope _ => all_goals whnf
  conv in lawKinds _ => whnf
  show wpAny _ _ _ _ _ _
  have F₀ := F
  generalize hm0 : (fun y => if y = Str.ofString "kinds" then some (Value.ref D) else if y = Str.ofString "one" then some (.ref r.t.addr) else if y = Str.ofString "low" then some (.int r.low tl) else if y = Str.ofString "high" then some (.int r.high th) else if y = Str.ofString "k" then some (.int k tk) else if y = Str.ofString "leaves" then some (.ref aL) else if y = Str.ofString "root" then some (.ref root.addr) else if y = Str.ofString "starts" then some (.ref aS) else if y = Str.ofString "ends" then some (.ref aE) else m y) = m0 at F₀
  refine execs_mid (fun s'' => ∃ h tk tj, s'' = { s' with heap := h, toks := tk } ∧ Fr G L h (fun y => if y = Str.ofString "j" then some (.int r.up tj) else m0 y) ∧ News G L h ((D, lobj (strValues ks) kD) :: (L + 1 + 1, oU) :: (L + 1, oR) :: (217, oT) :: restX (X4 L) G s'.heap)) ?a ?b
  case a =>
    k_steps
    subst hm0
    exact ⟨⟨_, _, _, rfl, by assumption, by assumption⟩⟩
  case b =>
  clear F N F₀
  rintro s'' ⟨h, tk', tj, rfl, F, N⟩
  show wpAny _ _ _ _ _ _
  refine execs_mid (fun s'' => ∃ h tk tj j, s'' = { s' with heap := h, toks := tk } ∧ Fr G L h (fun y => if y = Str.ofString "j" then some (.int j tj) else m0 y) ∧ News G L h ((D, lobj (strValues ks) kD) :: (L + 1 + 1, oU) :: (L + 1, oR) :: (217, oT) :: restX (X4 L) G s'.heap) ∧
    ((j = -1 ∧ ancOf (ks.map (·.1)) r.c = .none) ∨ ∃ (k' : Nat) (p : Row), j = k' ∧ (table root)[k']? = some p ∧ ancOf (ks.map (·.1)) r.c = .ref p.t.addr)) ?a ?b
  case a =>
    refine while_st (fun n m₁ => ∃ (j : Int) (tj : Tok) (c' : Ctx), m₁ = (fun y => if y = Str.ofString "j" then some (.int j tj) else m0 y) ∧ UpAt (table root) j c' ∧ c'.length = n ∧ ancOf (ks.map (·.1)) c' = ancOf (ks.map (·.1)) r.c) r.c.length ⟨r.up, tj, r.c, rfl, table_up hk, rfl, rfl⟩ F N ?_ (Rm.hh (Rm.deeper (k := 30) Lw.hr (by omega)))
    clear F N
    rintro n m₁ h₁ tk₁ ⟨j, tj₁, c', rfl, hu, hn, ha⟩ F N
    subst hm0
    cases c' with
    | nil =>
      obtain rfl : j = -1 := hu
      k_steps
      exact ⟨⟨_, _, _, _, rfl, by assumption, by assumption, .inl ⟨rfl, by rw [← ha]; rfl⟩⟩⟩
    | cons u c'' =>
      obtain ⟨k', p, rfl, hp, hc, ts, ht⟩ := hu
      have hlt := table_lt Lw.GR hp
      have PP := place_of Lw.GR (table_ok hp)
      have hp' : (table root)[((k' : Nat) : Int).toNat]? = some p := by rw [← hp]; rfl
      cases hK : hasKind (ks.map (·.1)) u.x.kind with
      | true =>
        k_steps
        refine ⟨⟨_, _, _, _, rfl, by assumption, by assumption, .inr ⟨k', p, rfl, hp, ?_⟩⟩⟩
        rw [← ha, ht]
        show (if hasKind (ks.map (·.1)) u.x.kind = true then _ else _) = _
        rw [if_pos hK]; rfl
      | false =>
        k_steps
        refine ⟨⟨c''.length, _, _, _, rfl, by rw [← hn]; exact Nat.lt_succ_self _, ⟨p.up, _, p.c, rfl, table_up hp, by rw [hc], ?_⟩, fr_dup (by assumption), by assumption⟩⟩
        rw [← ha, hc]
        show _ = (if hasKind (ks.map (·.1)) u.x.kind = true then _ else _)
        rw [if_neg (by rw [hK]; decide)]
  case b =>
    clear F N
    rintro s'' ⟨h, tk₁, tj₁, j, rfl, F, N, hj⟩
    subst hm0
    refine execs_stop ?_
    have fin : ∀ h' tk' m', Fr G L h' m' → News G L h' ((D, lobj (strValues ks) kD) :: (L + 1 + 1, oU) :: (L + 1, oR) :: (217, oT) :: restX (X4 L) G s'.heap) → Vars root aS aE aL k r m' → Q .next { s' with heap := h', toks := tk' } := fun h' tk' m' F' N' V' => by
      subst hG
      exact hQ m' _ (H.close Lw eT F' N' fun p hp => List.mem_cons_of_mem _ (List.mem_cons_of_mem _ hp)) V' ⟨oU, (N' _ (List.mem_cons_of_mem _ (List.mem_cons_self ..))).1, dU⟩ (keepX _ _ _ F' N' fun p hp => List.mem_cons_of_mem _ (List.mem_cons_of_mem _ (List.mem_cons_of_mem _ (List.mem_cons_of_mem _ hp))))
    rcases hj with ⟨rfl, ha⟩ | ⟨k', p, rfl, hp, ha⟩
    · k_steps
      refine ⟨?_⟩
      k_steps
      exact fin _ _ _ (by assumption) (by assumption) ⟨⟨⟨_, rfl⟩, rfl, rfl, rfl, rfl⟩, rfl, ⟨_, rfl⟩, ⟨_, rfl⟩⟩
    · have hlt := table_lt Lw.GR hp
      have PP := place_of Lw.GR (table_ok hp)
      have hp' : (table root)[((k' : Nat) : Int).toNat]? = some p := by rw [← hp]; rfl
      k_steps
      refine ⟨?_⟩
      clear PP
      k_steps
      exact fin _ _ _ (by assumption) (by assumption) ⟨⟨⟨_, rfl⟩, rfl, rfl, rfl, rfl⟩, rfl, ⟨_, rfl⟩, ⟨_, rfl⟩⟩

/-- TS without the frame -/
structure TS0 (w : World) (root : Tr) (s₀ : Shared) (L : Addr) (oR : Obj) (hK : Heap) (s' : Shared) : Prop where
  kx : KX [217] s₀ s'
  keep : ∀ b o, (hid s₀.heap).get? b = some o → s'.heap.get? b = some o
  kept : ∀ b o, b ∉ X4 L → hK.get? b = some o → s'.heap.get? b = some o
  cR : s'.heap.get? (L + 1) = some oR
  tab : TabOk s'.heap
section
variable {prog : Program} {w : World} {A : Around} {plain : Bool} {root : Tr} {s₀ s' : Shared} {L aS aE aR aL : Addr} {oR : Obj} {hK : Heap} {M : List Addr} {m : Str → Option Value} {k : Nat} {r : Row}
theorem TS.to0 (H : TS w root s₀ L aS aE aR aL oR hK M m s') : TS0 w root s₀ L oR hK s' := ⟨H.kx, H.keep, H.kept, H.cR, H.tab⟩
theorem TS0.mk' (H : TS0 w root s₀ L oR hK s') (ns : s'.heap.Ns L m) (b : Big w root aS aE aR aL (hideAll hK M)) (hM : ∀ a ∈ X4 L, a ∈ M) : TS w root s₀ L aS aE aR aL oR hK M m s' := ⟨H.kx, ns, H.keep, H.kept, H.cR, H.tab, b, hM⟩
theorem TS0.next {I : Addr} {h : Heap} {tk : Nat} (Lw : Law prog w A plain root s₀ L aR oR) (H : TS0 w root s₀ L oR hK s') (hI : @LT.lt Nat _ L I) (hI1 : L + 1 ≠ I) (hKI : ∀ b o, b ∉ X4 L → hK.get? b = some o → b ≠ I) (h221 : (221 : Addr) ≠ I)
    (kk : ∀ b o, b ≠ I → b ≠ L → s'.heap.get? b = some o → h.get? b = some o) : TS0 w root s₀ L oR hK { s' with heap := h, toks := tk } := by
  have lt : ∀ b o, (hid s₀.heap).get? b = some o → b ≠ I ∧ b ≠ L := fun b o e => by
    have h1 : @LT.lt Nat _ b L := Nat.lt_of_lt_of_le (Heap.lt_size e) Lw.gl
    exact ⟨Nat.ne_of_lt (Nat.lt_trans h1 hI), Nat.ne_of_lt h1⟩
  refine ⟨⟨fun b o hb e => ?_, H.kx.gsz, H.kx.gold, H.kx.gnew, H.kx.drawn, H.kx.os⟩, fun b o e => kk b o (lt b o e).1 (lt b o e).2 (H.keep b o e), fun b o hb e => kk b o (hKI b o hb e) (fun q => hb (by rw [q]; simp)) (H.kept b o hb e), kk _ _ hI1 (Nat.ne_of_gt (Nat.lt_succ_self _)) H.cR, ?_⟩
  · have q := lt b o (hid_get e (by simpa using hb))
    exact kk b o q.1 q.2 (H.kx.heap b o hb e)
  · exact H.tab.at (fun o e => kk 221 o h221 (Nat.ne_of_lt Lw.l221) e) fun o e => kk 217 o (Nat.ne_of_lt (Nat.lt_trans Lw.l217 hI)) (Nat.ne_of_lt Lw.l217) e
theorem Vars.kinds (V : Vars root aS aE aL k r m) (v : Value) : Vars root aS aE aL k r (fun y => if y = Str.ofString "kinds" then some v else m y) := by
  obtain ⟨⟨⟨a, ha⟩, h1, h2, h3, h4⟩, h5, ⟨b, hb⟩, ⟨c, hc⟩⟩ := V
  exact ⟨⟨⟨a, (if_neg (by decide)).trans ha⟩, (if_neg (by decide)).trans h1, (if_neg (by decide)).trans h2, (if_neg (by decide)).trans h3, (if_neg (by decide)).trans h4⟩, (if_neg (by decide)).trans h5, ⟨b, (if_neg (by decide)).trans hb⟩, ⟨c, (if_neg (by decide)).trans hc⟩⟩
theorem X4_not {a : Addr} (h1 : @LT.lt Nat _ (L + 1 + 1) a) (h2 : @LT.lt Nat _ 217 a) : a ∉ X4 L := by
  intro hm
  simp only [List.mem_cons, List.not_mem_nil, or_false] at hm
  rcases hm with e | e | e | e
  · exact absurd (e ▸ h1) (Nat.not_lt_of_le (Nat.le_succ_of_le (Nat.le_succ _)))
  · exact absurd (e ▸ h1) (Nat.not_lt_of_le (Nat.le_succ _))
  · exact absurd (e ▸ h1) (Nat.lt_irrefl _)
  · exact absurd (e ▸ h2) (Nat.lt_irrefl _)
/-- a kinds list that stands -/
structure KindAt (L : Addr) (h : Heap) (D : Addr) (ks : List (Str × Tok)) : Prop where
  at_ : ∃ n, h.get? D = some (lobj (strValues ks) n)
  lt : @LT.lt Nat _ (L + 1 + 1) D
  lt2 : @LT.lt Nat _ 217 D
  sh : (∃ a u, ks = [(a, u)]) ∨ (∃ a u b v, ks = [(a, u), (b, v)]) ∨ ks = []
theorem kinds_loop {Q : Flow → Shared → Prop} {tu : Tok} (Lw : Law prog w A plain root s₀ L aR oR) (hk : (table root)[k]? = some r) (H : TS w root s₀ L aS aE aR aL oR hK M m s') (V : Vars root aS aE aL k r m) (U : UpIs L s' (some (.int r.up tu)))
    {l D0 D1 D2 : Addr} {k0 k1 k2 : List (Str × Tok)} (hl : s'.heap.IsList l ([.ref D0, .ref D1, .ref D2] : List Value).toArray) (hl1 : @LT.lt Nat _ (L + 1 + 1) l) (hl2 : @LT.lt Nat _ 217 l) (K0 : KindAt L s'.heap D0 k0) (K1 : KindAt L s'.heap D1 k1) (K2 : KindAt L s'.heap D2 k2)
    (hQ : ∀ m' s'', TS w root s₀ L aS aE aR aL oR hK M m' s'' → Vars root aS aE aL k r m' → UpIs L s'' (some (.int r.up tu)) → Q .next s'') :
    wpAny (model prog w) (A.deeper (lawEnv w.params L)) (pyIter (.ref l)) (fun it s₂ => ∃ I fp n P St J m, it = .ref I ∧ ForH prog w (A.deeper (lawEnv w.params L)) (lawEnv w.params L) (Str.ofString "kinds") (lawKinds w.params) Q I fp n P St J m s₂) (fun _ _ => False) s' := by
  refine list_it hl fun h₂ I hI kk sz st => ?_
  have lI : ∀ b o, s'.heap.get? b = some o → @LT.lt Nat _ b I := fun b o e => hI ▸ Heap.lt_size e
  obtain ⟨oL, _, _, eL, _⟩ := id H.ns
  obtain ⟨oU, eU, dU⟩ := id U
  obtain ⟨ps, htc, htt⟩ := id H.tab
  have iL : @LT.lt Nat _ L I := lI _ _ eL
  have iL1 := lI _ _ H.cR
  have iL2 := lI _ _ eU
  have i221 : @LT.lt Nat _ 221 I := hI ▸ htc.lt.1
  have i217 : @LT.lt Nat _ 217 I := hI ▸ htc.lt.2
  have il : @LT.lt Nat _ l I := by obtain ⟨o, e, _⟩ := hl; exact lI _ _ e
  have hIX : I ∉ X4 L := X4_not iL2 i217
  have hlX : l ∉ X4 L := X4_not hl1 hl2
  have hKI : ∀ b o, b ∉ X4 L → hK.get? b = some o → b ≠ I := fun b o hb e => Nat.ne_of_lt (lI _ _ (H.kept b o hb e))
  have hLl : L ≠ l := Nat.ne_of_lt (Nat.lt_trans (Nat.lt_succ_of_lt (Nat.lt_succ_self _)) hl1)
  refine ⟨I, [l], 3, _, _, (fun _ m₁ s₁ => TS0 w root s₀ L oR hK s₁ ∧ Vars root aS aE aL k r m₁ ∧ UpIs L s₁ (some (.int r.up tu)) ∧ ∀ b o, b ∉ X4 L → s'.heap.get? b = some o → s₁.heap.get? b = some o), m, rfl,
    ⟨Walks.list (Rm.hh (Rm.deeper (k := 30) Lw.hr (by omega))) I l (Nat.ne_of_lt il) ([.ref D0, .ref D1, .ref D2] : List Value).toArray, ⟨Nat.ne_of_lt iL, ?_⟩, st, H.ns.keeps kk, ?_, ?_, ?_, ?_⟩⟩
  · intro hm
    exact hLl (List.mem_singleton.mp hm)
  · exact ⟨H.to0.next (tk := s'.toks) Lw iL (Nat.ne_of_lt iL1) hKI (Nat.ne_of_lt i221) fun b o _ _ e => kk b o e, V, ⟨oU, kk _ _ eU, dU⟩, fun b o _ e => kk b o e⟩
  · rintro i m₁ s₁ h tk _ k1 ⟨j1, j2, ⟨oU', eU', dU'⟩, j4⟩
    exact ⟨j1.next Lw iL (Nat.ne_of_lt iL1) hKI (Nat.ne_of_lt i221) fun b o h1 h2 e => k1 b o h1 h2 e, j2, ⟨oU', k1 _ _ (Nat.ne_of_lt iL2) (Nat.ne_of_gt (Nat.lt_succ_of_lt (Nat.lt_succ_self _))) eU', dU'⟩, fun b o hb e => k1 b o (Nat.ne_of_lt (lI _ _ e)) (fun (q : b = L) => hb (by rw [q]; simp)) (j4 b o hb e)⟩
  · rintro i v m₁ s₁ hi hP ⟨j1, j2, j3, j4⟩ hns hst
    have go : ∀ {D : Addr} {ks : List (Str × Tok)}, v = .ref D → KindAt L s'.heap D ks → Stop (wpAny (model prog w) (A.deeper (lawEnv w.params L)) (execs (lawKinds w.params) (lawEnv w.params L)) (fun f s₃ => match f with
      | .next => Stop (∃ m₂, (TS0 w root s₀ L oR hK s₃ ∧ Vars root aS aE aL k r m₂ ∧ UpIs L s₃ (some (.int r.up tu)) ∧ ∀ b o, b ∉ X4 L → s'.heap.get? b = some o → s₃.heap.get? b = some o) ∧ s₃.heap.Ns L m₂ ∧ ∀ b ∈ I :: [l], ∀ o, s₁.heap.get? b = some o → s₃.heap.get? b = some o)
      | .cont => Stop (∃ m₂, (TS0 w root s₀ L oR hK s₃ ∧ Vars root aS aE aL k r m₂ ∧ UpIs L s₃ (some (.int r.up tu)) ∧ ∀ b o, b ∉ X4 L → s'.heap.get? b = some o → s₃.heap.get? b = some o) ∧ s₃.heap.Ns L m₂ ∧ ∀ b ∈ I :: [l], ∀ o, s₁.heap.get? b = some o → s₃.heap.get? b = some o)
      | .brk => Q .next s₃
      | .ret v => Q (.ret v) s₃) (fun _ _ => False) s₁) := by
      rintro D ks rfl ⟨⟨n, e⟩, l1, l2, sh⟩
      refine kinds_body Lw hk (j1.mk' hns H.bigK H.hM) (j2.kinds _) j3 sh (by simp) (j4 _ _ (X4_not l1 l2) e) (Nat.lt_trans (Nat.lt_succ_of_lt (Nat.lt_succ_self _)) l1) (X4_not l1 l2) fun m' s'' a b c d => ?_
      refine ⟨⟨m', ⟨a.to0, b, c, fun x o hx e => d x o hx (j4 x o hx e)⟩, a.ns, fun x hx o e => d x o ?_ e⟩⟩
      rcases List.mem_cons.mp hx with rfl | hx
      · exact hIX
      · rw [List.mem_singleton.mp hx]; exact hlX
    match i, hi with
    | 0, _ =>
      obtain ⟨z⟩ := go (by simpa using hP.symm) K0
      assumption
    | 1, _ =>
      obtain ⟨z⟩ := go (by simpa using hP.symm) K1
      assumption
    | 2, _ =>
      obtain ⟨z⟩ := go (by simpa using hP.symm) K2
      assumption
  · rintro m₁ s₁ ⟨j1, j2, j3, _⟩ hns
    exact hQ m₁ s₁ (j1.mk' hns H.bigK H.hM) j2 j3
end


theorem turn_16 {prog : Program} {w : World} {A : Around} {plain : Bool} {root : Tr} {s₀ s' : Shared} {L aS aE aR aL : Addr} {oR : Obj} {hK : Heap} {M : List Addr} {m : Str → Option Value} {k : Nat} {r : Row} {Q : Flow → Shared → Prop} {tu : Tok} (Lw : Law prog w A plain root s₀ L aR oR) (hk : (table root)[k]? = some r)
    (H : TS w root s₀ L aS aE aR aL oR hK M m s') (V : Vars root aS aE aL k r m) (U : UpIs L s' (some (.int r.up tu)))
    (hQ : ∀ m' s'', TS w root s₀ L aS aE aR aL oR hK M m' s'' → Vars root aS aE aL k r m' → UpIs L s'' (some (.int r.up tu)) → Stop (wpAny (model prog w) (A.deeper (lawEnv w.params L)) (execs ((lawTurn w.params).drop 16) (lawEnv w.params L)) Q (fun _ _ => False) s'')) :
    Stop (wpAny (model prog w) (A.deeper (lawEnv w.params L)) (execs ((lawTurn w.params).drop 15) (lawEnv w.params L)) Q (fun _ _ => False) s') := by
  refine ⟨?_⟩
  have S := Lw.S
  have ⟨X, p', loose, mg, mb, T, _⟩ := S
  have dR := Lw.dR
  have h217 := Lw.l217
  obtain ⟨P, f1, f2, f3, f4, f5, f6, f7, f8, f9⟩ := row_f Lw.GR hk
  have hll := Lw.GR.len
  unfold lawEnv
  conv in (occs := *) lawScope _ => all_goals whnf
  conv in List.drop _ (lawTurn _) => whnf
  show wpAny _ _ _ _ _ _
  refine execs_mid (fun s'' => ∃ m', TS w root s₀ L aS aE aR aL oR hK M m' s'' ∧ Vars root aS aE aL k r m' ∧ UpIs L s'' (some (.int r.up tu))) ?a ?b
  case a =>
    refine for_h (by rfl) (by rfl) ?_ (by intro _; rfl)
    obtain ⟨oU, oT, dU, F, N, B⟩ := H.open Lw U
    have eT := (N (217, oT) (by simp)).1
    obtain ⟨tk, tl, th, F⟩ := V.fr F
    k_steps
    rename_i a0 g0 q0 a1 g1 q1 a2 g2 q2 a3 g3 F' N' q3
    refine ⟨fun htk => ?_⟩
    have H2 := TS.close (s' := s') (tk := s'.toks + 1 + 1 + 1) Lw H eT F' N' (fun p hp => by repeat (first | exact hp | refine List.mem_cons_of_mem _ ?_))
    have e3 := N' _ (.head _)
    have e2 := N' _ (.tail _ (.head _))
    have e1 := N' _ (.tail _ (.tail _ (.head _)))
    have e0 := N' _ (.tail _ (.tail _ (.tail _ (.head _))))
    refine kinds_loop (l := a3) (D0 := a0) (D1 := a1) (D2 := a2) (k0 := [(Str.ofString "term", _)]) (k1 := [(Str.ofString "atom", _), (Str.ofString "expr", _)]) (k2 := []) Lw hk H2 ⟨⟨⟨_, rfl⟩, rfl, rfl, rfl, rfl⟩, rfl, ⟨_, rfl⟩, ⟨_, rfl⟩⟩ ⟨oU, (N' _ (.tail _ (.tail _ (.tail _ (.tail _ (.head _)))))).1, dU⟩ ⟨_, e3.1, rfl, 0, rfl⟩ ?_ ?_ ⟨⟨0, e0.1⟩, ?_, ?_, .inl ⟨_, _, rfl⟩⟩ ⟨⟨0, e1.1⟩, ?_, ?_, .inr (.inl ⟨_, _, _, _, rfl⟩)⟩ ⟨⟨0, e2.1⟩, ?_, ?_, .inr (.inr rfl)⟩ fun m' s'' a b c => ⟨⟨m', a, b, c⟩⟩
    · exact q3.2.2.2.1
    · exact q3.2.2.2.2.2.1
    · exact q0.1
    · exact q0.2.2.1
    · exact q1.2.1
    · exact q1.2.2.2.1
    · exact q2.2.2.1
    · exact q2.2.2.2.2.1
  case b =>
    rintro s'' ⟨m', H', V', U'⟩
    obtain ⟨z⟩ := hQ m' s'' H' V' U'
    assumption

theorem turn_nil (P : Params) : (lawTurn P).drop 16 = [] := by rfl
theorem turn_all {prog : Program} {w : World} {A : Around} {plain : Bool} {root : Tr} {s₀ s' : Shared} {L aS aE aR aL : Addr} {oR : Obj} {hK : Heap} {M : List Addr} {m : Str → Option Value} {k : Nat} {r : Row} {Q : Flow → Shared → Prop} (Lw : Law prog w A plain root s₀ L aR oR) (hk : (table root)[k]? = some r)
    (H : TS w root s₀ L aS aE aR aL oR hK M m s') (V : Vars0 root aS aE aL k m) {v : Option Value} (U : UpIs L s' v)
    (hQ : ∀ m' s'', TS w root s₀ L aS aE aR aL oR hK M m' s'' → Vars root aS aE aL k r m' → (∃ tu, UpIs L s'' (some (.int r.up tu))) → Q .next s'') :
    Stop (wpAny (model prog w) (A.deeper (lawEnv w.params L)) (execs (lawTurn w.params) (lawEnv w.params L)) Q (fun _ _ => False) s') := by
  refine turn_1 Lw hk H V U fun m s H V U => ?_
  obtain ⟨tu, U⟩ := U
  refine turn_2 Lw hk H V U fun m s H V U => ?_
  refine turn_3 Lw hk H V U fun m s H V U => ?_
  refine turn_4 Lw hk H V U fun m s H V U _ e => ?_
  obtain ⟨tc, e⟩ := e
  refine turn_5 Lw hk H V U e fun m s H V U => ?_
  refine turn_6 Lw hk H V U fun m s H V U => ?_
  refine turn_7 Lw hk H V U fun m s H V U e => ?_
  refine turn_8 Lw hk H V U e fun m s H V U e => ?_
  refine turn_9 Lw hk H V U e.1 e.2 fun m s H V U => ?_
  refine turn_10 Lw hk H V U fun m s H V U _ e => ?_
  obtain ⟨D0, e0, S0⟩ := e
  refine turn_11 Lw hk H V U e0 fun m s H V U k1 e => ?_
  obtain ⟨e0, D1, e1, S1⟩ := e
  replace S0 := S0.keeps k1
  refine turn_12 Lw hk H V U e0 S0 e1 fun m s H V U k2 e => ?_
  obtain ⟨e2, e1⟩ := e
  replace S1 := S1.keeps k2
  refine turn_13 Lw hk H V U e1 S1 e2 fun m s H V U _ e => ?_
  refine turn_14 Lw hk H V U e.2 e.1 fun m s H V U _ => ?_
  refine turn_15 Lw hk H V U fun m s H V U => ?_
  refine turn_16 Lw hk H V U fun m s H V U => ?_
  rw [turn_nil]
  exact ⟨wpAny_execs_nil (hQ m s H V ⟨tu, U⟩)⟩

/-- what the law's loop finds in its frame -/
structure VarsB (root : Tr) (aS aE aL : Addr) (m : Str → Option Value) : Prop where
  leaves : m (Str.ofString "leaves") = some (.ref aL)
  root : m (Str.ofString "root") = some (.ref root.addr)
  starts : m (Str.ofString "starts") = some (.ref aS)
  ends : m (Str.ofString "ends") = some (.ref aE)
section
variable {prog : Program} {w : World} {A : Around} {plain : Bool} {root : Tr} {s₀ s' : Shared} {L aS aE aR aL : Addr} {oR : Obj} {hK : Heap} {m : Str → Option Value}
theorem VarsB.k (V : VarsB root aS aE aL m) (i : Nat) (t : Tok) : Vars0 root aS aE aL i (fun y => if y = Str.ofString "k" then some (.int (0 + (i : Int) * 1) t) else m y) := by
  obtain ⟨h1, h2, h3, h4⟩ := V
  refine ⟨⟨t, ?_⟩, (if_neg (by decide)).trans h1, (if_neg (by decide)).trans h2, (if_neg (by decide)).trans h3, (if_neg (by decide)).trans h4⟩
  rw [if_pos rfl, show (0 : Int) + (i : Int) * 1 = i by omega]
theorem rows_loop {Q : Flow → Shared → Prop} {r : Addr} {n : Nat} {t u w' : Tok} (Lw : Law prog w A plain root s₀ L aR oR) (H : TS w root s₀ L aS aE aR aL oR hK (X4 L) m s') (V : VarsB root aS aE aL m) {v : Option Value} (U : UpIs L s' v)
    (hn : n = (table root).length) (hr : IsRange s'.heap r 0 (n : Int) 1 t u w')
    (hQ : ∀ s'', KX [217] s₀ s'' → TabOk s''.heap → Q .next s'') :
    wpAny (model prog w) (A.deeper (lawEnv w.params L)) (pyIter (.ref r)) (fun it s₂ => ∃ I fp n P St J m, it = .ref I ∧ ForH prog w (A.deeper (lawEnv w.params L)) (lawEnv w.params L) (Str.ofString "k") (lawTurn w.params) Q I fp n P St J m s₂) (fun _ _ => False) s' := by
  have hn1 : n ≤ 1000 := by rw [hn]; exact table_len Lw.GR
  refine range_it hr (by omega) (by omega) (by omega) fun h₂ I hI kk sz st => ?_
  rw [show ((n : Int) - 0).toNat = n by omega] at st
  have lI : ∀ b o, s'.heap.get? b = some o → @LT.lt Nat _ b I := fun b o e => hI ▸ Heap.lt_size e
  obtain ⟨oL, _, _, eL, _⟩ := id H.ns
  obtain ⟨oU, eU, dU⟩ := id U
  obtain ⟨ps, htc, htt⟩ := id H.tab
  have iL : @LT.lt Nat _ L I := lI _ _ eL
  have iL1 := lI _ _ H.cR
  have iL2 := lI _ _ eU
  have i221 : @LT.lt Nat _ 221 I := hI ▸ htc.lt.1
  have i217 : @LT.lt Nat _ 217 I := hI ▸ htc.lt.2
  have hIX : I ∉ X4 L := X4_not iL2 i217
  have hKI : ∀ b o, b ∉ X4 L → hK.get? b = some o → b ≠ I := fun b o hb e => Nat.ne_of_lt (lI _ _ (H.kept b o hb e))
  refine ⟨I, [], n, _, _, (fun _ m₁ s₁ => TS0 w root s₀ L oR hK s₁ ∧ VarsB root aS aE aL m₁ ∧ ∃ v, UpIs L s₁ v), m, rfl,
    ⟨Walks.range (Rm.hh (Rm.deeper (k := 30) Lw.hr (by omega))) I 0 1 n, ⟨Nat.ne_of_lt iL, List.not_mem_nil⟩, st, H.ns.keeps kk, ?_, ?_, ?_, ?_⟩⟩
  · exact ⟨H.to0.next (tk := s'.toks) Lw iL (Nat.ne_of_lt iL1) hKI (Nat.ne_of_lt i221) fun b o _ _ e => kk b o e, V, v, oU, kk _ _ eU, dU⟩
  · rintro i m₁ s₁ h tk _ k1 ⟨j1, j2, v', oU', eU', dU'⟩
    exact ⟨j1.next Lw iL (Nat.ne_of_lt iL1) hKI (Nat.ne_of_lt i221) fun b o h1 h2 e => k1 b o h1 h2 e, j2, v', oU', k1 _ _ (Nat.ne_of_lt iL2) (Nat.ne_of_gt (Nat.lt_succ_of_lt (Nat.lt_succ_self _))) eU', dU'⟩
  · rintro i x m₁ s₁ hi hP ⟨j1, j2, v', j3⟩ hns hst
    obtain ⟨t', rfl⟩ := hP
    have hk : (table root)[i]? = some (table root)[i] := List.getElem?_eq_getElem (hn ▸ hi)
    have big : Big w root aS aE aR aL (hideAll s₁.heap (X4 L)) := H.bigK.keeps fun b o e => by
      have hb : b ∉ X4 L := fun hm => by rw [hideAll_none _ hm] at e; cases e
      exact hideAll_get _ (j1.kept b o hb (of_hideAll _ e)) hb
    refine stop_tree ?_
    refine turn_all Lw hk (⟨j1.kx, hns, j1.keep, fun _ _ _ e => e, j1.cR, j1.tab, big, fun a h => h⟩ : TS w root s₀ L aS aE aR aL oR s₁.heap (X4 L) _ s₁) (j2.k i t') j3 fun m' s'' a b c => ?_
    obtain ⟨tu, c⟩ := c
    refine ⟨⟨m', ⟨⟨a.kx, a.keep, fun b o hb e => a.kept b o hb (j1.kept b o hb e), a.cR, a.tab⟩, ⟨b.leaves, b.root, b.starts, b.ends⟩, _, c⟩, a.ns, fun b hb o e => a.kept b o ?_ e⟩⟩
    rw [List.mem_singleton.mp hb]; exact hIX
  · rintro m₁ s₁ ⟨j1, _⟩ hns
    exact hQ s₁ j1.kx j1.tab
end


theorem law_loop {prog : Program} {w : World} {A : Around} {plain : Bool} {root : Tr} {s₀ s' : Shared} {L aS aE aR aL : Addr} {oR : Obj} {m : Str → Option Value} {Q : Flow → Shared → Prop} (Lw : Law prog w A plain root s₀ L aR oR) (V : VarsB root aS aE aL m) (H : LawSt w root s₀ L aS aE aR aL [L, L + 1, L + 1 + 1, 217] oR m s')
    (hQ : ∀ s'', KX [217] s₀ s'' → TabOk s''.heap → Q (.ret (.bool true)) s'') :
    wpAny (model prog w) (A.deeper (lawEnv w.params L)) (execs ((lawFn w.params).drop 4) (lawEnv w.params L)) Q (fun _ _ => False) s' := by
  have S := Lw.S
  have ⟨X, p', loose, mg, mb, T, _⟩ := S
  have dR := Lw.dR
  have h217 := Lw.l217
  have htl := table_len Lw.GR
  obtain ⟨oU₀, v, eU₀, dU₀⟩ := H.cU
  have H1 : TS w root s₀ L aS aE aR aL oR s'.heap (X4 L) m s' := ⟨H.kx, H.ns, H.keep, fun _ _ _ e => e, H.cR, H.tab, H.big, fun a h => h⟩
  have U : UpIs L s' v := ⟨oU₀, eU₀, dU₀⟩
  unfold lawEnv
  conv in (occs := *) lawScope _ => all_goals whnf
  conv in List.drop _ (lawFn _) => whnf
  show wpAny _ _ _ _ _ _
  refine execs_mid (fun s'' => KX [217] s₀ s'' ∧ TabOk s''.heap) ?a ?b
  case a =>
    refine for_h (by rfl) (by rfl) ?_ (by intro _; rfl)
    obtain ⟨oU, oT, dU, F, N, B⟩ := H1.open Lw U
    have eT := (N (217, oT) (by simp)).1
    k_steps
    rename IsRange _ _ _ _ _ _ _ _ => IR
    rename News _ _ _ _ => N'
    refine ⟨fun _ => ?_⟩
    refine rows_loop Lw (TS.close (s' := s') (tk := _) Lw H1 eT (by assumption) N' (fun p hp => List.mem_cons_of_mem _ hp)) V (⟨oU, (N' _ (List.mem_cons_self ..)).1, dU⟩ : UpIs L _ v) rfl IR fun s'' hkx ht => ⟨⟨hkx, ht⟩⟩
  case b =>
    rintro s'' ⟨hkx, ht⟩
    show wpAny _ _ _ _ _ _
    refine execs_stop ?_
    k_steps
    exact hQ s'' hkx ht
end

theorem law_ok {prog : Program} {w : World} {A : Around} {s : Shared} {sc : Addr} {vs : List Value} {ns : List Int} {R : Result → Shared → Prop} (hpr : ProgOk prog) (hr : Rm A 100) (hfr : A.frames = some []) (S : St w (hid s.heap)) (hl : (hid s.heap).IsList sc vs.toArray) (hi : IntsAre vs ns) (hlen : ns.length ≤ 63) (TO : TabOk s.heap)
    (hR : ∀ s'', KX [217] s s'' → TabOk s''.heap → R (.ok (.ret (.bool true))) s'') : codeAny (model prog w) A (.call (.ref 466) ⟨[.ref sc], []⟩) R s := by
  refine law_build hpr hr S hl hi hlen TO fun L s' plain t aS aE aR aL oR m h217 hgl hd hG h1 h2 h3 h4 hst => ?_
  have h221 : @LT.lt Nat _ 221 L := by
    obtain ⟨ps, c, _⟩ := TO
    have := c.lt.1
    rw [← hideAll_size [217] s.heap] at this
    exact Nat.lt_of_lt_of_le this hgl
  exact law_loop (plain := plain) ⟨hr, hfr, S, hgl, h217, h221, hd, hG⟩ ⟨h1, h2, h3, h4⟩ hst fun s'' k t => hR s'' k t

theorem rm_caller : Rm callerA 100 := ⟨rfl, by decide +kernel, by decide +kernel⟩
theorem prog_ok : ProgOk PySem.Challenge.rw_kz0004_01.row.prog := ⟨by kernel_rfl!, by kernel_rfl!⟩
theorem law_at (P : Params) : nsIn (hd.heap_1 P) mainGlobals (Str.ofString "law") = some (some (.ref 466)) := by kernel_rfl!
theorem law_tabs (P : Params) : codeHdIn (hd.heap_1 P) 221 217 = true := by kernel_rfl!
theorem law_noTabs (P : Params) : noTabs (hd.heap_1 P) = true := by kernel_rfl!
theorem old_of {s s' : Shared} (hc : CodeHd s.heap 221 217) (h0 : s.heap.get? 217 = some (tabObj #[])) (k : KX [217] s s') (t : TabOk s'.heap) : OldK s.heap s'.heap := by
  obtain ⟨ps, _, ht⟩ := t
  refine OldK.step_table (OldK.refl _) (hc.tab h0) (hc.tab h0) (more := ps) (by rw [Array.empty_append]; exact ht) (fun b o hb e => k.heap b o (by simpa using hb) e) (by decide)
theorem bare_of {s s' : Shared} (h : s.gens = #[]) (k : KX [217] s s') : AllBare s'.gens := fun y hy => by
  obtain ⟨i, hi, e⟩ := Array.mem_iff_getElem.mp hy
  exact k.gnew i y (by rw [h]; simp) (by rw [Array.getElem?_eq_getElem hi, e])
theorem law_holds : PySem.Challenge.rw_kz0004_01.Holds := hd (by
  k_fill
  intro w s₀ s₁ mg mb G Y fa o pm cd doc dV kV ho hd hcd hD hmg hg args vals as hpre hlay hrd hwl hlo
  have KX₁ := km_in_of Y
  have KP := km_tabs_of Y
  refine Ground.open G ?_
  intro T B D TE TW
  wrow_args hpre hlay hrd hwl hlo
  rename s₁.heap.IsList _ _ => hL
  rename IntsAre _ _ => hI
  have h0 : s₁.heap.get? 217 = some (tabObj #[]) := KP 217 (by simp)
  have hc : CodeHd s₁.heap 221 217 := codeHd_of_K KX₁ (law_tabs _)
  have hT : TabsAt [(221, 217)] s₁.heap := fun q hq => by rw [List.mem_singleton.mp hq]; exact ⟨hc, h0⟩
  have T2 := ghost_top hT T
  obtain ⟨bm, ob, M⟩ := bmod_of_top T2
  have S : St w (hid s₁.heap) := ⟨ghost_K hT KX₁ (law_noTabs _), _, _, _, _, topRead_of T2, bm, ob, M⟩
  have e1 : mg (Str.ofString "law") = some (.ref 466) := mg_of KX₁ T.g (law_at _)
  have e2 : some (Value.ref fa) = some (.ref 466) := hmg.symm.trans e1
  injection e2 with e2
  injection e2 with e2
  subst e2
  show wpAny _ _ (call _ _) _ _ _
  refine wpAny_call (law_ok prog_ok rm_caller rfl S (ghost_list hT hL) hI (by omega) ⟨#[], hc.code h0 (by first | trivial | (intro _ _; simp at *) | decide), hc.tab h0⟩ fun s'' k t => ?_)
  refine ⟨.inl ⟨_, ofPy (.bool true), [], rfl, ?_, ?_, ?_, ?_⟩, old_of hc h0 k t, k.os, bare_of hg k⟩
  · intro cls; rfl
  · exact .bool true
  · first | rfl | kernel_rfl!
  · exact fun _ => ⟨.nil, fun a h => nomatch h⟩)

end Mine
theorem PySem.Challenge.cw_kz0004_01_holds : PySem.Challenge.rw_kz0004_01.Holds := by
  exact Mine.law_holds
