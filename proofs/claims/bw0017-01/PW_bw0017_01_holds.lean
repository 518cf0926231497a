import PyProof.Rows.All
import Open.Tops
import Wide.All
import OpenK.KWalk
import KE.KTryMore
import PyProof.ZipIter
import PyProof.EnumFor
import PyProof.WalksPairs
import PyProof.LetGo
import KE.KSuper
import KE.KStar
import PyProof.WalksMore
import PyProof.EnumStmt
import PyProof.CompMap
import PyProof.DelItemList
import PyProof.RulesDelMore
import PyProof.RulesDel
import PyProof.RulesAs
import Lean
import PySem.Challenge.RW_bw0017_01
set_option Elab.async false
section
open PySem PySem.W PyProof.Rows
set_option maxRecDepth 100000
set_option maxHeartbeats 0
namespace Mine
open_shared top for PySem.Challenge.pw_bw0017_01 leaving 0
end Mine
end
section
open PySem PySem.W PySem.Calls PyProof.Rows
set_option maxRecDepth 100000
set_option maxHeartbeats 0
namespace Mine
abbrev P0 : Program := PySem.Challenge.pw_bw0017_01
noncomputable def H0 (P : Params) : Heap := Heap.mk (Array.mk [top.o_1 P, top.o_2 P, top.o_3 P, top.o_4 P, top.o_5 P, top.o_6 P, top.o_7 P, top.o_8 P, top.o_9 P, top.o_10 P, top.o_11 P, top.o_12 P, top.o_13 P, top.o_14 P, top.o_15 P, top.o_16 P, top.o_17 P, top.o_18 P, top.o_19 P, top.o_20 P, top.o_21 P, top.o_22 P, top.o_23 P, top.o_24 P, top.o_25 P, top.o_26 P, top.o_27 P, top.o_28 P]) {}
noncomputable def H1 (P : Params) : Heap := absHeap (top.tree_612 P) 552 {}
noncomputable def q0 : Program := { P0 with main := { P0.main with body := P0.main.body.take 1 ++ P0.main.body.drop 98 } }
noncomputable def loose0 : List Str := P0.boundNames.filter fun n => n != ("law" : Str) && n != ("_sre" : Str)
noncomputable def d0 : DefRec := match (P0.main.body[98]? : Option Stmt) with
  | some (Stmt.FunctionDef n a b _ _ _ sc _ _ pos) => ⟨n, a, b, sc, pos⟩
  | _ => ⟨"", ⟨[], [], none, [], [], none, []⟩, [], { kind := .function, names := [], isGenerator := false, isCoroutine := false, more := [] }, ⟨0, 0, 0, 0⟩⟩
/-- an object whose long texts stand sign by sign -/
noncomputable def o19x : { o : Params → Obj // ∀ P, top.o_19 P = o P } := ⟨_, fun P => by
  unfold top.o_19
  rw [PySem.W.Fast.ofString_ofList, PySem.W.Fast.ofString_ofList, PySem.W.Fast.ofString_ofList]⟩
noncomputable def H0x (P : Params) : Heap := Heap.mk (Array.mk [top.o_1 P, top.o_2 P, top.o_3 P, top.o_4 P, top.o_5 P, top.o_6 P, top.o_7 P, top.o_8 P, top.o_9 P, top.o_10 P, top.o_11 P, top.o_12 P, top.o_13 P, top.o_14 P, top.o_15 P, top.o_16 P, top.o_17 P, top.o_18 P, o19x.1 P, top.o_20 P, top.o_21 P, top.o_22 P, top.o_23 P, top.o_24 P, top.o_25 P, top.o_26 P, top.o_27 P, top.o_28 P]) {}
theorem H0x_eq (P : Params) : H0x P = H0 P := by
  unfold H0x H0
  rw [← o19x.2 P]
theorem t_openx (w : World) : (fencedOpening treeTable P0 w 20000).map (fun s => (s.heap, s.gens, s.drawn, s.toks)) = some (H0x w.params, (Array.mk []), {}, 276) := by kernel_rfl
theorem t_open (w : World) : (fencedOpening treeTable P0 w 20000).map (fun s => (s.heap, s.gens, s.drawn, s.toks)) = some (H0 w.params, (Array.mk []), {}, 276) := by rw [← H0x_eq]; exact t_openx w
theorem t_size (w : World) : ((H0 w.params).isNs mainGlobals && (Array.mk [] : Array GenState).size == 0, (H0 w.params).objs.size, (H0 w.params).nsMap mainGlobals "__annotations__") = (true, 28, some (Value.ref 6)) := by kernel_rfl
noncomputable def b0 : List Stmt := behindTheImports P0
noncomputable def sts0 : List Stmt := top.sts_32 ++ (top.sts_75 ++ (top.sts_106 ++ (top.sts_118 ++ (top.sts_125 ++ (top.sts_132 ++ (top.sts_135 ++ (top.sts_141 ++ (top.sts_147 ++ (top.sts_154 ++ (top.sts_171 ++ (top.sts_188 ++ (top.sts_205 ++ (top.sts_230 ++ (top.sts_268 ++ (top.sts_313 ++ (top.sts_402 ++ (top.sts_436 ++ (top.sts_489 ++ (top.sts_529 ++ (top.sts_569 ++ []))))))))))))))))))))
theorem t_body : behindTheImports P0 = sts0 := by kernel_rfl
noncomputable def Sb (w : World) (os : OsState) : Shared := SharedT.abs { tree := top.tree_32 w.params, n := 32, life := {}, gens := Array.mk [], drawn := {}, toks := 282, os := os }
noncomputable def Sk (w : World) (os : OsState) : Shared := SharedT.abs { tree := top.tree_612 w.params, n := 552, life := {}, gens := Array.mk [], drawn := {}, toks := 2617, os := os }
noncomputable def c0 (b : List Stmt) : Code := Code.body b top.env_1
theorem t_pre (w : World) (os : OsState) : topGo treeTable P0 w 28 (some (Value.ref 6)) 12 ⟨H0 w.params, Array.mk [], {}, 276, os⟩ (topStub P0) =
    some (Sb w os, ⟨denote treeTable (c0 sts0), c0 sts0, ⟨0, 0, 0, 0⟩, [topFrame ⟨0, 0, 0, 0⟩]⟩) := by kernel_rfl
theorem t_block (w : World) (os : OsState) : segRun treeTable P0 w 28 (some (Value.ref 6)) 1 1 (Sb w os) (blockOf sts0 top.env_1 (c0 sts0) ⟨0, 0, 0, 0⟩ [topFrame ⟨0, 0, 0, 0⟩]) =
    some (Flow.next, Sb w os, c0 sts0, ⟨0, 0, 0, 0⟩) := by kernel_rfl
theorem t_fin (w : World) (os : OsState) : topRun treeTable P0 w 28 (some (Value.ref 6)) 2 (Sk w os) (restOf [] top.env_1 (c0 sts0) ⟨443, 0, 450, 80⟩ [topFrame ⟨0, 0, 0, 0⟩]) =
    some ⟨H1 w.params, Array.mk [], {}, 2617, os⟩ := by kernel_rfl
theorem t_run (w : World) (os : OsState) : topRun treeTable P0 w 28 (some (Value.ref 6)) (12 + (1 + (7046 + 2))) ⟨H0 w.params, Array.mk [], {}, 276, os⟩ (topStub P0) = some ⟨H1 w.params, Array.mk [], {}, 2617, os⟩ := by
  refine go_top (t_pre w os) ?_
  refine piece_block (env := top.env_1) (b := sts0) (t_block w os) ?_
  exact top.chain P0 sts0 w os [] 2 _ (t_fin w os)
noncomputable def Xt0 : Shared → Bool := fun _ => true
theorem t_look1 (w : World) (os : OsState) : (staticsOk (importedModules P0.main.body) (H0 w.params) (H1 w.params) && namesBound P0 (H1 w.params) && gensDone ⟨H1 w.params, Array.mk [], {}, 2617, os⟩ && laidKept (H0 w.params) (H1 w.params)) = true := by kernel_rfl
theorem t_look2 (w : World) (os : OsState) : openSeen q0 loose0 (importedModules P0.main.body) Xt0 true ⟨H1 w.params, Array.mk [], {}, 2617, os⟩ = openGood q0 loose0 := by kernel_rfl

theorem left0 : LeftO P0 q0 loose0 Xt0 (fun s => s.heap) (fun w => H1 w.params) 20000 true :=
  LeftO.of_pieces t_open t_size t_run (by decide +kernel) (fun w => funext fun os => looks_pair (t_look1 w os) (looks_pair (t_look2 w os) rfl))
theorem t_def : defOf q0 PySem.Challenge.rw_bw0017_01.row.name = some (d0, []) := by kernel_rfl
theorem t_theDef : PySem.Challenge.rw_bw0017_01.row.prog.theDef PySem.Challenge.rw_bw0017_01.row.name = some (d0.params, d0.body, d0.scope) := by kernel_rfl
theorem t_ok : (chainsOk q0 && opensWell PySem.Challenge.rw_bw0017_01.row.prog && (frees PySem.Challenge.rw_bw0017_01.row.toRowW && PySem.Challenge.rw_bw0017_01.row.within.isEmpty)) = true := by kernel_rfl
theorem t_bare : PySem.Challenge.rw_bw0017_01.row.prog.bare := ⟨rfl, rfl, rfl, rfl, rfl, by decide +kernel⟩
noncomputable def Base (w : World) (h : Heap) : Prop := ∀ b o, (H1 w.params).get? b = some o → h.get? b = some o
theorem rowHolds (said : PySem.Challenge.rw_bw0017_01.row.wellSaid = true) (hw : PySem.Challenge.rw_bw0017_01.row.toRowW.promised)
    (call : WalkO q0 loose0 (fun _ _ => True) Base PySem.Challenge.rw_bw0017_01.row.toRowW d0 [] fun f vs => PySem.call f vs) : PySem.Challenge.rw_bw0017_01.row.Holds :=
  holds_open (r := PySem.Challenge.rw_bw0017_01.row) left0 (fun w s e b o h => by rw [show s.heap = H1 w.params from e]; exact h) (fun _ _ _ y k => fun b o e => k b o (y b o e)) (fun _ _ => trivial) (fun _ _ _ x _ => x) t_def t_theDef (by kernel_rfl)
    (fun s _ => recFacts_of (s := s) (by rfl)) (by rfl) said t_ok t_bare hw call
theorem t_prom : PySem.Challenge.rw_bw0017_01.row.toRowW.promised := by w_witness2
end Mine
end
section
open PySem PySem.Calls PyProof.Rows
set_option maxRecDepth 100000
set_option linter.all false
namespace Mine

structure Cx where
  prog : Program
  w : World
  A : Around
  g : Array GenState
  d : Drawn
  os : OsState
abbrev Cx.st (c : Cx) (h : Heap) (tk : Nat) : Shared := ⟨h, c.g, c.d, tk, c.os⟩
abbrev Cx.in1 (c : Cx) : Cx := { c with A := c.A.in1 }

/-- the tree run from a heap, the tokens forgotten -/
def W {α : Type} (c : Cx) (h : Heap) (t : Sem α) (Q : α → Heap → Prop) (E : Value → Heap → Prop) : Prop :=
  ∀ tk, wpAny (model c.prog c.w) c.A t (fun a s' => ∃ h' tk', s' = c.st h' tk' ∧ Q a h') (fun e s' => ∃ h' tk', s' = c.st h' tk' ∧ E e h') (c.st h tk)

/-- a code run from a heap -/
def WC (c : Cx) (h : Heap) (k : Code) (Q : Value → Heap → Prop) (E : Value → Heap → Prop) : Prop :=
  ∀ tk, codeAny (model c.prog c.w) c.A k (fun r s' => ∃ h' tk', s' = c.st h' tk' ∧ match r with | .ok (.ret v) => Q v h' | .ok _ => False | .error e => E e h') (c.st h tk)

section
variable {α β : Type} {c : Cx} {h : Heap} {E : Value → Heap → Prop}

theorem W_of {t : Sem α} {Q : α → Heap → Prop} (x : ∀ tk, wpAny (model c.prog c.w) c.A t (fun a s' => ∃ h' tk', s' = c.st h' tk' ∧ Q a h') (fun e s' => ∃ h' tk', s' = c.st h' tk' ∧ E e h') (c.st h tk)) : W c h t Q E := x
theorem W_mono {t : Sem α} {Q Q' : α → Heap → Prop} {E' : Value → Heap → Prop} (x : W c h t Q E) (hQ : ∀ a h', Q a h' → Q' a h') (hE : ∀ a h', E a h' → E' a h') : W c h t Q' E' := fun tk =>
  wpAny_mono (x tk) (fun a s' ⟨h', tk', e, q⟩ => ⟨h', tk', e, hQ _ _ q⟩) (fun a s' ⟨h', tk', e, q⟩ => ⟨h', tk', e, hE _ _ q⟩)
theorem W_pure {a : α} {Q : α → Heap → Prop} (q : Q a h) : W c h (pure a) Q E := fun tk => wpAny_pure ⟨h, tk, rfl, q⟩
theorem W_bind {m : Sem α} {f : α → Sem β} {Q : β → Heap → Prop} (x : W c h m (fun a h' => W c h' (f a) Q E) E) : W c h (m >>= f) Q E := fun tk =>
  wpAny_bind (wpAny_mono (x tk) (fun a s' ⟨h', tk', e, q⟩ => e ▸ q tk') (fun _ _ y => y))
theorem W_holding {vs : List Value} {m : Sem α} {Q : α → Heap → Prop} (x : W c h m Q E) : W c h (holding vs m) Q E := fun tk => wpAny_holding (x tk)
theorem W_standAt {p : Pos} {Q : Unit → Heap → Prop} (q : Q () h) : W c h (standAt p) Q E := fun tk => wpAny_standAt ⟨h, tk, rfl, q⟩
theorem W_at {p : Pos} {m : Sem β} {Q : β → Heap → Prop} (x : W c h m Q E) : W c h (do standAt p; m) Q E := W_bind (W_standAt x)
theorem W_eq {t t' : Sem α} {Q : α → Heap → Prop} (e : t = t') (x : W c h t' Q E) : W c h t Q E := e ▸ x
theorem W_call {f : Value} {pos : List Value} {kw : List (Str × Value)} {Q : Value → Heap → Prop} (x : WC c h (.call f ⟨pos, kw⟩) Q E) : W c h (call f pos kw) Q E := fun tk =>
  wpAny_call (codeAny_mono (x tk) fun r s' ⟨h', tk', e, q⟩ => by
    cases r with
    | ok f => cases f <;> first | exact ⟨h', tk', e, q⟩ | exact q
    | error e' => exact ⟨h', tk', e, q⟩)
theorem WC_mono {k : Code} {Q Q' : Value → Heap → Prop} {E' : Value → Heap → Prop} (x : WC c h k Q E) (hQ : ∀ a h', Q a h' → Q' a h') (hE : ∀ a h', E a h' → E' a h') : WC c h k Q' E' := fun tk =>
  codeAny_mono (x tk) fun r s' ⟨h', tk', e, q⟩ => ⟨h', tk', e, by
    cases r with
    | ok f => cases f <;> first | exact hQ _ _ q | exact q
    | error e' => exact hE _ _ q⟩

/-- what keeps all but one address -/
abbrev KeepBut (L : Addr) (h h' : Heap) : Prop := ∀ b o, b ≠ L → h.get? b = some o → h'.get? b = some o
abbrev Keep (h h' : Heap) : Prop := ∀ b o, h.get? b = some o → h'.get? b = some o
end

/-- the locals of a frame, by place -/
def frm (ns : List Str) (vs : List (Option Value)) : Str → Option Value := fun x => match ns.idxOf? x with
  | some i => vs.getD i none
  | none => none
theorem idxOf_get {ns : List Str} (hd : ns.Nodup) {i : Nat} {x : Str} (hx : ns[i]? = some x) : ns.idxOf? x = some i := by
  induction ns generalizing i with
  | nil => simp at hx
  | cons y ns ih =>
    rw [List.nodup_cons] at hd
    cases i with
    | zero =>
      simp only [List.getElem?_cons_zero, Option.some.injEq] at hx
      subst hx
      simp [List.idxOf?_cons]
    | succ i =>
      simp only [List.getElem?_cons_succ] at hx
      have hne : y ≠ x := fun e => hd.1 (e ▸ List.mem_of_getElem? hx)
      have : (y == x) = false := by simpa using hne
      rw [List.idxOf?_cons, this]
      simp [ih hd.2 hx]
theorem frm_get {ns : List Str} (hd : ns.Nodup) {vs : List (Option Value)} {i : Nat} {x : Str} {v : Value} (hx : ns[i]? = some x) (hv : vs[i]? = some (some v)) : frm ns vs x = some v := by
  unfold frm
  rw [idxOf_get hd hx]
  simp [List.getD, hv]
theorem frm_set {ns : List Str} (hd : ns.Nodup) {vs : List (Option Value)} {i : Nat} {x : Str} {v : Value} (hx : ns[i]? = some x) (hi : i < vs.length) :
    (fun y => if y = x then some v else frm ns vs y) = frm ns (vs.set i (some v)) := by
  funext y
  by_cases hy : y = x
  · subst hy
    rw [if_pos rfl]
    exact (frm_get hd hx (by simp [hi])).symm
  · rw [if_neg hy]
    unfold frm
    cases e : ns.idxOf? y with
    | none => rfl
    | some j =>
      have hj : j ≠ i := by
        rintro rfl
        have := List.of_findIdx?_eq_some e
        rw [hx] at this
        have e : x = y := by simpa using this
        exact hy e.symm
      simp [List.getD, Ne.symm hj]

/-- what is known of a function: its frame's names are local -/
structure FnOk (ns : List Str) (sc : Scope) : Prop where
  nd : ns.Nodup
  kind : sc.kind = .function
  loc : ∀ x ∈ ns, sc.names.lookup x = some .local
  nodebug : ∀ x ∈ ns, (x == ("__debug__" : Str)) = false

abbrev Fm (h₀ : Heap) (L : Addr) (ns : List Str) (vs : List (Option Value)) (h : Heap) : Prop := Fr h₀ L h (frm ns vs)

section
variable {c : Cx} {h h₀ : Heap} {E : Value → Heap → Prop} {L a : Addr} {ns : List Str} {vs : List (Option Value)} {nm : Str} {sc : Scope} {cd : Value}

theorem kindOf_loc (X : FnOk ns sc) {i : Nat} {x : Str} (hx : ns[i]? = some x) : (envOf nm sc L a cd).kindOf x = some .local := X.loc x (List.mem_of_getElem? hx)

theorem Fr.of_ns {m : Str → Option Value} (N : h.Ns L m) : Fr ({} : Heap) L h m := ⟨N, fun b o e => by simp [Heap.get?] at e, Nat.zero_le _⟩
theorem w_loc {i : Nat} {x : Str} {pos : Pos} {v : Value} {Q : Value → Heap → Prop} (X : FnOk ns sc) (N : h.Ns L (frm ns vs)) (hx : ns[i]? = some x) (hv : vs[i]? = some (some v)) (q : Q v h) :
    W c h (eval (.Name x pos) (envOf nm sc L a cd)) Q E := fun tk =>
  ld (h₀ := ({} : Heap)) (Fr.of_ns N) (frm_get X.nd hx hv) ⟨h, tk, rfl, q⟩ X.kind (kindOf_loc X hx) (X.nodebug x (List.mem_of_getElem? hx))
theorem w_locN {i : Nat} {x : Str} {v : Value} {Q : Value → Heap → Prop} (X : FnOk ns sc) (N : h.Ns L (frm ns vs)) (hx : ns[i]? = some x) (hv : vs[i]? = some (some v)) (q : Q v h) :
    W c h (loadName (envOf nm sc L a cd) x) Q E := fun tk =>
  ldn (h₀ := ({} : Heap)) (Fr.of_ns N) (frm_get X.nd hx hv) ⟨h, tk, rfl, q⟩ X.kind (kindOf_loc X hx)
theorem w_store {i : Nat} {x : Str} {v : Value} {Q : Unit → Heap → Prop} (X : FnOk ns sc) (N : h.Ns L (frm ns vs)) (hx : ns[i]? = some x) (hi : decide (i < vs.length) = true)
    (q : ∀ h', h'.Ns L (frm ns (vs.set i (some v))) → KeepBut L h h' → Q () h') : W c h (bindName (envOf nm sc L a cd) x v) Q E := fun tk => by
  refine wpAny_bindName (wpAny_storeName_local (kindOf_loc X hx) N (fun h' hn hs => ?_) ?_)
  · refine ⟨h', tk + 1, rfl, q h' ?_ hs.extBut⟩
    rw [frm_set X.nd hx (of_decide_eq_true hi)] at hn
    exact hn
  · show (sc.kind == .class || (sc.kind == .module && L != mainGlobals)) = false
    rw [X.kind]; rfl
theorem w_int {i : Int} {k : Nat} {pos : Pos} {env : Env} {Q : Value → Heap → Prop} (q : ∀ tk, Q (.int i tk) h) : W c h (eval (.Constant (.int i) k pos) env) Q E := fun tk => wpAny_Constant_int ⟨h, _, rfl, q tk⟩
theorem w_str {x : Str} {k : Nat} {pos : Pos} {env : Env} {Q : Value → Heap → Prop} (q : ∀ tk, Q (.str x tk) h) : W c h (eval (.Constant (.str x) k pos) env) Q E := fun tk => Constant_str ⟨h, _, rfl, q tk⟩
theorem w_none {k : Nat} {pos : Pos} {env : Env} {Q : Value → Heap → Prop} (q : Q .none h) : W c h (eval (.Constant .none k pos) env) Q E := fun tk => wpAny_pure ⟨h, tk, rfl, q⟩
theorem w_bool {b : Bool} {k : Nat} {pos : Pos} {env : Env} {Q : Value → Heap → Prop} (q : Q (.bool b) h) : W c h (eval (.Constant (.bool b) k pos) env) Q E := fun tk => wpAny_pure ⟨h, tk, rfl, q⟩

theorem w_nil {env : Env} {Q : Flow → Heap → Prop} (q : Q .next h) : W c h (execs [] env) Q E := fun tk => wpAny_execs_nil ⟨h, tk, rfl, q⟩
theorem w_cons {env : Env} {st : Stmt} {rest : List Stmt} {Q : Flow → Heap → Prop} (x : W c h (exec st env) (fun f h' => match f with | .next => W c h' (execs rest env) Q E | f => Q f h') E) : W c h (execs (st :: rest) env) Q E := fun tk =>
  wpAny_execs_cons (wpAny_mono (x tk) (fun f s' ⟨h', tk', e, q⟩ => by
    subst e
    cases f with
    | next => exact q tk'
    | _ => exact ⟨h', tk', rfl, q⟩) fun _ _ y => y)
theorem w_binop {env : Env} {l r : Expr} {op : Operator} {pos : Pos} {Q : Value → Heap → Prop} (x : W c h (eval l env) (fun a h₁ => W c h₁ (eval r env) (fun b h₂ => W c h₂ (binaryOp op a b) Q E) E) E) : W c h (eval (.BinOp l op r pos) env) Q E := fun tk =>
  wpAny_BinOp (wpAny_mono (x tk) (fun a s' ⟨h', tk', e, q⟩ => by
    subst e
    exact wpAny_mono (q tk') (fun b s' ⟨h', tk', e, q⟩ => by subst e; exact q tk') fun _ _ y => y) fun _ _ y => y)
theorem w_cmp {env : Env} {l r : Expr} {op : CmpOp} {pos : Pos} {Q : Value → Heap → Prop} (x : W c h (eval l env) (fun a h₁ => W c h₁ (eval r env) (fun b h₂ => W c h₂ (compareOp op a b) Q E) E) E)
    (hm : behindInMarks op r = false := by with_unfolding_all rfl) : W c h (eval (.Compare l [op] [r] pos) env) Q E := fun tk =>
  wpAny_Compare1 (wpAny_mono (x tk) (fun a s' ⟨h', tk', e, q⟩ => by
    subst e
    exact wpAny_mono (q tk') (fun b s' ⟨h', tk', e, q⟩ => by subst e; exact q tk') fun _ _ y => y) fun _ _ y => y) hm
theorem w_tcmp {env : Env} {l r : Expr} {op : CmpOp} {pos : Pos} {whole : Sem Value} {Q : Bool → Heap → Prop} (x : W c h (eval l env) (fun a h₁ => W c h₁ (eval r env) (fun b h₂ => W c h₂ (compareOp op a b) (fun v h₃ => W c h₃ (truthy v) Q E) E) E) E)
    (hm : behindInMarks op r = false := by with_unfolding_all rfl) : W c h (isTrue (.Compare l [op] [r] pos) env whole) Q E := fun tk => by
  refine wpAny_isTrue_Compare1 (wpAny_mono (x tk) (fun a s' ⟨h', tk', e, q⟩ => ?_) fun _ _ y => y) hm
  subst e
  refine wpAny_mono (q tk') (fun b s' ⟨h', tk', e, q⟩ => ?_) fun _ _ y => y
  subst e
  exact wpAny_mono (q tk') (fun b s' ⟨h', tk', e, q⟩ => by subst e; exact q tk') fun _ _ y => y
theorem w_tbool {b : Bool} {Q : Bool → Heap → Prop} (q : Q b h) : W c h (truthy (.bool b)) Q E := fun tk => wpAny_truthy_bool ⟨h, tk, rfl, q⟩
theorem w_if {env : Env} {test : Expr} {body orelse : List Stmt} {pos : Pos} {Q : Flow → Heap → Prop} (x : W c h (isTrue test env (eval test env)) (fun b h' => if b = true then W c h' (execs body env) Q E else W c h' (execs orelse env) Q E) E) : W c h (exec (.If test body orelse pos) env) Q E := by
  show W c h (do standAt pos; if ← isTrue test env (eval test env) then execs body env else execs orelse env) Q E
  refine W_at (W_bind (W_mono x (fun b h' q => ?_) fun _ _ y => y))
  cases b <;> simpa using q
theorem w_return {env : Env} {e : Expr} {pos : Pos} {Q : Flow → Heap → Prop} (x : W c h (eval e env) (fun v h' => Q (.ret v) h') E) : W c h (exec (.Return (some e) pos) env) Q E := by
  show W c h (do standAt pos; return .ret (← eval e env)) Q E
  exact W_at (W_bind (W_mono x (fun v h' q => W_pure q) fun _ _ y => y))
theorem w_assign {env : Env} {x : Str} {p pos : Pos} {e : Expr} {Q : Flow → Heap → Prop} (y : W c h (eval e env) (fun v h' => W c h' (bindName env x v) (fun _ h'' => Q .next h'') E) E)
    (hs : swapsWith e (some (.Name x p)) pos.line env = pure false := by with_unfolding_all rfl) : W c h (exec (.Assign [.Name x p] e pos) env) Q E := by
  rw [exec_Assign_Name env x p e pos hs]
  exact W_at (W_bind (W_mono y (fun v h' q => W_at (W_bind (W_mono q (fun _ _ q => W_pure q) fun _ _ y => y))) fun _ _ y => y))
theorem w_aug {env : Env} {x : Str} {p pos : Pos} {op : Operator} {e : Expr} {Q : Flow → Heap → Prop} (y : W c h (loadName env x) (fun old h₁ => W c h₁ (eval e env) (fun v h₂ => W c h₂ (inplaceOp op old v) (fun r h₃ => W c h₃ (bindName env x r) (fun _ h'' => Q .next h'') E) E) E) E) : W c h (exec (.AugAssign (.Name x p) op e pos) env) Q E := by
  rw [exec_AugAssign_Name]
  refine W_at (W_bind (W_mono y (fun old h₁ q => W_bind (W_holding (W_mono q (fun v h₂ q => W_at ?_) fun _ _ y => y))) fun _ _ y => y))
  refine W_bind (fun tk => ?_)
  have z := q tk
  intro Γ p hΓ
  rw [Sem.wp_operate]
  refine Sem.wp_mono _ _ _ (fun r p' s' q' => ?_) (fun _ _ _ y => y) _ _ (z Γ p hΓ)
  obtain ⟨h₃, tk₃, e₃, q₃⟩ := q'
  exact ⟨h₃, tk₃, e₃, W_at (W_bind (W_mono q₃ (fun _ _ q => W_pure q) fun _ _ y => y))⟩
theorem w_tand {env : Env} {x y : Expr} {pos : Pos} {whole : Sem Value} {Q : Bool → Heap → Prop} (z : W c h (isTrue x env (eval x env)) (fun b h' => if b = true then W c h' (isTrue y env (eval y env)) Q E else Q false h') E) : W c h (isTrue (.BoolOp .And [x, y] pos) env whole) Q E := by
  show W c h (do match BoolOp.And, ← isTrue x env (eval x env) with | .And, false => pure false | .Or, true => pure true | _, _ => allTrue .And [y] env) Q E
  refine W_bind (W_mono z (fun b h' q => ?_) fun _ _ y => y)
  cases b with
  | false => exact W_pure (by simpa using q)
  | true =>
    have q' : W c h' (isTrue y env (eval y env)) Q E := by simpa using q
    show W c h' (do match BoolOp.And, ← isTrue y env (eval y env) with | .And, false => pure false | .Or, true => pure true | _, _ => allTrue .And [] env) Q E
    refine W_bind (W_mono q' (fun b h' q => ?_) fun _ _ y => y)
    cases b <;> exact W_pure q
end
end Mine
end
section
open PySem PySem.Calls PyProof.Rows
set_option maxRecDepth 100000
set_option linter.all false
namespace Mine

theorem Fm.mono {h₀ h h' : Heap} {L : Addr} {ns : List Str} {vs : List (Option Value)} (F : Fm h₀ L ns vs h) (k : Keep h h') : Fm h₀ L ns vs h' :=
  ⟨F.ns.keeps k, fun b o e => k _ _ (F.keep b o e), F.above⟩
/-- an address that nothing lives at -/
abbrev New (h : Heap) (a : Addr) : Prop := h.get? a = none
theorem New.of_le {h : Heap} {a : Addr} (e : h.objs.size ≤ a) : New h a := Heap.get?_none_of_le e
theorem New.back {h h' : Heap} {a : Addr} (n : New h' a) (k : Keep h h') : New h a := by
  unfold New at n ⊢
  cases e : h.get? a with
  | none => rfl
  | some o => rw [k a o e] at n; cases n
theorem New.ne {h : Heap} {a b : Addr} {o : Obj} (n : New h a) (e : h.get? b = some o) : b ≠ a := fun x => by subst x; rw [n] at e; cases e
theorem Keep.butN {h₀ h h' : Heap} {L : Addr} (k : Keep h₀ h) (b : KeepBut L h h') (n : New h₀ L) : Keep h₀ h' := fun x o e => b x o (n.ne e) (k x o e)
theorem Keep.but {h₀ h h' : Heap} {L : Addr} (k : Keep h₀ h) (b : KeepBut L h h') (hL : h₀.objs.size ≤ L) : Keep h₀ h' := fun x o e =>
  b x o (Nat.ne_of_lt (Nat.lt_of_lt_of_le (Heap.lt_size e) hL)) (k x o e)
theorem Fm.put {h₀ h h' : Heap} {L : Addr} {ns : List Str} {vs vs' : List (Option Value)} (F : Fm h₀ L ns vs h) (N : h'.Ns L (frm ns vs')) (b : KeepBut L h h') : Fm h₀ L ns vs' h' := ⟨N, Keep.but F.keep b F.above, F.above⟩
theorem Keep.trans {h h' h'' : Heap} (k : Keep h h') (k' : Keep h' h'') : Keep h h'' := fun b o e => k' _ _ (k _ _ e)
theorem Keep.rfl' (h : Heap) : Keep h h := fun _ _ e => e
theorem Keep.push (h : Heap) (o : Obj) : Keep h (h.push o) := fun _ _ e => Heap.get?_push_of_some _ e
theorem keptH_keep (h : Heap) : KeptH (fun h' => Keep h h') := fun h' ob k b o e => Heap.get?_push_of_some _ (k b o e)

section
variable {c : Cx} {h h₀ : Heap} {E : Value → Heap → Prop} {L a : Addr} {ns : List Str} {vs : List (Option Value)} {nm : Str} {sc : Scope} {cd : Value} {env : Env}

theorem w_sub {value slice : Expr} {pos : Pos} {Q : Value → Heap → Prop} (x : W c h (eval value env) (fun o h₁ => W c h₁ (eval slice env) (fun i h₂ => W c h₂ (subscriptTail value slice o i) Q E) E) E) :
    W c h (eval (.Subscript value slice pos) env) Q E := fun tk => by
  refine Subscript_ (wpAny_mono (x tk) (fun a s' ⟨h', tk', e, q⟩ => ?_) fun _ _ y => y)
  subst e
  exact wpAny_mono (q tk') (fun b s' ⟨h', tk', e, q⟩ => by subst e; exact q tk') fun _ _ y => y
theorem w_item_str {value slice : Expr} {x : Str} {t u : Tok} {i : Int} {k : Nat} {Q : Value → Heap → Prop} (h0 : 0 ≤ i) (hl : i < 2 ^ 63) (hc : x.cps[i.toNat]? = some k) (q : ∀ t', Q (.str ⟨#[k]⟩ t') h)
    (hs : subscripted slice false (.str x t) (.int i u) = operate [.str x t, .int i u] (getItem (.str x t) (.int i u)) := by with_unfolding_all rfl) :
    W c h (subscriptTail value slice (.str x t) (.int i u)) Q E := fun tk => by
  refine tail_any (T := "str") (typeIs_str _ x t) slot_str_getitem.lookup (getItem_str (c := k) ?_ ?_ ⟨h, _, rfl, q _⟩) hs
  · simp only [Bool.or_eq_false_iff, decide_eq_false_iff_not]; omega
  · have hn : i.toNat < x.length := by
      have := Array.getElem?_eq_some_iff.mp hc
      exact this.1
    have : seqIndex? i x.length = some i.toNat := by
      unfold seqIndex?
      simp only [show ¬ i < 0 by omega, if_false]
      first | (rw [if_pos (by omega)]) | (rw [if_neg (by omega)]) | (split <;> first | rfl | omega | (simp; omega)) | simp_all
    rw [this]; exact hc
theorem w_in_str {x y : Str} {t u : Tok} {Q : Value → Heap → Prop} (q : Q (.bool !(Builtin.Str.occurrences x y 0 x.length 1).isEmpty) h) : W c h (compareOp .In (.str y u) (.str x t)) Q E := fun tk =>
  PyProof.Rows.in_str ⟨h, tk, rfl, q⟩
theorem w_in_char {x : Str} {k : Nat} {t u : Tok} {Q : Value → Heap → Prop} (q : Q (.bool (decide (k ∈ x.cps.toList))) h) : W c h (compareOp .In (.str ⟨#[k]⟩ u) (.str x t)) Q E :=
  w_in_str (by rw [StrLaws.found_one]; exact q)
theorem w_lt {i j : Int} {t u : Tok} {Q : Value → Heap → Prop} (q : Q (.bool (decide (i < j))) h) : W c h (compareOp .Lt (.int i t) (.int j u)) Q E := fun tk => lt_int ⟨h, tk, rfl, q⟩
theorem w_len {x : Str} {t : Tok} {Q : Value → Heap → Prop} (hx : (x.length : Int) < 2 ^ 63) (q : ∀ tk, Q (.int x.length tk) h) : W c h (call (.builtin "len") [.str x t]) Q E := fun tk =>
  PyProof.Rows.len_str (by omega) ⟨h, _, rfl, q _⟩
theorem w_iadd {i j : Int} {t u : Tok} {Q : Value → Heap → Prop} (q : ∀ tk, Q (.int (i + j) tk) h) : W c h (inplaceOp .Add (.int i t) (.int j u)) Q E := fun tk => iadd_int ⟨h, _, rfl, q _⟩

/-- a call of a name, one argument and more -/
theorem w_callN {func : Expr} {args : List Expr} {pos : Pos} {Q : Value → Heap → Prop} (x : W c h (eval func env) (fun f h₁ => W c h₁ (callWith pos f [] (backTo pos (starEach args env)) []) Q E) E)
    (he : eval (.Call func args [] pos) env = (do callWith pos (← eval func env) [] (backTo pos (starEach args env)) (backToKw pos (keywordEach [] env))) := by rfl) :
    W c h (eval (.Call func args [] pos) env) Q E := fun tk => Call_ (wpAny_mono (x tk) (fun a s' ⟨h', tk', e, q⟩ => by subst e; exact q tk') fun _ _ y => y) he
theorem w_args_nil {pos : Pos} {Q : List Value → Heap → Prop} (q : Q [] h) : W c h (spliced (backTo pos (starEach [] env))) Q E := fun tk => spliced_nil ⟨h, tk, rfl, q⟩
theorem w_args {e : Expr} {rest : List Expr} {pos : Pos} {Q : List Value → Heap → Prop} (x : W c h (eval e env) (fun v h₁ => W c h₁ (spliced (backTo pos (starEach rest env))) (fun vs h₂ => Q (v :: vs) h₂) E) E)
    (he : starEach (e :: rest) env = (false, eval e env) :: starEach rest env := by rfl) : W c h (spliced (backTo pos (starEach (e :: rest) env))) Q E := fun tk =>
  args_cons (wpAny_mono (x tk) (fun a s' ⟨h', tk', e, q⟩ => by subst e; exact wpAny_mono (q tk') (fun vs s' ⟨h', tk', e, q⟩ => ⟨h', tk', e, q⟩) fun _ _ y => y) fun _ _ y => y) he
theorem w_with_bi {pos : Pos} {id : String} {e : Expr} {rest : List Expr} {Q : Value → Heap → Prop} (x : W c h (spliced (backTo pos (starEach (e :: rest) env))) (fun vs h₁ => W c h₁ (call (.builtin id) vs) Q E) E)
    (he : starEach (e :: rest) env = (false, eval e env) :: starEach rest env := by rfl) (hplain : (backTo pos (starEach rest env)).any (·.1) = false := by rfl) :
    W c h (callWith pos (.builtin id) [] (backTo pos (starEach (e :: rest) env)) []) Q E := fun tk =>
  PyProof.Rows.callWith_builtin1 (wpAny_mono (x tk) (fun a s' ⟨h', tk', e, q⟩ => by subst e; exact q tk') fun _ _ y => y) he hplain
theorem w_with_def {pos : Pos} {f : Addr} {o : Obj} {fd : FuncData} {e : Expr} {rest : List Expr} {Q : Value → Heap → Prop} (hdat : o.data = .func fd)
    (x : W c h (spliced (backTo pos (starEach (e :: rest) env))) (fun vs h₁ => h₁.get? f = some o ∧ W c h₁ (call (.ref f) vs) Q E) E)
    (he : starEach (e :: rest) env = (false, eval e env) :: starEach rest env := by rfl) : W c h (callWith pos (.ref f) [] (backTo pos (starEach (e :: rest) env)) []) Q E := fun tk =>
  callWith_def hdat (wpAny_mono (x tk) (fun a s' ⟨h', tk', e, q⟩ => by subst e; exact ⟨q.1, q.2 tk'⟩) fun _ _ y => y) he

/-- a global name -/
theorem w_glob {x : Str} {pos : Pos} {mg : Str → Option Value} {v : Value} {Q : Value → Heap → Prop} (G : h.Ns mainGlobals mg) (hv : mg x = some v) (q : Q v h) (hk : sc.kind = .function := by rfl)
    (hx : (envOf nm sc L a cd).kindOf x = some .globalImplicit := by rfl) (hd : (x == ("__debug__" : Str)) = false := by decide) : W c h (eval (.Name x pos) (envOf nm sc L a cd)) Q E := fun tk =>
  Name_function_global hk hx (loadGlobal_global (env := envOf nm sc L a cd) G hv ⟨h, tk, rfl, q⟩) hd
theorem w_blt {x : Str} {pos : Pos} {mg mb : Str → Option Value} {v : Value} {Q : Value → Heap → Prop} (G : h.Ns mainGlobals mg) (B : h.Ns builtinsNs mb) (hm : mg x = none) (hv : mb x = some v) (q : Q v h) (hk : sc.kind = .function := by rfl)
    (hx : (envOf nm sc L a cd).kindOf x = some .globalImplicit := by rfl) (hd : (x == ("__debug__" : Str)) = false := by decide) : W c h (eval (.Name x pos) (envOf nm sc L a cd)) Q E := fun tk =>
  Name_function_global hk hx (loadGlobal_builtin (env := envOf nm sc L a cd) G hm B hv ⟨h, tk, rfl, q⟩) hd

/-- a slice of a text: x[i:j], x[i:], x[:j] -/
theorem w_slice_ss {value lo up : Expr} {p pos : Pos} {Q : Value → Heap → Prop} (x : W c h (eval value env) (fun o h₁ => W c h₁ (eval lo env) (fun l h₂ => W c h₂ (eval up env) (fun u h₃ =>
      ∃ x t i ti j tj, o = .str x t ∧ l = .int i ti ∧ u = .int j tj ∧ x.length ≤ sizeLine ∧ ∀ h' t', Keep h₃ h' → Q (.str (Txt.slice x (some i) (some j)) t') h') E) E) E)
    (ht : ∀ o r, letTemporaryGo value o r = pure () := by intro _ _; rfl) : W c h (eval (.Subscript value (.Slice (some lo) (some up) none p) pos) env) Q E := fun tk => by
  refine wpAny_Subscript_str_slice (wpAny_mono (x tk) (fun o s' ⟨h', tk', e, q⟩ => ?_) fun _ _ y => y) ht
  subst e
  refine wpAny_mono (q tk') (fun l s' ⟨h', tk', e, q⟩ => ?_) fun _ _ y => y
  subst e
  refine wpAny_mono (q tk') (fun u s' ⟨h', tk', e, q⟩ => ?_) fun _ _ y => y
  subst e
  obtain ⟨x, t, i, ti, j, tj, rfl, rfl, rfl, hsz, q⟩ := q
  exact ⟨x, t, some (i, ti), some (j, tj), rfl, rfl, rfl, post_val_or_str ⟨Nat.le_trans (Txt.slice_le x _ _) hsz, fun t' k => ⟨_, k, rfl, q _ _ (Keep.push _ _)⟩⟩⟩
theorem w_slice_sn {value lo : Expr} {p pos : Pos} {Q : Value → Heap → Prop} (x : W c h (eval value env) (fun o h₁ => W c h₁ (eval lo env) (fun l h₂ =>
      ∃ x t i ti, o = .str x t ∧ l = .int i ti ∧ x.length ≤ sizeLine ∧ ∀ h' t', Keep h₂ h' → Q (.str (Txt.slice x (some i) none) t') h') E) E)
    (ht : ∀ o r, letTemporaryGo value o r = pure () := by intro _ _; rfl) : W c h (eval (.Subscript value (.Slice (some lo) none none p) pos) env) Q E := fun tk => by
  refine wpAny_Subscript_str_slice (wpAny_mono (x tk) (fun o s' ⟨h', tk', e, q⟩ => ?_) fun _ _ y => y) ht
  subst e
  refine wpAny_mono (q tk') (fun l s' ⟨h', tk', e, q⟩ => ?_) fun _ _ y => y
  subst e
  obtain ⟨x, t, i, ti, rfl, rfl, hsz, q⟩ := q
  rw [evalPart_none]
  exact wpAny_pure ⟨x, t, some (i, ti), none, rfl, rfl, rfl, post_val_or_str ⟨Nat.le_trans (Txt.slice_le x _ _) hsz, fun t' k => ⟨_, k, rfl, q _ _ (Keep.push _ _)⟩⟩⟩
theorem w_slice_ns {value up : Expr} {p pos : Pos} {Q : Value → Heap → Prop} (x : W c h (eval value env) (fun o h₁ => W c h₁ (eval up env) (fun u h₃ =>
      ∃ x t j tj, o = .str x t ∧ u = .int j tj ∧ x.length ≤ sizeLine ∧ ∀ h' t', Keep h₃ h' → Q (.str (Txt.slice x none (some j)) t') h') E) E)
    (ht : ∀ o r, letTemporaryGo value o r = pure () := by intro _ _; rfl) : W c h (eval (.Subscript value (.Slice none (some up) none p) pos) env) Q E := fun tk => by
  refine wpAny_Subscript_str_slice (wpAny_mono (x tk) (fun o s' ⟨h', tk', e, q⟩ => ?_) fun _ _ y => y) ht
  subst e
  rw [evalPart_none]
  refine wpAny_pure ?_
  refine wpAny_mono (q tk') (fun u s' ⟨h', tk', e, q⟩ => ?_) fun _ _ y => y
  subst e
  obtain ⟨x, t, j, tj, rfl, rfl, hsz, q⟩ := q
  exact ⟨x, t, none, some (j, tj), rfl, rfl, rfl, post_val_or_str ⟨Nat.le_trans (Txt.slice_le x _ _) hsz, fun t' k => ⟨_, k, rfl, q _ _ (Keep.push _ _)⟩⟩⟩

/-- a while, by an invariant with a measure; the turn's end is the invariant again or the loop's end -/
theorem w_while {test : Expr} {body : List Stmt} {pos : Pos} {Q : Flow → Heap → Prop} (I : Nat → Heap → Prop)
    (turn : ∀ n h, I n h → W c h (isTrue test env (eval test env)) (fun b h' => if b = true then W c h' (execs body env) (fun f h'' => match f with | .next | .cont => ∃ m, m < n ∧ I m h'' | .brk => Q .next h'' | .ret v => Q (.ret v) h'') (fun _ _ => False) else Q .next h') (fun _ _ => False))
    (n : Nat) (i : I n h) : W c h (exec (.While test body [] pos) env) Q E := fun tk => by
  refine wpAny_While ?_
  refine codeAny_whileLoop (R := fun r s' => match r with | .ok f => ∃ h' tk', s' = c.st h' tk' ∧ Q f h' | .error e => cameBackBy _ _ env (fun e s' => ∃ h' tk', s' = c.st h' tk' ∧ E e h') e s')
    (fun n s => ∃ h tk, s = c.st h tk ∧ I n h) (fun n s ⟨h, tk, e, i⟩ => ?_) n ⟨h, tk, rfl, i⟩
  subst e
  refine wpAny_mono (turn n h i tk) (fun b s' ⟨h', tk', e, q⟩ => ?_) (fun _ _ ⟨_, _, _, y⟩ => y.elim)
  subst e
  cases b with
  | false =>
    simp only [Bool.false_eq_true, if_false] at q ⊢
    exact wpAny_execs_nil ⟨h', tk', rfl, q⟩
  | true =>
    simp only [if_true] at q ⊢
    refine wpAny_mono (q tk') (fun f s' ⟨h'', tk'', e, q⟩ => ?_) (fun _ _ ⟨_, _, _, y⟩ => y.elim)
    subst e
    cases f with
    | next => obtain ⟨m, hm, i⟩ := q; exact ⟨m, hm, h'', tk'', rfl, i⟩
    | cont => obtain ⟨m, hm, i⟩ := q; exact ⟨m, hm, h'', tk'', rfl, i⟩
    | brk => exact ⟨h'', tk'', rfl, q⟩
    | ret v => exact ⟨h'', tk'', rfl, q⟩
end
end Mine
end
section
open PySem PySem.Calls PyProof.Rows
set_option maxRecDepth 100000
set_option linter.all false
namespace Mine
theorem lookup_append_one {α β : Type} [BEq α] (l : List (α × β)) (p : α) (a : β) (x : α) : (l ++ [(p, a)]).lookup x = (l.lookup x).or (if (x == p) = true then some a else none) := by
  induction l with
  | nil => simp only [List.nil_append, List.lookup_nil, Option.none_or]; rw [List.lookup_cons]; cases x == p <;> simp
  | cons y l ih =>
    obtain ⟨k, v⟩ := y
    rw [List.cons_append, List.lookup_cons, List.lookup_cons]
    cases x == k with
    | true => simp
    | false => simpa using ih
theorem idxOf_none {ns : List Str} {x : Str} (h : x ∉ ns) : ns.idxOf? x = none := by
  induction ns with
  | nil => rfl
  | cons y ns ih =>
    rw [List.mem_cons, not_or] at h
    have : (y == x) = false := by simpa using fun e => h.1 e.symm
    rw [List.idxOf?_cons, this]
    simp [ih h.2]
theorem idxOf_append_left {ps ls : List Str} {x : Str} {i : Nat} (h : ps.idxOf? x = some i) : (ps ++ ls).idxOf? x = some i := by
  induction ps generalizing i with
  | nil => cases h
  | cons y ps ih =>
    rw [List.cons_append, List.idxOf?_cons]
    rw [List.idxOf?_cons] at h
    cases hy : (y == x) with
    | true => rw [hy] at h; simpa using h
    | false =>
      rw [hy] at h
      cases hq : ps.idxOf? x with
      | none => rw [hq] at h; simp at h
      | some j => rw [hq] at h; simp [ih hq] at h ⊢; exact h
theorem idxOf_append_right {ps ls : List Str} {x : Str} (h : ps.idxOf? x = none) : (ps ++ ls).idxOf? x = (ls.idxOf? x).map (· + ps.length) := by
  induction ps with
  | nil => simp
  | cons y ps ih =>
    rw [List.cons_append, List.idxOf?_cons]
    rw [List.idxOf?_cons] at h
    cases hy : (y == x) with
    | true => rw [hy] at h; simp at h
    | false =>
      rw [hy] at h
      cases hq : ps.idxOf? x with
      | some j => rw [hq] at h; simp at h
      | none =>
        simp only [ih hq, Bool.false_eq_true, if_false, List.length_cons, Option.map_map]
        congr 1
theorem lookup_rev {ps : List Str} (hd : ps.Nodup) : ∀ {as : List Value}, ps.length = as.length → ∀ x, ((ps.zip as).reverse.lookup x) = (match ps.idxOf? x with | some i => as[i]? | none => none) := by
  induction ps with
  | nil => intro as _ x; rfl
  | cons p ps ih =>
    intro as hl x
    cases as with
    | nil => cases hl
    | cons a as =>
      rw [List.nodup_cons] at hd
      rw [List.zip_cons_cons, List.reverse_cons, lookup_append_one, ih hd.2 (by simpa using hl)]
      by_cases hx : x = p
      · subst hx
        rw [idxOf_none hd.1, List.idxOf?_cons]
        simp
      · have h1 : (p == x) = false := by simpa using fun e => hx e.symm
        have h2 : (x == p) = false := by simpa using hx
        rw [List.idxOf?_cons, h1, h2]
        cases ps.idxOf? x with
        | none => simp
        | some j => simp
theorem frm_binds {ps ls : List Str} {as : List Value} (hd : (ps ++ ls).Nodup) (hl : ps.length = as.length) : (fun x => (ps.zip as).reverse.lookup x) = frm (ps ++ ls) (as.map some ++ ls.map fun _ => none) := by
  funext x
  rw [lookup_rev (List.nodup_append.mp hd).1 hl]
  unfold frm
  cases h : ps.idxOf? x with
  | some i =>
    rw [idxOf_append_left h]
    have hi : i < ps.length := by
      have := List.of_findIdx?_eq_some h
      cases hq : ps[i]? with
      | none => rw [hq] at this; exact absurd this (by simp)
      | some _ => exact (List.getElem?_eq_some_iff.mp hq).1
    have : i < (as.map some).length := by simpa [← hl] using hi
    simp only [List.getD, List.getElem?_append_left this, List.getElem?_map]
    cases as[i]? <;> rfl
  | none =>
    rw [idxOf_append_right h]
    cases hq : ls.idxOf? x with
    | none => rfl
    | some j =>
      simp only [Option.map_some, List.getD]
      rw [List.getElem?_append_right (by simp [hl])]
      simp only [List.length_map, hl, Nat.add_sub_cancel, List.getElem?_map]
      cases ls[j]? <;> rfl

def okB (ns : List Str) (sc : Scope) : Bool := decide ns.Nodup && (sc.kind == .function) && ns.all fun x => (sc.names.lookup x == some .local) && !(x == ("__debug__" : Str))
theorem FnOk.of {ns : List Str} {sc : Scope} (e : okB ns sc = true) : FnOk ns sc := by
  unfold okB at e
  simp only [Bool.and_eq_true, decide_eq_true_eq, List.all_eq_true, Bool.not_eq_true', beq_iff_eq] at e
  exact ⟨e.1.1, e.1.2, fun x hx => (e.2 x hx).1, fun x hx => (e.2 x hx).2⟩
def cellFree (sc : Scope) : Bool := sc.names.all fun x => !(x.2 == .cell)
theorem cellFree.of {sc : Scope} (e : cellFree sc = true) : ∀ x ∈ sc.names, x.2 ≠ .cell := fun x hx h => by
  have := List.all_eq_true.mp e x hx
  rw [h] at this
  cases this

def fbody (o : Obj) : List Stmt := match o.data with | .func fd => (match fd.body with | .stmts b => b | _ => []) | _ => []
def fscope (o : Obj) : Scope := match o.data with | .func fd => fd.scope | _ => { kind := .function, names := [], isGenerator := false, isCoroutine := false, more := [] }
def fparams (o : Obj) : Arguments := match o.data with | .func fd => fd.params | _ => ⟨[], [], none, [], [], none, []⟩
def fmod (o : Obj) : Value := match o.data with | .func fd => fd.pyModule | _ => .none
def fdoc (o : Obj) : Value := match o.data with | .func fd => fd.doc | _ => .none

theorem wc_def {c : Cx} {h : Heap} {E : Value → Heap → Prop} {R : Value → Heap → Prop} {name : Str} {params : Arguments} {body : List Stmt} {scope : Scope} {pm cd doc : Value} {a : Addr} {o : Obj} {args : List Value} {ps ls : List Str}
    (X : FnOk (ps ++ ls) scope) (hroom : c.A.depth < recursionLimit) (ho : h.get? a = some o) (hdata : o.data = .func (Calls.docDef name params body scope pm cd doc)) (hlim : h.NoLimit) (hcd : h.CodeRec cd name)
    (hbind : bindArgs (Calls.docDef name params body scope pm cd doc) ⟨args, []⟩ = pure (ps.zip args)) (hl : ps.length = args.length)
    (x : ∀ h₁ L, Fm h L (ps ++ ls) (args.map some ++ ls.map fun _ => none) h₁ → W { c with A := c.A.deeper (envOf name scope L a cd) } h₁ (execs body (envOf name scope L a cd))
      (fun f h' => R (match f with | .ret v => v | _ => .none) h') (fun _ _ => False))
    (hco : scope.isCoroutine = false) (hgen : scope.isGenerator = false) (hcell : cellFree scope = true) :
    WC c h (.call (.ref a) ⟨args, []⟩) R E := fun tk => by
  refine call_plain_ret (s := c.st h tk) hroom ho hdata hlim hcd hbind (fun y hy => X.loc y.1 (List.mem_append_left _ (List.of_mem_zip hy).1)) (fun h₁ F => ?_) hco hgen X.kind (cellFree.of hcell)
  rw [frm_binds X.nd hl] at F
  exact wpAny_mono (x h₁ _ F _) (fun f s' ⟨h', tk', e, q⟩ => ⟨h', tk', e, q⟩) (fun _ _ ⟨_, _, _, y⟩ => y)
end Mine
end
section
open PySem PySem.W PySem.Calls PyProof.Rows
set_option maxRecDepth 100000
set_option linter.all false
namespace Mine

theorem base_at {w : World} {h : Heap} {a : Nat} {o : Obj} (B : Base w h) (e : (top.tree_612 w.params).get a = some o) (ha : a < 552) (al : alive o = some o) : h.get? a = some o :=
  B a o (by unfold H1; rw [abs_get ha e, al])
theorem Base.mono {w : World} {h h' : Heap} (B : Base w h) (k : Keep h h') : Base w h' := fun b o e => k _ _ (B b o e)

noncomputable def entsOf (o : Obj) : Array DictEntry := match o.data with | .dict es _ => es | _ => #[]
def keysStr (es : Array DictEntry) : Bool := es.toList.all fun e => match e.key with | .str .. => true | _ => false
theorem strKeys_of {es : Array DictEntry} (e : keysStr es = true) : StrKeys es := fun d hd => by
  have := List.all_eq_true.mp e d (Array.mem_toList_iff.mpr hd)
  split at this
  · rename_i x t q; exact ⟨x, t, q⟩
  · cases this
noncomputable def mg0 (P : Params) : Str → Option Value := nsFind (entsOf (top.o_569 P))
noncomputable def mb0 (P : Params) : Str → Option Value := nsFind (entsOf (top.o_1 P))
theorem base_g {w : World} {h : Heap} (B : Base w h) : h.Ns mainGlobals (mg0 w.params) :=
  ⟨top.o_569 w.params, _, _, base_at (a := 3) B (by kernel_rfl) (by decide) (by kernel_rfl), rfl, strKeys_of (by kernel_rfl), fun _ => rfl⟩
theorem base_b {w : World} {h : Heap} (B : Base w h) : h.Ns builtinsNs (mb0 w.params) :=
  ⟨top.o_1 w.params, _, _, base_at (a := 0) B (by kernel_rfl) (by decide) (by kernel_rfl), rfl, strKeys_of (by kernel_rfl), fun _ => rfl⟩
theorem base_lim {w : World} {h : Heap} (B : Base w h) : h.NoLimit :=
  ⟨nsFind (entsOf (top.o_33 w.params)), ⟨top.o_33 w.params, _, _, base_at (a := 2) B (by kernel_rfl) (by decide) (by kernel_rfl), rfl, strKeys_of (by kernel_rfl), fun _ => rfl⟩, by kernel_rfl⟩

theorem b_len (P : Params) : mg0 P "len" = none ∧ mb0 P "len" = some (.builtin "len") := ⟨by kernel_rfl, by kernel_rfl⟩
theorem g_law_run (P : Params) : mg0 P "_law_run" = some (.ref 516) := by kernel_rfl

end Mine
end
section
open PySem PySem.W PySem.Calls PyProof.Rows
set_option maxRecDepth 100000
set_option linter.all false
namespace Mine

/-- how far a run goes -/
noncomputable def runLen (sg : List Nat) : List Nat → Nat
  | [] => 0
  | x :: xs => if x ∈ sg then runLen sg xs + 1 else 0
noncomputable def runEnd (x : Str) (sg : Str) (i : Nat) : Nat := i + runLen sg.cps.toList (x.cps.toList.drop i)
theorem drop_at {x : Str} {i k : Nat} (h : x.cps[i]? = some k) : x.cps.toList.drop i = k :: x.cps.toList.drop (i + 1) := by
  obtain ⟨hi, e⟩ := Array.getElem?_eq_some_iff.mp h
  rw [List.drop_eq_getElem_cons (by simpa using hi)]
  simp [e]
theorem runEnd_step {x sg : Str} {i k : Nat} (h : x.cps[i]? = some k) (hk : k ∈ sg.cps.toList) : runEnd x sg (i + 1) = runEnd x sg i := by
  unfold runEnd
  rw [drop_at h, runLen, if_pos hk]; omega
theorem runEnd_stop {x sg : Str} {i k : Nat} (h : x.cps[i]? = some k) (hk : k ∉ sg.cps.toList) : runEnd x sg i = i := by
  unfold runEnd
  rw [drop_at h, runLen, if_neg hk]; rfl
theorem runEnd_out {x sg : Str} {i : Nat} (h : x.length ≤ i) : runEnd x sg i = i := by
  unfold runEnd
  rw [List.drop_eq_nil_of_le (by simpa [Str.length] using h)]; rfl
theorem runLen_le (sg : List Nat) : ∀ l, runLen sg l ≤ l.length
  | [] => Nat.le_refl _
  | x :: xs => by
    unfold runLen
    have := runLen_le sg xs
    split <;> simp <;> omega
theorem runEnd_ge (x sg : Str) (i : Nat) : i ≤ runEnd x sg i := Nat.le_add_right _ _
theorem runEnd_le {x sg : Str} {i : Nat} (h : i ≤ x.length) : runEnd x sg i ≤ x.length := by
  unfold runEnd
  have := runLen_le sg.cps.toList (x.cps.toList.drop i)
  rw [List.length_drop] at this
  have e : x.cps.toList.length = x.length := by simp [Str.length]
  omega
theorem len_lt63 {x : Str} (h : x.length ≤ sizeLine) : (x.length : Int) < 2 ^ 63 := by
  have : sizeLine < 2 ^ 63 := by decide
  omega

def recOk (o : Obj) (q : Str) : Bool := match o.data with
  | .fields vs => (match vs[1]? with
    | some (Value.str x _) => decide (x = q)
    | _ => false)
  | _ => false
theorem cr_of {w : World} {h : Heap} {a : Nat} {q : Str} (o : Obj) (B : Base w h) (e : (top.tree_612 w.params).get a = some o) (ha : a < 552) (al : alive o = some o) (hd : recOk o q = true) : h.CodeRec (.ref a) q := by
  unfold recOk at hd
  split at hd
  · rename_i vs hv
    split at hd
    · rename_i x t hx
      exact ⟨a, o, vs, t, rfl, base_at B e ha al, hv, by rw [hx, of_decide_eq_true hd]⟩
    · cases hd
  · cases hd

theorem wc_at {c : Cx} {h : Heap} {E : Value → Heap → Prop} {R : Value → Heap → Prop} (name : Str) (ps ls : List Str) (a cd : Nat) (o oc : Obj) {args : List Value} (B : Base c.w h) (D : c.A.depth < recursionLimit)
    (e : (top.tree_612 c.w.params).get a = some o) (al : alive o = some o) (ec : (top.tree_612 c.w.params).get cd = some oc) (alc : alive oc = some oc) (hr : recOk oc name = true) (lt : a < 552 ∧ cd < 552)
    (hdata : o.data = .func (Calls.docDef name (fparams o) (fbody o) (fscope o) (fmod o) (.ref cd) (fdoc o))) (hok : okB (ps ++ ls) (fscope o) = true)
    (hbind : bindArgs (Calls.docDef name (fparams o) (fbody o) (fscope o) (fmod o) (.ref cd) (fdoc o)) ⟨args, []⟩ = pure (ps.zip args)) (hl : ps.length = args.length)
    (hco : (fscope o).isCoroutine = false) (hgen : (fscope o).isGenerator = false) (hcell : cellFree (fscope o) = true)
    (x : ∀ (c' : Cx) h₁ L, c'.w = c.w → c'.prog = c.prog → c'.A.depth = c.A.depth + 1 → c'.A.units = c.A.units + 3 → c'.A.handled = c.A.handled → c'.A.frames = c.A.frames.map (envOf name (fscope o) L a (.ref cd) :: ·) → Base c'.w h₁ → Keep h h₁ → Fm h L (ps ++ ls) (args.map some ++ ls.map fun _ => none) h₁ →
      W c' h₁ (execs (fbody o) (envOf name (fscope o) L a (.ref cd))) (fun f h' => R (match f with | .ret v => v | _ => .none) h') (fun _ _ => False)) : WC c h (.call (.ref a) ⟨args, []⟩) R E :=
  wc_def (FnOk.of hok) D (base_at B e lt.1 al) hdata (base_lim B) (cr_of oc B ec lt.2 alc hr) hbind hl (fun h₁ L F => x { c with A := c.A.deeper (envOf name (fscope o) L a (.ref cd)) } h₁ L rfl rfl rfl rfl rfl rfl (B.mono F.keep) F.keep F) hco hgen hcell

theorem wc_run {c : Cx} {h : Heap} (B : Base c.w h) (D : c.A.depth < recursionLimit) {text signs : Str} {t t1 t2 : Tok} {place : Nat} (hsz : text.length ≤ sizeLine) {Q : Value → Heap → Prop} {E : Value → Heap → Prop}
    (q : ∀ h' t', Keep h h' → Q (.str (Txt.slice text (some place) (some (runEnd text signs place))) t') h') : WC c h (.call (.ref 516) ⟨[.str text t, .int place t1, .str signs t2], []⟩) Q E := by
  refine wc_at "_law_run" ["text", "place", "signs"] ["end"] 516 515 (top.o_577 c.w.params) (top.o_576 c.w.params) B D (by kernel_rfl) (by kernel_rfl) (by kernel_rfl) (by kernel_rfl) (by kernel_rfl) (by decide) (by kernel_rfl) (by kernel_rfl) (by kernel_rfl) rfl (by kernel_rfl) (by kernel_rfl) (by kernel_rfl) ?_
  have X : FnOk (([("text" : Str), "place", "signs"] : List Str) ++ [("end" : Str)]) (fscope (top.o_577 c.w.params)) := FnOk.of (by kernel_rfl)
  intro c' h₁ L hw hp' hdp hun hhd hfr B₁ K₁ F
  refine w_cons (w_assign (w_loc X F.ns (i := 1) rfl rfl (w_store X F.ns (i := 3) rfl rfl fun h₂ N₂ k₂ => ?_)))
  refine w_cons (w_while (fun n g => ∃ e : Nat, ∃ te, n = text.length - e ∧ runEnd text signs e = runEnd text signs place ∧ Fm h L ([("text" : Str), "place", "signs"] ++ [("end" : Str)]) [some (.str text t), some (.int place t1), some (.str signs t2), some (.int e te)] g) ?_ _ ⟨place, t1, rfl, rfl, F.put N₂ k₂⟩)
  rintro n g ⟨e, te, hn, he, F⟩
  refine w_tand (w_tcmp (w_loc X F.ns (i := 3) rfl rfl (w_callN (w_blt (base_g (hw ▸ B.mono F.keep)) (base_b (hw ▸ B.mono F.keep)) (b_len _).1 (b_len _).2 (w_with_bi (w_args (w_loc X F.ns (i := 0) rfl rfl (w_args_nil (w_len ?_ fun tk => w_lt (w_tbool ?_))))))))))
  · exact len_lt63 hsz
  by_cases hlt : e < text.length
  · have hd : decide ((e : Int) < text.length) = true := by simpa using hlt
    rw [hd, if_pos rfl]
    have hc : text.cps[e]? = some (text.cps[e]'hlt) := Array.getElem?_eq_getElem hlt
    refine w_tcmp (w_sub (w_loc X F.ns (i := 0) rfl rfl (w_loc X F.ns (i := 3) rfl rfl (w_item_str (k := text.cps[e]'hlt) (by omega) (by have := len_lt63 hsz; omega) hc fun t' => w_loc X F.ns (i := 2) rfl rfl (w_in_char (w_tbool ?_))))))
    by_cases hk : text.cps[e]'hlt ∈ signs.cps.toList
    · rw [decide_eq_true hk, if_pos rfl]
      refine w_cons (w_aug (w_locN X F.ns (i := 3) rfl rfl (w_int fun t1 => w_iadd fun t2 => w_store X F.ns (i := 3) rfl rfl fun h₃ N₃ k₃ => ?_)))
      exact w_nil ⟨text.length - (e + 1), by omega, e + 1, t2, rfl, (runEnd_step hc hk).trans he, F.put N₃ k₃⟩
    · rw [decide_eq_false hk, if_neg Bool.false_ne_true]
      refine w_cons (w_return (w_slice_ss (w_loc X F.ns (i := 0) rfl rfl (w_loc X F.ns (i := 1) rfl rfl (w_loc X F.ns (i := 3) rfl rfl ⟨_, _, _, _, _, _, rfl, rfl, rfl, hsz, fun h' t' k => ?_⟩)))))
      rw [← (runEnd_stop hc hk).symm.trans he] at q
      exact q h' t' (Keep.trans F.keep k)
  · have hd : decide ((e : Int) < text.length) = false := by simpa using hlt
    rw [hd, if_neg Bool.false_ne_true, if_neg Bool.false_ne_true]
    refine w_cons (w_return (w_slice_ss (w_loc X F.ns (i := 0) rfl rfl (w_loc X F.ns (i := 1) rfl rfl (w_loc X F.ns (i := 3) rfl rfl ⟨_, _, _, _, _, _, rfl, rfl, rfl, hsz, fun h' t' k => ?_⟩)))))
    rw [← (runEnd_out (Nat.le_of_not_lt hlt)).symm.trans he] at q
    exact q h' t' (Keep.trans F.keep k)
end Mine
end
section
open PySem PySem.Calls PyProof.Rows
set_option maxRecDepth 100000
set_option linter.all false
namespace Mine
section
variable {c : Cx} {h h₀ : Heap} {E : Value → Heap → Prop} {L a : Addr} {ns : List Str} {vs : List (Option Value)} {nm : Str} {sc : Scope} {cd : Value} {env : Env}

/-- the tree of a leaf that may not come back from a raised end -/
theorem wpx {α : Type} {t : Sem α} {P : α → Shared → Prop} {F G : Value → Shared → Prop} {s : Shared} (x : wpAny (model c.prog c.w) c.A t P F s) (e : F = G) : wpAny (model c.prog c.w) c.A t P G s := e ▸ x

theorem w_eq_str {x y : Str} {t u : Tok} {Q : Value → Heap → Prop} (q : Q (.bool (decide (x = y))) h) : W c h (compareOp .Eq (.str x t) (.str y u)) Q E := fun tk =>
  PyProof.Rows.eq_str ⟨h, tk, rfl, by rw [show (x == y) = decide (x = y) from rfl]; exact q⟩
theorem w_ne_str {x y : Str} {t u : Tok} {Q : Value → Heap → Prop} (q : Q (.bool (!decide (x = y))) h) : W c h (compareOp .NotEq (.str x t) (.str y u)) Q E := fun tk =>
  PyProof.Rows.ne_str ⟨h, tk, rfl, by rw [show (x != y) = !decide (x = y) from rfl]; exact q⟩
theorem w_eq_int {x y : Int} {t u : Tok} {Q : Value → Heap → Prop} (q : Q (.bool (decide (x = y))) h) : W c h (compareOp .Eq (.int x t) (.int y u)) Q E := fun tk =>
  PyProof.Rows.eq_int ⟨h, tk, rfl, by rw [show (x == y) = decide (x = y) from rfl]; exact q⟩
theorem w_gt_int {x y : Int} {t u : Tok} {Q : Value → Heap → Prop} (q : Q (.bool (decide (y < x))) h) : W c h (compareOp .Gt (.int x t) (.int y u)) Q E := fun tk => PyProof.Rows.gt_int ⟨h, tk, rfl, q⟩
theorem w_add_int {x y : Int} {t u : Tok} {Q : Value → Heap → Prop} (q : ∀ tk, Q (.int (x + y) tk) h) : W c h (binaryOp .Add (.int x t) (.int y u)) Q E := fun tk => PyProof.Rows.add_int ⟨h, _, rfl, q _⟩
theorem w_sub_int {x y : Int} {t u : Tok} {Q : Value → Heap → Prop} (q : ∀ tk, Q (.int (x - y) tk) h) : W c h (binaryOp .Sub (.int x t) (.int y u)) Q E := fun tk => PyProof.Rows.sub_int ⟨h, _, rfl, q _⟩
theorem w_mod_int {x y : Int} {t u : Tok} {Q : Value → Heap → Prop} (hb : y ≠ 0) (q : ∀ tk, Q (.int (x.fmod y) tk) h) : W c h (binaryOp .Mod (.int x t) (.int y u)) Q E := fun tk => PyProof.Rows.mod_int hb ⟨h, _, rfl, q _⟩
theorem w_add_str {x y : Str} {t u : Tok} {Q : Value → Heap → Prop} (hsz : x.length + y.length ≤ sizeLine) (q : ∀ tk, Q (.str (x ++ y) tk) h) : W c h (binaryOp .Add (.str x t) (.str y u)) Q E := fun tk =>
  SB.add (fun t' k => ⟨h, _, rfl, q _⟩) hsz
theorem w_iadd_str {x y : Str} {t u : Tok} {Q : Value → Heap → Prop} (hsz : x.length + y.length ≤ sizeLine) (q : ∀ tk, Q (.str (x ++ y) tk) h) : W c h (inplaceOp .Add (.str x t) (.str y u)) Q E := fun tk =>
  SB.iadd (fun t' k => ⟨h, _, rfl, q _⟩) hsz
theorem w_is_none {v : Value} {Q : Value → Heap → Prop} (q : Q (.bool (v == .none)) h) : W c h (compareOp .Is v .none) Q E := fun tk => is_none ⟨h, tk, rfl, q⟩
theorem w_isnot_none {v : Value} {Q : Value → Heap → Prop} (q : Q (.bool (!(v == .none))) h) : W c h (compareOp .IsNot v .none) Q E := fun tk => isNot_none ⟨h, tk, rfl, q⟩

theorem w_tnot {x : Expr} {pos : Pos} {whole : Sem Value} {Q : Bool → Heap → Prop} (y : W c h (isTrue x env (eval x env)) (fun b h' => Q (!b) h') E) : W c h (isTrue (.UnaryOp .Not x pos) env whole) Q E := fun tk =>
  wpAny_isTrue_Not (wpAny_mono (y tk) (fun b s' ⟨h', tk', e, q⟩ => ⟨h', tk', e, q⟩) fun _ _ y => y)
theorem w_tval {e : Expr} {whole : Sem Value} {Q : Bool → Heap → Prop} (y : W c h whole (fun v h' => W c h' (truthy v) Q E) E)
    (hs : isTrue e env whole = (do let v ← whole; standAt e.pos; holding [v] (truthy v)) := by rfl) : W c h (isTrue e env whole) Q E :=
  W_eq hs (W_bind (W_mono y (fun v h' q => W_at (W_holding q)) fun _ _ y => y))
theorem w_tstr {x : Str} {t : Tok} {Q : Bool → Heap → Prop} (hx : (x.length : Int) < 2 ^ 63) (q : Q ((x.length : Int) != 0) h) : W c h (truthy (.str x t)) Q E := fun tk => P.truthy_str (by omega) ⟨h, _, rfl, q⟩
theorem w_tnone {Q : Bool → Heap → Prop} (q : Q false h) : W c h (truthy .none) Q E := fun tk => wpAny_pure ⟨h, tk, rfl, q⟩
theorem w_tlist {l : Addr} {items : Array Value} {Q : Bool → Heap → Prop} (hl : h.IsList l items) (hfit : (items.size : Int) < 2 ^ 63) (q : Q (!items.isEmpty) h) : W c h (truthy (.ref l)) Q E := fun tk =>
  wpAny_truthy_list (s := c.st h tk) hl hfit ⟨h, _, rfl, q⟩
theorem w_tboolop {op : BoolOp} {es : List Expr} {pos : Pos} {whole : Sem Value} {Q : Bool → Heap → Prop} (y : W c h (allTrue op es env) Q E) : W c h (isTrue (.BoolOp op es pos) env whole) Q E := y
theorem w_and_nil {Q : Bool → Heap → Prop} (q : Q true h) : W c h (allTrue .And [] env) Q E := W_pure q
theorem w_or_nil {Q : Bool → Heap → Prop} (q : Q false h) : W c h (allTrue .Or [] env) Q E := W_pure q
theorem w_and {x : Expr} {rest : List Expr} {Q : Bool → Heap → Prop} (y : W c h (isTrue x env (eval x env)) (fun b h' => if b = true then W c h' (allTrue .And rest env) Q E else Q false h') E) : W c h (allTrue .And (x :: rest) env) Q E := by
  show W c h (do match BoolOp.And, ← isTrue x env (eval x env) with | .And, false => pure false | .Or, true => pure true | _, _ => allTrue .And rest env) Q E
  refine W_bind (W_mono y (fun b h' q => ?_) fun _ _ y => y)
  cases b with
  | false => exact W_pure (by simpa using q)
  | true => simpa using q
theorem w_or {x : Expr} {rest : List Expr} {Q : Bool → Heap → Prop} (y : W c h (isTrue x env (eval x env)) (fun b h' => if b = true then Q true h' else W c h' (allTrue .Or rest env) Q E) E) : W c h (allTrue .Or (x :: rest) env) Q E := by
  show W c h (do match BoolOp.Or, ← isTrue x env (eval x env) with | .And, false => pure false | .Or, true => pure true | _, _ => allTrue .Or rest env) Q E
  refine W_bind (W_mono y (fun b h' q => ?_) fun _ _ y => y)
  cases b with
  | true => exact W_pure (by simpa using q)
  | false => simpa using q
theorem w_ifexp {test x y : Expr} {pos : Pos} {Q : Value → Heap → Prop} (z : W c h (isTrue test env (eval test env)) (fun b h' => if b = true then W c h' (eval x env) Q E else W c h' (eval y env) Q E) E) : W c h (eval (.IfExp test x y pos) env) Q E := by
  show W c h (do if ← isTrue test env (eval test env) then eval x env else eval y env) Q E
  refine W_bind (W_mono z (fun b h' q => ?_) fun _ _ y => y)
  cases b <;> simpa using q
theorem w_tifexp {test x y : Expr} {pos : Pos} {whole : Sem Value} {Q : Bool → Heap → Prop} (z : W c h (isTrue test env (eval test env)) (fun b h' => if b = true then W c h' (isTrue x env (eval x env)) Q E else W c h' (isTrue y env (eval y env)) Q E) E) : W c h (isTrue (.IfExp test x y pos) env whole) Q E := by
  show W c h (do if ← isTrue test env (eval test env) then isTrue x env (eval x env) else isTrue y env (eval y env)) Q E
  refine W_bind (W_mono z (fun b h' q => ?_) fun _ _ y => y)
  cases b <;> simpa using q
/-- a branch: what is kept, and what the test says -/
theorem w_if' (P : Prop) (I : Heap → Prop) {test : Expr} {body orelse : List Stmt} {pos : Pos} {Q : Flow → Heap → Prop} (x : W c h (isTrue test env (eval test env)) (fun b h' => I h' ∧ (b = true ↔ P)) E)
    (t : P → ∀ h', I h' → W c h' (execs body env) Q E) (f : ¬P → ∀ h', I h' → W c h' (execs orelse env) Q E) : W c h (exec (.If test body orelse pos) env) Q E :=
  w_if (W_mono x (fun b h' ⟨i, e⟩ => by
    cases b with
    | true => rw [if_pos rfl]; exact t (e.mp rfl) h' i
    | false => rw [if_neg Bool.false_ne_true]; exact f (fun p => Bool.false_ne_true (e.mpr p)) h' i) fun _ _ y => y)
theorem w_ifexp' (P : Prop) (I : Heap → Prop) {test x y : Expr} {pos : Pos} {Q : Value → Heap → Prop} (z : W c h (isTrue test env (eval test env)) (fun b h' => I h' ∧ (b = true ↔ P)) E)
    (t : P → ∀ h', I h' → W c h' (eval x env) Q E) (f : ¬P → ∀ h', I h' → W c h' (eval y env) Q E) : W c h (eval (.IfExp test x y pos) env) Q E :=
  w_ifexp (W_mono z (fun b h' ⟨i, e⟩ => by
    cases b with
    | true => rw [if_pos rfl]; exact t (e.mp rfl) h' i
    | false => rw [if_neg Bool.false_ne_true]; exact f (fun p => Bool.false_ne_true (e.mpr p)) h' i) fun _ _ y => y)
theorem w_tcmp' (P : Prop) {b : Bool} {Q : Bool → Heap → Prop} {v : Value} (e : v = .bool b) (q : Q b h) : W c h (truthy v) Q E := by subst e; exact w_tbool q
theorem w_expr {e : Expr} {pos : Pos} {Q : Flow → Heap → Prop} (y : W c h (eval e env) (fun v h' => v = .none ∧ Q .next h') E) (ht : swapsWith e none pos.line env = pure false := by with_unfolding_all rfl) (hi : interactive env = false := by rfl) : W c h (exec (.Expr e pos) env) Q E := fun tk =>
  wpAny_Expr (wpAny_mono (y tk) (fun v s' ⟨h', tk', e, hv, q⟩ => by subst hv; exact ⟨h', tk', e, q⟩) fun _ _ y => y) hi ht
end
end Mine
end
section
open PySem PySem.Calls PyProof.Rows
set_option maxRecDepth 100000
set_option linter.all false
namespace Mine

/-- a list object -/
def Lst (h : Heap) (a : Addr) (its : List Value) : Prop := ∃ n, IsL h a its.toArray n
theorem Lst.isList {h : Heap} {a : Addr} {its : List Value} (x : Lst h a its) : h.IsList a its.toArray := let ⟨n, e⟩ := x; e.isList
theorem Lst.but {h h' : Heap} {a b : Addr} {its : List Value} (x : Lst h a its) (k : KeepBut b h h') (ne : a ≠ b) : Lst h' a its := let ⟨n, e⟩ := x; ⟨n, k _ _ ne e⟩
theorem Lst.keep {h h' : Heap} {a : Addr} {its : List Value} (x : Lst h a its) (k : Keep h h') : Lst h' a its := let ⟨n, e⟩ := x; ⟨n, k _ _ e⟩
theorem Lst.lt {h : Heap} {a : Addr} {its : List Value} (x : Lst h a its) : a < h.objs.size := let ⟨n, e⟩ := x; Heap.lt_size e
theorem update_but (h : Heap) (l : Addr) (f : Obj → Obj) : KeepBut l h (h.update l f) := fun b o ne e => (Heap.get?_update_other h f (Ne.symm ne)).trans e

theorem Lst.typeIs {s : Shared} {a : Addr} {its : List Value} (x : Lst s.heap a its) : s.TypeIs (.ref a) "list" := x.isList.typeIs
theorem Lst.noDict {h : Heap} {a : Addr} {its : List Value} (x : Lst h a its) : ∀ b, Value.ref a = .ref b → ∃ ob, h.get? b = some ob ∧ ob.dict = none := fun b eb => by
  cases eb; obtain ⟨n, e⟩ := x; exact ⟨_, e, rfl⟩
theorem Lst.app {h : Heap} {a : Addr} {its : List Value} {n : Nat} (x : IsL h a its.toArray n) (v : Value) : Lst (h.update a (Obj.mapSeq fun xs => xs.push v)) a (its ++ [v]) := by
  have := x.update (fun xs => xs.push v)
  rw [show its.toArray.push v = (its ++ [v]).toArray by simp] at this
  exact ⟨_, this⟩
theorem Lst.cut {h : Heap} {a : Addr} {its : List Value} {v : Value} {n : Nat} (x : IsL h a (its ++ [v]).toArray n) : Lst (h.update a (Obj.mapSeq fun xs => xs.eraseIdxIfInBounds ((its ++ [v]).toArray.size - 1))) a its := by
  have := x.update (fun xs => xs.eraseIdxIfInBounds ((its ++ [v]).toArray.size - 1))
  rw [show (its ++ [v]).toArray.eraseIdxIfInBounds ((its ++ [v]).toArray.size - 1) = its.toArray by simp [List.eraseIdx_append_of_length_le]] at this
  exact ⟨_, this⟩

section
variable {c : Cx} {h h₀ : Heap} {E : Value → Heap → Prop} {L a : Addr} {ns : List Str} {vs : List (Option Value)} {nm : Str} {sc : Scope} {cd : Value} {env : Env}

theorem w_tuple {elts : List Expr} {k : Nat} {pos : Pos} {Q : Value → Heap → Prop} (x : W c h (spliced (backTo pos (starEach elts env))) (fun vs h₁ => Nat.ble vs.length 64 = true ∧ ∀ a h', Keep h₁ h' → New h₁ a → h'.IsTuple a vs.toArray → Q (.ref a) h') E) :
    W c h (eval (.Tuple elts k pos) env) Q E := fun tk =>
  wpAny_Tuple_spliced (wpAny_mono (x tk) (fun vs s' ⟨h', tk', e, hl, q⟩ => by
    subst e
    exact ⟨Nat.le_trans (Nat.le_of_ble_eq_true hl) (by decide), _, tk', rfl, q _ _ (Keep.push _ _) (New.of_le (Nat.le_refl _)) ⟨_, Heap.get?_push_size _ rfl, rfl, 0, rfl⟩⟩) fun _ _ y => y)
theorem w_list {elts : List Expr} {pos : Pos} {Q : Value → Heap → Prop} (x : W c h (spliced (backTo pos (starEach elts env))) (fun vs h₁ => Nat.ble vs.length 64 = true ∧ ∀ a h', Keep h₁ h' → New h₁ a → Lst h' a vs → Q (.ref a) h') E) :
    W c h (eval (.List elts pos) env) Q E := fun tk =>
  wpAny_List_spliced (wpAny_mono (x tk) (fun vs s' ⟨h', tk', e, hl, q⟩ => by
    subst e
    exact ⟨Nat.le_trans (Nat.le_of_ble_eq_true hl) (by decide), _, tk', rfl, q _ _ (Keep.push _ _) (New.of_le (Nat.le_refl _)) ⟨0, IsL.new _ _⟩⟩) fun _ _ y => y)
theorem w_add_list {l b : Addr} {xs ys : List Value} {Q : Value → Heap → Prop} (hl : Lst h l xs) (hb : Lst h b ys) (hsz : xs.length + ys.length ≤ sizeLine) (q : ∀ a h', Keep h h' → New h a → Lst h' a (xs ++ ys) → Q (.ref a) h') :
    W c h (binaryOp .Add (.ref l) (.ref b)) Q E := fun tk => by
  obtain ⟨n, hl⟩ := hl
  obtain ⟨m, hb⟩ := hb
  refine P.add_list (s := c.st h tk) hl hb ⟨_, tk, rfl, q _ _ (Keep.push _ _) (New.of_le (Nat.le_refl _)) ⟨0, ?_⟩⟩ (by simpa using hsz)
  have := IsL.new h (xs.toArray ++ ys.toArray)
  simpa using this

theorem w_meth0 {o : Expr} {name : Str} {apos pos : Pos} {T id : String} {Q : Value → Heap → Prop} (pa : PlainAttrs T) (slot : Slot T name id) (hty : typeOf (.builtin id) = pure (.type "method_descriptor"))
    (x : W c h (eval o env) (fun ov h₁ => (∀ s : Shared, s.heap = h₁ → s.TypeIs ov T) ∧ (∀ a, ov = .ref a → ∃ ob, h₁.get? a = some ob ∧ ob.dict = none) ∧ W c h₁ (callWith pos (.builtin id) [ov] [] []) Q E) E)
    (hbase : attributeBase o name env (eval o env) = eval o env := by rfl) (hline : (apos.endLine == pos.line) = true := by rfl) : W c h (eval (.Call (.Attribute o name apos) [] [] pos) env) Q E := fun tk =>
  wpAny_Call_method hbase rfl hline pa slot hty (wpAny_mono (x tk) (fun ov s' ⟨h', tk', e, hT, hd, q⟩ => by subst e; exact ⟨hT _ rfl, hd, q tk'⟩) fun _ _ y => y)
theorem w_meth {o e : Expr} {rest : List Expr} {name : Str} {apos pos : Pos} {T id : String} {Q : Value → Heap → Prop} (pa : PlainAttrs T) (slot : Slot T name id) (hty : typeOf (.builtin id) = pure (.type "method_descriptor"))
    (x : W c h (eval o env) (fun ov h₁ => (∀ s : Shared, s.heap = h₁ → s.TypeIs ov T) ∧ (∀ a, ov = .ref a → ∃ ob, h₁.get? a = some ob ∧ ob.dict = none) ∧
      W c h₁ (spliced (backTo pos (starEach (e :: rest) env))) (fun vs h₂ => W c h₂ (call (.builtin id) (ov :: vs)) Q E) E) E)
    (hbase : attributeBase o name env (eval o env) = eval o env := by rfl) (hline : (apos.endLine == pos.line) = true := by rfl)
    (hfew : ((backTo pos (starEach (e :: rest) env)).all (fun x => !x.1) && (backToKw pos (keywordEach [] env)).all (fun x => x.1.isSome)
      && decide ((e :: rest).length + ([] : List Keyword).length + (if ([] : List Keyword).isEmpty then 0 else 1) < 30)) = true := by rfl)
    (he : starEach (e :: rest) env = (false, eval e env) :: starEach rest env := by rfl) (hplain : (backTo pos (starEach (e :: rest) env)).any (·.1) = false := by rfl) :
    W c h (eval (.Call (.Attribute o name apos) (e :: rest) [] pos) env) Q E := fun tk =>
  wpAny_Call_method hbase hfew hline pa slot hty (wpAny_mono (x tk) (fun ov s' ⟨h', tk', e', hT, hd, q⟩ => by
    subst e'
    refine ⟨hT _ rfl, hd, ?_⟩
    refine PySem.Calls.callWith_builtin hplain ?_
    rw [he] at q ⊢
    refine PySem.Calls.evalArgs_plain (wpAny_mono (q tk') (fun vs s' ⟨h', tk', e, q⟩ => ?_) fun _ _ y => y)
    subst e
    exact q tk') fun _ _ y => y)
theorem w_append {o e : Expr} {apos pos : Pos} {Q : Value → Heap → Prop}
    (x : W c h (eval o env) (fun ov h₁ => ∃ D its, ov = .ref D ∧ Lst h₁ D its ∧ W c h₁ (eval e env) (fun v h₂ => ∃ its, Lst h₂ D its ∧ its.length ≤ sizeLine ∧ ∀ h', Lst h' D (its ++ [v]) → KeepBut D h₂ h' → Q .none h') E) E)
    (hbase : attributeBase o "append" env (eval o env) = eval o env := by rfl) (hline : (apos.endLine == pos.line) = true := by rfl)
    (hfew : ((backTo pos (starEach [e] env)).all (fun x => !x.1) && (backToKw pos (keywordEach [] env)).all (fun x => x.1.isSome)
      && decide (([e] : List Expr).length + ([] : List Keyword).length + (if ([] : List Keyword).isEmpty then 0 else 1) < 30)) = true := by rfl)
    (he : backTo pos (starEach [e] env) = [(false, eval e env)] := by rfl) :
    W c h (eval (.Call (.Attribute o "append" apos) [e] [] pos) env) Q E := fun tk =>
  wpAny_Call_method hbase hfew hline F.plainAttrs_list F.slot_list_append F.type_list_append (wpAny_mono (x tk) (fun ov s' ⟨h', tk', e', D, its, hv, hl, q⟩ => by
    subst e'
    subst hv
    refine ⟨Lst.typeIs hl, hl.noDict, ?_⟩
    rw [he]
    refine P.append_list (wpAny_mono (q tk') (fun v s' ⟨h', tk', e, its, hl, hsz, q⟩ => ?_) fun _ _ y => y)
    subst e
    obtain ⟨n, hl⟩ := hl
    exact ⟨its.toArray, n, by simpa using hsz, hl, _, tk', rfl, q _ (Lst.app hl v) (update_but _ _ _)⟩) fun _ _ y => y)
theorem w_pop {o : Expr} {apos pos : Pos} {Q : Value → Heap → Prop}
    (x : W c h (eval o env) (fun ov h₁ => ∃ D its v, ov = .ref D ∧ Lst h₁ D (its ++ [v]) ∧ its.length < sizeLine ∧ ∀ h', Lst h' D its → KeepBut D h₁ h' → Q v h') E)
    (hbase : attributeBase o "pop" env (eval o env) = eval o env := by rfl) (hline : (apos.endLine == pos.line) = true := by rfl) : W c h (eval (.Call (.Attribute o "pop" apos) [] [] pos) env) Q E :=
  w_meth0 F.plainAttrs_list F.slot_list_pop F.type_list_pop (W_mono x (fun ov h₁ ⟨D, its, v, hv, hl, hsz, q⟩ => by
    subst hv
    refine ⟨fun s es => Lst.typeIs (es ▸ hl), hl.noDict, fun tk => ?_⟩
    obtain ⟨n, hl⟩ := hl
    exact P.pop_list (s := c.st h₁ tk) (y := v) hl (by simp) ⟨_, tk, rfl, q _ (Lst.cut hl) (update_but _ _ _)⟩ (by simp; omega)) fun _ _ y => y) hbase hline
end
end Mine
end
section
open PySem PySem.Calls PyProof.Rows
set_option maxRecDepth 100000
set_option linter.all false
namespace Mine
theorem keep_of_fresh {h h' : Heap} (x : Heap.ExtBut h.objs.size h h') : Keep h h' := fun b o e => x b o (Nat.ne_of_lt (Heap.lt_size e)) e

section
variable {c : Cx} {h h₀ : Heap} {E : Value → Heap → Prop} {L a : Addr} {ns : List Str} {vs : List (Option Value)} {nm : Str} {sc : Scope} {cd : Value} {env : Env}

/-- names bound in their order -/
theorem w_order_nil {ts : List (Value → Sem Unit)} {Q : Unit → Heap → Prop} (q : Q () h) : W c h (assignInOrder ts []) Q E := by
  cases ts <;> exact W_pure q
theorem w_order {x : Str} {p : Pos} {ts : List (Value → Sem Unit)} {v : Value} {vs : List Value} {Q : Unit → Heap → Prop} (y : W c h (bindName env x v) (fun _ h' => W c h' (assignInOrder ts vs) Q E) E) : W c h (assignInOrder (assign (.Name x p) env :: ts) (v :: vs)) Q E := by
  show W c h (do holding vs (do standAt p; bindName env x v); assignInOrder ts vs) Q E
  exact W_bind (W_holding (W_at y))
theorem w_unpack {elts : List Expr} {k : Nat} {tpos pos : Pos} {value : Expr} {Q : Flow → Heap → Prop} (hh : c.A.handled = none)
    (x : W c h (eval value env) (fun v h₁ => ∃ t items, v = .ref t ∧ h₁.IsTuple t items ∧ (assignEach elts env).length = items.size ∧
      ∀ h', Keep h₁ h' → W c h' (assignInOrder ((assignEach elts env).map (·.2)) items.toList) (fun _ h'' => Q .next h'') E) E)
    (hstar : (assignEach elts env).findIdx? (·.1) = none := by rfl)
    (hs : swapsWithSole [.Tuple elts k tpos] value pos.line env = pure false := by with_unfolding_all rfl)
    (hw : swappedStores [.Tuple elts k tpos] value env = pure none := by with_unfolding_all rfl) : W c h (exec (.Assign [.Tuple elts k tpos] value pos) env) Q E := fun tk =>
  Assign_Tuple (wpAny_mono (x tk) (fun v s' ⟨h', tk', e, t, items, hv, ht, hn, q⟩ => by
    subst e; subst hv
    refine wpAny_assign_Tuple (s := c.st h' tk') hh ht hn hstar fun h'' k => ?_
    exact wpAny_mono (q h'' (keep_of_fresh k) tk') (fun _ _ y => y) fun _ _ y => y) fun _ _ y => y) hs hw

/-- membership in a tuple of texts -/
theorem eqv_str (x y : Str) : PyData.eqv (.str x) (.str y) = decide (x = y) := by
  first | rfl | (simp [PyData.eqv]; done) | (unfold PyData.eqv; rfl)
inductive StrVals : List Value → List Str → Prop
  | nil : StrVals [] []
  | cons {x t vs xs} : StrVals vs xs → StrVals (.str x t :: vs) (x :: xs)
theorem StrVals.reads {h : Heap} : ∀ {vs : List Value} {xs : List Str}, StrVals vs xs → ReadsAll h vs (xs.map .str) []
  | _, _, .nil => .nil
  | _, _, .cons x => .cons (.str _ _) (StrVals.reads x)
theorem canLay_strs : ∀ xs : List Str, xs.all PyData.strOk = true → PyData.canLayAll0 (xs.map .str) = true
  | [], _ => rfl
  | x :: xs, e => by
    rw [List.all_cons, Bool.and_eq_true] at e
    rw [List.map_cons, PyData.canLayAll0, canLay_strs xs e.2, PyData.canLay0, e.1]; rfl
theorem depth_strs : ∀ xs : List Str, PyData.depthAll (xs.map .str) = 0
  | [] => rfl
  | x :: xs => by rw [List.map_cons, PyData.depthAll, depth_strs xs]; rfl
theorem any_strs (x : Str) : ∀ xs : List Str, ((xs.map PyData.str).any fun y => PyData.eqv y (.str x)) = decide (x ∈ xs)
  | [] => by simp
  | y :: xs => by
    rw [List.map_cons, List.any_cons, any_strs x xs, eqv_str]
    by_cases e : y = x
    · subst e; simp
    · simp [e, Ne.symm e]
theorem w_in_tuple {a : Addr} {vs : List Value} {xs : List Str} {x : Str} {t : Tok} {Q : Value → Heap → Prop} (ht : h.IsTuple a vs.toArray) (hv : StrVals vs xs) (hok : xs.all PyData.strOk = true) (hx : PyData.strOk x = true) (hu : c.A.units + 1 < cLine) (q : Q (.bool (decide (x ∈ xs))) h) : W c h (compareOp .In (.str x t) (.ref a)) Q E := fun tk => by
  obtain ⟨o, ho, hc, n, hd⟩ := ht
  refine SeqAt.in_tuple_reads (s := c.st h tk) (.tuple ho hc hd hv.reads) (.str x t) (canLay_strs xs hok) (by rw [PyData.canLay0]; exact hx) (by rw [depth_strs]; simpa using hu) ⟨h, tk, rfl, ?_⟩
  rw [any_strs]; exact q
theorem w_notin_tuple {a : Addr} {vs : List Value} {xs : List Str} {x : Str} {t : Tok} {Q : Value → Heap → Prop} (ht : h.IsTuple a vs.toArray) (hv : StrVals vs xs) (hok : xs.all PyData.strOk = true) (hx : PyData.strOk x = true) (hu : c.A.units + 1 < cLine) (q : Q (.bool (!decide (x ∈ xs))) h) : W c h (compareOp .NotIn (.str x t) (.ref a)) Q E := fun tk => by
  obtain ⟨o, ho, hc, n, hd⟩ := ht
  refine SeqAt.notIn_tuple_reads (s := c.st h tk) (.tuple ho hc hd hv.reads) (.str x t) (canLay_strs xs hok) (by rw [PyData.canLay0]; exact hx) (by rw [depth_strs]; simpa using hu) ⟨h, tk, rfl, ?_⟩
  rw [any_strs]; exact q

/-- dictionaries of texts -/
theorem w_pairs_nil {pos : Pos} {Q : List (Value × Value) → Heap → Prop} (q : Q [] h) : W c h (evalPairs (pairTrees [] [] env pos)) Q E := W_pure q
theorem w_pairs {k v : Expr} {ks : List (Option Expr)} {vs : List Expr} {pos : Pos} {Q : List (Value × Value) → Heap → Prop}
    (x : W c h (eval k env) (fun kv h₁ => W c h₁ (eval v env) (fun vv h₂ => W c h₂ (evalPairs (pairTrees ks vs env pos)) (fun r h₃ => Q ((kv, vv) :: r) h₃) E) E) E) :
    W c h (evalPairs (pairTrees (some k :: ks) (v :: vs) env pos)) Q E := fun tk =>
  pairTrees_cons_walk (wpAny_mono (x tk) (fun kv s' ⟨h', tk', e, q⟩ => by
    subst e
    refine wpAny_mono (q tk') (fun vv s' ⟨h', tk', e, q⟩ => ?_) fun _ _ y => y
    subst e
    exact wpAny_mono (q tk') (fun vs s' ⟨h', tk', e, q⟩ => ⟨h', tk', e, q⟩) fun _ _ y => y) fun _ _ y => y)
theorem w_dict {keys : List (Option Expr)} {values : List Expr} {pos : Pos} {Q : Value → Heap → Prop}
    (x : ∀ d h₁, New h d → Keep h h₁ → h₁.DictOf (strKind c.prog c.w) d [] → W c h₁ (evalPairs (pairTrees keys values env pos)) (fun vs h₂ => Keep h₁ h₂ ∧ ∃ kvs, Carries (strKind c.prog c.w) vs kvs ∧ ∀ h', h'.DictOf (strKind c.prog c.w) d (merged [] kvs) → KeepBut d h₂ h' → Q (.ref d) h') E)
    (hall : keys.all (·.isSome) = true := by rfl) (hl : keys.length = values.length := by rfl) (h0 : keys.isEmpty = false := by rfl) (hlen : decide (keys.length ≤ 15) = true := by rfl) :
    W c h (eval (.Dict keys values pos) env) Q E := fun tk => by
  have hD : (h.push { cls := .type "dict", data := .dict #[] }).DictOf (strKind c.prog c.w) h.objs.size [] := Heap.DictOf.new h
  refine wpAny_Dict_walk (knd := strKind c.prog c.w) (s := c.st h tk) hall hl (fun e => by rw [e] at h0; cases h0) (of_decide_eq_true hlen) ?_
  refine wpAny_mono (x _ _ (New.of_le (Nat.le_refl _)) (Keep.push _ _) hD tk) (fun vs s' ⟨h', tk', e, k, kvs, hc, q⟩ => ?_) fun _ _ y => y
  subst e
  exact ⟨kvs, hc, hD.keep k, fun h'' hd hs => ⟨h'', _, rfl, q h'' hd hs.extBut⟩⟩
theorem w_in_dict {d : Addr} {kvs : List (Str × Value)} {x : Str} {t : Tok} {Q : Value → Heap → Prop} (hd : h.DictOf (strKind c.prog c.w) d kvs) (hs : (d == sysModules) = false) (q : Q (.bool (valueAt kvs x).isSome) h) : W c h (compareOp .In (.str x t) (.ref d)) Q E := fun tk =>
  wpAny_in_of (s := c.st h tk) (strKind_is _ _ x t) hs hd.mapOf ⟨h, _, rfl, q⟩
theorem w_item_dict {value slice : Expr} {d : Addr} {kvs : List (Str × Value)} {x : Str} {t : Tok} {v : Value} {Q : Value → Heap → Prop} (hd : h.DictOf (strKind c.prog c.w) d kvs) (hv : valueAt kvs x = some v) (q : Q v h)
    (hs : subscripted slice false (.ref d) (.str x t) = operate [.ref d, .str x t] (getItem (.ref d) (.str x t)) := by with_unfolding_all rfl) :
    W c h (subscriptTail value slice (.ref d) (.str x t)) Q E := fun tk =>
  tail_any (s := c.st h tk) (T := "dict") hd.typeIs slot_dict_getitem.lookup (wpAny_getItem_of (s := c.st h tk) (strKind_is _ _ x t) hd.mapOf hv ⟨h, _, rfl, q⟩) hs
theorem w_item_tuple {value slice : Expr} {a : Addr} {l : List Value} {i : Int} {u : Tok} {x : Value} {Q : Value → Heap → Prop} (ht : h.IsTuple a l.toArray) (h0 : 0 ≤ i) (hl : i < 2 ^ 63) (hx : l[i.toNat]? = some x) (q : Q x h)
    (hs : subscripted slice false (.ref a) (.int i u) = operate [.ref a, .int i u] (getItem (.ref a) (.int i u)) := by with_unfolding_all rfl) :
    W c h (subscriptTail value slice (.ref a) (.int i u)) Q E := fun tk => by
  have hn : i.toNat < l.length := (List.getElem?_eq_some_iff.mp hx).1
  exact item_tupleT (s := c.st h tk) (j := i.toNat) ht (by omega) hl (by
    unfold seqIndex?
    simp only [show ¬ i < 0 by omega, if_false]
    first | (rw [if_pos (by omega)]) | (rw [if_neg (by omega)]) | (split <;> first | rfl | omega | (simp; omega)) | simp_all) hx ⟨h, tk, rfl, q⟩ hs
theorem w_len_tuple {a : Addr} {l : List Value} {Q : Value → Heap → Prop} (ht : h.IsTuple a l.toArray) (hsz : l.length ≤ sizeLine) (q : ∀ tk, Q (.int l.length tk) h) : W c h (call (.builtin "len") [.ref a]) Q E := fun tk =>
  PyProof.Rows.len_tuple (s := c.st h tk) ht (by have : sizeLine < 2 ^ 63 := by decide
                                                 simp; omega) ⟨h, _, rfl, by simpa using q _⟩
/-- the length of a list -/
theorem w_len_list {l : Addr} {its : List Value} {Q : Value → Heap → Prop} (hl : Lst h l its) (hsz : its.length ≤ sizeLine) (q : ∀ tk, Q (.int its.length tk) h) : W c h (call (.builtin "len") [.ref l]) Q E := fun tk =>
  PySem.Calls.call_len_list (s := c.st h tk) hl.isList (by have : sizeLine < 2 ^ 63 := by decide
                                                           simp; omega) ⟨h, _, rfl, by simpa using q _⟩
end
end Mine
end
section
open PySem PySem.W PySem.Calls PyProof.Rows
set_option maxRecDepth 100000
set_option linter.all false
namespace Mine

def dueOf (x : Str) : Option Str := if x = "{" then some "}" else if x = "(" then some ")" else if x = "[" then some "]" else none
def IsDue (prog : Program) (w : World) (h : Heap) (d : Addr) : Prop := ∃ t1 t2 t3, h.DictOf (strKind prog w) d [(("{" : Str), .str "}" t1), ("(", .str ")" t2), ("[", .str "]" t3)]
theorem valueAt_due (x : Str) (t1 t2 t3 : Tok) : (valueAt [(("{" : Str), Value.str "}" t1), ("(", .str ")" t2), ("[", .str "]" t3)] x).isSome = (dueOf x).isSome ∧ ∀ y, dueOf x = some y → ∃ t, valueAt [(("{" : Str), Value.str "}" t1), ("(", .str ")" t2), ("[", .str "]" t3)] x = some (.str y t) := by
  unfold valueAt dueOf
  have e1 : (("{" : Str) = "(") = False := by decide
  have e2 : (("{" : Str) = "[") = False := by decide
  have e3 : (("(" : Str) = "[") = False := by decide
  by_cases h1 : x = "{"
  · subst h1; simp
  by_cases h2 : x = "("
  · subst h2; simp [List.find?, e1, Ne.symm h1, h1]
  by_cases h3 : x = "["
  · subst h3; simp [List.find?, e2, e3, h1, h2]
  simp [h1, h2, h3, Ne.symm h1, Ne.symm h2, Ne.symm h3]

theorem wc_due {c : Cx} {h : Heap} (B : Base c.w h) (D : c.A.depth < recursionLimit) {Q : Value → Heap → Prop} {E : Value → Heap → Prop}
    (q : ∀ h' d, Keep h h' → New h d → IsDue c.prog c.w h' d → Q (.ref d) h') : WC c h (.call (.ref 502) ⟨[], []⟩) Q E := by
  refine wc_at "_law_due" [] [] 502 501 (top.o_560 c.w.params) (top.o_559 c.w.params) B D (by kernel_rfl) (by kernel_rfl) (by kernel_rfl) (by kernel_rfl) (by kernel_rfl) (by decide) (by kernel_rfl) (by kernel_rfl) (by kernel_rfl) rfl (by kernel_rfl) (by kernel_rfl) (by kernel_rfl) ?_
  intro c' h₁ L hw hp' hdp hun hhd hfr B₁ K₁ F
  refine w_cons ?_
  refine w_return ?_
  refine w_dict fun d h₂ hd k hD => ?_
  refine w_pairs (w_str fun t1 => w_str fun t2 => w_pairs (w_str fun t3 => w_str fun t4 => w_pairs (w_str fun t5 => w_str fun t6 => w_pairs_nil ?_)))
  refine ⟨Keep.rfl' _, [(("{" : Str), .str "}" t2), ("(", .str ")" t4), ("[", .str "]" t6)], ⟨strKind_is _ _ _ _, rfl, strKind_is _ _ _ _, rfl, strKind_is _ _ _ _, rfl, trivial⟩, fun h₃ hD₃ k₃ => ?_⟩
  rw [merged_append_of_fresh [] _ (by simp only [List.nil_append, List.map]; decide)] at hD₃
  have hn := hd.back K₁
  rw [hw, hp'] at hD₃
  exact q h₃ d (Keep.butN (Keep.trans K₁ k) k₃ hn) hn ⟨_, _, _, hD₃⟩
end Mine
end
section
open PySem PySem.Calls PyProof.Rows
set_option maxRecDepth 100000
set_option linter.all false
namespace Mine
open PySem.Builtin.Str

/-- the part of a text from i to j -/
def sl (x : Str) (i j : Nat) : Str := ⟨((x.cps.toList.drop i).take (j - i)).toArray⟩
theorem str_ext {x y : Str} (e : x.cps.toList = y.cps.toList) : x = y := by
  cases x; cases y; simp at e; simpa using e
theorem sl_list (x : Str) (i j : Nat) : (sl x i j).cps.toList = (x.cps.toList.drop i).take (j - i) := by simp [sl]
theorem len_list (x : Str) : x.cps.toList.length = x.length := by simp [Str.length]
theorem clip_eq (lo hi : Nat) (n : Nat) : strSliceIndices (some (lo : Int)) (some (hi : Int)) 1 n = strSliceIndices (some ((min lo n : Nat) : Int)) (some ((min hi n : Nat) : Int)) 1 n := by
  have h1 : ¬ ((lo : Int) < 0) := by omega
  have h2 : ¬ ((hi : Int) < 0) := by omega
  have h3 : ¬ (((min lo n : Nat) : Int) < 0) := by omega
  have h4 : ¬ (((min hi n : Nat) : Int) < 0) := by omega
  have e1 : max (0 : Int) (min (lo : Int) n) = max (0 : Int) (min ((min lo n : Nat) : Int) n) := by omega
  have e2 : max (0 : Int) (min (hi : Int) n) = max (0 : Int) (min ((min hi n : Nat) : Int) n) := by omega
  simp only [strSliceIndices, h1, h2, h3, h4, if_false, show ((1 : Int) > 0) = True from by simp, if_true, e1, e2]
theorem indices_empty {lo hi n : Nat} (h : hi ≤ lo) : strSliceIndices (some (lo : Int)) (some (hi : Int)) 1 n = [] := by
  have h1 : ¬ ((lo : Int) < 0) := by omega
  have h2 : ¬ ((hi : Int) < 0) := by omega
  simp only [strSliceIndices, h1, h2, if_false, show ((1 : Int) > 0) = True from by simp, if_true, sliceRange]
  rw [if_neg (by omega)]
  simp
theorem slice_of {x : Str} {l u : Option Int} {ys : List Nat} (e : (strSliceIndices l u 1 x.length).filterMap (x.cps[·]?) = ys) (hl : (strSliceIndices l u 1 x.length).length = x.length → ys = x.cps.toList) : Txt.slice x l u = ⟨ys.toArray⟩ := by
  unfold Txt.slice
  split
  · rename_i h
    have h' : (strSliceIndices l u 1 x.length).length = x.length := by simpa using h
    rw [hl h']
  · rw [e]
theorem filterMap_len {x : Str} : ∀ {l : List Nat}, (∀ i ∈ l, i < x.length) → (l.filterMap (x.cps[·]?)).length = l.length
  | [], _ => rfl
  | i :: l, h => by
    have hi := h i List.mem_cons_self
    have : x.cps[i]? = some (x.cps[i]'hi) := Array.getElem?_eq_getElem hi
    rw [List.filterMap_cons, this]
    simp [filterMap_len fun j hj => h j (List.mem_cons_of_mem _ hj)]
theorem indices_len_le (l u : Option Int) (n : Nat) : (strSliceIndices l u 1 n).length ≤ n := sliceIndices_le l u n
theorem slice_ss (x : Str) (i j : Nat) : Txt.slice x (some (i : Int)) (some (j : Int)) = sl x i j := by
  by_cases hij : min i x.length ≤ min j x.length
  · have e := StrLaws.sliced_plain x hij (Nat.min_le_right j x.length)
    rw [← clip_eq] at e
    have e2 : (x.cps.toList.drop (min i x.length)).take (min j x.length - min i x.length) = (x.cps.toList.drop i).take (j - i) := by
      have hlen := len_list x
      rcases Nat.le_total x.length i with hi | hi
      · rw [Nat.min_eq_right hi, List.drop_eq_nil_of_le (by omega), List.drop_eq_nil_of_le (by omega)]; simp
      · rw [Nat.min_eq_left hi] at hij ⊢
        rcases Nat.le_total x.length j with hj | hj
        · rw [Nat.min_eq_right hj, List.take_of_length_le (by rw [List.length_drop, len_list]; omega), List.take_of_length_le (by rw [List.length_drop, len_list]; omega)]
        · rw [Nat.min_eq_left hj]
    rw [e2] at e
    refine slice_of e fun hl => ?_
    -- all the places: the whole text
    have hl2 : ((x.cps.toList.drop i).take (j - i)).length = x.length ∨ x.length = 0 := by
      rw [← e]
      by_cases h0 : x.length = 0
      · exact .inr h0
      · left
        rw [← e2] at e
        have := congrArg List.length e
        rw [List.length_take, List.length_drop, len_list] at this
        have hm := indices_len_le (some (i : Int)) (some (j : Int)) x.length
        rw [clip_eq] at hl ⊢
        have hpl := StrLaws.strSliceIndices_plain hij (Nat.min_le_right j x.length)
        rw [hpl] at hl ⊢
        rw [filterMap_len (fun k hk => by
          simp only [List.mem_map, List.mem_range] at hk
          obtain ⟨q, hq, rfl⟩ := hk
          have : min j x.length ≤ x.length := Nat.min_le_right _ _
          omega)]
        exact hl
    rcases hl2 with hl2 | h0
    · rw [List.length_take, List.length_drop, len_list] at hl2
      have hi : i = 0 ∨ x.length = 0 := by omega
      rcases hi with rfl | h0
      · rw [List.drop_zero, List.take_of_length_le (by rw [len_list]; omega)]
      · have : x.cps.toList = [] := List.eq_nil_of_length_eq_zero (by rw [len_list]; exact h0)
        simp [this]
    · have : x.cps.toList = [] := List.eq_nil_of_length_eq_zero (by rw [len_list]; exact h0)
      simp [this]
  · have e : (strSliceIndices (some (i : Int)) (some (j : Int)) 1 x.length) = [] := by rw [clip_eq]; exact indices_empty (by omega)
    have e2 : (x.cps.toList.drop i).take (j - i) = [] := by
      rw [show j - i = 0 by omega]; simp
    refine slice_of (by rw [e, e2]; rfl) fun hl => ?_
    rw [e] at hl
    have : x.cps.toList = [] := List.eq_nil_of_length_eq_zero (by rw [len_list]; simpa using hl.symm)
    simp [this]
theorem slice_sn (x : Str) (i : Nat) : Txt.slice x (some (i : Int)) none = sl x i x.length := by
  rw [← slice_ss]
  unfold Txt.slice
  have : strSliceIndices (some (i : Int)) none 1 x.length = strSliceIndices (some (i : Int)) (some (x.length : Int)) 1 x.length := by
    have h2 : ¬ ((x.length : Int) < 0) := by omega
    simp only [strSliceIndices, show ((1 : Int) > 0) = True from by simp, if_true, h2, if_false, Int.min_self]
    congr 1
  rw [this]
theorem slice_ns (x : Str) (j : Nat) : Txt.slice x none (some (j : Int)) = sl x 0 j := by
  rw [← slice_ss]
  unfold Txt.slice
  have : strSliceIndices none (some (j : Int)) 1 x.length = strSliceIndices (some ((0 : Nat) : Int)) (some (j : Int)) 1 x.length := by
    simp only [strSliceIndices, show ((1 : Int) > 0) = True from by simp, if_true]
    congr 1
  rw [this]
theorem sl_len (x : Str) (i j : Nat) : (sl x i j).length = min (j - i) (x.length - i) := by
  rw [← len_list, sl_list, List.length_take, List.length_drop, len_list]
theorem sl_le (x : Str) (i j : Nat) : (sl x i j).length ≤ x.length := by rw [sl_len]; omega
end Mine
end
section
open PySem PySem.Calls PyProof.Rows
set_option maxRecDepth 100000
set_option linter.all false
namespace Mine
open PySem.Builtin.Str
section
variable {c : Cx} {h h₀ : Heap} {E : Value → Heap → Prop} {L a : Addr} {ns : List Str} {vs : List (Option Value)} {nm : Str} {sc : Scope} {cd : Value} {env : Env}

theorem w_sl_ss (i j : Nat) {value lo up : Expr} {p pos : Pos} {Q : Value → Heap → Prop} (x : W c h (eval value env) (fun o h₁ => W c h₁ (eval lo env) (fun l h₂ => W c h₂ (eval up env) (fun u h₃ =>
      ∃ x t ti tj, o = .str x t ∧ l = .int i ti ∧ u = .int j tj ∧ x.length ≤ sizeLine ∧ ∀ h' t', Keep h₃ h' → Q (.str (sl x i j) t') h') E) E) E)
    (ht : ∀ o r, letTemporaryGo value o r = pure () := by intro _ _; rfl) : W c h (eval (.Subscript value (.Slice (some lo) (some up) none p) pos) env) Q E :=
  w_slice_ss (W_mono x (fun o h₁ q => W_mono q (fun l h₂ q => W_mono q (fun u h₃ ⟨x, t, ti, tj, e1, e2, e3, hsz, q⟩ => ⟨x, t, i, ti, j, tj, e1, e2, e3, hsz, fun h' t' k => by rw [slice_ss]; exact q h' t' k⟩) fun _ _ y => y) fun _ _ y => y) fun _ _ y => y) ht
theorem w_sl_sn (i : Nat) {value lo : Expr} {p pos : Pos} {Q : Value → Heap → Prop} (x : W c h (eval value env) (fun o h₁ => W c h₁ (eval lo env) (fun l h₂ =>
      ∃ x t ti, o = .str x t ∧ l = .int i ti ∧ x.length ≤ sizeLine ∧ ∀ h' t', Keep h₂ h' → Q (.str (sl x i x.length) t') h') E) E)
    (ht : ∀ o r, letTemporaryGo value o r = pure () := by intro _ _; rfl) : W c h (eval (.Subscript value (.Slice (some lo) none none p) pos) env) Q E :=
  w_slice_sn (W_mono x (fun o h₁ q => W_mono q (fun l h₂ ⟨x, t, ti, e1, e2, hsz, q⟩ => ⟨x, t, i, ti, e1, e2, hsz, fun h' t' k => by rw [slice_sn]; exact q h' t' k⟩) fun _ _ y => y) fun _ _ y => y) ht
theorem w_sl_ns (j : Nat) {value up : Expr} {p pos : Pos} {Q : Value → Heap → Prop} (x : W c h (eval value env) (fun o h₁ => W c h₁ (eval up env) (fun u h₃ =>
      ∃ x t tj, o = .str x t ∧ u = .int j tj ∧ x.length ≤ sizeLine ∧ ∀ h' t', Keep h₃ h' → Q (.str (sl x 0 j) t') h') E) E)
    (ht : ∀ o r, letTemporaryGo value o r = pure () := by intro _ _; rfl) : W c h (eval (.Subscript value (.Slice none (some up) none p) pos) env) Q E :=
  w_slice_ns (W_mono x (fun o h₁ q => W_mono q (fun u h₃ ⟨x, t, tj, e1, e3, hsz, q⟩ => ⟨x, t, j, tj, e1, e3, hsz, fun h' t' k => by rw [slice_ns]; exact q h' t' k⟩) fun _ _ y => y) fun _ _ y => y) ht

theorem noRef_str {x : Str} {t : Tok} {h : Heap} : ∀ a, Value.str x t = .ref a → ∃ ob, h.get? a = some ob ∧ ob.dict = none := fun _ e => by cases e
/-- x.find(y, i) -/
theorem w_find3 {o e f : Expr} {apos pos : Pos} {Q : Value → Heap → Prop}
    (x : W c h (eval o env) (fun ov h₁ => ∃ x t, ov = .str x t ∧ W c h₁ (eval e env) (fun ev h₂ => W c h₂ (eval f env) (fun fv h₃ => ∃ y u i v, ev = .str y u ∧ fv = .int i v ∧ ∀ tk, Q (.int (Txt.find3 x y i) tk) h₃) E) E) E)
    (hbase : attributeBase o "find" env (eval o env) = eval o env := by rfl) (hline : (apos.endLine == pos.line) = true := by rfl)
    (hfew : ((backTo pos (starEach [e, f] env)).all (fun x => !x.1) && (backToKw pos (keywordEach [] env)).all (fun x => x.1.isSome)
      && decide ([e, f].length + ([] : List Keyword).length + (if ([] : List Keyword).isEmpty then 0 else 1) < 30)) = true := by rfl)
    (he : starEach [e, f] env = (false, eval e env) :: starEach [f] env := by rfl) (hf : starEach [f] env = (false, eval f env) :: starEach [] env := by rfl) (hplain : (backTo pos (starEach [e, f] env)).any (·.1) = false := by rfl) :
    W c h (eval (.Call (.Attribute o "find" apos) [e, f] [] pos) env) Q E :=
  w_meth F.plainAttrs_str F.slot_str_find F.type_str_find (W_mono x (fun ov h₁ ⟨x, t, hv, q⟩ => by
    subst hv
    refine ⟨fun s _ => typeIs_str _ _ _, noRef_str, w_args (W_mono q (fun ev h₂ q => w_args (W_mono q (fun fv h₃ q => w_args_nil ?_) fun _ _ y => y) hf) fun _ _ y => y) he⟩
    obtain ⟨y, u, i, v, rfl, rfl, q⟩ := q
    exact fun tk => SC.find3 ⟨h₃, _, rfl, q _⟩) fun _ _ y => y) hbase hline hfew he hplain
/-- x.count(y) -/
theorem w_count {o e : Expr} {apos pos : Pos} {Q : Value → Heap → Prop}
    (x : W c h (eval o env) (fun ov h₁ => ∃ x t, ov = .str x t ∧ W c h₁ (eval e env) (fun ev h₂ => ∃ y u, ev = .str y u ∧ ∀ tk, Q (.int (Txt.count x y) tk) h₂) E) E)
    (hbase : attributeBase o "count" env (eval o env) = eval o env := by rfl) (hline : (apos.endLine == pos.line) = true := by rfl)
    (hfew : ((backTo pos (starEach [e] env)).all (fun x => !x.1) && (backToKw pos (keywordEach [] env)).all (fun x => x.1.isSome)
      && decide ([e].length + ([] : List Keyword).length + (if ([] : List Keyword).isEmpty then 0 else 1) < 30)) = true := by rfl)
    (he : starEach [e] env = (false, eval e env) :: starEach [] env := by rfl) (hplain : (backTo pos (starEach [e] env)).any (·.1) = false := by rfl) :
    W c h (eval (.Call (.Attribute o "count" apos) [e] [] pos) env) Q E :=
  w_meth F.plainAttrs_str F.slot_str_count F.type_str_count (W_mono x (fun ov h₁ ⟨x, t, hv, q⟩ => by
    subst hv
    refine ⟨fun s _ => typeIs_str _ _ _, noRef_str, w_args (W_mono q (fun ev h₂ q => w_args_nil ?_) fun _ _ y => y) he⟩
    obtain ⟨y, u, rfl, q⟩ := q
    exact fun tk => SC.count ⟨h₂, _, rfl, q _⟩) fun _ _ y => y) hbase hline hfew he hplain
/-- x.rstrip() -/
theorem w_rstrip {o : Expr} {apos pos : Pos} {Q : Value → Heap → Prop}
    (x : W c h (eval o env) (fun ov h₁ => ∃ x t, ov = .str x t ∧ x.length ≤ sizeLine ∧ ∀ tk, Q (.str (Txt.rstrip x) tk) h₁) E)
    (hbase : attributeBase o "rstrip" env (eval o env) = eval o env := by rfl) (hline : (apos.endLine == pos.line) = true := by rfl) :
    W c h (eval (.Call (.Attribute o "rstrip" apos) [] [] pos) env) Q E :=
  w_meth0 F.plainAttrs_str F.slot_str_rstrip F.type_str_rstrip (W_mono x (fun ov h₁ ⟨x, t, hv, hsz, q⟩ => by
    subst hv
    refine ⟨fun s _ => typeIs_str _ _ _, noRef_str, fun tk => PySem.Calls.callWith_builtin rfl ?_⟩
    exact PySem.evalArgs_none (SC.rstrip (fun t' k => ⟨h₁, _, rfl, q _⟩) hsz)) fun _ _ y => y) hbase hline

/-- a formatted text, part by part -/
noncomputable def WJ (c : Cx) (E : Value → Heap → Prop) : List (Sem Value) → Str → (Str → Heap → Prop) → Heap → Prop
  | [], acc, Q, h => Q acc h
  | x :: rest, acc, Q, h => W c h x (fun v h₁ => ∃ y t, v = .str y t ∧ (acc ++ y).length ≤ sizeLine ∧ WJ c E rest (acc ++ y) Q h₁) E
theorem WJ.joins : ∀ {parts : List (Sem Value)} {acc : Str} {Q : Str → Heap → Prop} {h : Heap} {P : Str → Shared → Prop}, WJ c E parts acc Q h → (∀ acc h tk, Q acc h → P acc (c.st h tk)) → ∀ tk, Joins (model c.prog c.w) c.A (fun e s' => ∃ h' tk', s' = c.st h' tk' ∧ E e h') parts acc P (c.st h tk)
  | [], _, _, _, _, x, f, tk => f _ _ _ x
  | y :: rest, _, _, _, _, x, f, tk => wpAny_mono (x tk) (fun v s' ⟨h', tk', e, y, t, hv, hl, q⟩ => by subst e; exact ⟨y, t, hv, hl, WJ.joins q f tk'⟩) fun _ _ y => y
theorem w_joined {v₁ v₂ : Expr} {rest : List Expr} {pos : Pos} {Q : Value → Heap → Prop} (x : WJ c E (evalEach (v₁ :: v₂ :: rest) env) Str.empty (fun out h' => out.length ≤ sizeLine ∧ ∀ tk, Q (.str out tk) h') h) :
    W c h (eval (.JoinedStr (v₁ :: v₂ :: rest) pos) env) Q E := fun tk =>
  wpAny_JoinedStr (WJ.joins x (fun acc h tk ⟨hl, q⟩ => ⟨hl, h, _, rfl, q _⟩) tk)
theorem w_fmt_str {x : Str} {t : Tok} {Q : Value → Heap → Prop} (hx : x.length ≤ sizeLine) (q : ∀ tk, Q (.str x tk) h) : W c h (formatField (.str x t) Str.empty) Q E := fun tk =>
  wpAny_formatField_str ⟨h, _, rfl, q _⟩ ⟨h, _, rfl, q _⟩ hx
theorem w_fmt_int {i : Int} {t : Tok} {Q : Value → Heap → Prop} (hd : i.natAbs.log2 < 1920) (q : ∀ tk, Q (.str (toString i) tk) h) : W c h (formatField (.int i t) Str.empty) Q E := fun tk =>
  wpAny_formatField_int hd ⟨h, _, rfl, q _⟩
theorem w_fmt {value : Expr} {pos : Pos} {Q : Value → Heap → Prop} (x : W c h (eval value env) (fun v h₁ => W c h₁ (formatField v Str.empty) Q E) E) : W c h (eval (.FormattedValue value (-1) none pos) env) Q E := fun tk =>
  wpAny_FormattedValue_plain (wpAny_mono (x tk) (fun v s' ⟨h', tk', e, q⟩ => by subst e; exact q tk') fun _ _ y => y)
theorem w_fmt_repr {value : Expr} {pos : Pos} {Q : Value → Heap → Prop} (x : W c h (eval value env) (fun v h₁ => ∃ x t, v = .str x t ∧ (reprText x).length ≤ sizeLine ∧ ∀ tk, Q (.str (reprText x) tk) h₁) E) : W c h (eval (.FormattedValue value 114 none pos) env) Q E := fun tk =>
  wpAny_FormattedValue_repr (wpAny_mono (x tk) (fun v s' ⟨h', tk', e, x, t, hv, hx, q⟩ => by
    subst e; subst hv
    exact pyReprObj_str (wpAny_formatField_str ⟨h', _, rfl, q _⟩ ⟨h', _, rfl, q _⟩ hx) hx) fun _ _ y => y)
end
end Mine
end
section
open PySem PySem.W PySem.Calls PyProof.Rows
set_option maxRecDepth 100000
set_option linter.all false
set_option maxHeartbeats 4000000
namespace Mine

def isFn (o : Obj) : Bool := match o.data with | .func _ => true | _ => false
theorem isFn.of {o : Obj} (e : isFn o = true) : ∃ fd, o.data = .func fd := by
  unfold isFn at e
  split at e
  · exact ⟨_, by assumption⟩
  · cases e
/-- a function of the module, by its name -/
structure GFn (P : Params) (fn : Str) (a : Nat) (o : Obj) : Prop where
  m : mg0 P fn = some (.ref a)
  get : (top.tree_612 P).get a = some o
  al : alive o = some o
  lt : a < 552
  fn : isFn o = true

theorem w_callG {c : Cx} {h : Heap} {E : Value → Heap → Prop} {L b : Addr} {nm : Str} {sc : Scope} {cd : Value} {x : Str} {p pos : Pos} {e : Expr} {rest : List Expr} {a : Nat} {o : Obj} {Q : Value → Heap → Prop}
    (G : GFn c.w.params x a o) (B : Base c.w h)
    (y : W c h (spliced (backTo pos (starEach (e :: rest) (envOf nm sc L b cd)))) (fun vs h₁ => Base c.w h₁ ∧ W c h₁ (call (.ref a) vs) Q E) E)
    (hk : sc.kind = .function := by rfl) (hx : (envOf nm sc L b cd).kindOf x = some .globalImplicit := by rfl) (hd : (x == ("__debug__" : Str)) = false := by decide)
    (he : starEach (e :: rest) (envOf nm sc L b cd) = (false, eval e (envOf nm sc L b cd)) :: starEach rest (envOf nm sc L b cd) := by rfl) :
    W c h (eval (.Call (.Name x p) (e :: rest) [] pos) (envOf nm sc L b cd)) Q E := by
  obtain ⟨fd, hfd⟩ := isFn.of G.fn
  refine w_callN (w_glob (base_g B) G.m (w_with_def hfd (W_mono y (fun vs h₁ q => ⟨base_at q.1 G.get G.lt G.al, q.2⟩) fun _ _ y => y) he) hk hx hd)
theorem gf_run (P : Params) : GFn P "_law_run" 516 (top.o_577 P) := ⟨by kernel_rfl, by kernel_rfl, by kernel_rfl, by decide, by kernel_rfl⟩

def isTupO (o : Obj) : Bool := (match o.cls with | .type t => t == "tuple" | _ => false) && (match o.data with | .seq _ _ => true | _ => false)
def seqOf (o : Obj) : List Value := match o.data with | .seq vs _ => vs.toList | _ => []
theorem isTup_of {o : Obj} {h : Heap} {a : Addr} (e : isTupO o = true) (g : h.get? a = some o) : h.IsTuple a (seqOf o).toArray := by
  unfold isTupO at e
  rw [Bool.and_eq_true] at e
  obtain ⟨e1, e2⟩ := e
  have hc : o.cls = .type "tuple" := by
    split at e1
    · rename_i t ht; rw [ht]; rw [beq_iff_eq.mp e1]
    · cases e1
  cases hd : o.data with
  | seq vs n => exact ⟨o, g, hc, n, by simp [seqOf, hd]⟩
  | _ => rw [hd] at e2; cases e2
def strVal : Value → Option Str | .str x _ => some x | _ => none
theorem strVal.of {v : Value} {x : Str} (e : strVal v = some x) : ∃ t, v = .str x t := by
  cases v <;> simp [strVal] at e
  subst e; exact ⟨_, rfl⟩
theorem StrVals.of : ∀ {vs : List Value} {xs : List Str}, vs.map strVal = xs.map some → StrVals vs xs
  | [], [], _ => .nil
  | v :: vs, x :: xs, e => by
    rw [List.map_cons, List.map_cons, List.cons.injEq] at e
    obtain ⟨t, rfl⟩ := strVal.of e.1
    exact .cons (StrVals.of e.2)
  | [], _ :: _, e => by simp at e
  | _ :: _, [], e => by simp at e

/-- the pairs of signs -/
def pairs : List Str := ["//", "**", "==", "!=", ">=", "<="]
def chr (k : Nat) : Str := ⟨#[k]⟩
def signs1 : Str := "+-/*~[](){}><=.:|,;"
theorem gp_tuple {w : World} {h : Heap} (B : Base w h) : h.IsTuple 495 (seqOf (top.o_553 w.params)).toArray := isTup_of (by kernel_rfl) (base_at (a := 495) B (by kernel_rfl) (by decide) (by kernel_rfl))
theorem gp_strs (P : Params) : StrVals (seqOf (top.o_553 P)) pairs := StrVals.of (by kernel_rfl)
theorem gp_name (P : Params) : mg0 P "_law_pairs" = some (.ref 495) := by kernel_rfl
theorem ok_sl {x : Str} (hok : ∀ k ∈ x.cps.toList, k < 1114112) (i j : Nat) : PyData.strOk (sl x i j) = true := by
  unfold PyData.strOk
  rw [← Array.all_toList, sl_list, List.all_eq_true]
  intro k hk
  have := hok k (List.drop_subset _ _ (List.take_subset _ _ hk))
  simpa using this
/-- the piece of a text at a place: what it is, and the text of it -/
noncomputable def pieceOf (x : Str) (p : Nat) : Option (Str × Str) :=
  match x.cps[p]? with
  | none => none
  | some k =>
    if k ∈ ((" \n" : Str)).cps.toList then some ("whitespace", sl x p (runEnd x " \n" p))
    else if (sl x p (runEnd x "01" p)).length ≠ 0 then
      if sl x (runEnd x "01" p) (runEnd x "01" p + 1) = "." ∧ (sl x (runEnd x "01" p + 1) (runEnd x "01" (runEnd x "01" p + 1))).length ≠ 0 ∧ (p = 0 ∨ ∀ q, x.cps[p - 1]? = some q → chr q ≠ ".") then
        some ("float", sl x p (runEnd x "01" p) ++ "." ++ sl x (runEnd x "01" p + 1) (runEnd x "01" (runEnd x "01" p + 1)))
      else some ("integer", if chr k = "1" then sl x p (runEnd x "01" p) else sl x p (runEnd x "0" p))
    else if k ∈ (("az" : Str)).cps.toList then some ("name", sl x p (runEnd x "az01" p))
    else if chr k = "'" then (if 0 < Txt.find3 x "'" (p + 1 : Nat) then some ("string", sl x p ((Txt.find3 x "'" (p + 1 : Nat)).toNat + 1)) else none)
    else if sl x p (p + 2) ∈ pairs then some ("operator", sl x p (p + 2))
    else if k ∈ signs1.cps.toList then some ("operator", chr k) else none

theorem wc_run' {c : Cx} {h : Heap} (B : Base c.w h) (D : c.A.depth < recursionLimit) {text signs : Str} {t t1 t2 : Tok} (place : Nat) (hsz : text.length ≤ sizeLine) {Q : Value → Heap → Prop} {E : Value → Heap → Prop}
    (q : ∀ h' t', Keep h h' → Q (.str (sl text place (runEnd text signs place)) t') h') : W c h (call (.ref 516) [.str text t, .int place t1, .str signs t2]) Q E :=
  W_call (wc_run B D hsz fun h' t' k => by rw [slice_ss]; exact q h' t' k)

theorem wc_piece {c : Cx} {h : Heap} (B : Base c.w h) (D : c.A.depth + 1 < recursionLimit) (U : c.A.units + 8 < cLine) {text : Str} {t t1 : Tok} {place : Nat} (hp : place < text.length) (hsz : text.length < sizeLine) (hok : ∀ k ∈ text.cps.toList, k < 1114112) {Q : Value → Heap → Prop} {E : Value → Heap → Prop}
    (q : ∀ h' v, Keep h h' → (match pieceOf text place with | none => v = .none | some (k, y) => ∃ a t u, v = .ref a ∧ h'.IsTuple a #[.str k t, .str y u]) → Q v h') : WC c h (.call (.ref 523) ⟨[.str text t, .int place t1], []⟩) Q E := by
  refine wc_at "_law_piece" ["text", "place"] ["sign", "digits", "behind", "more", "end"] 523 522 (top.o_584 c.w.params) (top.o_583 c.w.params) B (by omega) (by kernel_rfl) (by kernel_rfl) (by kernel_rfl) (by kernel_rfl) (by kernel_rfl) (by decide) (by kernel_rfl) (by kernel_rfl) (by kernel_rfl) rfl (by kernel_rfl) (by kernel_rfl) (by kernel_rfl) ?_
  have X : FnOk (([("text" : Str), "place"] : List Str) ++ [("sign" : Str), "digits", "behind", "more", "end"]) (fscope (top.o_584 c.w.params)) := FnOk.of (by kernel_rfl)
  have hsz' : text.length ≤ sizeLine := Nat.le_of_lt hsz
  have hc : text.cps[place]? = some (text.cps[place]'hp) := Array.getElem?_eq_getElem hp
  generalize hk : text.cps[place]'hp = k at hc
  have h63 := len_lt63 hsz'
  intro c' h₁ L hw hp' hdp hun hhd hfr B₁ K₁ F
  have D' : c'.A.depth < recursionLimit := by omega
  refine w_cons (w_assign (w_sub (w_loc X F.ns (i := 0) rfl rfl (w_loc X F.ns (i := 1) rfl rfl (w_item_str (k := k) (by omega) (by omega) hc fun t' => w_store X F.ns (i := 2) rfl rfl fun h₂ N₂ k₂ => ?_)))))
  replace F := F.put N₂ k₂
  clear N₂ k₂
  have B₂ : Base c'.w h₂ := hw ▸ B.mono F.keep
  refine w_cons (w_if (w_tcmp (w_loc X F.ns (i := 2) rfl rfl (w_str fun t2 => w_in_char (w_tbool ?_)))))
  by_cases hws : k ∈ ((" \n" : Str)).cps.toList
  · rw [decide_eq_true hws, if_pos rfl]
    refine w_cons (w_return (w_tuple (w_args (w_str fun t3 => w_args (w_callG (gf_run _) B₂ (w_args (w_loc X F.ns (i := 0) rfl rfl (w_args (w_loc X F.ns (i := 1) rfl rfl (w_args (w_str fun t4 => w_args_nil ⟨B₂, wc_run' B₂ D' place hsz' fun h' t' k => w_args_nil ⟨rfl, fun a h'' k' n ht => ?_⟩⟩)))))))))))
    refine q h'' _ (Keep.trans F.keep (Keep.trans k k')) ?_
    rw [show pieceOf text place = some (("whitespace" : Str), sl text place (runEnd text " \n" place)) by unfold pieceOf; rw [hc]; simp only []; rw [if_pos hws]]
    exact ⟨a, _, _, rfl, ht⟩
  rw [decide_eq_false hws, if_neg Bool.false_ne_true]
  refine w_nil ?_
  have le1 := sl_le text place (runEnd text "01" place)
  refine w_cons (w_assign (w_callG (gf_run _) B₂ (w_args (w_loc X F.ns (i := 0) rfl rfl (w_args (w_loc X F.ns (i := 1) rfl rfl (w_args (w_str fun t4 => w_args_nil ⟨B₂, wc_run' B₂ D' place hsz' fun h' t' k => ?_⟩))))))))
  replace F := F.mono k
  refine w_store X F.ns (i := 3) rfl rfl fun h₃ N₃ k₃ => ?_
  replace F := F.put N₃ k₃
  clear N₃ k₃ k
  have B₃ : Base c'.w h₃ := hw ▸ B.mono F.keep
  generalize he : runEnd text "01" place = e at *
  refine w_cons (w_if' ((sl text place e).length ≠ 0) (fun g => h₃ = g) (w_tval (w_loc X F.ns (i := 3) rfl rfl (w_tstr (by omega) ⟨rfl, by simp⟩))) ?_ ?_)
  · rintro hdig _ rfl
    have hge : place ≤ e := he ▸ runEnd_ge text "01" place
    have hle : e ≤ text.length := he ▸ runEnd_le (Nat.le_of_lt hp)
    have hbe : ((place : Int) + ((sl text place e).length : Int)) = (e : Int) := by rw [sl_len]; omega
    have hsd : sl text place e = sl text place e := rfl
    refine w_cons (w_assign (w_binop (w_loc X F.ns (i := 1) rfl rfl (w_callN (w_blt (base_g B₃) (base_b B₃) (b_len _).1 (b_len _).2 (w_with_bi (w_args (w_loc X F.ns (i := 3) rfl rfl (w_args_nil (w_len (by omega) fun tk => w_add_int fun tk' => ?_))))))))))
    rw [hbe]
    refine w_store X F.ns (i := 4) rfl rfl fun h₄ N₄ k₄ => ?_
    replace F := F.put N₄ k₄
    clear N₄ k₄
    have B₄ : Base c'.w h₄ := hw ▸ B.mono F.keep
    refine w_cons (w_assign (w_callG (gf_run _) B₄ (w_args (w_loc X F.ns (i := 0) rfl rfl (w_args (w_binop (w_loc X F.ns (i := 4) rfl rfl (w_int fun t5 => w_add_int fun t6 => w_args (w_str fun t7 => w_args_nil ⟨B₄, wc_run' B₄ D' (e + 1) hsz' fun h' t' k => ?_⟩)))))))))
    replace F := F.mono k
    refine w_store X F.ns (i := 5) rfl rfl fun h₅ N₅ k₅ => ?_
    replace F := F.put N₅ k₅
    clear N₅ k₅ k
    have B₅ : Base c'.w h₅ := hw ▸ B.mono F.keep
    generalize hf : runEnd text "01" (e + 1) = f at *
    have le5 := sl_le text (e + 1) f
    refine w_cons (w_if' (sl text e (e + 1) = "." ∧ (sl text (e + 1) f).length ≠ 0 ∧ (place = 0 ∨ ∀ q, text.cps[place - 1]? = some q → chr q ≠ ".")) (fun g => Keep h₅ g)
      (w_tboolop (w_and (w_tcmp (w_sl_ss e (e + 1) (w_loc X F.ns (i := 0) rfl rfl (w_loc X F.ns (i := 4) rfl rfl (w_binop (w_loc X F.ns (i := 4) rfl rfl (w_int fun t5 => w_add_int fun t6 =>
        ⟨_, _, _, t6, rfl, rfl, rfl, hsz', fun h' t' k => w_str fun t7 => w_eq_str (w_tbool ?_)⟩))))))))) ?_ ?_)
    · by_cases hdot : sl text e (e + 1) = "."
      · rw [decide_eq_true hdot, if_pos rfl]
        replace F := F.mono k
        refine w_and (w_tval (w_loc X F.ns (i := 5) rfl rfl (w_tstr (by omega) ?_)))
        by_cases hmo : (sl text (e + 1) f).length = 0
        · rw [show (((sl text (e + 1) f).length : Int) != 0) = false by simp [hmo], if_neg Bool.false_ne_true]
          exact ⟨k, by simp [hmo]⟩
        · rw [show (((sl text (e + 1) f).length : Int) != 0) = true by simp [hmo], if_pos rfl]
          refine w_and (w_tboolop (w_or (w_tcmp (w_loc X F.ns (i := 1) rfl rfl (w_int fun t8 => w_eq_int (w_tbool ?_))))))
          by_cases h0 : place = 0
          · rw [decide_eq_true (by omega : (place : Int) = 0), if_pos rfl, if_pos rfl]
            exact w_and_nil ⟨k, by simp [hdot, hmo, h0]⟩
          · rw [decide_eq_false (by omega : ¬ (place : Int) = 0), if_neg Bool.false_ne_true]
            have hp1 : place - 1 < text.length := by omega
            have hc1 : text.cps[place - 1]? = some (text.cps[place - 1]'hp1) := Array.getElem?_eq_getElem hp1
            refine w_or (w_tcmp (w_sub (w_loc X F.ns (i := 0) rfl rfl (w_binop (w_loc X F.ns (i := 1) rfl rfl (w_int fun t9 => w_sub_int fun t10 => w_item_str (k := text.cps[place - 1]'hp1) (by omega) (by omega) (by
              rw [show ((place : Int) - 1).toNat = place - 1 by omega]; exact hc1) fun t11 => w_str fun t12 => w_ne_str (w_tbool ?_)))))))
            by_cases hq : chr (text.cps[place - 1]'hp1) = "."
            · have hq' : ({ cps := #[text.cps[place - 1]'hp1] } : Str) = "." := hq
              rw [decide_eq_true hq', if_neg (by simp)]
              refine w_or_nil ?_
              rw [if_neg Bool.false_ne_true]
              exact ⟨k, by simp [hdot, hmo, h0, hc1, hq]⟩
            · have hq' : ¬ ({ cps := #[text.cps[place - 1]'hp1] } : Str) = "." := hq
              rw [decide_eq_false hq', if_pos (by simp), if_pos rfl]
              exact w_and_nil ⟨k, by simp [hdot, hmo, h0, hc1, hq]⟩
      · rw [decide_eq_false hdot, if_neg Bool.false_ne_true]
        exact ⟨k, by simp [hdot]⟩
    · intro hP g kg
      replace F := F.mono kg
      have le3 := sl_len text place e
      have le4 := sl_len text (e + 1) f
      have le6 : (sl text e (e + 1)).length = 1 := by rw [hP.1]; rfl
      rw [sl_len] at le6
      refine w_cons (w_return (w_tuple (w_args (w_str fun t5 => w_args (w_binop (w_binop (w_loc X F.ns (i := 3) rfl rfl (w_str fun t6 => w_add_str ?_ fun t7 => w_loc X F.ns (i := 5) rfl rfl (w_add_str ?_ fun t8 => w_args_nil ⟨rfl, fun a h'' k' n ht => ?_⟩))))))))) 
      · show (sl text place e).length + 1 ≤ _
        omega
      · rw [strLen_append]
        show (sl text place e).length + 1 + _ ≤ _
        omega
      · refine q h'' _ (Keep.trans F.keep k') ?_
        rw [show pieceOf text place = some (("float" : Str), sl text place e ++ "." ++ sl text (e + 1) f) by
          unfold pieceOf; rw [hc]; simp only []; rw [if_neg hws, he, if_pos hdig, hf, if_pos hP]]
        exact ⟨a, _, _, rfl, ht⟩
    · intro hP g kg
      replace F := F.mono kg
      have B₆ : Base c'.w g := hw ▸ B.mono F.keep
      refine w_nil ?_
      refine w_cons (w_return (w_tuple (w_args (w_str fun t5 => w_args (w_ifexp' (chr k = "1") (fun g' => g = g') (w_tcmp (w_loc X F.ns (i := 2) rfl rfl (w_str fun t2 => w_eq_str (w_tbool ⟨rfl, by simp [chr]⟩)))) ?_ ?_)))))
      · rintro h1 _ rfl
        refine w_loc X F.ns (i := 3) rfl rfl (w_args_nil ⟨rfl, fun a h'' k' n ht => ?_⟩)
        refine q h'' _ (Keep.trans F.keep k') ?_
        rw [show pieceOf text place = some (("integer" : Str), sl text place e) by
          unfold pieceOf; rw [hc]; simp only []; rw [if_neg hws, he, if_pos hdig, hf, if_neg hP, if_pos h1]]
        exact ⟨a, _, _, rfl, ht⟩
      · rintro h1 _ rfl
        refine w_callG (gf_run _) B₆ (w_args (w_loc X F.ns (i := 0) rfl rfl (w_args (w_loc X F.ns (i := 1) rfl rfl (w_args (w_str fun t4 => w_args_nil ⟨B₆, wc_run' B₆ D' place hsz' fun h' t' k => w_args_nil ⟨rfl, fun a h'' k' n ht => ?_⟩⟩))))))
        refine q h'' _ (Keep.trans F.keep (Keep.trans k k')) ?_
        rw [show pieceOf text place = some (("integer" : Str), sl text place (runEnd text "0" place)) by
          unfold pieceOf; rw [hc]; simp only []; rw [if_neg hws, he, if_pos hdig, hf, if_neg hP, if_neg h1]]
        exact ⟨a, _, _, rfl, ht⟩
  · rintro hdig _ rfl
    refine w_nil ?_
    refine w_cons (w_if' (k ∈ (("az" : Str)).cps.toList) (fun g => h₃ = g) (w_tcmp (w_loc X F.ns (i := 2) rfl rfl (w_str fun t2 => w_in_char (w_tbool ⟨rfl, by simp⟩)))) ?_ ?_)
    · rintro haz _ rfl
      refine w_cons (w_return (w_tuple (w_args (w_str fun t3 => w_args (w_callG (gf_run _) B₃ (w_args (w_loc X F.ns (i := 0) rfl rfl (w_args (w_loc X F.ns (i := 1) rfl rfl (w_args (w_str fun t4 => w_args_nil ⟨B₃, wc_run' B₃ D' place hsz' fun h' t' k => w_args_nil ⟨rfl, fun a h'' k' n ht => ?_⟩⟩)))))))))))
      refine q h'' _ (Keep.trans F.keep (Keep.trans k k')) ?_
      rw [show pieceOf text place = some (("name" : Str), sl text place (runEnd text "az01" place)) by
        unfold pieceOf; rw [hc]; simp only []; rw [if_neg hws, he, if_neg hdig, if_pos haz]]
      exact ⟨a, _, _, rfl, ht⟩
    · rintro haz _ rfl
      refine w_nil ?_
      refine w_cons (w_if' (chr k = "'") (fun g => h₃ = g) (w_tcmp (w_loc X F.ns (i := 2) rfl rfl (w_str fun t2 => w_eq_str (w_tbool ⟨rfl, by simp [chr]⟩)))) ?_ ?_)
      · rintro hq _ rfl
        refine w_cons (w_assign (w_find3 (w_loc X F.ns (i := 0) rfl rfl ⟨_, _, rfl, w_str fun t3 => w_binop (w_loc X F.ns (i := 1) rfl rfl (w_int fun t4 => w_add_int fun t5 => ⟨_, _, _, _, rfl, rfl, fun t6 => ?_⟩))⟩)))
        rw [show ((place : Int) + 1) = ((place + 1 : Nat) : Int) from rfl]
        have hpo : pieceOf text place = if 0 < Txt.find3 text "'" (place + 1 : Nat) then some (("string" : Str), sl text place ((Txt.find3 text "'" (place + 1 : Nat)).toNat + 1)) else none := by
          unfold pieceOf; rw [hc]; simp only []; rw [if_neg hws, he, if_neg hdig, if_neg haz, if_pos hq]
        generalize Txt.find3 text "'" (place + 1 : Nat) = fnd at hpo ⊢
        refine w_store X F.ns (i := 6) rfl rfl fun h₄ N₄ k₄ => ?_
        replace F := F.put N₄ k₄
        refine w_cons (w_return (w_ifexp' (0 < fnd) (fun g => h₄ = g) (w_tcmp (w_loc X F.ns (i := 6) rfl rfl (w_int fun t7 => w_gt_int (w_tbool ⟨rfl, by simp⟩)))) ?_ ?_))
        · rintro hf _ rfl
          refine w_tuple (w_args (w_str fun t8 => w_args (w_sl_ss place (fnd.toNat + 1) (w_loc X F.ns (i := 0) rfl rfl (w_loc X F.ns (i := 1) rfl rfl (w_binop (w_loc X F.ns (i := 6) rfl rfl (w_int fun t9 => w_add_int fun t10 =>
            ⟨_, _, _, t10, rfl, rfl, congrArg (fun i => Value.int i t10) (by omega), hsz', fun h' t' k => w_args_nil ⟨rfl, fun a h'' k' n ht => ?_⟩⟩))))))))
          refine q h'' _ (Keep.trans F.keep (Keep.trans k k')) ?_
          rw [hpo, if_pos hf]
          exact ⟨a, _, _, rfl, ht⟩
        · rintro hf _ rfl
          refine w_none (q _ _ F.keep ?_)
          rw [hpo, if_neg hf]
      · rintro hq _ rfl
        refine w_nil ?_
        refine w_cons (w_if' (sl text place (place + 2) ∈ pairs) (fun g => Keep h₃ g) (w_tcmp (w_sl_ss place (place + 2) (w_loc X F.ns (i := 0) rfl rfl (w_loc X F.ns (i := 1) rfl rfl (w_binop (w_loc X F.ns (i := 1) rfl rfl (w_int fun t9 => w_add_int fun t10 =>
            ⟨_, _, _, t10, rfl, rfl, rfl, hsz', fun h' t' k => w_glob (base_g (B₃.mono k)) (gp_name _) (w_in_tuple (gp_tuple (B₃.mono k)) (gp_strs _) (by kernel_rfl) (ok_sl hok _ _) (by omega) (w_tbool ⟨k, by simp⟩))⟩))))))) ?_ ?_)
        · intro hpr g kg
          replace F := F.mono kg
          refine w_cons (w_return (w_tuple (w_args (w_str fun t8 => w_args (w_sl_ss place (place + 2) (w_loc X F.ns (i := 0) rfl rfl (w_loc X F.ns (i := 1) rfl rfl (w_binop (w_loc X F.ns (i := 1) rfl rfl (w_int fun t9 => w_add_int fun t10 =>
            ⟨_, _, _, t10, rfl, rfl, rfl, hsz', fun h' t' k => w_args_nil ⟨rfl, fun a h'' k' n ht => ?_⟩⟩))))))))))
          refine q h'' _ (Keep.trans F.keep (Keep.trans k k')) ?_
          rw [show pieceOf text place = some (("operator" : Str), sl text place (place + 2)) by
            unfold pieceOf; rw [hc]; simp only []; rw [if_neg hws, he, if_neg hdig, if_neg haz, if_neg hq, if_pos hpr]]
          exact ⟨a, _, _, rfl, ht⟩
        · intro hpr g kg
          replace F := F.mono kg
          refine w_nil ?_
          refine w_cons (w_return (w_ifexp' (k ∈ signs1.cps.toList) (fun g' => g = g') (w_tcmp (w_loc X F.ns (i := 2) rfl rfl (w_str fun t2 => w_in_char (w_tbool ⟨rfl, by simp [signs1]⟩)))) ?_ ?_))
          · rintro hsg _ rfl
            refine w_tuple (w_args (w_str fun t8 => w_args (w_loc X F.ns (i := 2) rfl rfl (w_args_nil ⟨rfl, fun a h'' k' n ht => ?_⟩))))
            refine q h'' _ (Keep.trans F.keep k') ?_
            rw [show pieceOf text place = some (("operator" : Str), chr k) by
              unfold pieceOf; rw [hc]; simp only []; rw [if_neg hws, he, if_neg hdig, if_neg haz, if_neg hq, if_neg hpr, if_pos hsg]]
            exact ⟨a, _, _, rfl, ht⟩
          · rintro hsg _ rfl
            refine w_none (q _ _ F.keep ?_)
            rw [show pieceOf text place = none by
              unfold pieceOf; rw [hc]; simp only []; rw [if_neg hws, he, if_neg hdig, if_neg haz, if_neg hq, if_neg hpr, if_neg hsg]]
end Mine
end
section
open PySem PySem.W PySem.Calls PyProof.Rows
set_option maxRecDepth 100000
set_option linter.all false
namespace Mine
open PySem.Builtin.Str

/-- a token told: its row, its kind, its text -/
abbrev Tk := Nat × Str × Str
/-- how many lines end in a text -/
def nl (y : Str) : Nat := (occurrences y "\n" 0 y.length (y.length + 1)).length
theorem count_nl (y : Str) : Txt.count y "\n" = (nl y : Int) := rfl
def msgChar (x : Str) (p : Nat) : Str := match x.cps[p]? with
  | some k => (((Str.empty ++ ("unexpected char " : Str)) ++ reprText (chr k)) ++ (" at " : Str)) ++ (Str.ofString (toString (p : Int)))
  | none => Str.empty
def msgClose (y : Str) : Str := ((Str.empty ++ ("unexpected '" : Str)) ++ y) ++ ("'" : Str)
def msgOther (y d : Str) : Str := ((((Str.empty ++ ("unexpected '" : Str)) ++ y) ++ ("', expected '" : Str)) ++ d) ++ ("'" : Str)
def closers : List Str := ["}", ")", "]"]
/-- the signs awaited after a piece -/
def nextStk (stk : List Str) (y : Str) : Except Str (List Str) :=
  match dueOf y with
  | some d => .ok (stk ++ [d])
  | none => if y ∈ closers then (match stk.getLast? with
      | none => .error (msgClose y)
      | some d => if d = y then .ok stk.dropLast else .error (msgOther y d)) else .ok stk
inductive Out where
  | go (p row : Nat) (stk : List Str)
  | leave (p row : Nat)
  | fault (m : Str) (row : Nat)
/-- one step within -/
noncomputable def stepV (x : Str) (p row : Nat) (stk : List Str) : List Tk × Out :=
  if stk = [] ∧ sl x p (p + 2) = "}}" then ([(row, "variable_end", "}}")], .leave (p + 2) row)
  else if stk = [] ∧ sl x p (p + 3) = "-}}" then
    ([(row, "variable_end", ("-}}" : Str) ++ sl x (p + 3) (runEnd x " \n" (p + 3)))], .leave (p + (("-}}" : Str) ++ sl x (p + 3) (runEnd x " \n" (p + 3))).length) (row + nl (("-}}" : Str) ++ sl x (p + 3) (runEnd x " \n" (p + 3)))))
  else match pieceOf x p with
    | none => ([], .fault (msgChar x p) row)
    | some (k, y) => match nextStk stk y with
      | .error m => ([], .fault m row)
      | .ok stk' => ([(row, k, y)], .go (p + y.length) (row + nl y) stk')
/-- the sign behind an opening -/
def signOf (x : Str) (s : Nat) : Str := if sl x (s + 2) (s + 3) = "-" ∨ sl x (s + 2) (s + 3) = "+" then sl x (s + 2) (s + 3) else ""
def keptOf (x : Str) (p s : Nat) : Str := if signOf x s = "-" then Txt.rstrip (sl x p s) else sl x p s
/-- the tokens told at an opening -/
def toksE (x : Str) (p s row : Nat) : List Tk := (if (keptOf x p s).length ≠ 0 then [((row, ("data" : Str), keptOf x p s) : Tk)] else []) ++ [((row + nl (sl x p s), ("variable_begin" : Str), ("{{" : Str) ++ signOf x s) : Tk)]
/-- the whole run: in the variable or not, the place, the row, the signs awaited; what is told; how it ends -/
inductive RunF (x : Str) : Bool → Nat → Nat → List Str → List Tk → Option (Str × Nat) → Prop
  | done {m p row stk} : x.length ≤ p → RunF x m p row stk [] none
  | data {p row} : p < x.length → Txt.find3 x "{{" (p : Int) < 0 → RunF x false p row [] [(row, "data", sl x p x.length)] none
  | enter {p row s ts r} : p < x.length → Txt.find3 x "{{" (p : Int) = (s : Nat) → RunF x true (s + 2 + (signOf x s).length) (row + nl (sl x p s)) [] ts r → RunF x false p row [] (toksE x p s row ++ ts) r
  | fault {p row stk m r'} : p < x.length → stepV x p row stk = ([], .fault m r') → RunF x true p row stk [] (some (m, r'))
  | leave {p row stk t p' row' ts r} : p < x.length → stepV x p row stk = ([t], .leave p' row') → RunF x false p' row' [] ts r → RunF x true p row stk (t :: ts) r
  | go {p row stk t p' row' stk' ts r} : p < x.length → stepV x p row stk = ([t], .go p' row' stk') → RunF x true p' row' stk' ts r → RunF x true p row stk (t :: ts) r

theorem RunF.split {x : Str} {p row : Nat} {stk : List Str} {rem : List Tk} {r : Option (Str × Nat)} (h : p < x.length) (R : RunF x true p row stk rem r) : match stepV x p row stk with
    | (_, .fault m r') => rem = [] ∧ r = some (m, r')
    | (ts, .leave p' row') => ∃ t rem', ts = [t] ∧ rem = t :: rem' ∧ RunF x false p' row' [] rem' r
    | (ts, .go p' row' stk') => ∃ t rem', ts = [t] ∧ rem = t :: rem' ∧ RunF x true p' row' stk' rem' r := by
  cases R with
  | done e => omega
  | fault _ e => rw [e]; exact ⟨rfl, rfl⟩
  | leave _ e R => rw [e]; exact ⟨_, _, rfl, rfl, R⟩
  | go _ e R => rw [e]; exact ⟨_, _, rfl, rfl, R⟩
theorem RunF.splitR {x : Str} {p row : Nat} {rem : List Tk} {r : Option (Str × Nat)} (h : p < x.length) (R : RunF x false p row [] rem r) :
    (Txt.find3 x "{{" (p : Int) < 0 ∧ rem = [((row, ("data" : Str), sl x p x.length) : Tk)] ∧ r = none) ∨
    ∃ s ts, Txt.find3 x "{{" (p : Int) = (s : Nat) ∧ rem = toksE x p s row ++ ts ∧ RunF x true (s + 2 + (signOf x s).length) (row + nl (sl x p s)) [] ts r := by
  cases R with
  | done e => omega
  | data _ e => exact .inl ⟨e, rfl, rfl⟩
  | enter _ e R => exact .inr ⟨_, _, e, rfl, R⟩
theorem sl_pos {x : Str} {i j : Nat} (h : i < j) (hx : i < x.length) : 1 ≤ (sl x i j).length := by rw [sl_len]; omega
theorem run_pos {x sg : Str} {p k : Nat} (hc : x.cps[p]? = some k) (hk : k ∈ sg.cps.toList) : p < runEnd x sg p := by
  rw [← runEnd_step hc hk]
  have := runEnd_ge x sg (p + 1)
  omega
theorem piece_pos {x : Str} {p : Nat} {k y : Str} (h : pieceOf x p = some (k, y)) : 1 ≤ y.length := by
  unfold pieceOf at h
  split at h
  · cases h
  · rename_i c hc
    have hp : p < x.length := (Array.getElem?_eq_some_iff.mp hc).1
    split at h
    · rename_i h1
      cases h
      exact sl_pos (run_pos hc h1) hp
    · split at h
      · rename_i h2
        split at h
        · cases h
          rw [strLen_append, strLen_append]
          show 1 ≤ _ + 1 + _
          omega
        · cases h
          split
          · omega
          · rename_i h3
            rename_i hx
            refine sl_pos ?_ hp
            rw [sl_len] at h2
            have hz : (sl x p (runEnd x "01" p)).length ≠ 0 := by rw [sl_len]; exact h2
            -- the sign is a figure, and not a one: a nought
            by_cases hm : c ∈ (("01" : Str)).cps.toList
            · refine run_pos hc ?_
              have h48 : c = 48 ∨ c = 49 := by
                have : (("01" : Str)).cps.toList = [48, 49] := by decide +kernel
                rw [this] at hm
                simpa using hm
              rcases h48 with rfl | rfl
              · decide +kernel
              · exact absurd (by decide +kernel) h3
            · rw [runEnd_stop hc hm] at h2
              omega
      · split at h
        · rename_i h4
          cases h
          refine sl_pos (run_pos hc ?_) hp
          have e1 : (("az" : Str)).cps.toList = [97, 122] := by decide +kernel
          have e2 : (("az01" : Str)).cps.toList = [97, 122, 48, 49] := by decide +kernel
          rw [e1] at h4; rw [e2]
          simp at h4 ⊢
          rcases h4 with h4 | h4 <;> simp [h4]
        · split at h
          · split at h
            · rename_i hf
              cases h
              have hge : ((p + 1 : Nat) : Int) ≤ Txt.find3 x "'" (p + 1 : Nat) := by
                rcases StrLaws.find3_spec x 39 ((p + 1 : Nat) : Int) with ⟨h0, _⟩ | ⟨q, h0, hlo, hq, _⟩
                · have h0' : Txt.find3 x "'" (p + 1 : Nat) = -1 := h0
                  omega
                · have h0' : Txt.find3 x "'" (p + 1 : Nat) = (q : Int) := h0
                  rw [h0']
                  unfold fromIndex at hlo
                  omega
              exact sl_pos (by omega) hp
            · cases h
          · split at h
            · cases h; exact sl_pos (by omega) hp
            · split at h
              · cases h; exact Nat.le_refl 1
              · cases h
theorem strOk_app {x y : Str} (hx : PyData.strOk x = true) (hy : PyData.strOk y = true) : PyData.strOk (x ++ y) = true := by
  unfold PyData.strOk at *
  rw [← Array.all_toList, List.all_eq_true] at *
  intro k hk
  have : (x ++ y).cps.toList = x.cps.toList ++ y.cps.toList := by
    show (x.cps ++ y.cps).toList = _
    simp
  rw [this] at hk
  rcases List.mem_append.mp hk with h | h
  · exact hx k h
  · exact hy k h
theorem piece_ok {x : Str} {p : Nat} {k y : Str} (hok : ∀ k ∈ x.cps.toList, k < 1114112) (h : pieceOf x p = some (k, y)) : PyData.strOk y = true ∧ y.length ≤ 2 * x.length + 1 := by
  have S : ∀ i j, PyData.strOk (sl x i j) = true ∧ (sl x i j).length ≤ 2 * x.length + 1 := fun i j => ⟨ok_sl hok i j, Nat.le_trans (sl_le x i j) (by omega)⟩
  unfold pieceOf at h
  split at h
  · cases h
  · rename_i c hc
    have hp : p < x.length := (Array.getElem?_eq_some_iff.mp hc).1
    have hcm : c ∈ x.cps.toList := by
      obtain ⟨hi, rfl⟩ := Array.getElem?_eq_some_iff.mp hc
      exact Array.mem_toList_iff.mpr (Array.getElem_mem hi)
    split at h
    · cases h; exact S _ _
    · split at h
      · split at h
        · cases h
          have l1 := sl_le x p (runEnd x "01" p)
          have l2 := sl_le x (runEnd x "01" p + 1) (runEnd x "01" (runEnd x "01" p + 1))
          refine ⟨strOk_app (strOk_app (S _ _).1 (by decide +kernel)) (S _ _).1, ?_⟩
          rw [strLen_append, strLen_append]
          show _ + 1 + _ ≤ _
          omega
        · cases h
          split <;> exact S _ _
      · split at h
        · cases h; exact S _ _
        · split at h
          · split at h
            · cases h; exact S _ _
            · cases h
          · split at h
            · cases h; exact S _ _
            · split at h
              · cases h
                have := hok c hcm
                refine ⟨?_, by show 1 ≤ _; omega⟩
                unfold PyData.strOk chr
                simpa using this
              · cases h
end Mine
end
section
open PySem PySem.W PySem.Calls PyProof.Rows
set_option maxRecDepth 100000
set_option linter.all false
namespace Mine

/-- tuples stay -/
abbrev TupKeep (h h' : Heap) : Prop := ∀ b items, h.IsTuple b items → h'.IsTuple b items
theorem TupKeep.of_keep {h h' : Heap} (k : Keep h h') : TupKeep h h' := fun b items ⟨o, e, c, d⟩ => ⟨o, k b o e, c, d⟩
theorem TupKeep.of_list {h h' : Heap} {a : Addr} {its : List Value} (l : Lst h a its) (k : KeepBut a h h') : TupKeep h h' := fun b items ⟨o, e, c, d⟩ => by
  obtain ⟨n, l⟩ := l
  refine ⟨o, k b o (fun x => ?_) e, c, d⟩
  subst x
  rw [l] at e
  cases e
  simp at c
theorem TupKeep.of_ns {h h' : Heap} {L : Addr} {m : Str → Option Value} (N : h.Ns L m) (k : KeepBut L h h') : TupKeep h h' := fun b items ⟨o, e, c, n, d⟩ => by
  obtain ⟨o', es, n', e', d', _⟩ := N
  refine ⟨o, k b o (fun x => ?_) e, c, n, d⟩
  subst x
  rw [e'] at e
  cases e
  rw [d'] at d
  cases d
theorem Base.new {w : World} {h : Heap} {a : Addr} (B : Base w h) (n : New h a) : New (H1 w.params) a := by
  unfold New at n ⊢
  cases e : (H1 w.params).get? a with
  | none => rfl
  | some o => rw [B a o e] at n; cases n
theorem Base.but {w : World} {h h' : Heap} {a : Addr} (B : Base w h) (k : KeepBut a h h') (n : New (H1 w.params) a) : Base w h' := fun b o e => k b o (n.ne e) (B b o e)

def NoTup (o : Obj) : Prop := o.cls = .type "tuple" → ∀ items n, o.data ≠ .seq items n
theorem NoTup.of {o : Obj} (h : o.cls ≠ .type "tuple") : NoTup o := fun e => absurd e h
/-- what lives at an address and may change -/
inductive Cell where
  | lst (vs : List Value)
  | obj (P : Obj → Prop)
  | objH (P : Heap → Obj → Prop)
def Cell.at (h : Heap) (a : Addr) : Cell → Prop
  | .lst vs => Lst h a vs
  | .obj P => (∃ o, h.get? a = some o ∧ P o) ∧ ∀ o, P o → o.cls ≠ .type "tuple"
  | .objH P => (∃ o, h.get? a = some o ∧ P h o) ∧ (∀ h o, P h o → NoTup o) ∧ ∀ h h' o, TupKeep h h' → P h o → P h' o
theorem Cell.get {h : Heap} {a : Addr} {x : Cell} (e : x.at h a) : ∃ o, h.get? a = some o ∧ NoTup o := by
  cases x with
  | lst vs => obtain ⟨n, e⟩ := e; exact ⟨_, e, .of (by simp)⟩
  | obj P => obtain ⟨⟨o, e, p⟩, f⟩ := e; exact ⟨o, e, .of (f o p)⟩
  | objH P => obtain ⟨⟨o, e, p⟩, f, _⟩ := e; exact ⟨o, e, f h o p⟩
theorem Cell.but {h h' : Heap} {a b : Addr} {x : Cell} (e : x.at h a) (t : TupKeep h h') (k : KeepBut b h h') (ne : a ≠ b) : x.at h' a := by
  cases x with
  | lst vs => exact Lst.but e k ne
  | obj P => obtain ⟨⟨o, e, p⟩, f⟩ := e; exact ⟨⟨o, k _ _ ne e, p⟩, f⟩
  | objH P => obtain ⟨⟨o, e, p⟩, f, g⟩ := e; exact ⟨⟨o, k _ _ ne e, g _ _ _ t p⟩, f, g⟩
theorem Cell.keep {h h' : Heap} {a : Addr} {x : Cell} (e : x.at h a) (k : Keep h h') : x.at h' a := by
  cases x with
  | lst vs => exact Lst.keep e k
  | obj P => obtain ⟨⟨o, e, p⟩, f⟩ := e; exact ⟨⟨o, k _ _ e, p⟩, f⟩
  | objH P => obtain ⟨⟨o, e, p⟩, f, g⟩ := e; exact ⟨⟨o, k _ _ e, g _ _ _ (.of_keep k) p⟩, f, g⟩
theorem TupKeep.of_cell {h h' : Heap} {a : Addr} {x : Cell} (l : x.at h a) (k : KeepBut a h h') : TupKeep h h' := fun b items ⟨o, e, c, d⟩ => by
  obtain ⟨o', e', ne⟩ := Cell.get l
  refine ⟨o, k b o (fun x => ?_) e, c, d⟩
  subst x
  rw [e'] at e
  cases e
  obtain ⟨n, d⟩ := d
  exact ne c _ _ d

/-- a frame, its lists that change, and what is known of tuples -/
structure MS (w : World) (h₀ : Heap) (X : List Addr) (I : Heap → Prop) (L : Addr) (ns : List Str) (vs : List (Option Value)) (ls : List (Addr × Cell)) (h : Heap) : Prop where
  base : Base w h
  ns : h.Ns L (frm ns vs)
  lst : ∀ p ∈ ls, p.2.at h p.1
  nd : (L :: ls.map (·.1)).Nodup
  keep : ∀ b o, b ∉ X → h₀.get? b = some o → h.get? b = some o
  new : ∀ a ∈ L :: ls.map (·.1), a ∈ X ∨ New h₀ a
  nb : ∀ a ∈ L :: ls.map (·.1), New (H1 w.params) a
  inv : I h
  st : ∀ h h', TupKeep h h' → I h → I h'

section
variable {w : World} {h₀ h h' : Heap} {X : List Addr} {I I' : Heap → Prop} {L : Addr} {ns : List Str} {vs vs' : List (Option Value)} {ls ls' : List (Addr × Cell)}
theorem MS.mono (M : MS w h₀ X I L ns vs ls h) (k : Keep h h') : MS w h₀ X I L ns vs ls h' :=
  ⟨M.base.mono k, M.ns.keeps k, fun p m => Cell.keep (M.lst p m) k, M.nd, fun b o n e => k _ _ (M.keep b o n e), M.new, M.nb, M.st _ _ (.of_keep k) M.inv, M.st⟩
theorem MS.know (M : MS w h₀ X I L ns vs ls h) (i : I' h) (st : ∀ h h', TupKeep h h' → I' h → I' h') : MS w h₀ X I' L ns vs ls h := { M with inv := i, st := st }
theorem MS.keepBut (M : MS w h₀ X I L ns vs ls h) {a : Addr} (ha : a ∈ L :: ls.map (·.1)) (k : KeepBut a h h') : ∀ b o, b ∉ X → h₀.get? b = some o → h'.get? b = some o := fun b o n e => by
  refine k b o (fun x => ?_) (M.keep b o n e)
  subst x
  rcases M.new _ ha with hx | hn
  · exact n hx
  · rw [hn] at e; cases e
theorem MS.ne (M : MS w h₀ X I L ns vs ls h) {p : Addr × Cell} (m : p ∈ ls) : p.1 ≠ L := fun e =>
  (List.nodup_cons.mp M.nd).1 (e ▸ List.mem_map_of_mem m)
theorem MS.store (M : MS w h₀ X I L ns vs ls h) (N : h'.Ns L (frm ns vs')) (k : KeepBut L h h') : MS w h₀ X I L ns vs' ls h' :=
  ⟨M.base.but k (M.nb _ List.mem_cons_self), N, fun p m => Cell.but (M.lst p m) (.of_ns M.ns k) k (M.ne m), M.nd, M.keepBut List.mem_cons_self k, M.new, M.nb, M.st _ _ (.of_ns M.ns k) M.inv, M.st⟩
theorem MS.get (M : MS w h₀ X I L ns vs ls h) (i : Nat) {a : Addr} {its : List Value} (e : ls[i]? = some (a, .lst its)) : Lst h a its := M.lst (a, .lst its) (List.mem_of_getElem? e)
theorem map_set_same {α β : Type} (f : α → β) {l : List α} {i : Nat} {x y : α} (e : l[i]? = some x) (hf : f y = f x) : (l.set i y).map f = l.map f := by
  rw [List.map_set, hf]
  apply List.ext_getElem? 
  intro j
  rw [List.getElem?_set]
  by_cases hj : i = j
  · subst hj
    simp [e]
    exact (List.getElem?_eq_some_iff.mp e).1
  · simp [hj]
theorem MS.setC (M : MS w h₀ X I L ns vs ls h) (i : Nat) {a : Addr} {its its' : Cell} (e : ls[i]? = some (a, its)) (l : its'.at h' a) (k : KeepBut a h h') : MS w h₀ X I L ns vs (ls.set i (a, its')) h' := by
  have hm := List.mem_of_getElem? e
  have ha : a ∈ L :: ls.map (·.1) := List.mem_cons_of_mem _ (List.mem_map_of_mem (f := (·.1)) hm)
  have hs : (ls.set i (a, its')).map (·.1) = ls.map (·.1) := map_set_same (y := (a, its')) (·.1) e rfl
  have hne : a ≠ L := M.ne hm
  refine ⟨M.base.but k (M.nb _ ha), M.ns.extBut k (Ne.symm hne), fun p hp => ?_, by rw [hs]; exact M.nd, M.keepBut ha k, by rw [hs]; exact M.new, by rw [hs]; exact M.nb, M.st _ _ (.of_cell (M.lst (a, its) (List.mem_of_getElem? e)) k) M.inv, M.st⟩
  obtain ⟨j, hj⟩ := List.getElem?_of_mem hp
  rw [List.getElem?_set] at hj
  by_cases hij : i = j
  · subst hij
    rw [if_pos rfl] at hj
    split at hj
    · cases hj; exact l
    · cases hj
  · rw [if_neg hij] at hj
    refine Cell.but (M.lst p (List.mem_of_getElem? hj)) (.of_cell (M.lst (a, its) (List.mem_of_getElem? e)) k) k fun x => hij ?_
    have nd := (List.nodup_cons.mp M.nd).2
    have hi1 : (ls.map (·.1))[i]? = some a := by rw [List.getElem?_map, e]; rfl
    have hj1 : (ls.map (·.1))[j]? = some a := by rw [List.getElem?_map, hj]; simp [x]
    have hlt := (List.getElem?_eq_some_iff.mp hi1).1
    exact (List.getElem?_inj hlt nd).mp (hi1.trans hj1.symm)
theorem MS.set (M : MS w h₀ X I L ns vs ls h) (i : Nat) {a : Addr} {its its' : List Value} (e : ls[i]? = some (a, .lst its)) (l : Lst h' a its') (k : KeepBut a h h') : MS w h₀ X I L ns vs (ls.set i (a, .lst its')) h' :=
  M.setC i (its' := .lst its') e l k
theorem MS.getO (M : MS w h₀ X I L ns vs ls h) (i : Nat) {a : Addr} {P : Obj → Prop} (e : ls[i]? = some (a, .obj P)) : ∃ o, h.get? a = some o ∧ P o := (M.lst (a, .obj P) (List.mem_of_getElem? e)).1
theorem MS.setO (M : MS w h₀ X I L ns vs ls h) (i : Nat) {a : Addr} {P P' : Obj → Prop} (e : ls[i]? = some (a, .obj P)) (l : ∃ o, h'.get? a = some o ∧ P' o) (nt : ∀ o, P' o → o.cls ≠ .type "tuple") (k : KeepBut a h h') : MS w h₀ X I L ns vs (ls.set i (a, .obj P')) h' :=
  M.setC i (its' := .obj P') e ⟨l, nt⟩ k
theorem MS.addC (M : MS w h₀ X I L ns vs ls h) {a : Addr} {its : Cell} (n : New h a) (hn : New h₀ a) (k : Keep h h') (l : its.at h' a) : MS w h₀ X I L ns vs (ls ++ [(a, its)]) h' := by
  have M' := M.mono k
  have hall : ∀ b ∈ L :: (ls ++ [(a, its)]).map (·.1), b ∈ L :: ls.map (·.1) ∨ b = a := fun b hb => by
    simp only [List.map_append, List.mem_cons, List.mem_append, List.map_cons, List.map_nil, List.not_mem_nil, or_false] at hb ⊢
    rcases hb with h | h | h
    · exact .inl (.inl h)
    · exact .inl (.inr h)
    · exact .inr h
  have hfresh : a ∉ L :: ls.map (·.1) := fun hb => by
    rcases List.mem_cons.mp hb with e | hb
    · subst e
      obtain ⟨o, _, _, e, _⟩ := M.ns
      rw [n] at e; cases e
    · obtain ⟨p, hp, rfl⟩ := List.mem_map.mp hb
      obtain ⟨_, e, _⟩ := Cell.get (M.lst p hp)
      rw [n] at e; cases e
  refine ⟨M'.base, M'.ns, fun p hp => ?_, ?_, M'.keep, fun b hb => ?_, fun b hb => ?_, M'.inv, M'.st⟩
  · rcases List.mem_append.mp hp with hp | hp
    · exact M'.lst p hp
    · rw [List.mem_singleton.mp hp]; exact l
  · rw [List.map_append, ← List.cons_append]
    refine List.nodup_append.mpr ⟨M.nd, by simp, fun x hx y hy => ?_⟩
    simp only [List.map_cons, List.map_nil, List.mem_singleton] at hy
    subst hy
    exact fun e => hfresh (e ▸ hx)
  · rcases hall b hb with hb | rfl
    · exact M.new b hb
    · exact .inr hn
  · rcases hall b hb with hb | rfl
    · exact M.nb b hb
    · exact M.base.new n
theorem MS.add (M : MS w h₀ X I L ns vs ls h) {a : Addr} {its : List Value} (n : New h a) (hn : New h₀ a) (k : Keep h h') (l : Lst h' a its) : MS w h₀ X I L ns vs (ls ++ [(a, .lst its)]) h' :=
  M.addC (its := .lst its) n hn k l
theorem MS.addO (M : MS w h₀ X I L ns vs ls h) {a : Addr} {P : Obj → Prop} (n : New h a) (hn : New h₀ a) (k : Keep h h') (l : ∃ o, h'.get? a = some o ∧ P o) (nt : ∀ o, P o → o.cls ≠ .type "tuple") : MS w h₀ X I L ns vs (ls ++ [(a, .obj P)]) h' :=
  M.addC (its := .obj P) n hn k ⟨l, nt⟩
/-- cells may be forgotten -/
theorem MS.drop (M : MS w h₀ X I L ns vs (ls ++ ls') h) : MS w h₀ X I L ns vs ls h := by
  have sub : ∀ a ∈ L :: ls.map (·.1), a ∈ L :: (ls ++ ls').map (·.1) := fun a ha => by
    rw [List.map_append]
    rcases List.mem_cons.mp ha with e | ha
    · exact e ▸ List.mem_cons_self
    · exact List.mem_cons_of_mem _ (List.mem_append_left _ ha)
  refine { M with lst := fun p hp => M.lst p (List.mem_append_left _ hp), nd := ?_, new := fun a ha => M.new a (sub a ha), nb := fun a ha => M.nb a (sub a ha) }
  have := M.nd
  rw [List.map_append, ← List.cons_append] at this
  exact (List.nodup_append.mp this).1
end
end Mine
end
section
open PySem PySem.W PySem.Calls PyProof.Rows
set_option maxRecDepth 100000
set_option linter.all false
set_option maxHeartbeats 4000000
namespace Mine
open PySem.Builtin.Str

section
variable {c : Cx} {h : Heap} {E : Value → Heap → Prop} {L b : Addr} {nm : Str} {sc : Scope} {cd : Value} {env : Env}
theorem w_callG0 {x : Str} {p pos : Pos} {a : Nat} {o : Obj} {Q : Value → Heap → Prop}
    (G : GFn c.w.params x a o) (B : Base c.w h) (y : W c h (call (.ref a) []) Q E)
    (hk : sc.kind = .function := by rfl) (hx : (envOf nm sc L b cd).kindOf x = some .globalImplicit := by rfl) (hd : (x == ("__debug__" : Str)) = false := by decide) :
    W c h (eval (.Call (.Name x p) [] [] pos) (envOf nm sc L b cd)) Q E := by
  obtain ⟨fd, hfd⟩ := isFn.of G.fn
  refine w_callN (w_glob (base_g B) G.m ?_ hk hx hd)
  exact fun tk => callWith_def_kw hfd (PySem.evalArgs_none ⟨base_at B G.get G.lt G.al, y tk⟩)
theorem gf_due (P : Params) : GFn P "_law_due" 502 (top.o_560 P) := ⟨by kernel_rfl, by kernel_rfl, by kernel_rfl, by decide, by kernel_rfl⟩
theorem gf_piece (P : Params) : GFn P "_law_piece" 523 (top.o_584 P) := ⟨by kernel_rfl, by kernel_rfl, by kernel_rfl, by decide, by kernel_rfl⟩
theorem gf_within (P : Params) : GFn P "_law_within" 530 (top.o_591 P) := ⟨by kernel_rfl, by kernel_rfl, by kernel_rfl, by decide, by kernel_rfl⟩
theorem WJ_nil {acc : Str} {Q : Str → Heap → Prop} (q : Q acc h) : WJ c E (evalEach [] env) acc Q h := q
theorem WJ_cons {v : Expr} {rest : List Expr} {acc : Str} {Q : Str → Heap → Prop} (x : W c h (eval v env) (fun v h₁ => ∃ y t, v = .str y t ∧ (acc ++ y).length ≤ sizeLine ∧ WJ c E (evalEach rest env) (acc ++ y) Q h₁) E) : WJ c E (evalEach (v :: rest) env) acc Q h := x

/-- the dictionary of the signs, made anew -/
theorem w_due {p pos : Pos} {Q : Value → Heap → Prop} (B : Base c.w h) (D : c.A.depth < recursionLimit) (q : ∀ h' d, Keep h h' → New h d → IsDue c.prog c.w h' d → Q (.ref d) h')
    (hk : sc.kind = .function := by rfl) (hx : (envOf nm sc L b cd).kindOf "_law_due" = some .globalImplicit := by rfl) : W c h (eval (.Call (.Name "_law_due" p) [] [] pos) (envOf nm sc L b cd)) Q E :=
  w_callG0 (gf_due _) B (W_call (wc_due B D q)) hk hx (by decide)
theorem new_ne_sys {w : World} {d : Addr} (B : Base w h) (n : New h d) : (d == sysModules) = false := by
  have e := n.ne (base_at (a := 1) (o := top.o_2 w.params) B (by kernel_rfl) (by decide) (by kernel_rfl))
  exact beq_false_of_ne (Ne.symm e)
theorem w_in_due {y : Str} {t : Tok} {d : Addr} {Q : Value → Heap → Prop} (hd : IsDue c.prog c.w h d) (hs : (d == sysModules) = false) (q : Q (.bool (dueOf y).isSome) h) : W c h (compareOp .In (.str y t) (.ref d)) Q E := by
  obtain ⟨t1, t2, t3, hd⟩ := hd
  exact w_in_dict hd hs (by rw [(valueAt_due y t1 t2 t3).1]; exact q)
theorem w_item_due {value slice : Expr} {y z : Str} {t : Tok} {d : Addr} {Q : Value → Heap → Prop} (hd : IsDue c.prog c.w h d) (e : dueOf y = some z) (q : ∀ t, Q (.str z t) h)
    (hs : subscripted slice false (.ref d) (.str y t) = operate [.ref d, .str y t] (getItem (.ref d) (.str y t)) := by with_unfolding_all rfl) : W c h (subscriptTail value slice (.ref d) (.str y t)) Q E := by
  obtain ⟨t1, t2, t3, hd⟩ := hd
  obtain ⟨u, hu⟩ := (valueAt_due y t1 t2 t3).2 z e
  exact w_item_dict hd hu (q u) hs
end

/-- a token on the heap -/
inductive TokV (h : Heap) : Value → Tk → Prop
  | mk {b : Addr} {r : Nat} {k y : Str} {t u v : Tok} : h.IsTuple b #[.int r t, .str k u, .str y v] → TokV h (.ref b) (r, k, y)
inductive Toks (h : Heap) : List Value → List Tk → Prop
  | nil : Toks h [] []
  | cons {v k vs ks} : TokV h v k → Toks h vs ks → Toks h (v :: vs) (k :: ks)
theorem TokV.tup {h h' : Heap} {v : Value} {k : Tk} (t : TupKeep h h') : TokV h v k → TokV h' v k
  | .mk e => .mk (t _ _ e)
theorem Toks.tup {h h' : Heap} (t : TupKeep h h') : ∀ {vs : List Value} {ks : List Tk}, Toks h vs ks → Toks h' vs ks
  | _, _, .nil => .nil
  | _, _, .cons e r => .cons (e.tup t) (Toks.tup t r)
theorem Toks.app {h : Heap} {v : Value} {k : Tk} (e : TokV h v k) : ∀ {vs : List Value} {ks : List Tk}, Toks h vs ks → Toks h (vs ++ [v]) (ks ++ [k])
  | _, _, .nil => .cons e .nil
  | _, _, .cons e' r => .cons e' (Toks.app e r)
theorem Toks.len {h : Heap} : ∀ {vs : List Value} {ks : List Tk}, Toks h vs ks → vs.length = ks.length
  | _, _, .nil => rfl
  | _, _, .cons _ r => by simp [Toks.len r]
theorem StrVals.len : ∀ {vs : List Value} {xs : List Str}, StrVals vs xs → vs.length = xs.length
  | _, _, .nil => rfl
  | _, _, .cons r => by simp [StrVals.len r]
theorem StrVals.app {x : Str} {t : Tok} : ∀ {vs : List Value} {xs : List Str}, StrVals vs xs → StrVals (vs ++ [.str x t]) (xs ++ [x])
  | _, _, .nil => .cons .nil
  | _, _, .cons r => .cons (StrVals.app r)
theorem StrVals.last : ∀ {xs : List Str} {vs : List Value} {x : Str}, StrVals vs (xs ++ [x]) → ∃ vs' t, vs = vs' ++ [.str x t] ∧ StrVals vs' xs
  | [], _, _, .cons .nil => ⟨[], _, rfl, .nil⟩
  | y :: xs, _, _, .cons r => by
    obtain ⟨vs', t, rfl, r'⟩ := StrVals.last r
    exact ⟨_ :: vs', t, rfl, .cons r'⟩
section
variable {c : Cx} {h : Heap} {E : Value → Heap → Prop} {env : Env}
/-- told.append((row, kind, text)) -/
theorem w_tell {o e1 e2 e3 : Expr} {kk : Nat} {tpos apos pos : Pos} {Q : Value → Heap → Prop} (T : Addr)
    (x : W c h (eval o env) (fun ov h₁ => ov = .ref T ∧ (∃ its, Lst h₁ T its) ∧ W c h₁ (eval e1 env) (fun v1 h₂ => W c h₂ (eval e2 env) (fun v2 h₃ => W c h₃ (eval e3 env) (fun v3 h₄ =>
      ∃ (r : Nat) (t : Tok) (k : Str) (u : Tok) (y : Str) (v : Tok) (tv : List Value) (td : List Tk), v1 = .int r t ∧ v2 = .str k u ∧ v3 = .str y v ∧ Lst h₄ T tv ∧ Toks h₄ tv td ∧ tv.length ≤ sizeLine ∧
        ∀ h' v, Lst h' T (tv ++ [v]) → Toks h' (tv ++ [v]) (td ++ [(r, k, y)]) → KeepBut T h₄ h' → Q .none h') E) E) E) E)
    (hbase : attributeBase o "append" env (eval o env) = eval o env := by rfl) (hline : (apos.endLine == pos.line) = true := by rfl)
    (hfew : ((backTo pos (starEach [.Tuple [e1, e2, e3] kk tpos] env)).all (fun x => !x.1) && (backToKw pos (keywordEach [] env)).all (fun x => x.1.isSome)
      && decide (([.Tuple [e1, e2, e3] kk tpos] : List Expr).length + ([] : List Keyword).length + (if ([] : List Keyword).isEmpty then 0 else 1) < 30)) = true := by rfl)
    (he : backTo pos (starEach [.Tuple [e1, e2, e3] kk tpos] env) = [(false, eval (.Tuple [e1, e2, e3] kk tpos) env)] := by rfl)
    (h1 : starEach [e1, e2, e3] env = (false, eval e1 env) :: starEach [e2, e3] env := by rfl) (h2 : starEach [e2, e3] env = (false, eval e2 env) :: starEach [e3] env := by rfl) (h3 : starEach [e3] env = (false, eval e3 env) :: starEach [] env := by rfl) :
    W c h (eval (.Call (.Attribute o "append" apos) [.Tuple [e1, e2, e3] kk tpos] [] pos) env) Q E :=
  w_append (W_mono x (fun ov h₁ ⟨hv, ⟨its, hl⟩, q⟩ => ⟨T, its, hv, hl, w_tuple (w_args (W_mono q (fun v1 h₂ q => w_args (W_mono q (fun v2 h₃ q => w_args (W_mono q (fun v3 h₄ q => w_args_nil ⟨rfl, fun b h₅ k₅ n₅ ht => by
    obtain ⟨r, t, k, u, y, v, tv, td, rfl, rfl, rfl, hl, htk, hsz, q⟩ := q
    refine ⟨tv, hl.keep k₅, hsz, fun h' hl' kb => q h' _ hl' ?_ (fun b o n e => kb b o n (k₅ b o e))⟩
    exact ((htk.tup (.of_keep k₅)).app (.mk ht)).tup (.of_list (hl.keep k₅) kb)⟩) fun _ _ y => y) h3) fun _ _ y => y) h2) fun _ _ y => y) h1)⟩) fun _ _ y => y) hbase hline hfew he
end
/-- the fault on the heap -/
def FltV (h : Heap) (v : Value) : Option (Str × Nat) → Prop
  | none => v = .none
  | some (m, r) => ∃ b t u, v = .ref b ∧ h.IsTuple b #[.str m t, .int (r : Nat) u]
theorem FltV.tup {h h' : Heap} {v : Value} (t : TupKeep h h') : ∀ {f : Option (Str × Nat)}, FltV h v f → FltV h' v f
  | none, e => e
  | some _, ⟨b, u, w, e, r⟩ => ⟨b, u, w, e, t _ _ r⟩
end Mine
end
section
open PySem PySem.W PySem.Calls PyProof.Rows
set_option maxRecDepth 100000
set_option linter.all false
set_option maxHeartbeats 4000000
namespace Mine
open PySem.Builtin.Str

theorem log_small {p : Nat} (h : p < sizeLine) : ((p : Int)).natAbs.log2 < 1920 := by
  rw [Int.natAbs_natCast]
  by_cases h0 : p = 0
  · subst h0; decide
  · rw [Nat.log2_lt h0]
    refine Nat.lt_trans h ?_
    rw [sizeLine_eq]
    decide +kernel
theorem app_le {a b : Str} {m n : Nat} (ha : a.length ≤ m) (hb : b.length ≤ n) : (a ++ b).length ≤ m + n := by rw [strLen_append]; omega
theorem repr_le {k : Nat} (h : k < 1114112) : (reprText (chr k)).length ≤ 12 := by
  have := StrLaws.reprText_len (chr k) (fun c hc => by
    have : c = k := by simpa [chr] using hc
    subst this
    have : (16 : Nat) ^ 8 = 4294967296 := by decide
    omega)
  simpa [chr, Str.length] using this

theorem w_cons_via (P : Heap → Prop) {c : Cx} {h : Heap} {E : Value → Heap → Prop} {env : Env} {st : Stmt} {rest : List Stmt} {Q : Flow → Heap → Prop} (x : W c h (exec st env) (fun f h' => match f with | .next => P h' | f => Q f h') E)
    (y : ∀ h', P h' → W c h' (execs rest env) Q E) : W c h (execs (st :: rest) env) Q E :=
  w_cons (W_mono x (fun f h' q => by
    cases f with
    | next => exact y h' q
    | _ => exact q) fun _ _ y => y)
theorem due_closer {y d : Str} (e : dueOf y = some d) : d ∈ closers := by
  unfold dueOf at e
  split at e
  · cases e; simp [closers]
  · split at e
    · cases e; simp [closers]
    · split at e
      · cases e; simp [closers]
      · cases e
theorem closer_len {d : Str} (h : d ∈ closers) : d.length = 1 := by
  simp only [closers, List.mem_cons, List.not_mem_nil, or_false] at h
  rcases h with rfl | rfl | rfl <;> decide +kernel

/-- what _law_within answers -/
def WRes (h : Heap) (v : Value) (p row : Nat) (f : Option (Str × Nat)) : Prop := ∃ a t u fv, v = .ref a ∧ h.IsTuple a #[.int p t, .int row u, fv] ∧ FltV h fv f

abbrev nsW : List Str := ([("text" : Str), "place", "row", "told"] : List Str) ++ [("awaited" : Str), "end", "found", "kind", "piece", "due"]

/-- the head of the loop of _law_within -/
structure AtW (p0 len0 : Nat) (w : World) (h₀ : Heap) (x : Str) (tx : Value) (T A : Addr) (ts0 : List Tk) (r : Option (Str × Nat)) (L : Addr) (p row : Nat) (stk : List Str) (td rem : List Tk) (tv av : List Value) (v5 v6 v7 v8 v9 : Option Value) (t1 t2 : Tok) (h : Heap) : Prop where
  ms : MS w h₀ [T] (fun h => Toks h tv td) L nsW [some tx, some (.int p t1), some (.int row t2), some (.ref T), some (.ref A), v5, v6, v7, v8, v9] [(T, .lst tv), (A, .lst av)] h
  sa : StrVals av stk
  run : RunF x true p row stk rem r
  all : td ++ rem = ts0
  room : av.length ≤ tv.length
  cl : ∀ d ∈ stk, d ∈ closers
  prog : rem.length < len0 ∨ (rem.length = len0 ∧ p = p0)

theorem wc_within {c : Cx} {h : Heap} (B : Base c.w h) (D : c.A.depth + 2 < recursionLimit) (U : c.A.units + 11 < cLine) (hh : c.A.handled = none) {x : Str} {t t1 t2 : Tok} {p row : Nat} {T : Addr} {tv : List Value} {td : List Tk}
    (hT : Lst h T tv) (hk : Toks h tv td) (nT : New (H1 c.w.params) T) (hsz : 2 * x.length + 4000 < sizeLine) (hok : ∀ k ∈ x.cps.toList, k < 1114112) {ts : List Tk} {r : Option (Str × Nat)} (R : RunF x true p row [] ts r) (room : td.length + ts.length < sizeLine)
    {Q : Value → Heap → Prop} {E : Value → Heap → Prop}
    (q : ∀ h' v tv' td' p' row' rem f, KeepBut T h h' → Lst h' T tv' → Toks h' tv' td' → WRes h' v p' row' f → td' ++ rem = td ++ ts →
      ((∃ m, f = some m ∧ r = some m ∧ rem = []) ∨ (f = none ∧ RunF x false p' row' [] rem r ∧ rem.length ≤ ts.length ∧ (p < x.length → rem.length < ts.length))) → Q v h') :
    WC c h (.call (.ref 530) ⟨[.str x t, .int p t1, .int row t2, .ref T], []⟩) Q E := by
  refine wc_at "_law_within" ["text", "place", "row", "told"] ["awaited", "end", "found", "kind", "piece", "due"] 530 529 (top.o_591 c.w.params) (top.o_590 c.w.params) B (by omega) (by kernel_rfl) (by kernel_rfl) (by kernel_rfl) (by kernel_rfl) (by kernel_rfl) (by decide) (by kernel_rfl) (by kernel_rfl) (by kernel_rfl) rfl (by kernel_rfl) (by kernel_rfl) (by kernel_rfl) ?_
  have X : FnOk nsW (fscope (top.o_591 c.w.params)) := FnOk.of (by kernel_rfl)
  have hsz' : x.length ≤ sizeLine := by omega
  have h63 := len_lt63 hsz'
  intro c' h₁ L hw hp' hdp hun hhd hfr B₁ K₁ F
  have D' : c'.A.depth + 1 < recursionLimit := by omega
  have hh' : c'.A.handled = none := hhd.trans hh
  have hTL : T ≠ L := Nat.ne_of_lt (Nat.lt_of_lt_of_le hT.lt F.above)
  have M : MS c'.w h [T] (fun h => Toks h tv td) L nsW _ [(T, .lst tv)] h₁ :=
    ⟨B₁, F.ns, fun q hq => by rw [List.mem_singleton.mp hq]; exact hT.keep F.keep, by simpa using Ne.symm hTL, fun b o _ e => F.keep b o e,
      fun a ha => by
        simp only [List.map_cons, List.map_nil, List.mem_cons, List.not_mem_nil, or_false] at ha
        rcases ha with rfl | rfl
        · exact .inr (New.of_le F.above)
        · exact .inl (by simp), fun a ha => by
        simp only [List.map_cons, List.map_nil, List.mem_cons, List.not_mem_nil, or_false] at ha
        rcases ha with rfl | rfl
        · exact hw ▸ B.new (New.of_le F.above)
        · exact hw ▸ nT, hk.tup (.of_keep F.keep), fun _ _ k e => e.tup k⟩
  refine w_cons (w_assign (w_list (w_args_nil ⟨rfl, fun A h₂ k nA lA => ?_⟩)))
  replace M := M.add nA (nA.back K₁) k lA
  refine w_store X M.ns (i := 4) rfl rfl fun h₃ N₃ k₃ => ?_
  replace M := M.store N₃ k₃
  refine w_cons (w_while (fun n g => ∃ p' row stk td2 rem tv av v5 v6 v7 v8 v9 t1 t2, n = rem.length ∧ AtW p ts.length c'.w h x (.str x t) T A (td ++ ts) r L p' row stk td2 rem tv av v5 v6 v7 v8 v9 t1 t2 g) ?_ ts.length ?_)
  rotate_left
  · exact ⟨p, row, [], td, ts, tv, [], _, _, _, _, _, _, _, rfl, M, .nil, R, rfl, Nat.zero_le _, (fun _ hd => nomatch hd), .inr ⟨rfl, rfl⟩⟩
  clear M k₃ N₃ K₁ F B₁ lA nA k
  rintro n g ⟨p1, row, stk, td', rem, tv', av, v5, v6, v7, v8, v9, t1', t2', rfl, M, sa, R', hall, hroom, hcl, hprog⟩
  have hlen := M.inv.len
  have hal := congrArg List.length hall
  simp only [List.length_append] at hal
  have hsl := sa.len
  refine w_tcmp (w_loc X M.ns (i := 1) rfl rfl (w_callN (w_blt (base_g M.base) (base_b M.base) (b_len _).1 (b_len _).2 (w_with_bi (w_args (w_loc X M.ns (i := 0) rfl rfl (w_args_nil (w_len h63 fun tk => w_lt (w_tbool ?_)))))))))
  by_cases hlt : p1 < x.length
  · rw [decide_eq_true (by omega : (p1 : Int) < x.length), if_pos rfl]
    have hsp := R'.split hlt
    have hae : (!!av.toArray.isEmpty) = decide (stk = []) := by
      cases stk with
      | nil => cases sa; rfl
      | cons d stk => cases sa; simp
    have havs : ((av.toArray.size : Nat) : Int) < 2 ^ 63 := by
      have : sizeLine < 2 ^ 63 := by decide
      simp; omega
    have hrl : rem.length ≤ ts.length := by rcases hprog with e | ⟨e, _⟩ <;> omega
    -- the end of the variable
    refine w_cons (w_if' (stk = [] ∧ sl x p1 (p1 + 2) = "}}") (fun g' => Keep g g')
      (w_tboolop (w_and (w_tnot (w_tval (w_loc X M.ns (i := 4) rfl rfl (w_tlist (M.get 1 rfl).isList havs ?_)))))) ?_ ?_)
    · rw [hae]
      by_cases h0 : stk = []
      · rw [decide_eq_true h0, if_pos rfl]
        refine w_and (w_tcmp (w_sl_ss p1 (p1 + 2) (w_loc X M.ns (i := 0) rfl rfl (w_loc X M.ns (i := 1) rfl rfl (w_binop (w_loc X M.ns (i := 1) rfl rfl (w_int fun t5 => w_add_int fun t6 =>
          ⟨_, _, _, t6, rfl, rfl, rfl, hsz', fun h' t' k => w_str fun t7 => w_eq_str (w_tbool ?_)⟩)))))))
        by_cases h1 : sl x p1 (p1 + 2) = "}}"
        · rw [decide_eq_true h1, if_pos rfl]; exact w_and_nil ⟨k, by simp [h0, h1]⟩
        · rw [decide_eq_false h1, if_neg Bool.false_ne_true]; exact ⟨k, by simp [h1]⟩
      · rw [decide_eq_false h0, if_neg Bool.false_ne_true]; exact ⟨Keep.rfl' _, by simp [h0]⟩
    · intro hP g1 k1
      replace M := M.mono k1
      rw [show stepV x p1 row stk = ([((row, ("variable_end" : Str), ("}}" : Str)) : Tk)], .leave (p1 + 2) row) by unfold stepV; rw [if_pos hP]] at hsp
      obtain ⟨tk, rem', htk, rfl, R2⟩ := hsp
      cases htk
      simp only [List.length_cons] at hal hrl hprog
      refine w_cons (w_expr (w_tell T (w_loc X M.ns (i := 3) rfl rfl ⟨rfl, ⟨_, M.get 0 rfl⟩, w_loc X M.ns (i := 2) rfl rfl (w_str fun t5 => w_str fun t6 =>
        ⟨row, _, _, _, _, _, tv', td', rfl, rfl, rfl, M.get 0 rfl, M.inv, by omega, fun h2 v hl2 hk2 kb2 => ⟨rfl, ?_⟩⟩)⟩)))
      replace M := (M.set 0 rfl hl2 kb2).know (I' := fun h => Toks h _ _) hk2 (fun _ _ k e => e.tup k)
      refine w_cons ?_
      refine w_return (w_tuple (w_args (w_binop (w_loc X M.ns (i := 1) rfl rfl (w_int fun t7 => w_add_int fun t8 => w_args (w_loc X M.ns (i := 2) rfl rfl (w_args (w_none (w_args_nil ⟨rfl, fun a h'' k' n ht => ?_⟩)))))))))
      replace M := M.mono k'
      exact q h'' _ _ _ (p1 + 2) row rem' none (fun b o n e => M.keep b o (by simpa using n) e) (M.get 0 rfl) M.inv ⟨a, _, _, _, rfl, ht, rfl⟩ (by simpa using hall) (.inr ⟨rfl, R2, by omega, fun _ => by omega⟩)
    · intro hP g1 k1
      replace M := M.mono k1
      refine w_nil ?_
      refine w_cons (w_if' (stk = [] ∧ sl x p1 (p1 + 3) = "-}}") (fun g' => Keep g1 g')
        (w_tboolop (w_and (w_tnot (w_tval (w_loc X M.ns (i := 4) rfl rfl (w_tlist (M.get 1 rfl).isList havs ?_)))))) ?_ ?_)
      · rw [hae]
        by_cases h0 : stk = []
        · rw [decide_eq_true h0, if_pos rfl]
          refine w_and (w_tcmp (w_sl_ss p1 (p1 + 3) (w_loc X M.ns (i := 0) rfl rfl (w_loc X M.ns (i := 1) rfl rfl (w_binop (w_loc X M.ns (i := 1) rfl rfl (w_int fun t5 => w_add_int fun t6 =>
            ⟨_, _, _, t6, rfl, rfl, rfl, hsz', fun h' t' k => w_str fun t7 => w_eq_str (w_tbool ?_)⟩)))))))
          by_cases h1 : sl x p1 (p1 + 3) = "-}}"
          · rw [decide_eq_true h1, if_pos rfl]; exact w_and_nil ⟨k, by simp [h0, h1]⟩
          · rw [decide_eq_false h1, if_neg Bool.false_ne_true]; exact ⟨k, by simp [h1]⟩
        · rw [decide_eq_false h0, if_neg Bool.false_ne_true]; exact ⟨Keep.rfl' _, by simp [h0]⟩
      · intro hP2 g2 k2
        replace M := M.mono k2
        rw [show stepV x p1 row stk = ([((row, ("variable_end" : Str), ("-}}" : Str) ++ sl x (p1 + 3) (runEnd x " \n" (p1 + 3))) : Tk)], .leave (p1 + (("-}}" : Str) ++ sl x (p1 + 3) (runEnd x " \n" (p1 + 3))).length) (row + nl (("-}}" : Str) ++ sl x (p1 + 3) (runEnd x " \n" (p1 + 3))))) by
          unfold stepV; rw [if_neg hP, if_pos hP2]] at hsp
        have le2 := sl_le x (p1 + 3) (runEnd x " \n" (p1 + 3))
        have le3 : (("-}}" : Str) ++ sl x (p1 + 3) (runEnd x " \n" (p1 + 3))).length ≤ 3 + x.length := by
          rw [strLen_append]; show 3 + _ ≤ _; omega
        refine w_cons (w_assign (w_binop (w_str fun t5 => w_callG (gf_run _) M.base (w_args (w_loc X M.ns (i := 0) rfl rfl (w_args (w_binop (w_loc X M.ns (i := 1) rfl rfl (w_int fun t6 => w_add_int fun t7 => w_args (w_str fun t8 => w_args_nil
          ⟨M.base, wc_run' M.base (by omega) (p1 + 3) hsz' fun h' t' k => w_add_str (by show 3 + _ ≤ _; omega) fun t9 => ?_⟩))))))))))
        replace M := M.mono k
        generalize (("-}}" : Str) ++ sl x (p1 + 3) (runEnd x " \n" (p1 + 3))) = en at hsp le3 ⊢
        refine w_store X M.ns (i := 5) rfl rfl fun h4 N4 k4 => ?_
        replace M := M.store N4 k4
        obtain ⟨tk, rem', htk, rfl, R2⟩ := hsp
        cases htk
        simp only [List.length_cons] at hal hrl hprog
        refine w_cons (w_expr (w_tell T (w_loc X M.ns (i := 3) rfl rfl ⟨rfl, ⟨_, M.get 0 rfl⟩, w_loc X M.ns (i := 2) rfl rfl (w_str fun t5 => w_loc X M.ns (i := 5) rfl rfl
          ⟨row, _, _, _, _, _, tv', td', rfl, rfl, rfl, M.get 0 rfl, M.inv, by omega, fun h2 v hl2 hk2 kb2 => ⟨rfl, ?_⟩⟩)⟩)))
        replace M := (M.set 0 rfl hl2 kb2).know (I' := fun h => Toks h _ _) hk2 (fun _ _ k e => e.tup k)
        refine w_cons ?_
        refine w_return <| w_tuple <| w_args <| w_binop <| w_loc X M.ns (i := 1) rfl rfl <| w_callN <| w_blt (base_g M.base) (base_b M.base) (b_len _).1 (b_len _).2 <| w_with_bi <| w_args <| w_loc X M.ns (i := 5) rfl rfl <| w_args_nil <|
          w_len (by have := len_lt63 (x := en) (by omega); omega) fun tk => w_add_int fun t8 => w_args <| w_binop <| w_loc X M.ns (i := 2) rfl rfl <| w_count <| w_loc X M.ns (i := 5) rfl rfl
          ⟨_, _, rfl, w_str fun t9 => ⟨_, _, rfl, fun t10 => w_add_int fun t11 => w_args <| w_none <| w_args_nil ⟨rfl, fun a h'' k' n ht => ?_⟩⟩⟩
        replace M := M.mono k'
        exact q h'' _ _ _ (p1 + en.length) (row + nl en) rem' none (fun b o n e => M.keep b o (by simpa using n) e) (M.get 0 rfl) M.inv ⟨a, _, _, _, rfl, ht, rfl⟩ (by simpa using hall) (.inr ⟨rfl, R2, by omega, fun _ => by omega⟩)
      · intro hP2 g2 k2
        replace M := M.mono k2
        refine w_nil ?_
        -- the piece
        refine w_cons <| w_assign <| w_callG (gf_piece _) M.base <| w_args <| w_loc X M.ns (i := 0) rfl rfl <| w_args <| w_loc X M.ns (i := 1) rfl rfl <| w_args_nil
          ⟨M.base, W_call <| wc_piece M.base (by omega) (by omega) hlt (by omega) hok fun h' fv k hfv => ?_⟩
        replace M := M.mono k
        refine w_store X M.ns (i := 6) rfl rfl fun h4 N4 k4 => ?_
        have tk4 := TupKeep.of_ns M.ns k4
        replace M := M.store N4 k4
        clear N4 k4 k k1 k2
        have hck : x.cps[p1]? = some (x.cps[p1]'hlt) := Array.getElem?_eq_getElem hlt
        have hckb : x.cps[p1]'hlt < 1114112 := hok _ (Array.mem_toList_iff.mpr (Array.getElem_mem _))
        cases hpc : pieceOf x p1 with
        | none =>
          rw [hpc] at hfv
          obtain rfl := hfv
          rw [show stepV x p1 row stk = ([], .fault (msgChar x p1) row) by unfold stepV; rw [if_neg hP, if_neg hP2, hpc]] at hsp
          obtain ⟨rfl, rfl⟩ := hsp
          refine w_cons <| w_if' True (fun g' => h4 = g') (w_tcmp <| w_loc X M.ns (i := 6) rfl rfl <| w_none <| w_is_none <| w_tbool ⟨rfl, by simp⟩) ?_ (fun e => absurd trivial e)
          rintro _ _ rfl
          refine w_cons ?_
          have e1 : (Str.empty ++ ("unexpected char " : Str)).length ≤ 16 := by decide +kernel
          have e2 := app_le e1 (repr_le hckb)
          have e3 := app_le e2 (show ((" at " : Str)).length ≤ 4 by decide +kernel)
          have e4 := app_le e3 (int_text_len_1921 (log_small (p := p1) (by omega)))
          refine w_return <| w_tuple <| w_args <| w_loc X M.ns (i := 1) rfl rfl <| w_args <| w_loc X M.ns (i := 2) rfl rfl <| w_args <| w_tuple <| w_args <| w_joined <| WJ_cons <| w_str fun t5 => ⟨_, _, rfl, by omega, WJ_cons <| w_fmt_repr <| w_sub <| w_loc X M.ns (i := 0) rfl rfl <| w_loc X M.ns (i := 1) rfl rfl <|
            w_item_str (k := x.cps[p1]'hlt) (by omega) (by omega) hck fun t6 => ⟨_, _, rfl, by have := repr_le hckb; exact Nat.le_trans this (by omega), fun t7 => ⟨_, _, rfl, Nat.le_trans e2 (by omega), WJ_cons <| w_str fun t8 => ⟨_, _, rfl, Nat.le_trans e3 (by omega), WJ_cons <| w_fmt <| w_loc X M.ns (i := 1) rfl rfl <|
            w_fmt_int (log_small (by omega)) fun t9 => ⟨_, _, rfl, Nat.le_trans e4 (by omega), WJ_nil ⟨Nat.le_trans e4 (by omega), fun t10 => w_args <| w_loc X M.ns (i := 2) rfl rfl <| w_args_nil ⟨rfl, fun b hb kb nb htb => w_args_nil ⟨rfl, fun a h'' k' n ht => ?_⟩⟩⟩⟩⟩⟩⟩⟩
          replace M := (M.mono kb).mono k'
          have hm : msgChar x p1 = (((Str.empty ++ ("unexpected char " : Str)) ++ reprText (chr (x.cps[p1]'hlt))) ++ (" at " : Str)) ++ (Str.ofString (toString (p1 : Int))) := by unfold msgChar; rw [hck]
          refine q h'' _ _ _ p1 row [] (some (msgChar x p1, row)) (fun b o n e => M.keep b o (by simpa using n) e) (M.get 0 rfl) M.inv ⟨a, _, _, _, rfl, ht, b, t10, t2', rfl, ?_⟩ hall (.inl ⟨_, rfl, rfl, rfl⟩)
          rw [hm]
          exact TupKeep.of_keep k' _ _ htb
        | some ky =>
          obtain ⟨kd, y⟩ := ky
          rw [hpc] at hfv
          obtain ⟨fa, ft, fu, rfl, hfa⟩ := hfv
          replace hfa := tk4 _ _ hfa
          refine w_cons <| w_if' False (fun g' => h4 = g') (w_tcmp <| w_loc X M.ns (i := 6) rfl rfl <| w_none <| w_is_none <| w_tbool ⟨rfl, by simp⟩) (fun e => e.elim) ?_
          rintro _ _ rfl
          refine w_nil ?_
          refine w_cons <| w_unpack hh' <| w_loc X M.ns (i := 6) rfl rfl ⟨fa, _, rfl, hfa, rfl, fun h5 k5 => ?_⟩
          replace M := M.mono k5
          refine w_order <| w_store X M.ns (i := 7) rfl rfl fun h6 N6 k6 => ?_
          replace M := M.store N6 k6
          refine w_order <| w_store X M.ns (i := 8) rfl rfl fun h7 N7 k7 => ?_
          replace M := M.store N7 k7
          clear N6 k6 N7 k7 k5 tk4 hfa
          refine w_order_nil ?_
          refine w_cons_via (fun g' => ∃ stk' av' v9', MS c'.w h [T] (fun h => Toks h tv' td') L nsW [some (.str x t), some (.int p1 t1'), some (.int row t2'), some (.ref T), some (.ref A), v5, some (.ref fa), some (.str kd ft), some (.str y fu), v9'] [(T, .lst tv'), (A, .lst av')] g' ∧ StrVals av' stk' ∧ nextStk stk y = .ok stk' ∧ av'.length ≤ tv'.length + 1 ∧ ∀ d ∈ stk', d ∈ closers) ?_ ?_
          · -- the signs awaited
            refine w_if' ((dueOf y).isSome = true) (fun g' => Keep h7 g') (w_tcmp <| w_loc X M.ns (i := 8) rfl rfl <| w_due M.base (by omega) fun h' d k n hD => w_in_due hD (new_ne_sys M.base n) <| w_tbool ⟨k, by simp⟩) ?_ ?_
            · intro hdu g8 k8
              replace M := M.mono k8
              obtain ⟨dd, hdd⟩ := Option.isSome_iff_exists.mp hdu
              refine w_cons ?_
              refine w_expr <| w_append <| w_loc X M.ns (i := 4) rfl rfl ⟨A, av, rfl, M.get 1 rfl, w_sub <| w_due M.base (by omega) fun h' d k n hD => w_loc X (M.mono k).ns (i := 8) rfl rfl <| w_item_due hD hdd fun t9 =>
                ⟨av, (M.mono k).get 1 rfl, by omega, fun h'' hl kb => ⟨rfl, w_nil ⟨stk ++ [dd], av ++ [.str dd t9], _, (M.mono k).set 1 rfl hl kb, sa.app, by unfold nextStk; rw [hdd], by simp; omega, ?_⟩⟩⟩⟩
              intro d hd
              rcases List.mem_append.mp hd with hd | hd
              · exact hcl d hd
              · rw [List.mem_singleton.mp hd]; exact due_closer hdd
            · intro hdu g8 k8
              replace M := M.mono k8
              have hdn : dueOf y = none := by simpa using hdu
              have hyk := piece_ok hok hpc
              refine w_cons <| w_if' (y ∈ closers) (fun g' => Keep g8 g') (w_tcmp <| w_loc X M.ns (i := 8) rfl rfl <| w_tuple <| w_args <| w_str fun t5 => w_args <| w_str fun t6 => w_args <| w_str fun t7 => w_args_nil ⟨rfl, fun b h' k n ht =>
                w_in_tuple ht (.cons (.cons (.cons .nil))) (by kernel_rfl) hyk.1 (by omega) <| w_tbool ⟨k, by simp [closers]⟩⟩) ?_ ?_
              · intro hcy g9 k9
                replace M := M.mono k9
                have hyl := closer_len hcy
                refine w_cons <| w_if' (stk = []) (fun g' => g9 = g') (w_tnot <| w_tval <| w_loc X M.ns (i := 4) rfl rfl <| w_tlist (M.get 1 rfl).isList havs ⟨rfl, by rw [hae]; simp⟩) ?_ ?_
                · rintro hs0 _ rfl
                  rw [show stepV x p1 row stk = ([], .fault (msgClose y) row) by
                    unfold stepV; rw [if_neg hP, if_neg hP2, hpc]; simp only []
                    rw [show nextStk stk y = .error (msgClose y) by unfold nextStk; rw [hdn]; simp only []; rw [if_pos hcy, hs0]; rfl]] at hsp
                  obtain ⟨rfl, rfl⟩ := hsp
                  have e1 : (Str.empty ++ ("unexpected '" : Str)).length ≤ 12 := by decide +kernel
                  have e2 := app_le e1 (Nat.le_of_eq hyl)
                  have e3 := app_le e2 (show (("'" : Str)).length ≤ 1 by decide +kernel)
                  refine w_cons ?_
                  refine w_return <| w_tuple <| w_args <| w_loc X M.ns (i := 1) rfl rfl <| w_args <| w_loc X M.ns (i := 2) rfl rfl <| w_args <| w_tuple <| w_args <| w_joined <| WJ_cons <| w_str fun t5 => ⟨_, _, rfl, by omega, WJ_cons <| w_fmt <| w_loc X M.ns (i := 8) rfl rfl <|
                    w_fmt_str (by omega) fun t9 => ⟨_, _, rfl, Nat.le_trans e2 (by omega), WJ_cons <| w_str fun t8 => ⟨_, _, rfl, Nat.le_trans e3 (by omega), WJ_nil ⟨Nat.le_trans e3 (by omega), fun t10 => w_args <| w_loc X M.ns (i := 2) rfl rfl <| w_args_nil ⟨rfl, fun b hb kb nb htb => w_args_nil ⟨rfl, fun a h'' k' n ht => ?_⟩⟩⟩⟩⟩⟩
                  replace M := (M.mono kb).mono k'
                  exact q h'' _ _ _ p1 row [] (some (msgClose y, row)) (fun b o n e => M.keep b o (by simpa using n) e) (M.get 0 rfl) M.inv ⟨a, _, _, _, rfl, ht, b, t10, t2', rfl, TupKeep.of_keep k' _ _ htb⟩ hall (.inl ⟨_, rfl, rfl, rfl⟩)
                · rintro hs0 _ rfl
                  obtain ⟨stk0, d, rfl⟩ : ∃ stk0 d, stk = stk0 ++ [d] := ⟨stk.dropLast, stk.getLast hs0, (List.dropLast_concat_getLast hs0).symm⟩
                  obtain ⟨av0, td0, rfl, sa0⟩ := sa.last
                  simp only [List.length_append, List.length_cons, List.length_nil] at hroom
                  have hdl := closer_len (hcl d (by simp))
                  refine w_nil ?_
                  refine w_cons <| w_assign <| w_pop <| w_loc X M.ns (i := 4) rfl rfl ⟨A, av0, _, rfl, M.get 1 rfl, by omega, fun h' hl kb => ?_⟩
                  replace M := M.set 1 rfl hl kb
                  refine w_store X M.ns (i := 9) rfl rfl fun h10 N10 k10 => ?_
                  replace M := M.store N10 k10
                  refine w_cons <| w_if' (¬ d = y) (fun g' => h10 = g') (w_tcmp <| w_loc X M.ns (i := 9) rfl rfl <| w_loc X M.ns (i := 8) rfl rfl <| w_ne_str <| w_tbool ⟨rfl, by simp⟩) ?_ ?_
                  · rintro hdy _ rfl
                    rw [show stepV x p1 row (stk0 ++ [d]) = ([], .fault (msgOther y d) row) by
                      unfold stepV; rw [if_neg hP, if_neg hP2, hpc]; simp only []
                      rw [show nextStk (stk0 ++ [d]) y = .error (msgOther y d) by unfold nextStk; rw [hdn]; simp [hcy, hdy]]] at hsp
                    obtain ⟨rfl, rfl⟩ := hsp
                    have e1 : (Str.empty ++ ("unexpected '" : Str)).length ≤ 12 := by decide +kernel
                    have e2 := app_le e1 (Nat.le_of_eq hyl)
                    have e3 := app_le e2 (show (("', expected '" : Str)).length ≤ 13 by decide +kernel)
                    have e4 := app_le e3 (Nat.le_of_eq hdl)
                    have e5 := app_le e4 (show (("'" : Str)).length ≤ 1 by decide +kernel)
                    refine w_cons ?_
                    refine w_return <| w_tuple <| w_args <| w_loc X M.ns (i := 1) rfl rfl <| w_args <| w_loc X M.ns (i := 2) rfl rfl <| w_args <| w_tuple <| w_args <| w_joined <| WJ_cons <| w_str fun t5 => ⟨_, _, rfl, by omega, WJ_cons <| w_fmt <| w_loc X M.ns (i := 8) rfl rfl <|
                      w_fmt_str (by omega) fun t9 => ⟨_, _, rfl, Nat.le_trans e2 (by omega), WJ_cons <| w_str fun t8 => ⟨_, _, rfl, Nat.le_trans e3 (by omega), WJ_cons <| w_fmt <| w_loc X M.ns (i := 9) rfl rfl <| w_fmt_str (by omega) fun t11 => ⟨_, _, rfl, Nat.le_trans e4 (by omega),
                      WJ_cons <| w_str fun t12 => ⟨_, _, rfl, Nat.le_trans e5 (by omega), WJ_nil ⟨Nat.le_trans e5 (by omega), fun t10 => w_args <| w_loc X M.ns (i := 2) rfl rfl <| w_args_nil ⟨rfl, fun b hb kb nb htb => w_args_nil ⟨rfl, fun a h'' k' n ht => ?_⟩⟩⟩⟩⟩⟩⟩⟩
                    replace M := (M.mono kb).mono k'
                    exact q h'' _ _ _ p1 row [] (some (msgOther y d, row)) (fun b o n e => M.keep b o (by simpa using n) e) (M.get 0 rfl) M.inv ⟨a, _, _, _, rfl, ht, b, t10, t2', rfl, TupKeep.of_keep k' _ _ htb⟩ hall (.inl ⟨_, rfl, rfl, rfl⟩)
                  · rintro hdy _ rfl
                    have hdy' : d = y := Classical.not_not.mp hdy
                    refine w_nil <| w_nil <| w_nil ⟨stk0, av0, _, M, sa0, ?_, by omega, fun d hd => hcl d (List.mem_append_left _ hd)⟩
                    unfold nextStk; rw [hdn]; simp [hcy, hdy']
              · intro hcy g9 k9
                replace M := M.mono k9
                refine w_nil <| w_nil ⟨stk, av, _, M, sa, ?_, by omega, hcl⟩
                unfold nextStk; rw [hdn]; simp [hcy]
          · rintro g9 ⟨stk', av', v9', M, sa', hns, hroom', hcl'⟩
            rw [show stepV x p1 row stk = ([((row, kd, y) : Tk)], .go (p1 + y.length) (row + nl y) stk') by unfold stepV; rw [if_neg hP, if_neg hP2, hpc]; simp only []; rw [hns]] at hsp
            obtain ⟨tk, rem', htk, rfl, R2⟩ := hsp
            cases htk
            have hyk := piece_ok hok hpc
            simp only [List.length_cons] at hal hrl hprog
            refine w_cons <| w_expr <| w_tell T <| w_loc X M.ns (i := 3) rfl rfl ⟨rfl, ⟨_, M.get 0 rfl⟩, w_loc X M.ns (i := 2) rfl rfl <| w_loc X M.ns (i := 7) rfl rfl <| w_loc X M.ns (i := 8) rfl rfl
              ⟨row, _, _, _, _, _, tv', td', rfl, rfl, rfl, M.get 0 rfl, M.inv, by omega, fun h2 v hl2 hk2 kb2 => ⟨rfl, ?_⟩⟩⟩
            replace M := (M.set 0 rfl hl2 kb2).know (I' := fun h => Toks h _ _) hk2 (fun _ _ k e => e.tup k)
            refine w_cons <| w_aug <| w_locN X M.ns (i := 2) rfl rfl <| w_count <| w_loc X M.ns (i := 8) rfl rfl ⟨_, _, rfl, w_str fun t9 => ⟨_, _, rfl, fun t10 => w_iadd fun t11 => w_store X M.ns (i := 2) rfl rfl fun h10 N10 k10 => ?_⟩⟩
            replace M := M.store N10 k10
            refine w_cons <| w_aug <| w_locN X M.ns (i := 1) rfl rfl <| w_callN <| w_blt (base_g M.base) (base_b M.base) (b_len _).1 (b_len _).2 <| w_with_bi <| w_args <| w_loc X M.ns (i := 8) rfl rfl <| w_args_nil <|
              w_len (by have := len_lt63 (x := y) (by omega); omega) fun tk => w_iadd fun t12 => w_store X M.ns (i := 1) rfl rfl fun h11 N11 k11 => ?_
            replace M := M.store N11 k11
            exact w_nil ⟨rem'.length, by simp, p1 + y.length, row + nl y, stk', td' ++ [(row, kd, y)], rem', _, av', _, _, _, _, _, _, _, rfl, M, sa', R2, by simpa using hall, by simp; omega, hcl', .inl (by omega)⟩
  · rw [decide_eq_false (by omega : ¬ (p1 : Int) < x.length), if_neg Bool.false_ne_true]
    refine w_cons ?_
    refine w_return (w_tuple (w_args (w_loc X M.ns (i := 1) rfl rfl (w_args (w_loc X M.ns (i := 2) rfl rfl (w_args (w_none (w_args_nil ⟨rfl, fun a h'' k' n ht => ?_⟩))))))))
    have hr : rem = [] ∧ r = none := by
      cases R' <;> first | exact ⟨rfl, rfl⟩ | omega
    obtain ⟨rfl, rfl⟩ := hr
    replace M := M.mono k'
    refine q h'' _ tv' td' p1 row [] none (fun b o n e => M.keep b o (by simpa using n) e) (M.get 0 rfl) M.inv ⟨a, _, _, _, rfl, ht, rfl⟩ hall (.inr ⟨rfl, .done (by omega), Nat.zero_le _, ?_⟩)
    intro h0
    rcases hprog with hpr | ⟨_, rfl⟩
    · exact hpr
    · exact absurd h0 hlt
end Mine
end
section
open PySem PySem.W PySem.Calls PyProof.Rows
set_option maxRecDepth 100000
set_option linter.all false
set_option maxHeartbeats 4000000
namespace Mine
open PySem.Builtin.Str

/-- a told list and how it ended, on the heap -/
def LRes (h : Heap) (v : Value) (ts : List Tk) (r : Option (Str × Nat)) : Prop := ∃ a T tv fv, v = .ref a ∧ h.IsTuple a #[.ref T, fv] ∧ Lst h T tv ∧ Toks h tv ts ∧ FltV h fv r

abbrev nsR : List Str := ([("text" : Str), "within"] : List Str) ++ [("told" : Str), "row", "place", "start", "sign", "kept", "fault"]

theorem wc_read {c : Cx} {h : Heap} (B : Base c.w h) (D : c.A.depth + 3 < recursionLimit) (U : c.A.units + 14 < cLine) (hh : c.A.handled = none) {x : Str} {t : Tok} {m : Bool}
    (hsz : 2 * x.length + 4000 < sizeLine) (hok : ∀ k ∈ x.cps.toList, k < 1114112) {ts : List Tk} {r : Option (Str × Nat)} (R : RunF x m 0 1 [] ts r) (room : ts.length < sizeLine)
    {Q : Value → Heap → Prop} {E : Value → Heap → Prop} (q : ∀ h' v, Keep h h' → LRes h' v ts r → Q v h') :
    WC c h (.call (.ref 537) ⟨[.str x t, .bool m], []⟩) Q E := by
  refine wc_at "_law_read" ["text", "within"] ["told", "row", "place", "start", "sign", "kept", "fault"] 537 536 (top.o_598 c.w.params) (top.o_597 c.w.params) B (by omega) (by kernel_rfl) (by kernel_rfl) (by kernel_rfl) (by kernel_rfl) (by kernel_rfl) (by decide) (by kernel_rfl) (by kernel_rfl) (by kernel_rfl) rfl (by kernel_rfl) (by kernel_rfl) (by kernel_rfl) ?_
  have X : FnOk nsR (fscope (top.o_598 c.w.params)) := FnOk.of (by kernel_rfl)
  have hsz' : x.length ≤ sizeLine := by omega
  have h63 := len_lt63 hsz'
  intro c' h₁ L hw hp' hdp hun hhd hfr B₁ K₁ F
  have hh' : c'.A.handled = none := hhd.trans hh
  have M : MS c'.w h [] (fun _ => True) L nsR _ [] h₁ :=
    ⟨B₁, F.ns, fun q hq => (by cases hq), by simp, fun b o _ e => F.keep b o e,
      fun a ha => by
        simp only [List.map_nil, List.mem_cons, List.not_mem_nil, or_false] at ha
        subst ha; exact .inr (New.of_le F.above), fun a ha => by
        simp only [List.map_nil, List.mem_cons, List.not_mem_nil, or_false] at ha
        subst ha; exact hw ▸ B.new (New.of_le F.above), trivial, fun _ _ _ _ => trivial⟩
  refine w_cons <| w_assign <| w_list <| w_args_nil ⟨rfl, fun T h₂ k nT lT => ?_⟩
  replace M := M.add nT (nT.back K₁) k lT
  refine w_store X M.ns (i := 2) rfl rfl fun h₃ N₃ k₃ => ?_
  replace M := M.store N₃ k₃
  refine w_cons <| w_assign <| w_int fun t1 => w_store X M.ns (i := 3) rfl rfl fun h₄ N₄ k₄ => ?_
  replace M := M.store N₄ k₄
  refine w_cons <| w_assign <| w_int fun t2 => w_store X M.ns (i := 4) rfl rfl fun h₅ N₅ k₅ => ?_
  replace M := M.store N₅ k₅
  refine w_cons (w_while (fun n g => ∃ m' p row td rem tv v5 v6 v7 v8 t3 t4, n = rem.length ∧ MS c'.w h [] (fun h => Toks h tv td) L nsR [some (.str x t), some (.bool m'), some (.ref T), some (.int (row : Nat) t3), some (.int (p : Nat) t4), v5, v6, v7, v8] [(T, .lst tv)] g ∧ RunF x m' p row [] rem r ∧ td ++ rem = ts) ?_ ts.length ?_)
  rotate_left
  · exact ⟨m, 0, 1, [], ts, [], _, _, _, _, _, _, rfl, M.know (I' := fun h => Toks h _ _) .nil (fun _ _ k e => e.tup k), R, rfl⟩
  clear M k₃ N₃ k₄ N₄ k₅ N₅ K₁ F B₁ lT nT k
  rintro n g ⟨m', p, row, td, rem, tv, v5, v6, v7, v8, t3, t4, rfl, M, R', hall⟩
  have hlen := M.inv.len
  have hal := congrArg List.length hall
  simp only [List.length_append] at hal
  refine w_tcmp <| w_loc X M.ns (i := 4) rfl rfl <| w_callN <| w_blt (base_g M.base) (base_b M.base) (b_len _).1 (b_len _).2 <| w_with_bi <| w_args <| w_loc X M.ns (i := 0) rfl rfl <| w_args_nil <| w_len h63 fun tk => w_lt <| w_tbool ?_
  by_cases hlt : p < x.length
  · rw [decide_eq_true (by omega : (p : Int) < x.length), if_pos rfl]
    refine w_cons_via (fun g' => ∃ p' row' td' rem' tv' v5' v6' v7' v8' m2 t3' t4', MS c'.w h [] (fun h => Toks h tv' td') L nsR [some (.str x t), some (.bool m2), some (.ref T), some (.int (row' : Nat) t3'), some (.int (p' : Nat) t4'), v5', v6', v7', v8'] [(T, .lst tv')] g' ∧
        RunF x true p' row' [] rem' r ∧ td' ++ rem' = ts ∧ (rem'.length < rem.length ∨ (rem' = rem ∧ p' = p))) ?_ ?_
    · refine w_if' (m' = false) (fun g' => g = g') (w_tnot <| w_tval <| w_loc X M.ns (i := 1) rfl rfl <| w_tbool ⟨rfl, by cases m' <;> simp⟩) ?_ ?_
      · rintro rfl _ rfl
        refine w_cons <| w_assign <| w_find3 <| w_loc X M.ns (i := 0) rfl rfl ⟨_, _, rfl, w_str fun t5 => w_loc X M.ns (i := 4) rfl rfl ⟨_, _, _, _, rfl, rfl, fun t6 => w_store X M.ns (i := 5) rfl rfl fun h6 N6 k6 => ?_⟩⟩
        replace M := M.store N6 k6
        clear N6 k6
        rcases R'.splitR hlt with ⟨hf, rfl, rfl⟩ | ⟨s, ts', hf, rfl, R2⟩
        · refine w_cons <| w_if' True (fun g' => h6 = g') (w_tcmp <| w_loc X M.ns (i := 5) rfl rfl <| w_int fun t7 => w_lt <| w_tbool ⟨rfl, by simpa using hf⟩) ?_ (fun e => absurd trivial e)
          rintro _ _ rfl
          refine w_cons ?_
          refine w_return <| w_tuple <| w_args <| w_binop <| w_loc X M.ns (i := 2) rfl rfl <| w_list <| w_args <| w_tuple <| w_args <| w_loc X M.ns (i := 3) rfl rfl <| w_args <| w_str fun t8 => w_args <| w_sl_sn p <| w_loc X M.ns (i := 0) rfl rfl <| w_loc X M.ns (i := 4) rfl rfl
            ⟨_, _, _, rfl, rfl, hsz', fun h7 t9 k7 => w_args_nil ⟨rfl, fun b h8 k8 n8 hb => w_args_nil ⟨rfl, fun T2 h9 k9 n9 l9 => w_add_list ((M.get 0 rfl).keep (Keep.trans k7 (Keep.trans k8 k9))) l9 (by simp at hal ⊢; omega) fun T3 h10 k10 n10 l10 => w_args <| w_none <| w_args_nil ⟨rfl, fun a h11 k11 n11 ht => ?_⟩⟩⟩⟩
          replace M := ((((M.mono k7).mono k8).mono k9).mono k10).mono k11
          have htk : TokV h11 (.ref b) (row, "data", sl x p x.length) := .mk (TupKeep.of_keep k11 _ _ (TupKeep.of_keep k10 _ _ (TupKeep.of_keep k9 _ _ hb)))
          refine q h11 _ (fun b o e => M.keep b o (by simp) e) ⟨a, T3, _, _, rfl, ht, l10.keep k11, ?_, rfl⟩
          have := M.inv.app htk
          rw [← hall]
          exact this
        · rw [hf] at M
          refine w_cons <| w_if' False (fun g' => h6 = g') (w_tcmp <| w_loc X M.ns (i := 5) rfl rfl <| w_int fun t7 => w_lt <| w_tbool ⟨rfl, by simp⟩) (fun e => e.elim) ?_
          rintro _ _ rfl
          refine w_nil ?_
          -- the sign
          refine w_cons <| w_assign <| w_sl_ss (s + 2) (s + 3) <| w_loc X M.ns (i := 0) rfl rfl <| w_binop <| w_loc X M.ns (i := 5) rfl rfl <| w_int fun t7 => w_add_int fun t8 => w_binop <| w_loc X M.ns (i := 5) rfl rfl <| w_int fun t9 => w_add_int fun t10 =>
            ⟨_, _, t8, t10, rfl, rfl, rfl, hsz', fun h7 t11 k7 => w_store X (M.mono k7).ns (i := 6) rfl rfl fun h8 N8 k8 => ?_⟩
          replace M := (M.mono k7).store N8 k8
          clear N8 k8 k7
          refine w_cons_via (fun g' => ∃ t12, MS c'.w h [] (fun h => Toks h tv td) L nsR [some (.str x t), some (.bool false), some (.ref T), some (.int (row : Nat) t3), some (.int (p : Nat) t4), some (.int (s : Nat) t6), some (.str (signOf x s) t12), v7, v8] [(T, .lst tv)] g') ?_ ?_
          · refine w_if' (¬ sl x (s + 2) (s + 3) ∈ [("-" : Str), "+"]) (fun g' => Keep h8 g') (w_tcmp <| w_loc X M.ns (i := 6) rfl rfl <| w_tuple <| w_args <| w_str fun t12 => w_args <| w_str fun t13 => w_args_nil ⟨rfl, fun b h' k n ht =>
              w_notin_tuple ht (.cons (.cons .nil)) (by kernel_rfl) (ok_sl hok _ _) (by omega) <| w_tbool ⟨k, by simp⟩⟩) ?_ ?_
            · intro hno g' k9
              replace M := M.mono k9
              refine w_cons <| w_assign <| w_str fun t12 => w_store X M.ns (i := 6) rfl rfl fun h9 N9 k9 => w_nil ⟨t12, ?_⟩
              have e : signOf x s = "" := by unfold signOf; rw [if_neg (by simpa using hno)]
              rw [e]
              exact M.store N9 k9
            · intro hno g' k9
              replace M := M.mono k9
              have e : signOf x s = sl x (s + 2) (s + 3) := by unfold signOf; rw [if_pos (by simpa using Classical.not_not.mp hno)]
              exact w_nil ⟨t11, by rw [e]; exact M⟩
          · rintro h9 ⟨t12, M⟩
            have hsl : (signOf x s).length ≤ 1 := by
              unfold signOf
              split
              · rw [sl_len]; omega
              · exact Nat.zero_le _
            -- what is kept
            refine w_cons_via (fun g' => ∃ t13, MS c'.w h [] (fun h => Toks h tv td) L nsR [some (.str x t), some (.bool false), some (.ref T), some (.int (row : Nat) t3), some (.int (p : Nat) t4), some (.int (s : Nat) t6), some (.str (signOf x s) t12), some (.str (keptOf x p s) t13), v8] [(T, .lst tv)] g') ?_ ?_
            · refine w_assign <| w_ifexp' (signOf x s = "-") (fun g' => h9 = g') (w_tcmp <| w_loc X M.ns (i := 6) rfl rfl <| w_str fun t13 => w_eq_str <| w_tbool ⟨rfl, by simp⟩) ?_ ?_
              · rintro hs _ rfl
                refine w_rstrip <| w_sl_ss p s <| w_loc X M.ns (i := 0) rfl rfl <| w_loc X M.ns (i := 4) rfl rfl <| w_loc X M.ns (i := 5) rfl rfl ⟨_, _, _, _, rfl, rfl, rfl, hsz', fun h7 t11 k7 => ⟨_, _, rfl, Nat.le_trans (sl_le x p s) hsz', fun t13 => w_store X (M.mono k7).ns (i := 7) rfl rfl fun h8 N8 k8 => ⟨t13, ?_⟩⟩⟩
                have e : keptOf x p s = Txt.rstrip (sl x p s) := by unfold keptOf; rw [if_pos hs]
                rw [e]
                exact (M.mono k7).store N8 k8
              · rintro hs _ rfl
                refine w_sl_ss p s <| w_loc X M.ns (i := 0) rfl rfl <| w_loc X M.ns (i := 4) rfl rfl <| w_loc X M.ns (i := 5) rfl rfl ⟨_, _, _, _, rfl, rfl, rfl, hsz', fun h7 t11 k7 => w_store X (M.mono k7).ns (i := 7) rfl rfl fun h8 N8 k8 => ⟨t11, ?_⟩⟩
                have e : keptOf x p s = sl x p s := by unfold keptOf; rw [if_neg hs]
                rw [e]
                exact (M.mono k7).store N8 k8
            · rintro h10 ⟨t13, M⟩
              have hkl : (keptOf x p s).length ≤ x.length := by
                unfold keptOf
                split
                · exact Nat.le_trans (len_rstrip _) (sl_le x p s)
                · exact sl_le x p s
              have hal3 : td.length + (toksE x p s row ++ ts').length = ts.length := by simpa using hal
              have htl : (toksE x p s row).length = (if (keptOf x p s).length ≠ 0 then 1 else 0) + 1 := by
                unfold toksE
                split <;> simp
              rw [List.length_append] at hal3
              refine w_cons_via (fun g' => ∃ tv', MS c'.w h [] (fun h => Toks h tv' (td ++ if (keptOf x p s).length ≠ 0 then [((row, ("data" : Str), keptOf x p s) : Tk)] else [])) L nsR [some (.str x t), some (.bool false), some (.ref T), some (.int (row : Nat) t3), some (.int (p : Nat) t4), some (.int (s : Nat) t6), some (.str (signOf x s) t12), some (.str (keptOf x p s) t13), v8] [(T, .lst tv')] g') ?_ ?_
              · refine w_if' ((keptOf x p s).length ≠ 0) (fun g' => h10 = g') (w_tval <| w_loc X M.ns (i := 7) rfl rfl <| w_tstr (by omega) ⟨rfl, by simp⟩) ?_ ?_
                · rintro hk _ rfl
                  refine w_cons <| w_expr <| w_tell T <| w_loc X M.ns (i := 2) rfl rfl ⟨rfl, ⟨_, M.get 0 rfl⟩, w_loc X M.ns (i := 3) rfl rfl <| w_str fun t14 => w_loc X M.ns (i := 7) rfl rfl
                    ⟨row, _, _, _, _, _, tv, td, rfl, rfl, rfl, M.get 0 rfl, M.inv, by omega, fun h2 v hl2 hk2 kb2 => ⟨rfl, w_nil ⟨tv ++ [v], ?_⟩⟩⟩⟩
                  rw [if_pos hk]
                  exact (M.set 0 rfl hl2 kb2).know (I' := fun h => Toks h _ _) hk2 (fun _ _ k e => e.tup k)
                · rintro hk _ rfl
                  refine w_nil ⟨tv, ?_⟩
                  rw [if_neg hk, List.append_nil]
                  exact M
              · rintro h11 ⟨tv', M⟩
                have hlen3 := M.inv.len
                rw [List.length_append] at hlen3
                have htd : td ++ (if (keptOf x p s).length ≠ 0 then [((row, ("data" : Str), keptOf x p s) : Tk)] else []) ++ [((row + nl (sl x p s), ("variable_begin" : Str), ("{{" : Str) ++ signOf x s) : Tk)] = td ++ toksE x p s row := by
                  unfold toksE; rw [List.append_assoc]
                refine w_cons <| w_aug <| w_locN X M.ns (i := 3) rfl rfl <| w_count <| w_sl_ss p s <| w_loc X M.ns (i := 0) rfl rfl <| w_loc X M.ns (i := 4) rfl rfl <| w_loc X M.ns (i := 5) rfl rfl ⟨_, _, _, _, rfl, rfl, rfl, hsz', fun h7 t14 k7 =>
                  ⟨_, _, rfl, w_str fun t15 => ⟨_, _, rfl, fun t16 => w_iadd fun t17 => w_store X (M.mono k7).ns (i := 3) rfl rfl fun h12 N12 k12 => ?_⟩⟩⟩
                replace M := (M.mono k7).store N12 k12
                refine w_cons <| w_expr <| w_tell T <| w_loc X M.ns (i := 2) rfl rfl ⟨rfl, ⟨_, M.get 0 rfl⟩, w_loc X M.ns (i := 3) rfl rfl <| w_str fun t18 => w_binop <| w_str fun t19 => w_loc X M.ns (i := 6) rfl rfl <| w_add_str (by show 2 + _ ≤ _; omega) fun t20 =>
                  ⟨row + nl (sl x p s), _, _, _, _, _, tv', _, rfl, rfl, rfl, M.get 0 rfl, M.inv, ?_, fun h2 v hl2 hk2 kb2 => ⟨rfl, ?_⟩⟩⟩
                · have : (if (keptOf x p s).length ≠ 0 then [((row, ("data" : Str), keptOf x p s) : Tk)] else []).length ≤ 1 := by split <;> simp
                  omega
                · rw [htd] at hk2
                  replace M := (M.set 0 rfl hl2 kb2).know (I' := fun h => Toks h _ _) hk2 (fun _ _ k e => e.tup k)
                  refine w_cons <| w_assign <| w_binop <| w_binop <| w_loc X M.ns (i := 5) rfl rfl <| w_int fun t21 => w_add_int fun t22 => w_callN <| w_blt (base_g M.base) (base_b M.base) (b_len _).1 (b_len _).2 <| w_with_bi <| w_args <| w_loc X M.ns (i := 6) rfl rfl <| w_args_nil <|
                    w_len (by omega) fun tk => w_add_int fun t23 => w_store X M.ns (i := 4) rfl rfl fun h13 N13 k13 => ?_
                  replace M := M.store N13 k13
                  exact w_nil ⟨s + 2 + (signOf x s).length, row + nl (sl x p s), td ++ toksE x p s row, ts', _, _, _, _, _, _, _, _, M, R2, by rw [List.append_assoc]; exact hall, .inl (by rw [List.length_append]; omega)⟩
      · rintro hm _ rfl
        obtain rfl : m' = true := by cases m' <;> simp at hm ⊢
        exact w_nil ⟨p, row, td, rem, tv, _, _, _, _, _, _, _, M, R', hall, .inr ⟨rfl, rfl⟩⟩
    · rintro g1 ⟨p', row', td', rem', tv', v5', v6', v7', v8', m2, t3', t4', M, R2, hall2, hprog⟩
      have hlen2 := M.inv.len
      have hal2 := congrArg List.length hall2
      simp only [List.length_append] at hal2
      refine w_cons <| w_assign <| w_bool <| w_store X M.ns (i := 1) rfl rfl fun h6 N6 k6 => ?_
      replace M := M.store N6 k6
      refine w_cons <| w_unpack hh' <| w_callG (gf_within _) M.base <| w_args <| w_loc X M.ns (i := 0) rfl rfl <| w_args <| w_loc X M.ns (i := 4) rfl rfl <| w_args <| w_loc X M.ns (i := 3) rfl rfl <| w_args <| w_loc X M.ns (i := 2) rfl rfl <| w_args_nil
        ⟨M.base, W_call <| wc_within M.base (by omega) (by omega) hh' (M.get 0 rfl) M.inv (M.nb T (by simp)) hsz hok R2 (by omega) fun h7 v tv3 td3 p3 row3 rem3 f kT lT hT hres hall3 hor => ?_⟩
      obtain ⟨a, ta, ua, fv, rfl, hta, hfv⟩ := hres
      replace M := (M.set 0 rfl lT kT).know (I' := fun h => Toks h tv3 td3 ∧ FltV h fv f) ⟨hT, hfv⟩ (fun _ _ k e => ⟨e.1.tup k, e.2.tup k⟩)
      refine ⟨a, _, rfl, hta, rfl, fun h8 k8 => ?_⟩
      replace M := M.mono k8
      refine w_order <| w_store X M.ns (i := 4) rfl rfl fun h9 N9 k9 => ?_
      replace M := M.store N9 k9
      refine w_order <| w_store X M.ns (i := 3) rfl rfl fun h10 N10 k10 => ?_
      replace M := M.store N10 k10
      refine w_order <| w_store X M.ns (i := 8) rfl rfl fun h11 N11 k11 => ?_
      replace M := M.store N11 k11
      refine w_order_nil ?_
      clear N9 k9 N10 k10 N11 k11 hta
      rcases hor with ⟨⟨m, r'⟩, rfl, rfl, rfl⟩ | ⟨rfl, R3, hle, hlt3⟩
      · obtain ⟨b, tb, ub, rfl, hb⟩ := M.inv.2
        refine w_cons <| w_if' True (fun g' => h11 = g') (w_tcmp <| w_loc X M.ns (i := 8) rfl rfl <| w_none <| w_isnot_none <| w_tbool ⟨rfl, by simp⟩) ?_ (fun e => absurd trivial e)
        rintro _ _ rfl
        refine w_cons ?_
        refine w_return <| w_tuple <| w_args <| w_loc X M.ns (i := 2) rfl rfl <| w_args <| w_loc X M.ns (i := 8) rfl rfl <| w_args_nil ⟨rfl, fun a h12 k12 n12 ht => ?_⟩
        replace M := M.mono k12
        have e : td3 = ts := by rw [List.append_nil] at hall3; rw [hall3, hall2]
        exact q h12 _ (fun b o e => M.keep b o (by simp) e) ⟨a, T, tv3, _, rfl, ht, M.get 0 rfl, e ▸ M.inv.1, M.inv.2⟩
      · obtain rfl : fv = .none := M.inv.2
        refine w_cons <| w_if' False (fun g' => h11 = g') (w_tcmp <| w_loc X M.ns (i := 8) rfl rfl <| w_none <| w_isnot_none <| w_tbool ⟨rfl, by simp⟩) (fun e => e.elim) ?_
        rintro _ _ rfl
        refine w_nil <| w_nil ⟨rem3.length, ?_, false, p3, row3, td3, rem3, tv3, _, _, _, _, _, _, rfl, M.know (I' := fun h => Toks h _ _) M.inv.1 (fun _ _ k e => e.tup k), R3, hall3.trans hall2⟩
        rcases hprog with hpr | ⟨rfl, rfl⟩
        · omega
        · exact hlt3 hlt
  · rw [decide_eq_false (by omega : ¬ (p : Int) < x.length), if_neg Bool.false_ne_true]
    have hr : rem = [] ∧ r = none := by
      cases R' <;> first | exact ⟨rfl, rfl⟩ | omega
    obtain ⟨rfl, rfl⟩ := hr
    refine w_cons ?_
    refine w_return <| w_tuple <| w_args <| w_loc X M.ns (i := 2) rfl rfl <| w_args <| w_none <| w_args_nil ⟨rfl, fun a h'' k' n ht => ?_⟩
    replace M := M.mono k'
    obtain rfl : td = ts := by simpa using hall
    exact q h'' _ (fun b o e => M.keep b o (by simp) e) ⟨a, T, tv, _, rfl, ht, M.get 0 rfl, M.inv, rfl⟩
end Mine
end
section
open PySem PySem.Calls PyProof.Rows
set_option maxRecDepth 100000
set_option linter.all false
namespace Mine
section
variable {c : Cx} {h h₀ : Heap} {E : Value → Heap → Prop} {env : Env}

theorem noted_none {c : Cx} {env : Env} {R : Value → Shared → Prop} {α : Type} {t : Sem α} {Q : α → Heap → Prop} {s : Shared} (x : wpAny (model c.prog c.w) c.A t (fun a s' => ∃ h' tk', s' = c.st h' tk' ∧ Q a h') (fun e s' => ∃ h' tk', s' = c.st h' tk' ∧ False) s) :
    wpAny (model c.prog c.w) c.A t (fun a s' => ∃ h' tk', s' = c.st h' tk' ∧ Q a h') (notedBy (model c.prog c.w) c.A env R) s :=
  wpAny_mono x (fun _ _ q => q) fun _ _ ⟨_, _, _, f⟩ => f.elim

/-- a loop over an iterator: nothing is raised -/
theorem w_for {target iter : Expr} {body orelse : List Stmt} {pos : Pos} {Q : Flow → Heap → Prop}
    (x : W c h (eval iter env) (fun v h₁ => W c h₁ (pyIter v) (fun it h₂ => (∀ v, letOwnedTupleGo target it v = pure ()) ∧ ∃ (I : Nat → Heap → Prop) (n : Nat), I n h₂ ∧ ∀ n h, I n h → W c h (pyNext it) (fun r h₁ => match r with
      | none => W c h₁ (execs orelse env) Q (fun _ _ => False)
      | some v => W c h₁ (assign target env v) (fun _ h₂ => W c h₂ (execs body env) (fun f h₃ => match f with
        | .next | .cont => ∃ m, m < n ∧ I m h₃
        | .brk => Q .next h₃
        | .ret v => Q (.ret v) h₃) (fun _ _ => False)) (fun _ _ => False)) (fun _ _ => False)) E) E)
    (hs : ∀ x, foldedSetIterable iter env x = pure x := by intro _; rfl) : W c h (exec (.For target iter body orelse pos) env) Q E := fun tk => by
  refine wpAny_For (wpAny_mono (x tk) (fun v s' ⟨h', tk', e, q⟩ => ?_) fun _ _ y => y) hs
  subst e
  refine wpAny_mono (q tk') (fun it s' ⟨h', tk', e, ht, I, n, i, turn⟩ => ?_) fun _ _ y => y
  subst e
  refine codeAny_forLoop (fun n s => ∃ h tk, s = c.st h tk ∧ I n h) (fun n s ⟨h, tk, e, i⟩ => ?_) n ⟨h', tk', rfl, i⟩ ht
  subst e
  refine wpAny_mono (turn n h i tk) (fun r s' ⟨h', tk', e, q⟩ => ?_) fun _ _ ⟨_, _, _, f⟩ => f.elim
  subst e
  cases r with
  | none =>
    refine wpAny_mono (q tk') (fun f s' ⟨h', tk', e, q⟩ => ?_) fun _ _ ⟨_, _, _, f⟩ => f.elim
    exact ⟨h', tk', e, q⟩
  | some v =>
    refine wpAny_mono (q tk') (fun _ s' ⟨h', tk', e, q⟩ => ?_) fun _ _ ⟨_, _, _, f⟩ => f.elim
    subst e
    refine wpAny_mono (q tk') (fun f s' ⟨h', tk', e, q⟩ => ?_) fun _ _ ⟨_, _, _, f⟩ => f.elim
    subst e
    cases f with
    | next => obtain ⟨m, hm, i⟩ := q; exact ⟨m, hm, h', tk', rfl, i⟩
    | cont => obtain ⟨m, hm, i⟩ := q; exact ⟨m, hm, h', tk', rfl, i⟩
    | brk => exact ⟨h', tk', rfl, q⟩
    | ret v => exact ⟨h', tk', rfl, q⟩
theorem w_iter_list {l : Addr} {items : Array Value} {Q : Value → Heap → Prop} (hl : h.IsList l items) (q : ∀ a h', New h a → Keep h h' → h'.IsListIter a l 0 → Q (.ref a) h') : W c h (pyIter (.ref l)) Q E := fun tk =>
  wpAny_pyIter_list (s := c.st h tk) hl ⟨_, tk, rfl, q _ _ (New.of_le (Nat.le_refl _)) (Keep.push _ _) ⟨_, Heap.get?_push_size _ rfl, rfl, rfl⟩⟩
theorem w_next_list {it l : Addr} {i : Nat} {items : Array Value} {Q : Option Value → Heap → Prop} (hh : c.A.handled = none) (hit : h.IsListIter it l i) (hl : h.IsList l items)
    (q : match items[i]? with
      | some x => ∀ h', h'.IsListIter it l (i + 1) → KeepBut it h h' → Q (some x) h'
      | none => ∀ h', KeepBut it h h' → Q none h') : W c h (pyNext (.ref it)) Q E := fun tk => by
  cases e : items[i]? with
  | some x =>
    rw [e] at q
    exact wpAny_pyNext_list_item (s := c.st h tk) hit hl e fun h' hi hs => ⟨h', tk, rfl, q h' hi hs.extBut⟩
  | none =>
    rw [e] at q
    exact wpAny_pyNext_list_end (s := c.st h tk) hh hit hl e fun h' hs => ⟨h', tk, rfl, q h' hs⟩
theorem w_assign_name {x : Str} {p : Pos} {v : Value} {Q : Unit → Heap → Prop} (y : W c h (bindName env x v) Q E) : W c h (assign (.Name x p) env v) Q E := W_at y
end
end Mine
end
section
open PySem PySem.W PySem.Calls PyProof.Rows
set_option maxRecDepth 100000
set_option linter.all false
set_option maxHeartbeats 4000000
namespace Mine
open PySem.Builtin.Str

/-- the signs that the law's texts are made of -/
def sig : List Nat := [10, 32, 33, 39, 40, 41, 42, 43, 44, 45, 46, 47, 48, 49, 58, 59, 60, 61, 62, 63, 91, 93, 97, 122, 123, 124, 125, 126]
def Alph (x : Str) : Prop := ∀ k ∈ x.cps.toList, k ∈ sig
def pieces : List Str := (["{{", "}}", "{{-", "-}}", "{{+", "{", "}", "(", ")", "[", "]", "a", "1", "0", ".", " ", "\n", "'", "'}}'", "==", "=", "*", "/", "<", ">", "!", "?", "~", "-", "|", "z1", "1.0", ",", ":", ";", "+", "{{ ", " }}"] : List String).map Str.ofString
theorem pieces_ok : ∀ x ∈ pieces, Alph x ∧ x.length ≤ 4 := by
  have : pieces.all (fun x => x.cps.toList.all (fun k => decide (k ∈ sig)) && decide (x.length ≤ 4)) = true := by decide +kernel
  intro x hx
  have h := List.all_eq_true.mp this x hx
  rw [Bool.and_eq_true, List.all_eq_true, decide_eq_true_eq] at h
  exact ⟨fun k hk => of_decide_eq_true (h.1 k hk), h.2⟩
theorem Alph.app {x y : Str} (hx : Alph x) (hy : Alph y) : Alph (x ++ y) := fun k hk => by
  have : (x ++ y).cps.toList = x.cps.toList ++ y.cps.toList := by
    show (x.cps ++ y.cps).toList = _
    simp
  rw [this] at hk
  exact (List.mem_append.mp hk).elim (hx k) (hy k)
theorem Alph.sl {x : Str} (hx : Alph x) (i j : Nat) : Alph (sl x i j) := fun k hk => by
  rw [sl_list] at hk
  exact hx k (List.drop_subset _ _ (List.take_subset _ _ hk))
theorem Alph.lt {x : Str} (hx : Alph x) : ∀ k ∈ x.cps.toList, k < 1114112 := fun k hk => by
  have : sig.all (fun k => decide (k < 1114112)) = true := by decide
  exact of_decide_eq_true (List.all_eq_true.mp this k (hx k hk))
theorem closer_alph {d : Str} (h : d ∈ closers) : Alph d := by
  have : closers.all (fun x => x.cps.toList.all (fun k => decide (k ∈ sig))) = true := by decide +kernel
  have h := List.all_eq_true.mp this d h
  rw [List.all_eq_true] at h
  exact fun k hk => of_decide_eq_true (h k hk)
theorem StrVals.get : ∀ {vs : List Value} {xs : List Str} {i : Nat} {x : Str}, StrVals vs xs → xs[i]? = some x → ∃ t, vs[i]? = some (.str x t)
  | _, _, 0, _, .cons _, e => by simp at e; subst e; exact ⟨_, rfl⟩
  | _, _, i + 1, _, .cons r, e => by simpa using StrVals.get r (by simpa using e)
  | _, _, _, _, .nil, e => by simp at e

theorem gpc_tuple {w : World} {h : Heap} (B : Base w h) : h.IsTuple 494 (seqOf (top.o_552 w.params)).toArray := isTup_of (by kernel_rfl) (base_at (a := 494) B (by kernel_rfl) (by decide) (by kernel_rfl))
theorem gpc_strs (P : Params) : StrVals (seqOf (top.o_552 P)) pieces := StrVals.of (by kernel_rfl)
theorem gpc_name (P : Params) : mg0 P "_law_pieces" = some (.ref 494) := by kernel_rfl
abbrev nsS : List Str := ([("numbers" : Str), "balanced"] : List Str) ++ [("text" : Str), "awaited", "one", "piece"]
abbrev IterAt (l : Addr) (i : Nat) : Obj → Prop := fun o => o.cls = .type "list_iterator" ∧ o.data = .fields #[.ref l, .int i 0]
theorem IterAt.nt {l : Addr} {i : Nat} : ∀ o, IterAt l i o → o.cls ≠ .type "tuple" := fun o e => by rw [e.1]; simp

theorem wc_source {c : Cx} {h : Heap} (B : Base c.w h) (D : c.A.depth + 2 < recursionLimit) (U : c.A.units + 14 < cLine) (hh : c.A.handled = none) {N : Addr} {its : List Value} {t0 : Tok} (hN : h.IsList N its.toArray)
    (hi : ∀ v ∈ its, ∃ i t, v = Value.int i t) (hl : its.length ≤ 1000) {b : Bool} {Q : Value → Heap → Prop} {E : Value → Heap → Prop} (q : ∀ h' s t, Keep h h' → Alph s → s.length ≤ 4 * its.length → Q (.str s t) h') :
    WC c h (.call (.ref 509) ⟨[.ref N, .bool b], []⟩) Q E := by
  refine wc_at "_law_source" ["numbers", "balanced"] ["text", "awaited", "one", "piece"] 509 508 (top.o_567 c.w.params) (top.o_566 c.w.params) B (by omega) (by kernel_rfl) (by kernel_rfl) (by kernel_rfl) (by kernel_rfl) (by kernel_rfl) (by decide) (by kernel_rfl) (by kernel_rfl) (by kernel_rfl) rfl (by kernel_rfl) (by kernel_rfl) (by kernel_rfl) ?_
  have X : FnOk nsS (fscope (top.o_567 c.w.params)) := FnOk.of (by kernel_rfl)
  intro c' h₁ L hw hp' hdp hun hhd hfr B₁ K₁ F
  have hh' : c'.A.handled = none := hhd.trans hh
  have M : MS c'.w h [] (fun _ => True) L nsS _ [] h₁ :=
    ⟨B₁, F.ns, fun q hq => (by cases hq), by simp, fun b o _ e => F.keep b o e,
      fun a ha => by
        simp only [List.map_nil, List.mem_cons, List.not_mem_nil, or_false] at ha
        subst ha; exact .inr (New.of_le F.above), fun a ha => by
        simp only [List.map_nil, List.mem_cons, List.not_mem_nil, or_false] at ha
        subst ha; exact hw ▸ B.new (New.of_le F.above), trivial, fun _ _ _ _ => trivial⟩
  have kp : ∀ {vs ls g}, MS c'.w h [] (fun _ => True) L nsS vs ls g → Keep h g := fun M b o e => M.keep b o (by simp) e
  refine w_cons <| w_assign <| w_str fun t1 => w_store X M.ns (i := 2) rfl rfl fun h₄ N₄ k₄ => ?_
  replace M := M.store N₄ k₄
  refine w_cons <| w_assign <| w_list <| w_args_nil ⟨rfl, fun A h₂ k nA lA => ?_⟩
  replace M := M.add nA (nA.back (kp M)) k lA
  refine w_store X M.ns (i := 3) rfl rfl fun h₃ N₃ k₃ => ?_
  replace M := M.store N₃ k₃
  have hNl : ∀ {vs ls g}, MS c'.w h [] (fun _ => True) L nsS vs ls g → g.IsList N its.toArray := fun M => let ⟨o, e, r⟩ := hN; ⟨o, kp M _ _ e, r⟩
  refine w_cons <| w_for <| w_loc X M.ns (i := 0) rfl rfl <| w_iter_list (hNl M) fun IT h₅ nI k₅ hI => ⟨fun _ => rfl, fun n g => ∃ i s t2 stk av v4 v5, n = its.length - i ∧ i ≤ its.length ∧
    MS c'.w h [] (fun _ => True) L nsS [some (.ref N), some (.bool b), some (.str s t2), some (.ref A), v4, v5] [(A, .lst av), (IT, .obj (IterAt N i))] g ∧ Alph s ∧ s.length ≤ 4 * i ∧ StrVals av stk ∧ (∀ d ∈ stk, d ∈ closers) ∧ av.length ≤ i, its.length, ?_, ?_⟩
  · exact ⟨0, "", t1, [], [], _, _, rfl, Nat.zero_le _, M.addO nI (nI.back (kp M)) k₅ hI IterAt.nt, (fun k hk => nomatch hk), Nat.zero_le _, .nil, (fun _ hd => nomatch hd), Nat.zero_le _⟩
  · clear M k₄ N₄ k₃ N₃ lA nA k hI
    rintro n g ⟨i, s, t2, stk, av, v4, v5, rfl, hile, M, hs, hsl, sa, hcl, hroom⟩
    refine w_next_list hh' (M.getO 1 rfl) (hNl M) ?_
    rcases Nat.lt_or_ge i its.length with hlt | hge
    · obtain ⟨k, tk, hv⟩ := hi _ (List.getElem_mem hlt)
      rw [show its.toArray[i]? = some (.int k tk) by rw [← hv]; simp [hlt]]
      intro h6 hI6 k6
      replace M := M.setO 1 rfl hI6 IterAt.nt k6
      refine w_assign_name <| w_store X M.ns (i := 4) rfl rfl fun h7 N7 k7 => ?_
      replace M := M.store N7 k7
      clear hI6 k6 N7 k7
      have hm0 : 0 ≤ k.fmod 38 := Int.fmod_nonneg_of_pos k (by decide)
      have hm1 : k.fmod 38 < 38 := Int.fmod_lt_of_pos k (by decide)
      have hm2 : (k.fmod 38).toNat < pieces.length := by show _ < 38; omega
      have hpo := pieces_ok _ (List.getElem_mem hm2)
      obtain ⟨tp, htp⟩ := (gpc_strs c'.w.params).get (i := (k.fmod 38).toNat) (x := pieces[(k.fmod 38).toNat]'hm2) (List.getElem?_eq_getElem hm2)
      generalize pieces[(k.fmod 38).toNat]'hm2 = pc at hpo htp
      have hlen38 : ((seqOf (top.o_552 c'.w.params)).length : Int) = 38 := by rw [(gpc_strs c'.w.params).len]; rfl
      refine w_cons <| w_assign <| w_sub <| w_glob (base_g M.base) (gpc_name _) <| w_binop <| w_loc X M.ns (i := 4) rfl rfl <| w_callN <| w_blt (base_g M.base) (base_b M.base) (b_len _).1 (b_len _).2 <| w_with_bi <| w_args <| w_glob (base_g M.base) (gpc_name _) <| w_args_nil <|
        w_len_tuple (gpc_tuple M.base) (by rw [(gpc_strs c'.w.params).len]; decide) fun t3 => ?_
      rw [hlen38]
      refine w_mod_int (by decide) fun t4 => w_item_tuple (gpc_tuple M.base) hm0 (by omega) htp <| w_store X M.ns (i := 5) rfl rfl fun h8 N8 k8 => ?_
      replace M := M.store N8 k8
      clear N8 k8
      -- a balanced text takes what is awaited
      refine w_cons_via (fun g' => ∃ p2 t5 stk' av', MS c'.w h [] (fun _ => True) L nsS [some (.ref N), some (.bool b), some (.str s t2), some (.ref A), some (.int k tk), some (.str p2 t5)] [(A, .lst av'), (IT, .obj (IterAt N (i + 1)))] g' ∧
        Alph p2 ∧ p2.length ≤ 4 ∧ StrVals av' stk' ∧ (∀ d ∈ stk', d ∈ closers) ∧ av'.length ≤ i) ?_ ?_
      · refine w_if' (b = true ∧ pc ∈ closers) (fun g' => Keep h8 g') (w_tboolop <| w_and <| w_tval <| w_loc X M.ns (i := 1) rfl rfl <| w_tbool ?_) ?_ ?_
        · cases b with
          | false => rw [if_neg Bool.false_ne_true]; exact ⟨Keep.rfl' _, by simp⟩
          | true =>
            rw [if_pos rfl]
            refine w_and <| w_tcmp <| w_loc X M.ns (i := 5) rfl rfl <| w_tuple <| w_args <| w_str fun t5 => w_args <| w_str fun t6 => w_args <| w_str fun t7 => w_args_nil ⟨rfl, fun b h' k n ht =>
              w_in_tuple ht (.cons (.cons (.cons .nil))) (by kernel_rfl) (by
                unfold PyData.strOk
                rw [← Array.all_toList, List.all_eq_true]
                intro z hz
                have := Alph.lt hpo.1 z hz
                simpa using this) (by omega) <| w_tbool ?_⟩
            by_cases hc : pc ∈ [("}" : Str), ")", "]"]
            · rw [decide_eq_true hc, if_pos rfl]; exact w_and_nil ⟨k, by simpa [closers] using hc⟩
            · rw [decide_eq_false hc, if_neg Bool.false_ne_true]; exact ⟨k, by simpa [closers] using hc⟩
        · rintro ⟨rfl, hc⟩ g1 k1
          replace M := M.mono k1
          have havs : ((av.toArray.size : Nat) : Int) < 2 ^ 63 := by simp; omega
          refine w_cons ?_
          refine w_assign <| w_ifexp' (av ≠ []) (fun g' => g1 = g') (w_tval <| w_loc X M.ns (i := 3) rfl rfl <| w_tlist (M.get 0 rfl).isList havs ⟨rfl, by cases av <;> simp⟩) ?_ ?_
          · rintro hne _ rfl
            have hs0 : stk ≠ [] := fun e => by subst e; cases sa; exact hne rfl
            obtain ⟨stk0, d, rfl⟩ : ∃ stk0 d, stk = stk0 ++ [d] := ⟨stk.dropLast, stk.getLast hs0, (List.dropLast_concat_getLast hs0).symm⟩
            obtain ⟨av0, td0, rfl, sa0⟩ := sa.last
            simp only [List.length_append, List.length_cons, List.length_nil] at hroom
            have hdc := hcl d (by simp)
            have hsz : (1000 : Nat) < sizeLine := by decide
            refine w_pop <| w_loc X M.ns (i := 3) rfl rfl ⟨A, av0, _, rfl, M.get 0 rfl, by omega, fun h' hl kb => ?_⟩
            replace M := M.set 0 rfl hl kb
            refine w_store X M.ns (i := 5) rfl rfl fun h10 N10 k10 => w_nil ⟨d, td0, stk0, av0, M.store N10 k10, closer_alph hdc, by rw [closer_len hdc]; decide, sa0, fun d hd => hcl d (List.mem_append_left _ hd), by omega⟩
          · rintro hne _ rfl
            refine w_str fun t8 => w_store X M.ns (i := 5) rfl rfl fun h10 N10 k10 => w_nil ⟨" ", t8, stk, av, M.store N10 k10, ?_, by decide +kernel, sa, hcl, hroom⟩
            intro z hz
            have : ((" " : Str)).cps.toList = [32] := by decide +kernel
            rw [this] at hz
            simp at hz
            subst hz
            decide
        · intro hno g1 k1
          replace M := M.mono k1
          exact w_nil ⟨pc, _, stk, av, M, hpo.1, hpo.2, sa, hcl, hroom⟩
      · rintro g1 ⟨p2, t5, stk', av', M, hp2, hp2l, sa', hcl', hroom'⟩
        have hsz : (5000 : Nat) < sizeLine := by decide
        refine w_cons_via (fun g' => ∃ stk'' av'', MS c'.w h [] (fun _ => True) L nsS [some (.ref N), some (.bool b), some (.str s t2), some (.ref A), some (.int k tk), some (.str p2 t5)] [(A, .lst av''), (IT, .obj (IterAt N (i + 1)))] g' ∧
          StrVals av'' stk'' ∧ (∀ d ∈ stk'', d ∈ closers) ∧ av''.length ≤ i + 1) ?_ ?_
        · refine w_if' ((dueOf p2).isSome = true) (fun g' => Keep g1 g') (w_tcmp <| w_loc X M.ns (i := 5) rfl rfl <| w_due M.base (by omega) fun h' d k n hD => w_in_due hD (new_ne_sys M.base n) <| w_tbool ⟨k, by simp⟩) ?_ ?_
          · intro hdu g8 k8
            replace M := M.mono k8
            obtain ⟨dd, hdd⟩ := Option.isSome_iff_exists.mp hdu
            refine w_cons ?_
            refine w_expr <| w_append <| w_loc X M.ns (i := 3) rfl rfl ⟨A, av', rfl, M.get 0 rfl, w_sub <| w_due M.base (by omega) fun h' d k n hD => w_loc X (M.mono k).ns (i := 5) rfl rfl <| w_item_due hD hdd fun t9 =>
              ⟨av', (M.mono k).get 0 rfl, by omega, fun h'' hl kb => ⟨rfl, w_nil ⟨stk' ++ [dd], av' ++ [.str dd t9], (M.mono k).set 0 rfl hl kb, sa'.app, ?_, by simp; omega⟩⟩⟩⟩
            intro d hd
            rcases List.mem_append.mp hd with hd | hd
            · exact hcl' d hd
            · rw [List.mem_singleton.mp hd]; exact due_closer hdd
          · intro hdu g8 k8
            exact w_nil ⟨stk', av', M.mono k8, sa', hcl', by omega⟩
        · rintro g2 ⟨stk'', av'', M, sa'', hcl'', hroom''⟩
          refine w_cons <| w_aug <| w_locN X M.ns (i := 2) rfl rfl <| w_loc X M.ns (i := 5) rfl rfl <| w_iadd_str (by omega) fun t9 => w_store X M.ns (i := 2) rfl rfl fun h10 N10 k10 => ?_
          replace M := M.store N10 k10
          exact w_nil ⟨its.length - (i + 1), by omega, i + 1, s ++ p2, t9, stk'', av'', _, _, rfl, hlt, M, hs.app hp2, by rw [strLen_append]; omega, sa'', hcl'', hroom''⟩
    · rw [show its.toArray[i]? = none by simp [hge]]
      intro h6 k6
      refine w_nil ?_
      have F6 : h6.Ns L (frm nsS [some (.ref N), some (.bool b), some (.str s t2), some (.ref A), v4, v5]) := M.ns.extBut k6 (fun e => M.ne (p := (IT, .obj (IterAt N i))) (by simp) e.symm)
      refine w_cons ?_
      refine w_return <| w_loc X F6 (i := 2) rfl rfl <| q h6 s t2 (M.keepBut (a := IT) (by simp) k6 |> fun f b o e => f b o (by simp) e) hs (by omega)
end Mine
end
section
open PySem PySem.W PySem.Calls PyProof.Rows
set_option maxRecDepth 100000
set_option linter.all false
namespace Mine

/-- a tree that only reads, run by computing -/
noncomputable def rd {α : Type} (look : Addr → Option Obj) (st : Setting) : Sem α → Option α
  | .pure a => some a
  | .rule _ k => rd look st (k ())
  | .at _ k => rd look st (k ())
  | .load a _ k => match look a with
    | some o => rd look st (k o)
    | none => none
  | .point _ k => rd look st (k ())
  | .ask k => rd look st (k st)
  | _ => none
theorem rd_wp {α : Type} {look : Addr → Option Obj} {M : Model} {Γ : Ctx} {s : Shared} {a : α} {E : Value → Pos → Shared → Prop} (hl : ∀ a o, look a = some o → s.heap.get? a = some o) {Q : α → Shared → Prop} (q : Q a s) {t : Sem α} : ∀ {p : Pos}, rd look ⟨M.prog, M.w.params⟩ t = some a → Sem.wp M Γ t (fun a _ s => Q a s) E p s := by
  induction t with
  | pure b => intro p e; cases e; exact q
  | rule _ k ih => intro p e; exact ih () e
  | «at» _ k ih => intro p e; exact ih () e
  | load b _ k ih =>
    intro p e
    unfold rd at e
    cases h : look b with
    | none => rw [h] at e; cases e
    | some o => rw [h] at e; exact ⟨o, hl b o h, ih o e⟩
  | point _ k ih => intro p e; exact ih () e
  | ask k ih => intro p e; exact ih _ e
  | _ => intro p e; cases e

/-- what the base holds -/
noncomputable def lookB (P : Params) (a : Addr) : Option Obj := if a < 552 then (match (top.tree_612 P).get a with | some o => alive o | none => none) else none
theorem lookB_ok {w : World} {h : Heap} (B : Base w h) : ∀ a o, lookB w.params a = some o → h.get? a = some o := fun a o e => by
  unfold lookB at e
  split at e
  · rename_i lt
    split at e
    · rename_i o' g
      exact B a o (by unfold H1; rw [abs_get lt g]; exact e)
    · cases e
  · cases e
theorem w_rd {α : Type} {c : Cx} {h : Heap} {E : Value → Heap → Prop} {t : Sem α} {a : α} {Q : α → Heap → Prop} (B : Base c.w h) (e : rd (lookB c.w.params) ⟨c.prog, c.w.params⟩ t = some a) (q : Q a h) : W c h t Q E := fun tk Γ p hΓ =>
  rd_wp (M := model c.prog c.w) (lookB_ok B) ⟨h, tk, rfl, q⟩ e

example {c : Cx} {h : Heap} (B : Base c.w h) : W c h (typeLookup (.ref 491) "__init__") (fun v _ => v = some (.ref 451)) (fun _ _ => False) := w_rd B (by kernel_rfl) rfl
example {c : Cx} {h : Heap} (B : Base c.w h) : W c h (isSubtype (.ref 376) (.type "tuple")) (fun v _ => v = true) (fun _ _ => False) := w_rd B (by kernel_rfl) rfl
example {c : Cx} {h : Heap} (B : Base c.w h) : W c h (isSubtype (.ref 89) (.ref 66)) (fun v _ => v = true) (fun _ _ => False) := w_rd B (by kernel_rfl) rfl
example {c : Cx} {h : Heap} (B : Base c.w h) : W c h (typeLookup (.ref 376) "__iter__") (fun v _ => v = some (.builtin "tuple.__iter__")) (fun _ _ => False) := w_rd B (by kernel_rfl) rfl
example {c : Cx} {h : Heap} (B : Base c.w h) : W c h (Bind.madeBy (.ref 376)) (fun v _ => v = none) (fun _ _ => False) := w_rd B (by kernel_rfl) rfl
end Mine
end
section
open PySem PySem.W PySem.Calls PyProof.Rows
set_option maxRecDepth 100000
set_option linter.all false
namespace Mine

/-- a tree driven over what it reads of the base, to its first other node -/
noncomputable def drive {α : Type} (look : Addr → Option Obj) (st : Setting) : Sem α → Nat → Sem α
  | .rule _ k, n => drive look st (k ()) n
  | .at _ k, n => drive look st (k ()) n
  | .load a p k, 0 => .load a p k
  | .load a p k, n + 1 => match look a with
    | some o => drive look st (k o) n
    | none => .load a p k
  | .point _ k, n => drive look st (k ()) n
  | .ask k, n => drive look st (k st) n
  | t, _ => t
theorem drive_wp {α : Type} {look : Addr → Option Obj} {M : Model} {A : Around} {s : Shared} {E : Value → Shared → Prop} (hl : ∀ a o, look a = some o → s.heap.get? a = some o) {Q : α → Shared → Prop} {t : Sem α} : ∀ {n : Nat}, wpAny M A (drive look ⟨M.prog, M.w.params⟩ t n) Q E s → wpAny M A t Q E s := by
  induction t with
  | rule _ k ih => intro n x Γ p hΓ; exact ih () x Γ p hΓ
  | «at» p' k ih => intro n x Γ p hΓ; exact ih () x Γ p' hΓ
  | load b p' k ih =>
    intro n x
    cases n with
    | zero => exact x
    | succ n =>
      unfold drive at x
      cases h : look b with
      | none => rw [h] at x; exact x
      | some o => rw [h] at x; exact fun Γ p hΓ => ⟨o, hl b o h, ih o x Γ p hΓ⟩
  | point _ k ih => intro n x Γ p hΓ; exact ih () x Γ p hΓ
  | ask k ih => intro n x Γ p hΓ; exact ih _ x Γ p hΓ
  | _ => intro n x; exact x

section
variable {α : Type}
def evPure : Sem α → Option α | .pure a => some a | _ => none
def evAlloc : Sem α → Option Obj | .alloc o _ => some o | _ => none
def kAlloc : Sem α → Addr → Sem α | .alloc _ k, a => k a | t, _ => t
def evLoad : Sem α → Option Addr | .load a _ _ => some a | _ => none
def kLoad : Sem α → Obj → Sem α | .load _ _ k, o => k o | t, _ => t
def evUpd : Sem α → Option Addr | .update a _ _ _ => some a | _ => none
def fUpd : Sem α → Obj → Obj | .update _ _ f _, o => f o | _, o => o
def kUpd : Sem α → Sem α | .update _ _ _ k => k () | t => t
def evFresh : Sem α → Bool | .fresh _ => true | _ => false
def kFresh : Sem α → Tok → Sem α | .fresh k, t => k t | t, _ => t
def evCall : Sem α → Option Code | .call c none _ _ _ => some c | _ => none
def kCall : Sem α → Result → Sem α | .call _ _ _ _ k, r => k r | t, _ => t
def evRaise : Sem α → Option Value | .raise e => some e | _ => none
end

/-- the tree driven over n reads of the base at the most -/
noncomputable abbrev dr {α : Type} (c : Cx) (n : Nat) (t : Sem α) : Sem α := drive (lookB c.w.params) ⟨c.prog, c.w.params⟩ t n
section
variable {α : Type} {c : Cx} {h : Heap} {E : Value → Heap → Prop} {t : Sem α} {Q : α → Heap → Prop}
theorem w_dr (n : Nat) (B : Base c.w h) (x : W c h (dr c n t) Q E) : W c h t Q E := fun tk => drive_wp (M := model c.prog c.w) (lookB_ok B) (x tk)
theorem w_dr_pure {a : α} (n : Nat) (B : Base c.w h) (e : evPure (dr c n t) = some a) (q : Q a h) : W c h t Q E := w_dr n B (by
  generalize dr c n t = u at e
  cases u <;> simp [evPure] at e
  subst e; exact W_pure q)
theorem w_dr_raise {v : Value} (n : Nat) (B : Base c.w h) (e : evRaise (dr c n t) = some v) (q : E v h) : W c h t Q E := w_dr n B (by
  generalize dr c n t = u at e
  cases u <;> simp [evRaise] at e
  subst e; exact fun tk Γ p hΓ => ⟨h, tk, rfl, q⟩)
theorem w_dr_alloc (n : Nat) (o : Obj) (B : Base c.w h) (e : evAlloc (dr c n t) = some o) (hf : o.isFreed = false) (q : ∀ a h', New h a → Keep h h' → h'.get? a = some o → W c h' (kAlloc (dr c n t) a) Q E) : W c h t Q E := w_dr n B (by
  generalize dr c n t = u at e q
  cases u <;> simp [evAlloc] at e
  subst e
  exact fun tk => q _ _ (New.of_le (Nat.le_refl _)) (Keep.push _ _) (Heap.get?_push_size _ hf) tk)
theorem w_dr_load (n : Nat) (a : Addr) (o : Obj) (B : Base c.w h) (e : evLoad (dr c n t) = some a) (ho : h.get? a = some o) (q : W c h (kLoad (dr c n t) o) Q E) : W c h t Q E := w_dr n B (by
  generalize dr c n t = u at e q
  cases u <;> simp [evLoad] at e
  subst e
  exact fun tk Γ p hΓ => ⟨o, ho, q tk Γ p hΓ⟩)
theorem w_dr_fresh (n : Nat) (B : Base c.w h) (e : evFresh (dr c n t) = true) (q : ∀ tk, W c h (kFresh (dr c n t) tk) Q E) : W c h t Q E := w_dr n B (by
  generalize dr c n t = u at e q
  cases u <;> simp [evFresh] at e
  exact fun tk => q tk (tk + 1))
theorem w_dr_upd (n : Nat) (a : Addr) (o o' : Obj) (B : Base c.w h) (e : evUpd (dr c n t) = some a) (ho : h.get? a = some o) (hf : fUpd (dr c n t) o = o') (hfr : o'.isFreed = false) (q : ∀ h', KeepBut a h h' → h'.get? a = some o' → W c h' (kUpd (dr c n t)) Q E) : W c h t Q E := w_dr n B (by
  generalize dr c n t = u at e q hf
  cases u <;> simp [evUpd] at e
  subst e
  rename_i b p f k
  refine fun tk Γ p hΓ => ⟨by show (h.get? b).isSome = true; rw [ho]; rfl, ?_⟩
  subst hf
  exact q _ (update_but _ _ _) (Heap.get?_update_self _ ho hfr) tk Γ p hΓ)
theorem w_dr_call (n : Nat) (code : Code) (B : Base c.w h) (e : evCall (dr c n t) = some code) (x : WC c h code (fun v h' => W c h' (kCall (dr c n t) (.ok (.ret v))) Q E) (fun v h' => W c h' (kCall (dr c n t) (.error v)) Q E)) : W c h t Q E := w_dr n B (by
  generalize dr c n t = u at e x
  cases u with
  | call c0 hd g l k =>
    cases hd with
    | some v => simp [evCall] at e
    | none =>
      simp [evCall] at e
      subst e
      intro tk Γ p hΓ
      obtain ⟨r, s', hr, hq⟩ := x tk (Γ.enter c0 none p) p rfl (hΓ.enter c0 none p (by intro x; cases x))
      refine ⟨r, s', hr, ?_⟩
      obtain ⟨h', tk', rfl, hq⟩ := hq
      cases r with
      | ok f => cases f <;> first | exact hq tk' Γ p hΓ | exact hq.elim
      | error v => exact hq tk' Γ p hΓ
  | _ => simp [evCall] at e)
end
theorem WC_tree {c : Cx} {h : Heap} {code : Code} {Q E : Value → Heap → Prop} (B : Base c.w h) (x : ∀ c' : Cx, Base c'.w h → c'.w = c.w → c'.prog = c.prog → c'.A = c.A.under code → W c' h ((model c'.prog c'.w).den code) (fun fin h' => match fin with | .done (.ret v) => Q v h' | .done _ => False | .again c' => c'.quiet = true ∧ WC c h' c' Q E) E) : WC c h code Q E := fun tk =>
  codeAny_of_tree (wpAny_mono (x { c with A := c.A.under code } B rfl rfl rfl tk) (fun fin s' ⟨h', tk', e, q⟩ => by
    subst e
    cases fin with
    | done f => cases f <;> first | exact ⟨h', tk', rfl, q⟩ | exact q.elim
    | again c' => exact ⟨q.1, q.2 tk'⟩) fun _ _ y => y)
/-- a builtin's own tree -/
theorem WC_builtin {c : Cx} {h : Heap} {id : String} {args : Args} {Bi : Builtin} {Q E : Value → Heap → Prop} (B : Base c.w h) (entry : entryFor table id = some Bi)
    (x : ∀ c' : Cx, Base c'.w h → c'.w = c.w → c'.prog = c.prog → c'.A = c.A.under (.builtin id args) → W c' h (Bi args) (fun fin h' => match fin with | .done (.ret v) => Q v h' | .done _ => False | .again c' => c'.quiet = true ∧ WC c h' c' Q E) E) : WC c h (.builtin id args) Q E := fun tk =>
  codeAny_builtin entry (wpAny_mono (x { c with A := c.A.under (.builtin id args) } B rfl rfl rfl tk) (fun fin s' ⟨h', tk', e, q⟩ => by
    subst e
    cases fin with
    | done f => cases f <;> first | exact ⟨h', tk', rfl, q⟩ | exact q.elim
    | again c' => exact ⟨q.1, q.2 tk'⟩) fun _ _ y => y)
end Mine
end
section
open PySem PySem.Calls PyProof.Rows
set_option maxRecDepth 100000
set_option linter.all false
namespace Mine
section
variable {c : Cx} {h : Heap} {E : Value → Heap → Prop} {env : Env}
theorem w_assign_attr {o value : Expr} {attr : Str} {p' pos : Pos} {Q : Flow → Heap → Prop} (x : W c h (eval value env) (fun v h₁ => W c h₁ (eval o env) (fun ov h₂ => W c h₂ (setAttr ov attr v) (fun _ h₃ => Q .next h₃) E) E) E)
    (hs : swapsWith value (some (.Attribute o attr p')) pos.line env = pure false := by with_unfolding_all rfl) : W c h (exec (.Assign [.Attribute o attr p'] value pos) env) Q E := fun tk =>
  plainObj_wpAny_Assign_Attribute (wpAny_mono (x tk) (fun v s' ⟨h', tk', e, q⟩ => by
    subst e
    refine wpAny_mono (q tk') (fun ov s' ⟨h', tk', e, q⟩ => ?_) fun _ _ y => y
    subst e
    exact wpAny_mono (q tk') (fun _ s' ⟨h', tk', e, q⟩ => ⟨h', tk', e, q⟩) fun _ _ y => y) fun _ _ y => y) hs
/-- the tree of an attribute: the value, then what it answers -/
theorem w_attr {value : Expr} {attr : Str} {pos : Pos} {Q : Value → Heap → Prop} (hb : attributeBase value attr env (eval value env) = eval value env) (hn : ∀ o r, letTemporaryGo value o r = pure ())
    (x : W c h (eval value env) (fun o h₁ => W c h₁ (getAttr o attr true) Q E) E) : W c h (eval (.Attribute value attr pos) env) Q E := by
  rw [arm_eval_Attribute, hb]
  refine W_bind (W_mono x (fun o h₁ q => W_at (W_bind (W_holding (W_mono q (fun r h₂ q => ?_) fun _ _ y => y)))) fun _ _ y => y)
  rw [hn]
  exact W_bind (W_pure (W_pure q))
end
end Mine
end
section
open PySem PySem.W PySem.Calls PyProof.Rows
set_option maxRecDepth 100000
set_option linter.all false
set_option maxHeartbeats 4000000
namespace Mine
/-- the classes of the module and their parts -/
noncomputable def KF (P : Params) : Frag := [(491, top.o_549 P), (490, top.o_548 P), (469, top.o_531 P), (468, top.o_522 P), (451, top.o_505 P), (432, top.o_483 P), (431, top.o_482 P), (400, top.o_451 P), (429, top.o_480 P), (216, top.o_255 P), (215, top.o_254 P), (206, top.o_245 P), (376, top.o_424 P), (375, top.o_423 P), (372, top.o_420 P), (66, top.o_77 P), (65, top.o_69 P), (55, top.o_59 P), (62, top.o_66 P), (63, top.o_67 P), (89, top.o_97 P), (88, top.o_96 P), (86, top.o_94 P)]
theorem in_of_all {K : Frag} {h : Heap} (x : ∀ p ∈ K, h.get? p.1 = some p.2) : K.In h := fun a o e => by
  induction K with
  | nil => cases e
  | cons q K ih =>
    obtain ⟨b, ob⟩ := q
    rw [List.lookup_cons] at e
    cases hq : (a == b) with
    | true =>
      rw [hq] at e
      cases e
      have := beq_iff_eq.mp hq
      subst this
      exact x _ List.mem_cons_self
    | false =>
      rw [hq] at e
      exact ih (fun p hp => x p (List.mem_cons_of_mem _ hp)) e
theorem KF_in {w : World} {h : Heap} (B : Base w h) : (KF w.params).In h := in_of_all fun p hp => by
  have look := lookB_ok B
  simp only [KF, List.mem_cons, List.not_mem_nil, or_false] at hp
  rcases hp with rfl | rfl | rfl | rfl | rfl | rfl | rfl | rfl | rfl | rfl | rfl | rfl | rfl | rfl | rfl | rfl | rfl | rfl | rfl | rfl | rfl | rfl | rfl <;> exact look _ _ (by kernel_rfl)

/-- a tree that only reads and asks nothing -/
noncomputable def rd0 {α : Type} (look : Addr → Option Obj) : Sem α → Option α
  | .pure a => some a
  | .rule _ k => rd0 look (k ())
  | .at _ k => rd0 look (k ())
  | .load a _ k => match look a with
    | some o => rd0 look (k o)
    | none => none
  | .point _ k => rd0 look (k ())
  | _ => none
theorem rd0_wp {α : Type} {look : Addr → Option Obj} {M : Model} {Γ : Ctx} {s : Shared} {a : α} {E : Value → Pos → Shared → Prop} (hl : ∀ a o, look a = some o → s.heap.get? a = some o) {Q : α → Shared → Prop} (q : Q a s) {t : Sem α} : ∀ {p : Pos}, rd0 look t = some a → Sem.wp M Γ t (fun a _ s => Q a s) E p s := by
  induction t with
  | pure b => intro p e; cases e; exact q
  | rule _ k ih => intro p e; exact ih () e
  | «at» _ k ih => intro p e; exact ih () e
  | load b _ k ih =>
    intro p e
    unfold rd0 at e
    cases h : look b with
    | none => rw [h] at e; cases e
    | some o => rw [h] at e; exact ⟨o, hl b o h, ih o e⟩
  | point _ k ih => intro p e; exact ih () e
  | _ => intro p e; cases e
def fname (o : Obj) : Str := match o.data with | .func fd => fd.name | _ => Str.empty
def fdef (o : Obj) : Value := match o.data with | .func fd => fd.defaults | _ => .none
def fkwd (o : Obj) : Value := match o.data with | .func fd => fd.kwdefaults | _ => .none
def fann (o : Obj) : Option Addr := match o.data with | .func fd => fd.annotations | _ => none
def fct (o : Obj) : Value := match o.data with | .func fd => fd.closureTuple | _ => .none
/-- a function of the module, any of it: its contract -/
theorem wc_fnE {c : Cx} {h : Heap} {E : Value → Heap → Prop} {R : Value → Heap → Prop} (qual : Str) (ps ls : List Str) (a cd : Nat) (o oc : Obj) {args : Args} (vals : List Value) (B : Base c.w h) (D : c.A.depth < recursionLimit)
    (e : (top.tree_612 c.w.params).get a = some o) (al : alive o = some o) (ec : (top.tree_612 c.w.params).get cd = some oc) (alc : alive oc = some oc) (hr : recOk oc qual = true) (lt : a < 552 ∧ cd < 552)
    (hdata : o.data = .func (fnOf (fname o) qual (fparams o) (fbody o) (fscope o) (fdef o) (fkwd o) (fdoc o) (fmod o) (fann o) (.ref cd) (fct o))) (hok : okB (ps ++ ls) (fscope o) = true)
    (hbind : rd0 (lookB c.w.params) (bindArgs (fnOf (fname o) qual (fparams o) (fbody o) (fscope o) (fdef o) (fkwd o) (fdoc o) (fmod o) (fann o) (.ref cd) (fct o)) args) = some (ps.zip vals)) (hl : ps.length = vals.length)
    (hco : (fscope o).isCoroutine = false) (hgen : (fscope o).isGenerator = false) (hcell : cellFree (fscope o) = true)
    (x : ∀ (c' : Cx) h₁ L, c'.w = c.w → c'.prog = c.prog → c'.A.depth = c.A.depth + 1 → c'.A.units = c.A.units + 3 → c'.A.handled = c.A.handled → c'.A.frames = c.A.frames.map (envOf qual (fscope o) L a (.ref cd) :: ·) → c'.g = c.g → c' = { c with A := c.A.deeper (envOf qual (fscope o) L a (.ref cd)) } → Base c'.w h₁ → Keep h h₁ → Fm h L (ps ++ ls) (vals.map some ++ ls.map fun _ => none) h₁ →
      W c' h₁ (execs (fbody o) (envOf qual (fscope o) L a (.ref cd))) (fun f h' => R (match f with | .ret v => v | _ => .none) h') (fun e h' => W c' h' («leaving» (envOf qual (fscope o) L a (.ref cd)) e) (fun _ h'' => E e h'') (fun e' h'' => E e' h''))) : WC c h (.call (.ref a) args) R E := fun tk => by
  have X := FnOk.of hok
  refine codeAny_call_def (s := c.st h tk) (binds := ps.zip vals) D (base_at B e lt.1 al) hdata (base_lim B) (cr_of oc B ec lt.2 alc hr) rfl (fun M A E' Q hq Γ p hΓ => ?_) (cellFree.of hcell) (fun y hy => X.loc y.1 (List.mem_append_left _ (List.of_mem_zip hy).1)) (fun h₀ hn hk => ?_) hco hgen X.kind
  · exact rd0_wp (lookB_ok B) hq hbind
  · rw [frm_binds X.nd hl] at hn
    have F : Fm h h.objs.size (ps ++ ls) (vals.map some ++ ls.map fun _ => none) h₀ := ⟨hn, hk, Nat.le_refl _⟩
    refine wpAny_mono (x { c with A := c.A.deeper (envOf qual (fscope o) h.objs.size a (.ref cd)) } h₀ h.objs.size rfl rfl rfl rfl rfl rfl rfl rfl (B.mono F.keep) F.keep F _) (fun f s' ⟨h', tk', e, q⟩ => ⟨h', tk', e, q⟩) (fun e s' ⟨h', tk', es, q⟩ => ?_)
    subst es
    exact wpAny_mono (q tk') (fun _ s' ⟨h', tk', e, q⟩ => ⟨h', tk', e, q⟩) (fun _ s' ⟨h', tk', e, q⟩ => ⟨h', tk', e, q⟩)
/-- the same for one that raises nothing -/
theorem wc_fn {c : Cx} {h : Heap} {E : Value → Heap → Prop} {R : Value → Heap → Prop} (qual : Str) (ps ls : List Str) (a cd : Nat) (o oc : Obj) {args : Args} (vals : List Value) (B : Base c.w h) (D : c.A.depth < recursionLimit)
    (e : (top.tree_612 c.w.params).get a = some o) (al : alive o = some o) (ec : (top.tree_612 c.w.params).get cd = some oc) (alc : alive oc = some oc) (hr : recOk oc qual = true) (lt : a < 552 ∧ cd < 552)
    (hdata : o.data = .func (fnOf (fname o) qual (fparams o) (fbody o) (fscope o) (fdef o) (fkwd o) (fdoc o) (fmod o) (fann o) (.ref cd) (fct o))) (hok : okB (ps ++ ls) (fscope o) = true)
    (hbind : rd0 (lookB c.w.params) (bindArgs (fnOf (fname o) qual (fparams o) (fbody o) (fscope o) (fdef o) (fkwd o) (fdoc o) (fmod o) (fann o) (.ref cd) (fct o)) args) = some (ps.zip vals)) (hl : ps.length = vals.length)
    (hco : (fscope o).isCoroutine = false) (hgen : (fscope o).isGenerator = false) (hcell : cellFree (fscope o) = true)
    (x : ∀ (c' : Cx) h₁ L, c'.w = c.w → c'.prog = c.prog → c'.A.depth = c.A.depth + 1 → c'.A.units = c.A.units + 3 → c'.A.handled = c.A.handled → Base c'.w h₁ → Keep h h₁ → Fm h L (ps ++ ls) (vals.map some ++ ls.map fun _ => none) h₁ →
      W c' h₁ (execs (fbody o) (envOf qual (fscope o) L a (.ref cd))) (fun f h' => R (match f with | .ret v => v | _ => .none) h') (fun _ _ => False)) : WC c h (.call (.ref a) args) R E :=
  wc_fnE qual ps ls a cd o oc vals B D e al ec alc hr lt hdata hok hbind hl hco hgen hcell fun c' h₁ L h1 h2 h3 h4 h5 _ _ _ h6 h7 h8 => W_mono (x c' h₁ L h1 h2 h3 h4 h5 h6 h7 h8) (fun _ _ y => y) (fun _ _ f => f.elim)

/-- entries under names -/
inductive Ents : List DictEntry → List (Str × Value) → Prop
  | nil : Ents [] []
  | cons {hsh : Int} {k : Str} {t : Tok} {v : Value} {es : List DictEntry} {kvs : List (Str × Value)} : Ents es kvs → Ents (⟨hsh, .str k t, v⟩ :: es) ((k, v) :: kvs)
def EntsO (kvs : List (Str × Value)) (o : Obj) : Prop := ∃ es n, o = dictOf es n ∧ Ents es kvs
theorem EntsO.nt {kvs : List (Str × Value)} : ∀ o, EntsO kvs o → o.cls ≠ .type "tuple" := fun o ⟨es, n, e, _⟩ => by subst e; simp
theorem Ents.len {es : List DictEntry} {kvs : List (Str × Value)} (x : Ents es kvs) : es.length = kvs.length := by
  induction x with
  | nil => rfl
  | cons _ ih => simp [ih]
theorem isStr_str (k name : Str) (t : Tok) : (Value.str k t).isStr name = (k == name) := by
  first | rfl | (unfold Value.isStr; rfl)
theorem Ents.put {es : List DictEntry} {kvs : List (Str × Value)} (x : Ents es kvs) {name : Str} {hsh : Int} {t : Tok} {v : Value} (hf : (kvs.map (·.1)).contains name = false) : Ents (putL name hsh (.str name t) v es) (kvs ++ [(name, v)]) := by
  induction x with
  | nil => exact .cons .nil
  | cons x ih =>
    rw [List.map_cons, List.contains_cons, Bool.or_eq_false_iff] at hf
    unfold putL
    rw [isStr_str, if_neg (by have := hf.1; rw [beq_eq_false_iff_ne] at this; simpa using Ne.symm this)]
    exact .cons (ih hf.2)
theorem Ents.noRef {es : List DictEntry} {kvs : List (Str × Value)} (x : Ents es kvs) : es.any (·.refKey) = false := by
  induction x with
  | nil => rfl
  | cons x ih => rw [List.any_cons, ih, Bool.or_false]; rfl
theorem Ents.look {es : List DictEntry} {kvs : List (Str × Value)} (x : Ents es kvs) (name : Str) : getL name es = some (kvs.lookup name) := by
  have hr := x.noRef
  unfold getL
  have hf : (es.find? (·.key.isStr name)).map (·.val) = kvs.lookup name := by
    clear hr
    induction x with
    | nil => rfl
    | @cons hsh k t v es kvs x ih =>
      rw [List.find?_cons, List.lookup_cons]
      show Option.map _ (match (Value.str k t).isStr name with | true => _ | false => _) = _
      rw [isStr_str, show (name == k) = (k == name) from Bool.eq_iff_iff.mpr ⟨fun h => by rw [beq_iff_eq] at h ⊢; exact h.symm, fun h => by rw [beq_iff_eq] at h ⊢; exact h.symm⟩]
      cases k == name with
      | true => rfl
      | false => exact ih
  cases hq : es.find? (·.key.isStr name) with
  | some e => rw [hq] at hf; simp at hf; simp [← hf]
  | none => rw [hq] at hf; simp at hf; rw [if_neg (by rw [hr]; exact Bool.false_ne_true), ← hf]
section
variable {c : Cx} {h : Heap} {E : Value → Heap → Prop} {x dx C : Addr}
/-- what a class of the module must be for plain stores and reads -/
noncomputable def plainC (P : Params) (C : Addr) (name : Str) : Bool := findIn (KF P) (.ref C) "__setattr__" == some (some (.builtin "object.__setattr__")) && plainOver (KF P) C && (takerIn (KF P) C name == some none) && hasDictIn (KF P) C
theorem inst_at {od : Obj} (hx : h.get? x = some (instObj C dx)) (hd : h.get? dx = some od) : InstAt h x (instObj C dx) C (some od) := ⟨hx, rfl, rfl, hd⟩
open Builtin Builtin.ObjectAttr in
theorem w_setattr {name : Str} {v : Value} {kvs : List (Str × Value)} {Q : Unit → Heap → Prop} (B : Base c.w h) (hx : h.get? x = some (instObj C dx)) (hd : ∃ o, h.get? dx = some o ∧ EntsO kvs o)
    (hk : findIn (KF c.w.params) (.ref C) "__setattr__" = some (some (.builtin "object.__setattr__"))) (hp : plainOver (KF c.w.params) C = true) (ht : takerIn (KF c.w.params) C name = some none) (hh : hasDictIn (KF c.w.params) C = true)
    (hf : (kvs.map (·.1)).contains name = false) (hl : Nat.ble kvs.length 100 = true) (q : ∀ h', KeepBut dx h h' → (∃ o, h'.get? dx = some o ∧ EntsO (kvs ++ [(name, v)]) o) → Q () h') : W c h (setAttr (.ref x) name v) Q E := fun tk => by
  obtain ⟨o, hd, es, n, rfl, en⟩ := hd
  have X := KF_in B
  have I := inst_at hx hd
  refine set_plain (s := c.st h tk) X I hk (osa_open (s := { c.st h tk with toks := tk + 1 }) X I hp ht fun b => ?_)
  obtain ⟨cd, hc, hd'⟩ := any_some hh
  refine wpAny_bind (wpAny_pure (wpAny_bind (wpAny_bind (wpAny_loadPart (s := { c.st h tk with toks := tk + 1 }) hx (wpAny_bind ((looks_clsIn X hc).here ?_))))))
  rw [hd']
  refine wpAny_pure (a := some dx) (wpAny_bind (wpAny_pure (wpAny_bind ?_)))
  unfold nsSet
  refine wpAny_bind (wpAny_bind (wpAny_askSetting (wpAny_pure (wpAny_bind (wpAny_mkText (wpAny_bind (wpAny_loadPart hd ?_)))))))
  have hr := en.noRef
  have c0 : (!es.toArray.any (·.key.isStr name) && es.toArray.any (·.refKey)) = false := by
    rw [← Array.any_toList, ← Array.any_toList, List.toList_toArray, hr, Bool.and_false]
  show wpAny _ _ (if aRefKeyMayBeTheName name es.toArray = true then _ else _) _ _ _
  rw [aRefKeyMayBeTheName_at, c0, if_neg Bool.false_ne_true]
  have hpn := putName_dict name (PyData.keyHash c.w.params name) (.str name (tk + 1)) v es n
  have en' := en.put (name := name) (hsh := PyData.keyHash c.w.params name) (t := tk + 1) (v := v) hf
  have D' := Heap.get?_update_self (h := h) (Obj.putName name (PyData.keyHash c.w.params name) (.str name (tk + 1)) v) hd (by rw [hpn]; rfl)
  rw [hpn] at D'
  refine wpAny_updatePart hd ?_
  refine wpAny_bind (wpAny_lookBehind D' (pastItsLine_dict (by
    rw [List.size_toArray, en'.len, List.length_append]
    have := Nat.le_of_ble_eq_true hl
    have h2 : (1000 : Nat) < sizeLine := by decide
    simp only [List.length_cons, List.length_nil]
    omega)) ?_)
  exact wpAny_pure ⟨_, _, rfl, q _ (update_but _ _ _) ⟨_, D', _, _, rfl, en'⟩⟩
theorem w_getattr {name : Str} {v : Value} {kvs : List (Str × Value)} {expr : Bool} {Q : Value → Heap → Prop} (B : Base c.w h) (hx : h.get? x = some (instObj C dx)) (hd : ∃ o, h.get? dx = some o ∧ EntsO kvs o)
    (hg : plainGet (KF c.w.params) C name = true) (hh : hasDictIn (KF c.w.params) C = true) (ha : findIn (KF c.w.params) (.ref C) name = some none) (hl : kvs.lookup name = some v) (hv : handedIn v = true) (q : Q v h) :
    W c h (getAttr (.ref x) name expr) Q E := fun tk => by
  obtain ⟨o, hd, es, n, rfl, en⟩ := hd
  have X := KF_in B
  have I := inst_at hx hd
  exact get_value (s := c.st h tk) X I (plainGet_of hg).1 (findObj_own hh ha rfl (by rw [lookIn_dict, en.look, hl])) hv ⟨h, _, rfl, q⟩
end
end Mine
end
section
open PySem PySem.Calls PyProof.Rows
set_option maxRecDepth 100000
set_option linter.all false
namespace Mine
/-- what a generator owes: at its end; at a yield; what the consumer may do -/
structure GSpec where
  Rh : Nat → Result → Heap → Prop
  Yv : Nat → Value → Heap → Prop
  St : Nat → Heap → Heap → Prop
def Cx.R (c : Cx) (G : GSpec) : GenEnd := fun n _ r s' => ∃ h' tk', s' = c.st h' tk' ∧ G.Rh n r h'
def Cx.Y (c : Cx) (G : GSpec) : Protocol := fun n _ v s' kap => ∃ h' tk', s' = c.st h' tk' ∧ G.Yv n v h' ∧ ∀ h'' tk'', G.St n h' h'' → kap (.send .none) (c.st h'' tk'')
abbrev Cx.ov (c : Cx) (code : Code) (fs : List PySem.Frame) : Cx := { c with A := c.A.over code fs }
def SG (c : Cx) (G : GSpec) (n : Nat) (code : Code) (t : Sem Fin) (fs : List PySem.Frame) (h : Heap) : Prop := ∀ s₀ tk, Seg (model c.prog c.w) c.A (c.R G) (c.Y G) n s₀ code t fs (c.st h tk)
def SX (c : Cx) (G : GSpec) (n : Nat) (code : Code) (fs : List PySem.Frame) (K : Flow → Sem Fin) (H : Value → Sem Fin) (env : Env) (b : List Stmt) (h : Heap) : Prop := SG c G n code ((execs b env).wrap K H id id) fs h
def SE (c : Cx) (G : GSpec) (n : Nat) (code : Code) (fs : List PySem.Frame) (K : Flow → Sem Fin) (H : Value → Sem Fin) (env : Env) (st : Stmt) (h : Heap) : Prop := SG c G n code ((exec st env).wrap K H id id) fs h
def nextK (rest : List Stmt) (env : Env) (K : Flow → Sem Fin) (H : Value → Sem Fin) : Flow → Sem Fin := fun f => match f with | .next => (execs rest env).wrap K H id id | f => K f
/-- back from a loop -/
def retK (env : Env) (K : Flow → Sem Fin) (H : Value → Sem Fin) : Result → Sem Fin := fun r => ((match r with | .ok f => (.pure f : Sem Flow) | .error e => .raise e).onRaise fun (x : Value) => do
        if (← field x 1) == Value.none then unsupported "frame.own-activation:exception-without-traceback"
        setFlight x env.frame).wrap K H id id
def frL (code : Code) (p : Pos) (env : Env) (K : Flow → Sem Fin) (H : Value → Sem Fin) : PySem.Frame := .ret (retK env K H) none false [] code p []
def loopK (lc : Code) : Flow → Sem Fin := fun f => match f with | .next | .cont => .pure (.again lc) | .brk => .pure (.done .next) | .ret v => .pure (.done (.ret v))
def loopH (env : Env) : Value → Sem Fin := fun e => (do noteFrame e env; theTreesLotGoes e : Sem Unit).wrap (fun _ => .raise e) .raise id id
def doneK : Flow → Sem Fin := fun f => .pure (.done f)
def funcK : Flow → Sem Fin := fun f => .pure (.done (.ret (match f with | .ret v => v | _ => .none)))
def funcH (env : Env) : Value → Sem Fin := fun e => («leaving» env e).wrap (fun _ => .raise e) .raise id id

section
variable {c : Cx} {G : GSpec} {n : Nat} {code : Code} {fs : List PySem.Frame} {h : Heap} {env : Env} {K : Flow → Sem Fin} {H : Value → Sem Fin} {α : Type}
theorem sg_wrap {m : Sem α} {K : α → Sem Fin} {H : Value → Sem Fin} {gd lv} (x : W (c.ov code fs) h m (fun a h' => SG c G n code (K a) fs h') (fun e h' => SG c G n code (H e) fs h')) : SG c G n code (m.wrap K H gd lv) fs h := fun s₀ tk =>
  seg_wrap (wpAny_mono (x tk) (fun a s' ⟨h', tk', e, q⟩ => e ▸ q s₀ tk') (fun a s' ⟨h', tk', e, q⟩ => e ▸ q s₀ tk'))
theorem sg_bind {m : Sem α} {K : α → Sem Fin} (x : W (c.ov code fs) h m (fun a h' => SG c G n code (K a) fs h') (fun e h' => SG c G n code (.raise e) fs h')) : SG c G n code (m >>= K) fs h := by
  rw [Sem.bind_eq_wrap']; exact sg_wrap x
theorem sx_nil (q : SG c G n code (K .next) fs h) : SX c G n code fs K H env [] h := q
theorem sx_cons {st : Stmt} {rest : List Stmt} (x : SE c G n code fs (nextK rest env K H) H env st h) : SX c G n code fs K H env (st :: rest) h := fun s₀ tk => by
  rw [execs_cons_wrap]; exact x s₀ tk
theorem se_W {st : Stmt} (x : W (c.ov code fs) h (exec st env) (fun f h' => SG c G n code (K f) fs h') (fun e h' => SG c G n code (H e) fs h')) : SE c G n code fs K H env st h := sg_wrap x
theorem sx_W {st : Stmt} {rest : List Stmt} (x : W (c.ov code fs) h (exec st env) (fun f h' => match f with | .next => SX c G n code fs K H env rest h' | f => SG c G n code (K f) fs h') (fun e h' => SG c G n code (H e) fs h')) : SX c G n code fs K H env (st :: rest) h :=
  sx_cons (se_W (W_mono x (fun f h' q => by cases f <;> exact q) fun _ _ y => y))
theorem se_if {test : Expr} {body orelse : List Stmt} {pos : Pos} (x : W (c.ov code fs) h (isTrue test env (eval test env)) (fun b h' => if b = true then SX c G n code fs K H env body h' else SX c G n code fs K H env orelse h') (fun e h' => SG c G n code (H e) fs h')) :
    SE c G n code fs K H env (.If test body orelse pos) h := by
  show SG c G n code ((standAt pos >>= fun _ => isTrue test env (eval test env) >>= fun b => if b = true then execs body env else execs orelse env).wrap K H id id) fs h
  rw [Sem.bind_eq_wrap', Sem.wrap_wrap]
  refine sg_wrap (W_standAt ?_)
  rw [Sem.bind_eq_wrap', Sem.wrap_wrap]
  refine sg_wrap (W_mono x (fun b h' q => ?_) fun _ _ y => y)
  cases b with
  | true => exact q
  | false => exact q
theorem se_yield {e : Expr} {ypos pos : Pos} (hfs : splitAtGen fs = none) (hfg : fs.any Frame.guarded = false)
    (x : W (c.ov code fs) h (eval e env) (fun v h' => G.Yv n v h' ∧ ∀ h'', G.St n h' h'' → SG c G n code (K .next) fs h'') (fun e h' => SG c G (n + 1) code (H e) fs h'))
    (hco : env.scope.isCoroutine = false := by rfl) (hi : interactive env = false := by rfl) : SE c G (n + 1) code fs K H env (.Expr (.Yield (some e) ypos) pos) h := fun s₀ tk => by
  refine seg_Expr_Yield hfs rfl hfg (wpAny_mono (x tk) (fun v s' ⟨h', tk', e, hv, q⟩ kap hk => ?_) (fun e s' ⟨h', tk', es, q⟩ => es ▸ q s₀ tk')) hco hi
  exact ⟨h', tk', e, hv, fun h'' tk'' st => hk .none _ (q h'' st _ tk'')⟩
theorem se_while {test : Expr} {body orelse : List Stmt} {pos : Pos} (x : ∀ p, SG c G n (.whileLoop test body orelse env) ((model c.prog c.w).den (.whileLoop test body orelse env)) (frL code p env K H :: fs) h) : SE c G n code fs K H env (.While test body orelse pos) h := fun s₀ tk =>
  seg_While fun p => x p s₀ tk
theorem sg_ret {lc : Code} {p : Pos} {f : Flow} (q : SG c G n code (K f) fs h) : SG c G n lc (.pure (.done f)) (frL code p env K H :: fs) h := fun s₀ tk => seg_leaf (.ok f) (q s₀ tk)
theorem sg_ret_err {lc : Code} {p : Pos} {e : Value} (q : W (c.ov code fs) h (do
        if (← field e 1) == Value.none then unsupported "frame.own-activation:exception-without-traceback"
        setFlight e env.frame : Sem Unit) (fun _ h' => SG c G n code (H e) fs h') (fun e h' => SG c G n code (H e) fs h')) : SG c G n lc (.raise e) (frL code p env K H :: fs) h := fun s₀ tk => by
  refine seg_leaf (.error e) ?_
  have := sg_wrap (c := c) (G := G) (n := n) (code := code) (fs := fs) (h := h) (K := fun _ => H e) (H := H) (gd := id) (lv := id) q
  have e2 : retK env K H (.error e) = (do
        if (← field e 1) == Value.none then unsupported "frame.own-activation:exception-without-traceback"
        setFlight e env.frame : Sem Unit).wrap (fun _ => H e) H id id := by
    unfold retK
    show (Sem.bind _ (fun _ => Sem.raise e)).wrap K H id id = _
    rw [Sem.bind_eq_wrap, Sem.wrap_wrap]
    rfl
  rw [e2]
  exact this s₀ tk
theorem sg_again {lc code' : Code} (hq : lc.quiet = true) (q : SG c G n lc ((model c.prog c.w).den lc) fs h) : SG c G n code' (.pure (.again lc)) fs h := fun s₀ tk => seg_again hq (q s₀ tk)
theorem sg_whileLoop {test : Expr} {body orelse : List Stmt} (x : W (c.ov (.whileLoop test body orelse env) fs) h (isTrue test env (eval test env)) (fun b h' => if b = true then SX c G n (.whileLoop test body orelse env) fs (loopK (.whileLoop test body orelse env)) (loopH env) env body h'
      else SX c G n (.whileLoop test body orelse env) fs doneK (loopH env) env orelse h') (fun e h' => SG c G n (.whileLoop test body orelse env) (loopH env e) fs h')) :
    SG c G n (.whileLoop test body orelse env) ((model c.prog c.w).den (.whileLoop test body orelse env)) fs h := fun s₀ tk => by
  refine seg_whileLoop (wpAny_mono (x tk) (fun b s' ⟨h', tk', e, q⟩ => ?_) (fun a s' ⟨h', tk', e, q⟩ => e ▸ q s₀ tk'))
  subst e
  cases b with
  | true => exact q s₀ tk'
  | false => exact q s₀ tk'
theorem se_for {target iter : Expr} {body orelse : List Stmt} {pos : Pos} (x : W (c.ov code fs) h (eval iter env) (fun xv h₁ => W (c.ov code fs) h₁ (pyIter xv) (fun it h₂ => ∀ p, SG c G n (.forLoop target it body orelse env) ((model c.prog c.w).den (.forLoop target it body orelse env)) (frL code p env K H :: fs) h₂)
      (fun e h' => SG c G n code (H e) fs h')) (fun e h' => SG c G n code (H e) fs h')) (hs : ∀ x, foldedSetIterable iter env x = pure x := by intro _; rfl) : SE c G n code fs K H env (.For target iter body orelse pos) h := by
  show SG c G n code ((standAt pos >>= fun _ => eval iter env >>= fun v => foldedSetIterable iter env v >>= fun x => standAt iter.pos >>= fun _ => holding [x] (pyIter x) >>= fun it => runOwn (.forLoop target it body orelse env) env).wrap K H id id) fs h
  rw [Sem.bind_eq_wrap', Sem.wrap_wrap]
  refine sg_wrap (W_standAt ?_)
  rw [Sem.bind_eq_wrap', Sem.wrap_wrap]
  refine sg_wrap (W_mono x (fun v h₁ q => ?_) fun _ _ y => y)
  simp only [hs]
  show SG c G n code ((standAt iter.pos >>= fun _ => holding [v] (pyIter v) >>= fun it => runOwn (.forLoop target it body orelse env) env).wrap K H id id) fs h₁
  rw [Sem.bind_eq_wrap', Sem.wrap_wrap]
  refine sg_wrap (W_standAt ?_)
  rw [Sem.bind_eq_wrap', Sem.wrap_wrap]
  refine sg_wrap (W_holding (W_mono q (fun it h₂ q => ?_) fun _ _ y => y))
  exact fun s₀ tk => seg_call fun p => q p s₀ tk
theorem sg_forLoop {target : Expr} {it : Value} {body orelse : List Stmt} (x : W (c.ov (.forLoop target it body orelse env) fs) h (pyNext it) (fun r h₁ => match r with
      | none => SG c G n (.forLoop target it body orelse env) (.pure (.again (.block orelse env))) fs h₁
      | some v => W (c.ov (.forLoop target it body orelse env) fs) h₁ (letOwnedTupleGo target it v) (fun _ h₂ => W (c.ov (.forLoop target it body orelse env) fs) h₂ (assign target env v) (fun _ h₃ =>
          SX c G n (.forLoop target it body orelse env) fs (loopK (.forLoop target it body orelse env)) (loopH env) env body h₃)
          (fun e h' => SG c G n (.forLoop target it body orelse env) (loopH env e) fs h')) (fun e h' => SG c G n (.forLoop target it body orelse env) (loopH env e) fs h'))
      (fun e h' => SG c G n (.forLoop target it body orelse env) (loopH env e) fs h')) :
    SG c G n (.forLoop target it body orelse env) ((model c.prog c.w).den (.forLoop target it body orelse env)) fs h := by
  show SG c G n _ ((forTurn target it body orelse env).onRaise (fun x => do noteFrame x env; theTreesLotGoes x)) fs h
  unfold forTurn
  have hH : ∀ e, ((do noteFrame e env; theTreesLotGoes e : Sem Unit).bind fun _ => (Sem.raise e : Sem Fin)) = loopH env e := fun e => by
    unfold loopH; rw [Sem.bind_eq_wrap]
  rw [Sem.onRaise_eq_wrap]
  simp only [hH]
  rw [Sem.bind_eq_wrap', Sem.wrap_wrap]
  refine sg_wrap (W_standAt ?_)
  rw [Sem.bind_eq_wrap', Sem.wrap_wrap, Sem.onRaise_eq_wrap, Sem.wrap_wrap]
  refine sg_wrap (W_mono x (fun r h₁ q => ?_) (fun e h₁ q => ?_))
  · cases r with
    | none => exact q
    | some v =>
      show SG c G n _ ((letOwnedTupleGo target it v >>= fun _ => assign target env v >>= fun _ => execs body env >>= fun f => match f with
        | .next | .cont => again (.forLoop target it body orelse env)
        | .brk => pure (.done .next)
        | .ret v => pure (.done (.ret v))).wrap .pure (loopH env) id id) fs h₁
      rw [Sem.bind_eq_wrap', Sem.wrap_wrap]
      refine sg_wrap (W_mono q (fun _ h₂ q => ?_) fun _ _ y => y)
      rw [Sem.bind_eq_wrap', Sem.wrap_wrap]
      refine sg_wrap (W_mono q (fun _ h₃ q => ?_) fun _ _ y => y)
      rw [Sem.bind_eq_wrap', Sem.wrap_wrap]
      have : (fun f => ((match f with
        | .next | .cont => again (.forLoop target it body orelse env)
        | .brk => pure (.done .next)
        | .ret v => pure (.done (.ret v)) : Sem Fin).wrap .pure (loopH env) id id)) = loopK (.forLoop target it body orelse env) := by
        funext f; cases f <;> rfl
      rw [Sem.wrap_congr (execs body env) _ _ (fun f => congrFun this f) (fun e => rfl)]
      exact q
  · show SG c G n _ (((standAt { target.pos with line := 0 } : Sem Unit).bind fun _ => (Sem.raise e : Sem (Option Value))).wrap _ _ _ _) fs h₁
    rw [Sem.bind_eq_wrap, Sem.wrap_wrap]
    exact sg_wrap (W_standAt q)
/-- a loop's else -/
theorem sg_block {b : List Stmt} {lc : Code} (x : SX c G n (.block b env) fs doneK (loopH env) env b h) : SG c G n lc (.pure (.again (.block b env))) fs h := by
  refine sg_again rfl ?_
  show SG c G n _ (((execs b env).onRaise (fun x => do noteFrame x env; theTreesLotGoes x)) >>= fun f => pure (.done f)) fs h
  have hH : ∀ e, ((do noteFrame e env; theTreesLotGoes e : Sem Unit).bind fun _ => (Sem.raise e : Sem Flow)) = (do noteFrame e env; theTreesLotGoes e : Sem Unit).wrap (fun _ => .raise e) .raise id id := fun e => by rw [Sem.bind_eq_wrap]
  rw [Sem.onRaise_eq_wrap, Sem.bind_eq_wrap', Sem.wrap_wrap]
  simp only [hH, Sem.wrap_wrap]
  exact x
theorem sg_func {body : List Stmt} (x : SX c G n (.func body env) fs funcK (funcH env) env body h) : SG c G n (.func body env) ((model c.prog c.w).den (.func body env)) fs h := fun s₀ tk => seg_func (x s₀ tk)
theorem sg_end {r : Result} (q : G.Rh n r h) : SG c G n code (leafOf r) [] h := fun s₀ tk => seg_end r ⟨h, tk, rfl, q⟩
end
end Mine
end
section
open PySem PySem.W PySem.Calls PyProof.Rows
set_option maxRecDepth 100000
set_option linter.all false
set_option maxHeartbeats 4000000
namespace Mine
/-- the exception's object -/
def excF (dx : Addr) (cls a0 t : Value) : Obj := { cls := cls, dict := some dx, data := .fields #[a0, t, .none, .none, .bool false, .none] }
theorem excF1 {a0 t : Value} : (#[a0, t, .none, .none, .bool false, .none] : Array Value)[1]? = some t := rfl
/-- an exception on its way: its class, its dict, its first field; the mark of its newest entry -/
structure Fly (w : World) (K : Heap) (l : List Env) (e dx : Addr) (cls a0 fl : Value) (h : Heap) : Prop where
  base : Base w h
  fr : h.FunFrames (H1 w.params) l
  bk : Base w K
  dom : ∀ b, New h b → New K b
  new : New K e
  at_ : ∃ T oT ts, h.get? e = some (excF dx cls a0 (.ref T)) ∧ T ≠ e ∧ New K T ∧ h.get? T = some oT ∧ oT.data = .fields ts ∧ ts[3]? = some fl
/-- what an exception on its way leaves: all but fields and the frames' marks -/
structure Up (l : List Env) (K h h' : Heap) : Prop where
  up : h.UpToSlots h'
  same : ∀ b o, b ∉ l.filterMap (·.frame) → (∀ vs, o.data ≠ .fields vs) → h.get? b = some o → h'.get? b = some o
  old : ∀ b o, b ∉ l.filterMap (·.frame) → K.get? b = some o → h.get? b = some o → h'.get? b = some o
theorem Up.of_keep {l : List Env} {K h h' : Heap} (k : Keep h h') : Up l K h h' := ⟨Heap.UpToSlots.of_keeps k, fun b o _ _ e => k b o e, fun b o _ _ e => k b o e⟩
theorem Up.of_fields {l : List Env} {K h h' : Heap} {a : Addr} {o : Obj} {vs : Array Value} (n : New K a) (e : h.get? a = some o) (d : o.data = .fields vs) (k : KeepBut a h h') : Up l K h h' := ⟨fun b o' eb hn =>
  ⟨o'.slots, k b o' (fun x => by subst x; rw [e] at eb; cases eb; exact hn vs d) eb⟩, fun b o' _ hn eb => k b o' (fun x => by subst x; rw [e] at eb; cases eb; exact hn vs d) eb, fun b o' _ ek eb => k b o' (fun x => by subst x; exact New.ne n ek rfl) eb⟩
theorem Up.trans {l : List Env} {K h h' h'' : Heap} (a : Up l K h h') (b : Up l K h' h'') : Up l K h h'' := ⟨a.up.trans b.up, fun x o hn hf e => b.same x o hn hf (a.same x o hn hf e), fun x o hn hk e => b.old x o hn hk (a.old x o hn hk e)⟩
section
variable {c : Cx} {h K : Heap} {E : Value → Heap → Prop} {env : Env} {outer : List Env} {L e dx : Addr} {cls a0 fl : Value}
/-- a new entry is written -/
theorem w_entry {t0 head : Value} {hadNext : Bool} {Q : Unit → Heap → Prop} (B : Base c.w h) (hfr : c.A.frames = some (env :: outer)) (hl : h.FunFrames (H1 c.w.params) (env :: outer)) (hf : env.frame = some L)
    (he : h.get? e = some (excF dx cls a0 t0)) (bk : Base c.w K) (dom : ∀ b, New h b → New K b) (hen : New K e)
    (q : ∀ h', Fly c.w K (env :: outer) e dx cls a0 (rawInt L) h' → Up (env :: outer) K h h' → Q () h') :
    W c h (do let a ← frameOf env; let pl ← entryPlaceOf L hadNext; let b ← EntryCells.newEntry head a .none (rawInt L) .none pl; setField (.ref e) 1 b) Q E := fun tk => by
  have hene : e ∉ (env :: outer).filterMap (·.frame) := fun hm => by
    obtain ⟨_, o, ho, hnf⟩ := hl.mem hm
    rw [he] at ho; cases ho; exact hnf _ rfl
  have hd : (excF dx cls a0 t0).data = .fields #[a0, t0, .none, .none, .bool false, .none] := rfl
  refine wpAny_bind (wpAny_frameOf_fun (s := c.st h tk) hfr hl hf fun h₁ hs₁ => ?_)
  refine wpAny_bind (wpAny_entryPlaceOf fun pl hpl => ?_)
  unfold EntryCells.newEntry newFields
  refine wpAny_bind (wpAny_newObj_type ?_ (hpl.sizeOk5 _ _ _ _ _))
  have he₁ : h₁.get? e = some (excF dx cls a0 t0) := (hs₁.2.1 e hene).trans he
  have B₁ : Base c.w h₁ := fun b o hbo => (hs₁.2.1 b fun hm => by rw [(hl.mem hm).1] at hbo; cases hbo).trans (B b o hbo)
  generalize hT : ({ cls := .type "traceback", dict := none, data := .fields ([head, .ref L, .none, rawInt L, .none] ++ (if pl.isEmpty then List.replicate 6 Value.none else pl)).toArray } : Obj) = oT
  have hTf : oT.isFreed = false := by subst hT; rfl
  have he₂ : (h₁.push oT).get? e = some (excF dx cls a0 t0) := Heap.get?_push_of_some _ he₁
  refine wpAny_setField he₂ hd (by simp) ?_
  have hTe : h₁.objs.size ≠ e := Nat.ne_of_gt (Heap.lt_size he₁)
  have hd₃ := Obj.data_mapFields hd (·.setIfInBounds 1 (Value.ref h₁.objs.size))
  have he₃ := Heap.get?_update_self (Obj.mapFields (·.setIfInBounds 1 (Value.ref h₁.objs.size))) he₂ (Obj.isFreed_of_fields hd₃)
  have kb : KeepBut e (h₁.push oT) ((h₁.push oT).update e (Obj.mapFields (·.setIfInBounds 1 (Value.ref h₁.objs.size)))) := update_but _ _ _
  have hT₃ := kb _ _ hTe (Heap.get?_push_size h₁ hTf)
  have up1 : Up (env :: outer) K h h₁ := ⟨fun b o hb _ => hs₁.2.2 b o hb, fun b o hn _ hb => (hs₁.2.1 b hn).trans hb, fun b o hn _ hb => (hs₁.2.1 b hn).trans hb⟩
  have up2 : Up (env :: outer) K h ((h₁.push oT).update e (Obj.mapFields (·.setIfInBounds 1 (Value.ref h₁.objs.size)))) := (up1.trans (Up.of_keep (Keep.push _ _))).trans (Up.of_fields hen he₂ hd kb)
  have back1 : ∀ b, New h₁ b → New h b := fun b hb => by
    cases z : h.get? b with
    | none => exact z
    | some o =>
      obtain ⟨sl, hs⟩ := hs₁.2.2 b o z
      rw [hb] at hs; cases hs
  have back2 : ∀ b, New ((h₁.push oT).update e (Obj.mapFields (·.setIfInBounds 1 (Value.ref h₁.objs.size)))) b → New h b := fun b hb => back1 b (by
    cases z : h₁.get? b with
    | none => exact z
    | some o =>
      by_cases hbe : b = e
      · subst hbe
        rw [hb] at he₃; cases he₃
      · have := kb _ _ hbe (Heap.get?_push_of_some oT z)
        rw [hb] at this; cases this)
  refine ⟨_, tk, rfl, q _ ⟨?_, hl.of_keeps fun b o hb hn => ?_, bk, fun b hb => dom b (back2 b hb), hen, ?_⟩ up2⟩
  · exact fun b o hb => kb b o (fun x => by subst x; exact New.ne (bk.new hen) hb rfl) (Heap.get?_push_of_some _ (B₁ b o hb))
  · obtain ⟨sl, hs⟩ := up2.up b o hb hn
    exact ⟨_, hs, rfl⟩
  · refine ⟨h₁.objs.size, oT, ([head, .ref L, .none, rawInt L, .none] ++ (if pl.isEmpty then List.replicate 6 Value.none else pl)).toArray, he₃, hTe, ?_, hT₃, ?_, ?_⟩
    · exact dom _ (back1 _ (New.of_le (Nat.le_refl _)))
    · subst hT; rfl
    · rcases hpl with rfl | ⟨_, _, _, _, _, _, _, rfl⟩ <;> simp
/-- the first entry -/
theorem w_note_first {Q : Unit → Heap → Prop} (B : Base c.w h) (hfr : c.A.frames = some (env :: outer)) (hl : h.FunFrames (H1 c.w.params) (env :: outer)) (hf : env.frame = some L)
    (he : h.get? e = some (excF dx cls a0 .none)) (bk : Base c.w K) (dom : ∀ b, New h b → New K b) (hen : New K e)
    (q : ∀ h', Fly c.w K (env :: outer) e dx cls a0 (rawInt L) h' → Up (env :: outer) K h h' → Q () h') : W c h (noteFrame (.ref e) env) Q E := fun tk => by
  unfold noteFrame
  simp only [hf]
  refine wpAny_bind (wpAny_field (s := c.st h tk) he rfl excF1 ?_)
  rw [if_neg (by decide)]
  exact w_entry B hfr hl hf he bk dom hen q tk
/-- noted already -/
theorem w_note_again {l : List Env} {Q : Unit → Heap → Prop} (hf : env.frame = some L) (f : Fly c.w K l e dx cls a0 (rawInt L) h) (q : Q () h) : W c h (noteFrame (.ref e) env) Q E := fun tk => by
  obtain ⟨T, oT, ts, he, hTe, hTn, hT, hdT, h3⟩ := f.at_
  unfold noteFrame
  simp only [hf]
  refine wpAny_bind (wpAny_field (s := c.st h tk) he rfl excF1 ?_)
  rw [if_pos (show (Value.ref T != Value.none) = true from by simp)]
  refine wpAny_bind (wpAny_field (s := c.st h tk) hT hdT h3 ?_)
  rw [if_pos (show (rawInt L == rawInt L) = true from by simp)]
  exact wpAny_pure ⟨h, tk, rfl, q⟩
/-- a field of the newest entry is set -/
theorem Fly.set {w : World} {l : List Env} {h h' : Heap} {T : Addr} {oT : Obj} {ts : Array Value} {x : Value} (B : Base w h) (fr : h.FunFrames (H1 w.params) l) (bk : Base w K) (dom : ∀ b, New h b → New K b) (hen : New K e)
    (he : h.get? e = some (excF dx cls a0 (.ref T))) (hTe : T ≠ e) (hTn : New K T) (hT : h.get? T = some oT) (hdT : oT.data = .fields ts) (hsz : 3 < ts.size)
    (eh : h' = h.update T (Obj.mapFields (·.setIfInBounds 3 x))) : Fly w K l e dx cls a0 x h' ∧ Up l K h h' := by
  subst eh
  have kb : KeepBut T h (h.update T (Obj.mapFields (·.setIfInBounds 3 x))) := update_but _ _ _
  have up : Up l K h _ := Up.of_fields hTn hT hdT kb
  have hT2 := Heap.get?_update_self (h := h) (Obj.mapFields (·.setIfInBounds 3 x)) hT (Obj.isFreed_of_fields (Obj.data_mapFields hdT _))
  refine ⟨⟨fun b o hb => kb b o (fun y => by subst y; exact New.ne (bk.new hTn) hb rfl) (B b o hb), fr.of_keeps fun b o hb hn => ?_, bk, fun b hb => dom b ?_, hen, T, _, _, kb _ _ (Ne.symm hTe) he, hTe, hTn, Heap.get?_update_self _ hT (Obj.isFreed_of_fields (Obj.data_mapFields hdT _)), Obj.data_mapFields hdT _, by simp [hsz]⟩, up⟩
  · obtain ⟨sl, hs⟩ := up.up b o hb hn
    exact ⟨_, hs, rfl⟩
  · cases z : h.get? b with
    | none => exact z
    | some o =>
      by_cases hbe : b = T
      · subst hbe
        rw [hb] at hT2; cases hT2
      · have := kb _ _ hbe z
        rw [hb] at this; cases this
theorem w_flight {l : List Env} {f : Option Addr} {Q : Unit → Heap → Prop} (y : Fly c.w K l e dx cls a0 fl h) (q : ∀ h', Fly c.w K l e dx cls a0 (f.elim .none fun f => rawInt f) h' → Up l K h h' → Q () h') : W c h (setFlight (.ref e) f) Q E := fun tk => by
  obtain ⟨T, oT, ts, he, hTe, hTn, hT, hdT, h3⟩ := y.at_
  unfold setFlight
  refine wpAny_bind (wpAny_field (s := c.st h tk) he rfl excF1 ?_)
  rw [if_pos (show (Value.ref T != Value.none) = true from by simp)]
  obtain ⟨a, b⟩ := Fly.set (x := f.elim .none fun f => rawInt f) y.base y.fr y.bk y.dom y.new he hTe hTn hT hdT (Array.getElem?_eq_some_iff.mp h3).1 rfl
  exact wpAny_setField (s := c.st h tk) hT hdT (Array.getElem?_eq_some_iff.mp h3).1 ⟨_, tk, rfl, q _ a b⟩
/-- back from a loop's own activation -/
theorem w_back {l : List Env} {f : Option Addr} {Q : Unit → Heap → Prop} (y : Fly c.w K l e dx cls a0 fl h) (q : ∀ h', Fly c.w K l e dx cls a0 (f.elim .none fun f => rawInt f) h' → Up l K h h' → Q () h') : W c h (do
        if (← field (.ref e) 1) == Value.none then unsupported "frame.own-activation:exception-without-traceback"
        setFlight (.ref e) f : Sem Unit) Q E := fun tk => by
  obtain ⟨T, oT, ts, he, hTe, hTn, hT, hdT, h3⟩ := y.at_
  refine wpAny_bind (wpAny_field (s := c.st h tk) he rfl excF1 ?_)
  rw [if_neg (show ¬ (Value.ref T == Value.none) = true from Bool.false_ne_true)]
  exact w_flight y q tk
/-- the entry of an outer frame -/
theorem w_note_on {Q : Unit → Heap → Prop} (hfr : c.A.frames = some (env :: outer)) (hf : env.frame = some L) (y : Fly c.w K (env :: outer) e dx cls a0 .none h)
    (q : ∀ h', Fly c.w K (env :: outer) e dx cls a0 (rawInt L) h' → Up (env :: outer) K h h' → Q () h') : W c h (noteFrame (.ref e) env) Q E := fun tk => by
  obtain ⟨T, oT, ts, he, hTe, hTn, hT, hdT, h3⟩ := y.at_
  unfold noteFrame
  simp only [hf]
  refine wpAny_bind (wpAny_field (s := c.st h tk) he rfl excF1 ?_)
  rw [if_pos (show (Value.ref T != Value.none) = true from by simp)]
  refine wpAny_bind (wpAny_field (s := c.st h tk) hT hdT h3 ?_)
  rw [if_neg (show ¬ ((Value.none == rawInt L) = true) from by simp [rawInt])]
  obtain ⟨f2, up2⟩ := Fly.set (x := .none) y.base y.fr y.bk y.dom y.new he hTe hTn hT hdT (Array.getElem?_eq_some_iff.mp h3).1 rfl
  refine wpAny_bind (wpAny_setField (s := c.st h tk) hT hdT (Array.getElem?_eq_some_iff.mp h3).1 ?_)
  have he2 : (h.update T (Obj.mapFields (·.setIfInBounds 3 Value.none))).get? e = some (excF dx cls a0 (.ref T)) := update_but _ _ _ _ _ (Ne.symm hTe) he
  exact w_entry f2.base hfr f2.fr hf he2 f2.bk f2.dom f2.new (fun h' f3 up3 => q h' f3 (up2.trans up3)) tk
end
theorem Fly.pop {w : World} {K : Heap} {env : Env} {l : List Env} {e dx : Addr} {cls a0 fl : Value} {h : Heap} (y : Fly w K (env :: l) e dx cls a0 fl h) : Fly w K l e dx cls a0 fl h := ⟨y.base, y.fr.2.2, y.bk, y.dom, y.new, y.at_⟩
section
variable {c : Cx} {G : GSpec} {n : Nat} {code code2 : Code} {fs : List PySem.Frame} {h KO : Heap} {env : Env} {K : Flow → Sem Fin} {H : Value → Sem Fin} {outer : List Env} {L e dx : Addr} {cls a0 fl : Value}
/-- out of a loop, on to the one around it -/
theorem sg_out {p : Pos} (hf : env.frame = some L) (y : Fly c.w KO (env :: outer) e dx cls a0 (rawInt L) h) (q : ∀ h', Fly c.w KO (env :: outer) e dx cls a0 (rawInt L) h' → Up (env :: outer) KO h h' → SG c G n code2 (H (.ref e)) fs h') :
    SG c G n code (loopH env (.ref e)) (frL code2 p env K H :: fs) h := by
  refine sg_wrap (m := (do noteFrame (.ref e) env; theTreesLotGoes (.ref e) : Sem Unit)) (W_bind (w_note_again hf y ?_))
  refine fun tk => wpAny_theTreesLotGoes ⟨h, tk, rfl, ?_⟩
  refine sg_ret_err ?_
  rw [hf]
  exact w_back y fun h' f u => q h' f u
theorem sg_out_first {p : Pos} (B : Base c.w h) (hfr : (c.A.over code (frL code2 p env K H :: fs)).frames = some (env :: outer)) (hl : h.FunFrames (H1 c.w.params) (env :: outer)) (hf : env.frame = some L)
    (he : h.get? e = some (excF dx cls a0 .none)) (bk : Base c.w KO) (dom : ∀ b, New h b → New KO b) (hen : New KO e)
    (q : ∀ h', Fly c.w KO (env :: outer) e dx cls a0 (rawInt L) h' → Up (env :: outer) KO h h' → SG c G n code2 (H (.ref e)) fs h') :
    SG c G n code (loopH env (.ref e)) (frL code2 p env K H :: fs) h := by
  refine sg_wrap (m := (do noteFrame (.ref e) env; theTreesLotGoes (.ref e) : Sem Unit)) (W_bind (w_note_first (c := c.ov code (frL code2 p env K H :: fs)) B hfr hl hf he bk dom hen fun h' f u => ?_))
  refine fun tk => wpAny_theTreesLotGoes ⟨h', tk, rfl, ?_⟩
  refine sg_ret_err ?_
  rw [hf]
  exact w_back f fun h'' f' u' => q h'' f' (u.trans u')
/-- out of the generator -/
theorem sg_out_func (hf : env.frame = some L) (y : Fly c.w KO (env :: outer) e dx cls a0 (rawInt L) h) (q : ∀ h', Fly c.w KO outer e dx cls a0 .none h' → Up (env :: outer) KO h h' → G.Rh n (.error (.ref e)) h') : SG c G n code (funcH env (.ref e)) [] h := by
  refine sg_wrap (m := «leaving» env (.ref e)) ?_
  unfold «leaving»
  refine W_bind (w_note_again hf y (w_flight (f := none) y fun h' f u => ?_))
  exact sg_end (r := .error (.ref e)) (q h' f.pop u)
end
end Mine
end
section
open PySem PySem.W PySem.Calls PyProof.Rows
set_option maxRecDepth 100000
set_option linter.all false
namespace Mine
abbrev Cx.un (c : Cx) (code : Code) : Cx := { c with A := c.A.under code }
/-- what a tree of a code ends in -/
def FinW (c : Cx) (Q E : Value → Heap → Prop) (fin : Fin) (h : Heap) : Prop := match fin with | .done (.ret v) => Q v h | .done _ => False | .again c' => c'.quiet = true ∧ WC c h c' Q E
theorem WC_tree' {c : Cx} {h : Heap} {code : Code} {Q E : Value → Heap → Prop} (x : W (c.un code) h ((model c.prog c.w).den code) (FinW c Q E) E) : WC c h code Q E := fun tk =>
  codeAny_of_tree (wpAny_mono (x tk) (fun fin s' ⟨h', tk', e, q⟩ => by
    subst e
    cases fin with
    | done f => cases f <;> first | exact ⟨h', tk', rfl, q⟩ | exact q.elim
    | again c' => exact ⟨q.1, q.2 tk'⟩) fun _ _ y => y)
theorem WC_builtin' {c : Cx} {h : Heap} {id : String} {args : Args} {Bi : Builtin} {Q E : Value → Heap → Prop} (entry : entryFor table id = some Bi)
    (x : W (c.un (.builtin id args)) h (Bi args) (FinW c Q E) E) : WC c h (.builtin id args) Q E := fun tk =>
  codeAny_builtin entry (wpAny_mono (x tk) (fun fin s' ⟨h', tk', e, q⟩ => by
    subst e
    cases fin with
    | done f => cases f <;> first | exact ⟨h', tk', rfl, q⟩ | exact q.elim
    | again c' => exact ⟨q.1, q.2 tk'⟩) fun _ _ y => y)
section
variable {c : Cx} {h : Heap} {E : Value → Heap → Prop} {t : Sem Fin} {Q : Value → Heap → Prop} {c0 : Cx} {E0 : Value → Heap → Prop}
theorem w_dr_again (n : Nat) (code : Code) (B : Base c.w h) (e : evPure (dr c n t) = some (.again code)) (hq : code.quiet = true) (q : WC c0 h code Q E0) : W c h t (FinW c0 Q E0) E := w_dr_pure n B e ⟨hq, q⟩
theorem w_dr_done (n : Nat) (v : Value) (B : Base c.w h) (e : evPure (dr c n t) = some (.done (.ret v))) (q : Q v h) : W c h t (FinW c0 Q E0) E := w_dr_pure n B e q
end
end Mine
end
section
open PySem PySem.W PySem.Calls PyProof.Rows
set_option maxRecDepth 100000
set_option linter.all false
set_option maxHeartbeats 4000000
namespace Mine
section
variable {c : Cx} {h : Heap} {E : Value → Heap → Prop}
theorem w_lineno (B : Base c.w h) {x dx : Addr} {a0 t : Value} {l : Int} {u : Tok} {Q : Value → Heap → Prop} (hx : h.get? x = some { cls := .ref 89, dict := some dx, data := .fields #[a0, t, .none, .none, .bool false, .none] })
    (hd : ∃ o, h.get? dx = some o ∧ EntsO [("lineno", .int l u), ("name", .none), ("filename", .none), ("source", .none), ("translated", .bool false)] o) (q : Q (.int l u) h) : W c h (getAttr (.ref x) "lineno" true) Q E := by
  obtain ⟨o, hd, es, n, rfl, en⟩ := hd
  cases en with | @cons i1 _ u1 _ es1 _ en => ?_
  cases en with | @cons i2 _ u2 _ es2 _ en => ?_
  cases en with | @cons i3 _ u3 _ es3 _ en => ?_
  cases en with | @cons i4 _ u4 _ es4 _ en => ?_
  cases en with | @cons i5 _ u5 _ es5 _ en => ?_
  cases en
  refine @w_dr_fresh _ _ _ _ _ _ 0 B (by kernel_rfl) fun tk1 => ?_
  refine @w_dr_load _ _ _ _ _ _ 0 x _ B (by kernel_rfl) hx ?_
  refine @w_dr_call _ _ _ _ _ _ 10 (Code.call (Value.builtin "BaseException.__getattribute__") { pos := [Value.ref x, Value.str (Str.ofString "lineno") tk1] }) B (by kernel_rfl) ?_
  refine WC_tree' ?_
  refine @w_dr_load _ _ _ _ _ _ 0 x _ B (by kernel_rfl) hx ?_
  refine @w_dr_again _ _ _ _ _ _ _ 1 (Code.builtin "BaseException.__getattribute__" { pos := [Value.ref x, Value.str (Str.ofString "lineno") tk1] }) B (by kernel_rfl) (by kernel_rfl) ?_
  refine WC_builtin' PySem.F.entry_bexc_ga ?_
  refine @w_dr_load _ _ _ _ _ _ 0 x _ B (by kernel_rfl) hx ?_
  refine @w_dr_load _ _ _ _ _ _ 5 x _ B (by kernel_rfl) hx ?_
  refine @w_dr_load _ _ _ _ _ _ 0 x _ B (by kernel_rfl) hx ?_
  refine @w_dr_load _ _ _ _ _ _ 1 dx _ B (by kernel_rfl) hd ?_
  refine @w_dr_done _ _ _ _ _ _ _ 0 (Value.int l u) B (by kernel_rfl) ?_
  refine @w_dr_pure _ _ _ _ _ _ (Value.int l u) 0 B (by kernel_rfl) ?_
  exact q
theorem w_excargs (B : Base c.w h) {x dx t1 : Addr} {t : Value} {Q : Value → Heap → Prop} (hx : h.get? x = some { cls := .ref 89, dict := some dx, data := .fields #[.ref t1, t, .none, .none, .bool false, .none] })
    (q : Q (.ref t1) h) : W c h (getAttr (.ref x) "args" true) Q E := by
  refine @w_dr_fresh _ _ _ _ _ _ 0 B (by kernel_rfl) fun tk1 => ?_
  refine @w_dr_load _ _ _ _ _ _ 0 x _ B (by kernel_rfl) hx ?_
  refine @w_dr_call _ _ _ _ _ _ 10 (Code.call (Value.builtin "BaseException.__getattribute__") { pos := [Value.ref x, Value.str (Str.ofString "args") tk1] }) B (by kernel_rfl) ?_
  refine WC_tree' ?_
  refine @w_dr_load _ _ _ _ _ _ 0 x _ B (by kernel_rfl) hx ?_
  refine @w_dr_again _ _ _ _ _ _ _ 1 (Code.builtin "BaseException.__getattribute__" { pos := [Value.ref x, Value.str (Str.ofString "args") tk1] }) B (by kernel_rfl) (by kernel_rfl) ?_
  refine WC_builtin' PySem.F.entry_bexc_ga ?_
  refine @w_dr_load _ _ _ _ _ _ 0 x _ B (by kernel_rfl) hx ?_
  refine @w_dr_call _ _ _ _ _ _ 5 (Code.call (Value.builtin "getset_descriptor.__get__") { pos := [Value.builtin "BaseException.args", Value.ref x, Value.ref 89] }) B (by kernel_rfl) ?_
  refine WC_tree' ?_
  refine @w_dr_again _ _ _ _ _ _ _ 0 (Code.builtin "getset_descriptor.__get__" { pos := [Value.builtin "BaseException.args", Value.ref x, Value.ref 89] }) B (by kernel_rfl) (by kernel_rfl) ?_
  refine WC_builtin' (Bi := Builtin.«getset_descriptor.__get__») (entryFor_of_tree (by kernel_rfl)) ?_
  refine @w_dr_load _ _ _ _ _ _ 0 x _ B (by kernel_rfl) hx ?_
  refine @w_dr_again _ _ _ _ _ _ _ 1 (Code.builtin "BaseException.args" { pos := [Value.ref x] }) B (by kernel_rfl) (by kernel_rfl) ?_
  refine WC_builtin' (Bi := Builtin.«BaseException.args») (entryFor_of_tree (by kernel_rfl)) ?_
  refine @w_dr_load _ _ _ _ _ _ 0 x _ B (by kernel_rfl) hx ?_
  refine @w_dr_done _ _ _ _ _ _ _ 0 (Value.ref t1) B (by kernel_rfl) ?_
  refine @w_dr_done _ _ _ _ _ _ _ 0 (Value.ref t1) B (by kernel_rfl) ?_
  refine @w_dr_pure _ _ _ _ _ _ (Value.ref t1) 0 B (by kernel_rfl) ?_
  exact q
theorem w_ttup1 (B : Base c.w h) {t1 : Addr} {v : Value} {Q : Bool → Heap → Prop} (ht : h.get? t1 = some { cls := .type "tuple", data := .seq #[v] 0 }) (q : Q true h) : W c h (truthy (.ref t1)) Q E := by
  refine @w_dr_load _ _ _ _ _ _ 0 t1 _ B (by kernel_rfl) ht ?_
  refine @w_dr_load _ _ _ _ _ _ 0 t1 _ B (by kernel_rfl) ht ?_
  refine @w_dr_call _ _ _ _ _ _ 0 (Code.builtin "len" { pos := [Value.ref t1] }) B (by kernel_rfl) ?_
  refine WC_builtin' (Bi := Builtin.«len») (entryFor_of_tree (by kernel_rfl)) ?_
  refine @w_dr_load _ _ _ _ _ _ 0 t1 _ B (by kernel_rfl) ht ?_
  refine @w_dr_call _ _ _ _ _ _ 0 (Code.call (Value.builtin "tuple.__len__") { pos := [Value.ref t1] }) B (by kernel_rfl) ?_
  refine WC_tree' ?_
  refine @w_dr_load _ _ _ _ _ _ 0 t1 _ B (by kernel_rfl) ht ?_
  refine @w_dr_again _ _ _ _ _ _ _ 0 (Code.builtin "tuple.__len__" { pos := [Value.ref t1] }) B (by kernel_rfl) (by kernel_rfl) ?_
  refine WC_builtin' (Bi := Builtin.«tuple.__len__») (entryFor_of_tree (by kernel_rfl)) ?_
  refine @w_dr_load _ _ _ _ _ _ 0 t1 _ B (by kernel_rfl) ht ?_
  refine @w_dr_fresh _ _ _ _ _ _ 0 B (by kernel_rfl) fun tk1 => ?_
  refine @w_dr_done _ _ _ _ _ _ _ 0 (Value.int (Int.ofNat 1) tk1) B (by kernel_rfl) ?_
  refine @w_dr_fresh _ _ _ _ _ _ 0 B (by kernel_rfl) fun tk2 => ?_
  refine @w_dr_done _ _ _ _ _ _ _ 0 (Value.int (Int.ofNat 1) tk2) B (by kernel_rfl) ?_
  refine @w_dr_pure _ _ _ _ _ _ (true) 0 B (by kernel_rfl) ?_
  exact q
theorem wc_message (B : Base c.w h) (D : c.A.depth < recursionLimit) {x dx t1 : Addr} {t m : Value} {Q : Value → Heap → Prop} (hx : h.get? x = some { cls := .ref 89, dict := some dx, data := .fields #[.ref t1, t, .none, .none, .bool false, .none] })
    (ht : h.get? t1 = some { cls := .type "tuple", data := .seq #[m] 0 }) (q : ∀ h', Keep h h' → Q m h') : WC c h (.call (.ref 62) ⟨[.ref x], []⟩) Q E := by
  refine wc_fn "TemplateError.message" ["self"] [] 62 61 (top.o_66 c.w.params) (top.o_65 c.w.params) [.ref x] B D (by kernel_rfl) (by kernel_rfl) (by kernel_rfl) (by kernel_rfl) (by kernel_rfl) (by decide) (by kernel_rfl) (by kernel_rfl) (by kernel_rfl) rfl (by kernel_rfl) (by kernel_rfl) (by kernel_rfl) ?_
  have X : FnOk (([("self" : Str)] : List Str) ++ ([] : List Str)) (fscope (top.o_66 c.w.params)) := FnOk.of (by kernel_rfl)
  intro c' h₁ L hw hp' hdp hun hhd B₁ K₁ F
  refine w_cons ?_
  have tl : ∀ o r, letTemporaryGo (.Name "self" default) o r = pure () := fun _ _ => rfl
  refine w_return <| w_ifexp <| w_tval (w_attr (by rfl) (fun _ _ => rfl) <| w_loc X F.ns (i := 0) rfl rfl <| w_excargs B₁ (K₁ _ _ hx) <| w_ttup1 B₁ (K₁ _ _ ht) ?_)
  rw [if_pos rfl]
  exact w_sub <| w_attr (by rfl) (fun _ _ => rfl) <| w_loc X F.ns (i := 0) rfl rfl <| w_excargs B₁ (K₁ _ _ hx) <| w_int fun tk => w_item_tuple (l := [m]) ⟨_, K₁ _ _ ht, rfl, 0, rfl⟩ (by decide) (by decide) rfl (q h₁ K₁)
theorem w_message (B : Base c.w h) (D : c.A.depth < recursionLimit) {x dx t1 : Addr} {t : Value} {m : Str} {u : Tok} {Q : Value → Heap → Prop} (hx : h.get? x = some { cls := .ref 89, dict := some dx, data := .fields #[.ref t1, t, .none, .none, .bool false, .none] })
    (ht : h.get? t1 = some { cls := .type "tuple", data := .seq #[.str m u] 0 }) (q : ∀ h', Keep h h' → Q (.str m u) h') : W c h (getAttr (.ref x) "message" true) Q E := by
  refine @w_dr_fresh _ _ _ _ _ _ 0 B (by kernel_rfl) fun tk1 => ?_
  refine @w_dr_load _ _ _ _ _ _ 0 x _ B (by kernel_rfl) hx ?_
  refine @w_dr_call _ _ _ _ _ _ 10 (Code.call (Value.builtin "BaseException.__getattribute__") { pos := [Value.ref x, Value.str (Str.ofString "message") tk1] }) B (by kernel_rfl) ?_
  refine WC_tree' ?_
  refine @w_dr_load _ _ _ _ _ _ 0 x _ B (by kernel_rfl) hx ?_
  refine @w_dr_again _ _ _ _ _ _ _ 1 (Code.builtin "BaseException.__getattribute__" { pos := [Value.ref x, Value.str (Str.ofString "message") tk1] }) B (by kernel_rfl) (by kernel_rfl) ?_
  refine WC_builtin' PySem.F.entry_bexc_ga ?_
  refine @w_dr_load _ _ _ _ _ _ 0 x _ B (by kernel_rfl) hx ?_
  refine @w_dr_call _ _ _ _ _ _ 7 (Code.call (Value.builtin "property.__get__") { pos := [Value.ref 63, Value.ref x, Value.ref 89] }) B (by kernel_rfl) ?_
  refine WC_tree' ?_
  refine @w_dr_again _ _ _ _ _ _ _ 1 (Code.builtin "property.__get__" { pos := [Value.ref 63, Value.ref x, Value.ref 89] }) B (by kernel_rfl) (by kernel_rfl) ?_
  refine WC_builtin' (Bi := Builtin.«property.__get__») (entryFor_of_tree (by kernel_rfl)) ?_
  refine @w_dr_again _ _ _ _ _ _ _ 1 (Code.call (Value.ref 62) { pos := [Value.ref x] }) B (by kernel_rfl) (by kernel_rfl) ?_
  refine wc_message (c := c.un _) B (by exact D) hx ht fun h2 k => ?_
  have B2 := B.mono k
  have hx2 := k _ _ hx
  refine @w_dr_done _ _ _ _ _ _ _ 0 (Value.str m u) B2 (by kernel_rfl) ?_
  refine @w_dr_pure _ _ _ _ _ _ (Value.str m u) 0 B2 (by kernel_rfl) ?_
  exact q h2 k
theorem w_match89 (B : Base c.w h) {x dx : Addr} {a0 t : Value} {Q : Bool → Heap → Prop} (hx : h.get? x = some { cls := .ref 89, dict := some dx, data := .fields #[a0, t, .none, .none, .bool false, .none] })
    (q : Q true h) : W c h (excMatches (.ref x) (.ref 89)) Q E := by
  refine @w_dr_load _ _ _ _ _ _ 3 x _ B (by kernel_rfl) hx ?_
  refine @w_dr_pure _ _ _ _ _ _ (true) 1 B (by kernel_rfl) ?_
  exact q
end
end Mine
end
section
open PySem PySem.Calls PyProof.Rows
set_option maxRecDepth 100000
set_option linter.all false
set_option maxHeartbeats 4000000
namespace Mine
section
variable {c : Cx} {h : Heap} {E : Value → Heap → Prop} {α : Type}
theorem SameBut.kb {a : Addr} {h h' : Heap} (s : Heap.SameBut a h h') : KeepBut a h h' := s.extBut
theorem w_field {a : Addr} {i : Nat} {o : Obj} {vs : Array Value} {x : Value} {Q : Value → Heap → Prop} (ho : h.get? a = some o) (hd : o.data = .fields vs) (hi : vs[i]? = some x) (q : Q x h) : W c h (field (.ref a) i) Q E := fun tk =>
  wpAny_field (s := c.st h tk) ho hd hi ⟨h, tk, rfl, q⟩
theorem w_setfield {a : Addr} {k : Nat} {cls x : Value} {vs : Array Value} {Q : Unit → Heap → Prop} (ho : h.get? a = some { cls := cls, dict := none, data := .fields vs, slots := #[] }) (hk : k < vs.size)
    (q : ∀ h', KeepBut a h h' → h'.get? a = some { cls := cls, dict := none, data := .fields (vs.setIfInBounds k x), slots := #[] } → Q () h') : W c h (setField (.ref a) k x) Q E := fun tk =>
  wpAny_setField_rec (s := c.st h tk) ho hk fun h' e s => ⟨h', tk, rfl, q h' s.extBut e⟩
theorem w_seqitems {a : Addr} {o : Obj} {items : Array Value} {n : Nat} {Q : Option (Array Value) → Heap → Prop} (ho : h.get? a = some o) (hd : o.data = .seq items n) (q : Q (some items) h) : W c h (seqItems? (.ref a)) Q E := fun tk =>
  wpAny_seqItems (s := c.st h tk) ho hd ⟨h, tk, rfl, q⟩
theorem w_newtuple {items : List Value} {Q : Value → Heap → Prop} (hsz : Nat.ble items.length 64 = true) (q : ∀ h' a, Keep h h' → New h a → h'.get? a = some { cls := .type "tuple", data := .seq items.toArray } → Q (.ref a) h') : W c h (newTuple items) Q E := fun tk =>
  wpAny_newTuple (s := c.st h tk) ⟨_, tk, rfl, q _ _ (Keep.push _ _) (New.of_le (Nat.le_refl _)) (Heap.get?_push_size _ rfl)⟩ (Nat.le_trans (Nat.le_of_ble_eq_true hsz) (by decide))
theorem w_letgo {a b : List Value} {Q : Unit → Heap → Prop} (q : Q () h) : W c h (letGo a b) Q E := fun tk => wpAny_letGo ⟨h, tk, rfl, q⟩
theorem w_mkint {i : Int} {Q : Value → Heap → Prop} (q : ∀ tk, Q (.int i tk) h) : W c h (mkInt i) Q E := fun tk => wpAny_mkInt ⟨h, _, rfl, q _⟩
theorem w_rule {tag : String} {Q : Unit → Heap → Prop} (q : Q () h) : W c h (rule tag) Q E := fun tk => wpAny_rule ⟨h, tk, rfl, q⟩
theorem w_stackAny {Q : List (Code × Pos) → Heap → Prop} (q : ∀ l, Q l h) : W c h stack Q E := fun tk => wpAny_stack_any fun st => ⟨h, tk, rfl, q st⟩
theorem w_onraise {m : Sem α} {k : Value → Sem Unit} {Q : α → Heap → Prop} (x : W c h m Q (fun _ _ => False)) : W c h (m.onRaise k) Q E := fun tk =>
  wpAny_onRaise (wpAny_mono (x tk) (fun _ _ y => y) fun _ _ ⟨_, _, _, f⟩ => f.elim)
/-- the next of an iterator, by its slot -/
theorem w_nextslot {a : Addr} {o : Obj} {T id : String} {Bi : Builtin} {Q : Value → Heap → Prop} (ho : h.get? a = some o) (hc : o.cls = .type T) (slot : Slot T "__next__" id) (entry : entryFor table id = some Bi) (args : argsOk id ⟨[.ref a], []⟩)
    (x : W c.in1 h (Bi ⟨[.ref a], []⟩) (fun fin h' => ∃ v, fin = .done (.ret v) ∧ Q v h') E) : W c h (callSpecial? (.ref a) "__next__") (fun o h' => ∃ v, o = some v ∧ Q v h') E := fun tk =>
  wpAny_callSpecial?_slot (s := c.st h tk) ⟨o, ho, hc⟩ slot (wpAny_call_entry (s := c.st h tk) slot ⟨o, ho, hc⟩ entry
    (wpAny_mono (x tk) (fun fin s' ⟨h', tk', e, v, ef, q⟩ => ⟨v, ef, h', tk', e, v, rfl, q⟩) fun _ _ y => y) args)
theorem w_nextof {it : Value} {Q : Value → Heap → Prop} (x : W c h (callSpecial? it "__next__") (fun o h' => ∃ v, o = some v ∧ Q v h') E) : W c h (Builtin.SmallTypes.nextOf it) Q E := by
  unfold Builtin.SmallTypes.nextOf
  refine W_bind (W_mono x (fun o h' ⟨v, e, q⟩ => ?_) fun _ _ y => y)
  subst e
  exact W_pure q
theorem w_pynext {it : Value} {Q : Option Value → Heap → Prop} (x : W c h (callSpecial? it "__next__") (fun o h' => ∃ v, o = some v ∧ Q (some v) h') (fun _ _ => False)) : W c h (pyNext it) Q E := by
  unfold pyNext
  refine W_bind (fun tk => wpAny_attempt (wpAny_mono (x tk) (fun o s' ⟨h', tk', e, v, eo, q⟩ => ⟨h', tk', e, ?_⟩) fun _ _ ⟨_, _, _, f⟩ => f.elim))
  subst eo
  exact W_pure q
/-- an iterator over what stands in a tuple or a list, or any kind of tuple -/
inductive It (h : Heap) (it src : Addr) (i : Nat) (items : List Value) : Bool → Prop
  | tup (e : h.get? it = some { cls := .type "tuple_iterator", data := .fields #[.ref src, .int i 0] }) (s : ∃ o n, h.get? src = some o ∧ o.data = .seq items.toArray n) : It h it src i items true
  | lst (e : h.get? it = some { cls := .type "list_iterator", data := .fields #[.ref src, .int i 0] }) (s : h.IsList src items.toArray) : It h it src i items false
/-- the iterator itself -/
def ItO (kd : Bool) (src : Addr) (i : Nat) (o : Obj) : Prop := o = { cls := .type (if kd = true then "tuple_iterator" else "list_iterator"), data := .fields #[.ref src, .int i 0] }
theorem It.obj {h : Heap} {it src : Addr} {i : Nat} {items : List Value} {kd : Bool} (x : It h it src i items kd) : ∃ o, h.get? it = some o ∧ ItO kd src i o := by
  cases x with
  | tup e s => exact ⟨_, e, rfl⟩
  | lst e s => exact ⟨_, e, rfl⟩
theorem It.of {h : Heap} {it src : Addr} {i : Nat} {items : List Value} {kd : Bool} (e : ∃ o, h.get? it = some o ∧ ItO kd src i o) (s : if kd = true then ∃ o n, h.get? src = some o ∧ o.data = .seq items.toArray n else h.IsList src items.toArray) : It h it src i items kd := by
  obtain ⟨o, e, q⟩ := e
  cases q
  cases kd with
  | true => exact .tup e s
  | false => exact .lst e s
theorem ItO.nt {kd : Bool} {a : Addr} {i : Nat} : ∀ o, ItO kd a i o → o.cls ≠ .type "tuple" := fun o e => by cases e; cases kd <;> simp
theorem It.but {h h' : Heap} {a it src : Addr} {i : Nat} {items : List Value} {kd : Bool} (x : It h it src i items kd) (k : KeepBut a h h') (h1 : it ≠ a) (h2 : src ≠ a) : It h' it src i items kd := by
  cases x with
  | tup e s => obtain ⟨o, n, s, d⟩ := s; exact .tup (k _ _ h1 e) ⟨o, n, k _ _ h2 s, d⟩
  | lst e s => obtain ⟨o, s, r⟩ := s; exact .lst (k _ _ h1 e) ⟨o, k _ _ h2 s, r⟩
theorem It.keep {h h' : Heap} {it src : Addr} {i : Nat} {items : List Value} {kd : Bool} (x : It h it src i items kd) (k : Keep h h') : It h' it src i items kd := by
  cases x with
  | tup e s => obtain ⟨o, n, s, d⟩ := s; exact .tup (k _ _ e) ⟨o, n, k _ _ s, d⟩
  | lst e s => obtain ⟨o, s, r⟩ := s; exact .lst (k _ _ e) ⟨o, k _ _ s, r⟩
theorem It.at {h : Heap} {it src : Addr} {i : Nat} {items : List Value} {kd : Bool} (x : It h it src i items kd) : ∃ o, h.get? it = some o := by
  cases x with
  | tup e s => exact ⟨_, e⟩
  | lst e s => exact ⟨_, e⟩
theorem It.src {h : Heap} {it src : Addr} {i : Nat} {items : List Value} {kd : Bool} (x : It h it src i items kd) : ∃ o, h.get? src = some o := by
  cases x with
  | tup e s => obtain ⟨o, n, s, d⟩ := s; exact ⟨_, s⟩
  | lst e s => obtain ⟨o, s, r⟩ := s; exact ⟨_, s⟩
theorem It.next {it src : Addr} {i : Nat} {items : List Value} {x : Value} {kd : Bool} {Q : Value → Heap → Prop} (I : It h it src i items kd) (hx : items[i]? = some x) (q : ∀ h', KeepBut it h h' → It h' it src (i + 1) items kd → Q x h') :
    W c h (Builtin.SmallTypes.nextOf (.ref it)) Q E := by
  have hx' : items.toArray[i]? = some x := by simpa using hx
  cases I with
  | lst e s =>
    refine w_nextof (w_nextslot e rfl slot_listiter_next entry_listiter_next (args_listiter_next _) ?_)
    have hne : src ≠ it := fun y => by
      subst y
      obtain ⟨o, s, r, n, d⟩ := s
      rw [e] at s
      cases s
      cases d
    obtain ⟨o, s, r, n, d⟩ := s
    show W _ h (field (.ref it) 0 >>= _) _ _
    refine W_bind (w_field (x := .ref src) e rfl rfl ?_)
    show W _ h (if (Value.ref src == Value.none) = true then _ else _) _ _
    rw [if_neg (show ¬ ((Value.ref src == Value.none) = true) from Bool.false_ne_true)]
    show W _ h (field (.ref it) 1 >>= _) _ _
    refine W_bind (w_field (x := .int i 0) e rfl rfl ?_)
    show W _ h (seqItems? (.ref src) >>= _) _ _
    refine W_bind (w_seqitems s d ?_)
    simp only [Int.toNat_natCast, hx']
    refine W_bind (w_setfield e (by simp) fun h' k e' => W_pure ⟨x, rfl, q h' k (.lst ?_ ⟨o, k _ _ hne s, r, n, d⟩)⟩)
    rw [e']
    simp [rawInt]
  | tup e s =>
    refine w_nextof (w_nextslot e rfl F.slot_tuple_iterator_next F.entry_tuple_iterator_next (F.args_tuple_iterator_next_1 _) ?_)
    obtain ⟨o, n, s, d⟩ := s
    have hne : src ≠ it := fun y => by
      subst y
      rw [e] at s
      cases s
      cases d
    show W _ h (field (.ref it) 0 >>= _) _ _
    refine W_bind (w_field (x := .ref src) e rfl rfl ?_)
    show W _ h (if (Value.ref src == Value.none) = true then _ else _) _ _
    rw [if_neg (show ¬ ((Value.ref src == Value.none) = true) from Bool.false_ne_true)]
    show W _ h (field (.ref it) 1 >>= _) _ _
    refine W_bind (w_field (x := .int i 0) e rfl rfl ?_)
    show W _ h (seqItems? (.ref src) >>= _) _ _
    refine W_bind (w_seqitems s d ?_)
    simp only [Int.toNat_natCast, hx']
    refine W_bind (w_setfield e (by simp) fun h' k e' => W_pure ⟨x, rfl, q h' k (.tup ?_ ⟨o, n, k _ _ hne s, d⟩)⟩)
    rw [e']
    simp [rawInt]
end
end Mine
end
section
open PySem PySem.Calls PyProof.Rows
set_option maxRecDepth 100000
set_option linter.all false
namespace Mine
section
variable {c : Cx} {h : Heap} {E : Value → Heap → Prop} {env : Env}
/-- o[i] where o is of a type of the machine's own -/
theorem w_subT {value slice : Expr} {pos : Pos} {T id : String} {Q : Value → Heap → Prop} (hl : typeLookup (.type T) "__getitem__" = pure (some (.builtin id)))
    (hs : ∀ o i, ∃ ops, subscripted slice false o i = operate ops (getItem o i))
    (x : W c h (eval value env) (fun o h₁ => W c h₁ (eval slice env) (fun i h₂ => (∀ tk, (c.st h₂ tk).TypeIs o T) ∧ W c h₂ (getItem o i) Q E) E) E) : W c h (eval (.Subscript value slice pos) env) Q E :=
  w_sub (W_mono x (fun o _ y => W_mono y (fun i h₂ g tk => (hs o i).elim fun _ e => tail_any (g.1 tk) hl (g.2 tk) e) fun _ _ y => y) fun _ _ y => y)
/-- a slice's parts, and the slice -/
theorem w_part {e : Expr} {Q : Value → Heap → Prop} (x : W c h (eval e env) Q E) : W c h (evalPart (some e) env) Q E := x
theorem w_part0 {Q : Value → Heap → Prop} (q : Q .none h) : W c h (evalPart none env) Q E := W_pure q
theorem w_slc {lo up st : Option Expr} {p : Pos} {Q : Value → Heap → Prop} (x : W c h (evalPart lo env) (fun l h₁ => W c h₁ (evalPart up env) (fun u h₂ => W c h₂ (evalPart st env) (fun t h₃ =>
      ∀ h' sl, Keep h₃ h' → New h₃ sl → h'.IsSliceOf sl l u t → Q (.ref sl) h') E) E) E) : W c h (eval (.Slice lo up st p) env) Q E := fun tk => by
  refine wpAny_Slice (wpAny_mono (x tk) (fun l _ ⟨h₁, k₁, e₁, y⟩ => e₁ ▸ wpAny_mono (y k₁) (fun u _ ⟨h₂, k₂, e₂, y⟩ => e₂ ▸ wpAny_mono (y k₂) (fun t _ ⟨h₃, k₃, e₃, q⟩ => ?_) fun _ _ y => y) fun _ _ y => y) fun _ _ y => y)
  subst e₃
  exact ⟨_, k₃, rfl, q _ _ (Keep.push _ _) (New.of_le (Nat.le_refl _)) (Heap.IsSliceOf.new ..)⟩
/-- a StopIteration, made -/
theorem w_stop_made {Q : Value → Heap → Prop} (q : ∀ h' x, Keep h h' → (∃ o, h'.get? x = some o ∧ o.cls = .type "StopIteration") → Q (.ref x) h') : W c h (newExc (.type "StopIteration") []) Q E := by
  unfold newExc
  refine W_bind (w_newtuple rfl fun h₁ a k₁ _ _ => ?_)
  refine W_bind (W_eq (t' := pure Value.none) (by first | rfl | (simp only [firstArgMember]; rfl)) (W_pure fun tk => ?_))
  exact wpAny_newObj_type (s := c.st h₁ tk) ⟨_, tk, rfl, q _ _ (Keep.trans k₁ (Keep.push _ _)) ⟨_, Heap.get?_push_size _ rfl, rfl⟩⟩ (by size_fits)
/-- raised where nothing is handled -/
theorem w_raiseNew {α : Type} {x : Value} {Q : α → Heap → Prop} (hh : c.A.handled = none) (q : E x h) : W c h (raiseNew x) Q E := by
  unfold raiseNew
  refine W_bind fun tk => wpAny_handled ⟨h, tk, rfl, ?_⟩
  rw [hh]
  cases x <;> exact W_bind (W_pure fun tk => wpAny_throw ⟨h, tk, rfl, q⟩)
/-- both -/
theorem w_stop {α : Type} {Q : α → Heap → Prop} (hh : c.A.handled = none) (q : ∀ h' x, Keep h h' → (∃ o, h'.get? x = some o ∧ o.cls = .type "StopIteration") → E (.ref x) h') : W c h (newExc (.type "StopIteration") [] >>= raiseNew) Q E :=
  W_bind (w_stop_made fun h' x k o => w_raiseNew hh (q h' x k o))
theorem w_stop_then {α β : Type} {J : α → Sem β} {Q : β → Heap → Prop} (hh : c.A.handled = none) (q : ∀ h' x, Keep h h' → (∃ o, h'.get? x = some o ∧ o.cls = .type "StopIteration") → E (.ref x) h') : W c h (newExc (.type "StopIteration") [] >>= fun e => raiseNew e >>= J) Q E :=
  W_bind (w_stop_made fun h' x k o => W_bind (w_raiseNew hh (q h' x k o)))
end
end Mine
end
section
open PySem PySem.W PySem.Calls PyProof.Rows
set_option maxRecDepth 100000
set_option linter.all false
set_option maxHeartbeats 4000000
namespace Mine
open PySem.Builtin.Generator
/-- an exception of the module's own class, on its way out of a generator -/
structure OwnExc (P : Params) (h : Heap) (e : Addr) : Prop where
  kf : (KF P).In h
  at_ : ∃ dx a0 t, h.get? e = some (excF dx (.ref 89) a0 t)
section
variable {prog : Program} {w : World} {A : Around} {E : Value → Shared → Prop} {s : Shared}
theorem wpAny_exc_isStop {e : Addr} {b : Bool} {T : String} {Q : Bool → Shared → Prop} (X : OwnExc w.params s.heap e) (hs : subIn (KF w.params) (.ref 89) (.type T) = some b) (q : Q b s) : wpAny (model prog w) A (isInstance (.ref e) (.type T)) Q E s := by
  obtain ⟨X, dx, a0, t, he⟩ := X
  unfold isInstance
  refine wpAny_bind ?_
  unfold typeOf
  refine wpAny_bind (wpAny_load he (wpAny_pure ?_))
  exact (looks_subIn X hs).here q
theorem sub_stop (P : Params) : subIn (KF P) (.ref 89) (.type "StopIteration") = some false := by kernel_rfl
theorem wpAny_genLeft {α : Type} {a e : Addr} {g : Nat} {Q : α → Shared → Prop} (X : OwnExc w.params s.heap e) (hg : s.heap.IsGen a g) (q : E (.ref e) s) : wpAny (model prog w) A (genLeft (.ref a) (.ref e) : Sem α) Q E s := by
  obtain ⟨o, nm, qn, ho, hc, hd, hs⟩ := hg
  unfold genLeft madeByALambda
  refine wpAny_bind (wpAny_bind (wpAny_load ho (wpAny_pure ?_)))
  rw [hc, hd]
  refine wpAny_bind (wpAny_exc_isStop X (sub_stop _) ?_)
  rw [if_neg (by simp)]
  unfold genEscaped
  refine wpAny_bind (wpAny_exc_isStop X (sub_stop _) ?_)
  rw [if_pos (by rfl)]
  exact wpAny_throw q
/-- the next of v by its slot: what it gives, or how it ends -/
theorem next_by {v : Value} {T id : String} {Bi : Builtin} {Q : Option Value → Shared → Prop} (hT : s.TypeIs v T) (slot : Slot T "__next__" id) (entry : entryFor table id = some Bi) (args : argsOk id ⟨[v], []⟩)
    (x : wpAny (model prog w) A.in1 (Bi ⟨[v], []⟩) (fun fin s' => ∃ r, fin = .done (.ret r) ∧ Q (some r) s')
      (fun e s' => wpAny (model prog w) A (isInstance e (.type "StopIteration")) (fun b s'' => if b = true then Q none s'' else E e s'') E s') s) : wpAny (model prog w) A (pyNext v) Q E s :=
  wpAny_bind (m := (callSpecial? v "__next__").attempt) (wpAny_attempt (wpAny_mono
    (wpAny_callSpecial?_slot (Q := fun o s' => ∃ r, o = some r ∧ Q (some r) s') hT slot (wpAny_call_entry slot hT entry (wpAny_mono x (fun _ _ ⟨r, e, q⟩ => ⟨r, e, r, rfl, q⟩) fun _ _ y => y) args))
    (fun o s' ⟨r, e, q⟩ => e ▸ wpAny_pure q)
    fun e s' y => wpAny_bind (wpAny_mono y (fun b s'' q => by
      cases b with
      | true => exact wpAny_pure q
      | false => exact wpAny_throw q) fun _ _ y => y)))
/-- a generator is woken -/
theorem wake_by {a : Addr} {g n : Nat} {gs : GenState} {R : GenEnd} {Y : Protocol} {Q : Fin → Shared → Prop} (hl : s.heap.NoLimit) (hroom : A.depth < recursionLimit) (hg : s.heap.IsGen a g) (hgs : s.gens[g]? = some gs)
    (go : gs.Goes (model prog w) A.in1 R Y n (.send .none) (s.setGen g .running))
    (told : ∀ v s₁ g2, Y (n - 1) (s.setGen g .running) v s₁ (fun r' s'' => match n with | 0 => False | m + 1 => g2.Goes (model prog w) A.in1 R Y m r' s'') → Q (.done (.ret v)) (s₁.setGen g g2))
    (over : ∀ (J : Unit → Sem Fin) s₁, R n (s.setGen g .running) (.ok (.ret .none)) s₁ → wpAny (model prog w) A.in1 (newExc (.type "StopIteration") [] >>= fun e => raiseNew e >>= J) Q E (s₁.setGen g .finished))
    (out : ∀ e s₁, R n (s.setGen g .running) (.error e) s₁ → wpAny (model prog w) A.in1 (genLeft (.ref a) e) Q E (s₁.setGen g .finished))
    (kinds : ∀ r s₁, R n (s.setGen g .running) r s₁ → r = .ok (.ret .none) ∨ ∃ e, r = .error e) : wpAny (model prog w) A.in1 (genWake (.ref a) (.send .none)) Q E s := by
  have up : gs.status = .fresh ∨ gs.status = .suspended := by
    cases gs with
    | fresh => exact .inl rfl
    | suspended => exact .inr rfl
    | running => exact go.elim
    | finished => exact go.elim
  have woken : ∀ k : GenResult → Sem Fin, (∀ v, k (.yielded v) = ret v) → (∃ J : Unit → Sem Fin, k (.returned .none) = (newExc (.type "StopIteration") [] >>= fun e => raiseNew e >>= J)) → (∀ e, k (.raised e) = genLeft (.ref a) e) → wpAny (model prog w) A.in1 (.resume g (.send .none) [] k) Q E s := fun k k1 k2 k3 =>
    wpAny_resume hgs go (fun r s₁ hr => by
      rcases kinds r s₁ hr with rfl | ⟨e, rfl⟩
      · show wpAny _ _ (k (.returned .none)) _ _ _
        rw [k2.choose_spec]
        exact over _ s₁ hr
      · show wpAny _ _ (k (.raised e)) _ _ _
        rw [k3]
        exact out e s₁ hr) (fun v s₁ g2 y => by
      rw [k1]
      exact wpAny_pure (told v s₁ g2 y))
  unfold genWake
  refine wpAny_bind (wpAny_holding (wpAny_genNumber hg (wpAny_bind (wpAny_genState hgs ?_))))
  rcases up with e | e <;> rw [e] <;> exact wpAny_bind (wpAny_roomToWake hl hroom (woken _ (fun _ => rfl) ⟨_, rfl⟩ (fun _ => rfl)))
/-- next of a generator that may let an exception of the module's own out -/
theorem gen_next {a : Addr} {g n : Nat} {gs : GenState} {R : GenEnd} {Y : Protocol} {Q : Option Value → Shared → Prop} (hh : A.handled = none) (hl : s.heap.NoLimit) (hroom : A.depth < recursionLimit) (hg : s.heap.IsGen a g) (hgs : s.gens[g]? = some gs)
    (go : gs.Goes (model prog w) A.in1 R Y n (.send .none) (s.setGen g .running))
    (told : ∀ v s₁ g2, Y (n - 1) (s.setGen g .running) v s₁ (fun r' s'' => match n with | 0 => False | m + 1 => g2.Goes (model prog w) A.in1 R Y m r' s'') → Q (some v) (s₁.setGen g g2))
    (ends : ∀ r s₁, R n (s.setGen g .running) r s₁ → (r = .ok (.ret .none) ∧ ∀ h' tk, Keep s₁.heap h' → Q none { s₁.setGen g .finished with heap := h', toks := tk }) ∨
      (∃ e, r = .error (.ref e) ∧ OwnExc w.params s₁.heap e ∧ s₁.heap.IsGen a g ∧ E (.ref e) (s₁.setGen g .finished))) : wpAny (model prog w) A (pyNext (.ref a)) Q E s := by
  refine next_by hg.typeIs slot_gen_next entry_gen_next (args_gen_next _) ?_
  refine wake_by hl hroom hg hgs go (fun v s₁ g2 y => ⟨v, rfl, told v s₁ g2 y⟩) (fun J s₁ hr => ?_) (fun e s₁ hr => ?_) fun r s₁ hr => (ends r s₁ hr).imp (·.1) fun ⟨e, h, _⟩ => ⟨_, h⟩
  · rcases ends _ s₁ hr with ⟨_, q⟩ | ⟨_, h, _⟩
    · refine wpAny_mono (w_stop_then (J := J) (c := ⟨prog, w, A.in1, (s₁.setGen g .finished).gens, s₁.drawn, s₁.os⟩) (h := s₁.heap) (Q := fun _ _ => False) (E := fun v h' => ∃ x o, v = .ref x ∧ Keep s₁.heap h' ∧ h'.get? x = some o ∧ o.cls = .type "StopIteration") hh (fun h' x k ⟨o, ho, hc⟩ => ⟨x, o, rfl, k, ho, hc⟩) s₁.toks) (fun _ _ ⟨_, _, _, f⟩ => f.elim) ?_
      rintro _ _ ⟨h', tk, rfl, x, o, rfl, k, ho, hc⟩
      exact wpAny_isInstance (T := "StopIteration") (b := true) ⟨o, ho, hc⟩ isSubtype_stop (q h' tk k)
    · cases h
  · rcases ends _ s₁ hr with ⟨h, _⟩ | ⟨e', h, hX, hG, hE⟩
    · cases h
    · cases h
      refine wpAny_genLeft (s := s₁.setGen g .finished) hX hG ?_
      exact wpAny_exc_isStop (s := s₁.setGen g .finished) hX (sub_stop _) hE
end
end Mine
end
section
open PySem PySem.W PySem.Calls PyProof.Rows
set_option maxRecDepth 100000
set_option linter.all false
set_option maxHeartbeats 4000000
namespace Mine
section
variable {c : Cx} {h : Heap} {E : Value → Heap → Prop}
theorem wc_make {C fI : Addr} {args : List Value} {R : Value → Heap → Prop} (B : Base c.w h) (hm : makesIn (KF c.w.params) C = true) (hi : findIn (KF c.w.params) (.ref C) "__init__" = some (some (.ref fI))) (hf : typeIn (KF c.w.params) (.ref fI) = some (.type "function"))
    (x : ∀ (c' : Cx) h' x dx, c'.w = c.w → c'.prog = c.prog → c'.A.depth = c.A.depth + 1 → c'.A.units = c.A.units + 1 → c'.A.handled = c.A.handled → c'.A.frames = c.A.frames → Keep h h' → New h x → New h dx → x ≠ dx → h'.get? x = some (instObj C dx) → (∃ o, h'.get? dx = some o ∧ EntsO [] o) →
      WC c' h' (.call (.ref fI) ⟨.ref x :: args, []⟩) (fun v h'' => v = .none ∧ R (.ref x) h'') E) : WC c h (.call (.ref C) ⟨args, []⟩) R E := fun tk => by
  have X := KF_in B
  refine make_core (makes_of X hm) (looks_findIn X hi) (fun self => bind_fn X self hf) (.inl rfl) ?_
  have k : Keep h ((h.push emptyDict).push (instObj C h.objs.size)) := Keep.trans (Keep.push _ _) (Keep.push _ _)
  have e1 : ((h.push emptyDict).push (instObj C h.objs.size)).get? (h.objs.size + 1) = some (instObj C h.objs.size) := by
    have := Heap.get?_push_size (h.push emptyDict) (o := instObj C h.objs.size) rfl
    rwa [Heap.size_push] at this
  have e2 : ((h.push emptyDict).push (instObj C h.objs.size)).get? h.objs.size = some emptyDict := Heap.get?_push_of_some _ (Heap.get?_push_size _ rfl)
  refine codeAny_mono (x { c with A := c.A.under (.builtin "type.__call__" ⟨.ref C :: args, []⟩) } _ (h.objs.size + 1) h.objs.size rfl rfl rfl rfl rfl rfl k (New.of_le (Nat.le_succ _)) (New.of_le (Nat.le_refl _)) (Nat.succ_ne_self _) e1 ⟨_, e2, [], 0, rfl, .nil⟩ tk) (fun r s' ⟨h', tk', e, q⟩ => ?_)
  subst e
  cases r with
  | ok f => cases f with
    | ret v => exact ⟨q.1, h', tk', rfl, q.2⟩
    | _ => exact q.elim
  | error e => exact ⟨h', tk', rfl, q⟩
/-- a function or class of the module called by its name -/
theorem w_callK {L b : Addr} {nm : Str} {sc : Scope} {cd : Value} {x : Str} {p pos : Pos} {e : Expr} {rest : List Expr} {a : Nat} {Q : Value → Heap → Prop}
    (g : mg0 c.w.params x = some (.ref a)) (B : Base c.w h) (hk' : keepIn (KF c.w.params) (.ref a) = true)
    (y : W c h (spliced (backTo pos (starEach (e :: rest) (envOf nm sc L b cd)))) (fun vs h₁ => Base c.w h₁ ∧ W c h₁ (call (.ref a) vs) Q E) E)
    (hk : sc.kind = .function := by rfl) (hx : (envOf nm sc L b cd).kindOf x = some .globalImplicit := by rfl) (hd : (x == ("__debug__" : Str)) = false := by decide)
    (he : starEach (e :: rest) (envOf nm sc L b cd) = (false, eval e (envOf nm sc L b cd)) :: starEach rest (envOf nm sc L b cd) := by rfl) (hplain : (backTo pos (starEach rest (envOf nm sc L b cd))).any (·.1) = false := by rfl) :
    W c h (eval (.Call (.Name x p) (e :: rest) [] pos) (envOf nm sc L b cd)) Q E :=
  w_callN (w_glob (base_g B) g (fun tk => callWith_K (KF_in B) hk' (wpAny_mono (y tk) (fun vs s' ⟨h', tk', e, q⟩ => by subst e; exact ⟨KF_in q.1, q.2 tk'⟩) fun _ _ y => y) he hplain) hk hx hd)
abbrev nsE : List Str := ([("self" : Str), "trim_blocks", "lstrip_blocks", "newline_sequence", "keep_trailing_newline"] : List Str) ++ ([] : List Str)
def envOk (v1 v2 v3 v4 : Value) (o : Obj) : Prop := ∃ kvs, EntsO kvs o ∧ kvs.lookup ("trim_blocks" : Str) = some v1 ∧ kvs.lookup ("lstrip_blocks" : Str) = some v2 ∧ kvs.lookup ("newline_sequence" : Str) = some v3 ∧ kvs.lookup ("keep_trailing_newline" : Str) = some v4
theorem wc_env_init (B : Base c.w h) (D : c.A.depth < recursionLimit) {x dx C : Addr} (hC : C = 491) (hx : h.get? x = some (instObj C dx)) (hd : ∃ o, h.get? dx = some o ∧ EntsO [] o) (hn : New (H1 c.w.params) dx) (hne : x ≠ dx) {v1 v2 v3 v4 : Value} {R : Value → Heap → Prop}
    (q : ∀ h', KeepBut dx h h' → (∃ o, h'.get? dx = some o ∧ envOk v1 v2 v3 v4 o) → R .none h') : WC c h (.call (.ref 451) ⟨[.ref x, v1, v2, v3, v4], []⟩) R E := by
  subst hC
  refine wc_fn "Environment.__init__" ["self", "trim_blocks", "lstrip_blocks", "newline_sequence", "keep_trailing_newline"] [] 451 450 (top.o_505 c.w.params) (top.o_504 c.w.params) [.ref x, v1, v2, v3, v4] B D (by kernel_rfl) (by kernel_rfl) (by kernel_rfl) (by kernel_rfl) (by kernel_rfl) (by decide) (by kernel_rfl) (by kernel_rfl) (by kernel_rfl) rfl (by kernel_rfl) (by kernel_rfl) (by kernel_rfl) ?_
  have X : FnOk nsE (fscope (top.o_505 c.w.params)) := FnOk.of (by kernel_rfl)
  intro c' h₁ L hw hp' hdp hun hhd B₁ K₁ F
  have M : MS c'.w h [dx] (fun _ => True) L nsE _ [(dx, .obj (EntsO []))] h₁ :=
    ⟨B₁, F.ns, fun p hp => by
        rw [List.mem_singleton.mp hp]
        obtain ⟨o, ho, hh⟩ := hd
        exact ⟨⟨o, K₁ _ _ ho, hh⟩, EntsO.nt⟩, by
        obtain ⟨o, ho, _⟩ := hd
        have : L ≠ dx := fun e => absurd (Heap.lt_size ho) (Nat.not_lt.mpr (e ▸ F.above))
        simpa using this, fun b o _ e => F.keep b o e,
      fun a ha => by
        simp only [List.map_cons, List.map_nil, List.mem_cons, List.not_mem_nil, or_false] at ha
        rcases ha with rfl | rfl
        · exact .inr (New.of_le F.above)
        · exact .inl (by simp), fun a ha => by
        simp only [List.map_cons, List.map_nil, List.mem_cons, List.not_mem_nil, or_false] at ha
        rcases ha with rfl | rfl
        · exact hw ▸ B.new (New.of_le F.above)
        · exact hw ▸ hn, trivial, fun _ _ _ _ => trivial⟩
  have inst : ∀ {vs ls g}, MS c'.w h [dx] (fun _ => True) L nsE vs ls g → g.get? x = some (instObj 491 dx) := fun M => M.keep _ _ (by simpa using hne) hx
  have store : ∀ {kvs : List (Str × Value)} {vs g v name} {Q : Heap → Prop}, MS c'.w h [dx] (fun _ => True) L nsE vs [(dx, .obj (EntsO kvs))] g → takerIn (KF c'.w.params) 491 name = some none → (kvs.map (·.1)).contains name = false → Nat.ble kvs.length 100 = true →
      (∀ g', MS c'.w h [dx] (fun _ => True) L nsE vs [(dx, .obj (EntsO (kvs ++ [(name, v)])))] g' → Q g') → W c' g (setAttr (.ref x) name v) (fun _ => Q) (fun _ _ => False) := fun M ht hf hl q =>
    w_setattr M.base (inst M) (M.getO 0 rfl) (by kernel_rfl) (by kernel_rfl) ht (by kernel_rfl) hf hl fun g' kb ho => q g' (M.setO 0 rfl ho EntsO.nt kb)
  refine w_cons <| w_assign_attr <| w_loc X M.ns (i := 1) rfl rfl <| w_loc X M.ns (i := 0) rfl rfl <| store M (by kernel_rfl) rfl rfl fun g1 M => ?_
  refine w_cons <| w_assign_attr <| w_loc X M.ns (i := 2) rfl rfl <| w_loc X M.ns (i := 0) rfl rfl <| store M (by kernel_rfl) (by kernel_rfl) rfl fun g1 M => ?_
  refine w_cons <| w_assign_attr <| w_loc X M.ns (i := 3) rfl rfl <| w_loc X M.ns (i := 0) rfl rfl <| store M (by kernel_rfl) (by kernel_rfl) rfl fun g1 M => ?_
  refine w_cons <| w_assign_attr <| w_loc X M.ns (i := 4) rfl rfl <| w_loc X M.ns (i := 0) rfl rfl <| store M (by kernel_rfl) (by kernel_rfl) rfl fun g1 M => ?_
  refine w_cons <| w_assign_attr <| w_bool <| w_loc X M.ns (i := 0) rfl rfl <| store M (by kernel_rfl) (by kernel_rfl) rfl fun g1 M => ?_
  refine w_cons <| w_assign_attr <| w_bool <| w_loc X M.ns (i := 0) rfl rfl <| store M (by kernel_rfl) (by kernel_rfl) rfl fun g1 M => ?_
  refine w_cons <| w_assign_attr <| w_bool <| w_loc X M.ns (i := 0) rfl rfl <| store M (by kernel_rfl) (by kernel_rfl) rfl fun g1 M => ?_
  refine w_cons <| w_assign_attr <| w_tuple <| w_args_nil ⟨rfl, fun t1 g2 k2 n2 ht => ?_⟩
  replace M := M.mono k2
  refine w_loc X M.ns (i := 0) rfl rfl <| store M (by kernel_rfl) (by kernel_rfl) rfl fun g1 M => ?_
  refine w_cons <| w_assign_attr <| w_tuple <| w_args_nil ⟨rfl, fun t1 g2 k2 n2 ht => ?_⟩
  replace M := M.mono k2
  refine w_loc X M.ns (i := 0) rfl rfl <| store M (by kernel_rfl) (by kernel_rfl) rfl fun g1 M => ?_
  refine w_nil (q _ (fun b o n e => M.keep b o (by simpa using n) e) ?_)
  obtain ⟨o, ho, hh⟩ := M.getO 0 rfl
  exact ⟨o, ho, _, hh, by kernel_rfl, by kernel_rfl, by kernel_rfl, by kernel_rfl⟩
/-- an environment -/
def IsEnv (h : Heap) (x : Addr) (v1 v2 v3 v4 : Value) : Prop := ∃ dx, h.get? x = some (instObj 491 dx) ∧ ∃ o, h.get? dx = some o ∧ envOk v1 v2 v3 v4 o
theorem wc_env (B : Base c.w h) (D : c.A.depth + 1 < recursionLimit) {v1 v2 v3 v4 : Value} {R : Value → Heap → Prop}
    (q : ∀ h' x, Keep h h' → IsEnv h' x v1 v2 v3 v4 → R (.ref x) h') : WC c h (.call (.ref 491) ⟨[v1, v2, v3, v4], []⟩) R E := by
  refine wc_make (fI := 451) B (by kernel_rfl) (by kernel_rfl) (by kernel_rfl) fun c' h' x dx hw hp hdp hun hhd hfr k nx nd hne hx hd => ?_
  refine wc_env_init (hw ▸ B.mono k) (by omega) rfl hx hd (hw ▸ B.new nd) hne fun h'' kb ho => ⟨rfl, q h'' x (Keep.butN k kb nd) ⟨dx, kb _ _ hne hx, ho⟩⟩
end
end Mine
end
section
open PySem PySem.Sre
set_option maxRecDepth 100000
set_option linter.all false
namespace Mine
namespace Rx
/-- what a run does not change -/
structure K where
  code : Array Nat
  text : Array Nat
  lim : Nat
  start : Nat
noncomputable def wsum : List Sre.Frame → Nat
  | [] => 0
  | f :: fs => wsum fs + 1 + f.kept.marks.size
noncomputable def ms (k : K) (pc pos hd : Nat) (om : Bool) (mk : Array (Option Nat)) (lm li : Int) (lp : Array Sre.Loop) (inn : Option Nat) (fs : List Sre.Frame) (ans : Option Bool) (sn : Seen) : M :=
  { code := k.code, text := k.text, lim := k.lim, start := k.start, pc, pos, handed := hd, outermost := om, marks := mk, lastmark := lm, lastindex := li, loops := lp, inner := inn, frames := fs, weight := wsum fs, answer := ans, seen := sn }
/-- the run comes to an end at which P holds -/
def Ends (B : Nat) (m : M) (P : M → Prop) : Prop := ∃ n, n ≤ B ∧ (m.runFor n).outcome.isSome = true ∧ P (m.runFor n)
theorem Ends.le {m : M} {P : M → Prop} {B B' : Nat} (h : B ≤ B') (q : Ends B m P) : Ends B' m P := by
  obtain ⟨n, a, b⟩ := q
  exact ⟨n, Nat.le_trans a h, b⟩
theorem Ends.step {m : M} {P : M → Prop} {B : Nat} (h : m.outcome = none) (q : Ends B m.step P) : Ends (B + 1) m P := by
  obtain ⟨n, l, a, b⟩ := q
  refine ⟨n + 1, Nat.succ_le_succ l, ?_, ?_⟩
  · rw [M.runFor, h]; exact a
  · rw [M.runFor, h]; exact b
theorem Ends.eq {m m' : M} {P : M → Prop} {B : Nat} (h : m.outcome = none) (e : m.step = m') (q : Ends B m' P) : Ends (B + 1) m P := Ends.step h (e ▸ q)
def kp (lm li : Int) (whole : Bool) (mk : Array (Option Nat)) : Sre.Kept := { lastmark := lm, lastindex := li, whole, marks := if whole then mk.extract 0 (lm + 1).toNat else #[] }
theorem kp_size (lm li : Int) (w : Bool) (mk : Array (Option Nat)) : (kp lm li w mk).marks.size ≤ mk.size := by
  unfold kp
  cases w <;> simp
  omega
theorem kp_false (lm li : Int) (mk : Array (Option Nat)) : kp lm li false mk = { lastmark := lm, lastindex := li, whole := false, marks := #[] } := rfl
def pb (k : Sre.Kept) (mk : Array (Option Nat)) : Array (Option Nat) := if k.whole then k.marks ++ mk.extract k.marks.size mk.size else mk

section
variable {k : K} {pc pos hd : Nat} {om : Bool} {mk : Array (Option Nat)} {lm li : Int} {lp : Array Sre.Loop} {inn : Option Nat} {fs : List Sre.Frame} {sn : Seen} {P : M → Prop} {B : Nat}

theorem step_exec (h : pc < k.code.size) : (ms k pc pos hd om mk lm li lp inn fs none sn).step = (ms k pc pos hd om mk lm li lp inn fs none sn).exec := by
  show (if pc < k.code.size then (ms k pc pos hd om mk lm li lp inn fs none sn).exec else (ms k pc pos hd om mk lm li lp inn fs none sn).stick "code:ran-off") = _
  exact if_pos h
/-- the places of one sign -/
def oneOp (w : Nat) : Bool := w == 2 || w == 3 || w == 16 || w == 13 || w == 40
/-- what a place says of a sign -/
def Acc (code : Array Nat) (pc c : Nat) (b : Bool) : Prop := ∀ sn, ∃ sn', accepts code pc c sn = .ok (b, sn')
theorem oneOp_cases {w : Nat} (h : oneOp w = true) : w = 2 ∨ w = 3 ∨ w = 16 ∨ w = 13 ∨ w = 40 := by
  unfold oneOp at h
  simp only [Bool.or_eq_true, beq_iff_eq] at h
  omega
theorem exec_one (h : oneOp (k.code.getD pc 0) = true) : (ms k pc pos hd om mk lm li lp inn fs none sn).exec =
    (if pos ≥ k.lim then ({ ms k pc pos hd om mk lm li lp inn fs none sn with seen := sn.add (k.code.getD pc 0) } : M).say false else
      match accepts k.code pc (k.text.getD pos 0) (sn.add (k.code.getD pc 0)) with
      | .error why => ({ ms k pc pos hd om mk lm li lp inn fs none sn with seen := sn.add (k.code.getD pc 0) } : M).stick why
      | .ok (false, seen) => ({ ms k pc pos hd om mk lm li lp inn fs none sn with seen } : M).say false
      | .ok (true, seen) => { ms k pc pos hd om mk lm li lp inn fs none sn with seen, pc := pc + itemWidth k.code pc, pos := pos + 1 }) := by
  have hw : (ms k pc pos hd om mk lm li lp inn fs none sn).word 0 = k.code.getD pc 0 := rfl
  unfold M.exec
  rcases oneOp_cases h with e | e | e | e | e <;> (rw [hw, e]; rfl)
theorem x_one (h : oneOp (k.code.getD pc 0) = true) (hp : pos < k.lim) (ha : Acc k.code pc (k.text.getD pos 0) true) (hs : pc < k.code.size)
    (q : ∀ sn, Ends B (ms k (pc + itemWidth k.code pc) (pos + 1) hd om mk lm li lp inn fs none sn) P) : Ends (B + 1) (ms k pc pos hd om mk lm li lp inn fs none sn) P := by
  refine Ends.eq rfl (step_exec hs) ?_
  rw [exec_one h, if_neg (by omega)]
  obtain ⟨sn', e⟩ := ha (sn.add (k.code.getD pc 0))
  rw [e]
  exact q sn'
theorem x_one_no (h : oneOp (k.code.getD pc 0) = true) (ha : pos < k.lim → Acc k.code pc (k.text.getD pos 0) false) (hs : pc < k.code.size)
    (q : ∀ sn, Ends B (ms k pc pos hd om mk lm li lp inn fs (some false) sn) P) : Ends (B + 1) (ms k pc pos hd om mk lm li lp inn fs none sn) P := by
  refine Ends.eq rfl (step_exec hs) ?_
  rw [exec_one h]
  by_cases hp : pos < k.lim
  · rw [if_neg (by omega)]
    obtain ⟨sn', e⟩ := ha hp (sn.add (k.code.getD pc 0))
    rw [e]
    exact q sn'
  · rw [if_pos (by omega)]
    exact q _
theorem x_success (h : k.code.getD pc 0 = 1) (hs : pc < k.code.size) (q : ∀ sn, Ends B (ms k pc pos pos om mk lm li lp inn fs (some true) sn) P) : Ends (B + 1) (ms k pc pos hd om mk lm li lp inn fs none sn) P := by
  refine Ends.eq rfl (step_exec hs) ?_
  have hw : (ms k pc pos hd om mk lm li lp inn fs none sn).word 0 = k.code.getD pc 0 := rfl
  unfold M.exec
  rw [hw, h]
  have := q (sn.add 1)
  cases om <;> exact this
theorem x_jump (h : k.code.getD pc 0 = 15) (hs : pc < k.code.size) (q : ∀ sn, Ends B (ms k (pc + 1 + k.code.getD (pc + 1) 0) pos hd om mk lm li lp inn fs none sn) P) : Ends (B + 1) (ms k pc pos hd om mk lm li lp inn fs none sn) P := by
  refine Ends.eq rfl (step_exec hs) ?_
  have hw : (ms k pc pos hd om mk lm li lp inn fs none sn).word 0 = k.code.getD pc 0 := rfl
  unfold M.exec
  rw [hw, h]
  exact q (sn.add 15)
def clr (mk : Array (Option Nat)) (lm : Int) (i : Nat) : Array (Option Nat) := if (i : Int) ≤ lm + 1 then mk else (List.range i).foldl (fun (a : Array (Option Nat)) (j : Nat) => if (j : Int) > lm then a.setIfInBounds j none else a) mk
theorem x_mark (h : k.code.getD pc 0 = 17) (hs : pc < k.code.size) (q : ∀ sn, Ends B (ms k (pc + 2) pos hd om ((clr mk lm (k.code.getD (pc + 1) 0)).setIfInBounds (k.code.getD (pc + 1) 0) (some pos)) (max lm (k.code.getD (pc + 1) 0 : Nat))
      (if (k.code.getD (pc + 1) 0) % 2 == 1 then ((k.code.getD (pc + 1) 0) / 2 + 1 : Nat) else li) lp inn fs none sn) P) : Ends (B + 1) (ms k pc pos hd om mk lm li lp inn fs none sn) P := by
  refine Ends.eq rfl (step_exec hs) ?_
  have hw : (ms k pc pos hd om mk lm li lp inn fs none sn).word 0 = k.code.getD pc 0 := rfl
  unfold M.exec
  rw [hw, h]
  exact q (sn.add 17)
/-- a frame is laid and the run goes on at a place -/
theorem attempt_eq {f : Sre.Frame} {t p : Nat} {om' : Bool} {sn' : Seen} (hw : wsum fs + 1 + f.kept.marks.size ≤ 16777216) :
    (ms k pc pos hd om mk lm li lp inn fs none sn').attempt f t p om' = ms k t p p om' mk lm li lp inn (f :: fs) none sn' := by
  unfold M.attempt
  rw [if_neg (by show ¬ wsum fs + 1 + f.kept.marks.size > 16777216; omega)]
  rfl
abbrev fBranch (a pos : Nat) (om : Bool) (kt : Sre.Kept) : Sre.Frame := { wait := .nextBranch, pc := a, pos := pos, outermost := om, kept := kt }
theorem alt_eq {a : Nat} {kt : Sre.Kept} (hw : wsum fs + 1 + kt.marks.size ≤ 16777216) : (ms k pc pos hd om mk lm li lp inn fs none sn).alternative a kt =
    if k.code.getD a 0 = 0 then ms k pc pos hd om mk lm li lp inn fs (some false) sn else ms k (a + 1) pos pos om mk lm li lp inn (fBranch a pos om kt :: fs) none sn := by
  unfold M.alternative
  show (if (k.code.getD a 0 == 0) = true then _ else _) = _
  by_cases e : k.code.getD a 0 = 0
  · rw [if_pos (by rw [beq_iff_eq]; exact e), if_pos e]; rfl
  · rw [if_neg (by rw [beq_iff_eq]; exact e), if_neg e]
    exact attempt_eq hw
theorem x_branch (h : k.code.getD pc 0 = 7) (hs : pc < k.code.size) (ha : k.code.getD (pc + 1) 0 ≠ 0) (hw : wsum fs + 1 + mk.size ≤ 16777216)
    (q : ∀ sn, Ends B (ms k (pc + 2) pos pos om mk lm li lp inn (fBranch (pc + 1) pos om (kp lm li inn.isSome mk) :: fs) none sn) P) : Ends (B + 1) (ms k pc pos hd om mk lm li lp inn fs none sn) P := by
  refine Ends.eq rfl (step_exec hs) ?_
  have hw' : (ms k pc pos hd om mk lm li lp inn fs none sn).word 0 = k.code.getD pc 0 := rfl
  unfold M.exec
  rw [hw', h]
  show Ends B ((ms k pc pos hd om mk lm li lp inn fs none (sn.add 7)).alternative (pc + 1) (kp lm li inn.isSome mk)) P
  rw [alt_eq (Nat.le_trans (by have := kp_size lm li inn.isSome mk; omega) hw), if_neg ha]
  exact q _
theorem step_resume {ans : Bool} {f : Sre.Frame} : (ms k pc pos hd om mk lm li lp inn (f :: fs) (some ans) sn).step = (ms k f.pc f.pos hd f.outermost mk lm li lp inn fs none sn).resume f ans := by
  unfold M.step
  show ({ ms k f.pc f.pos hd f.outermost mk lm li lp inn fs none sn with weight := wsum (f :: fs) - (1 + f.kept.marks.size) } : M).resume f ans = _
  have : wsum (f :: fs) - (1 + f.kept.marks.size) = wsum fs := by show wsum fs + 1 + f.kept.marks.size - (1 + f.kept.marks.size) = _; omega
  rw [this]
  rfl
/-- the next alternative -/
theorem x_next {a : Nat} {p : Nat} {o : Bool} {kt : Sre.Kept} (hw : wsum fs + 1 + kt.marks.size ≤ 16777216) (q : ∀ sn,
      if k.code.getD (a + k.code.getD a 0) 0 = 0 then Ends B (ms k a p hd o (pb kt mk) kt.lastmark kt.lastindex lp inn fs (some false) sn) P
      else Ends B (ms k (a + k.code.getD a 0 + 1) p p o (pb kt mk) kt.lastmark kt.lastindex lp inn (fBranch (a + k.code.getD a 0) p o kt :: fs) none sn) P) :
    Ends (B + 1) (ms k pc pos hd om mk lm li lp inn (fBranch a p o kt :: fs) (some false) sn) P := by
  refine Ends.eq rfl step_resume ?_
  unfold M.resume
  show Ends B ((ms k a p hd o (pb kt mk) kt.lastmark kt.lastindex lp inn fs none sn).alternative (a + k.code.getD a 0) kt) P
  rw [alt_eq hw]
  have := q sn
  split <;> rename_i e
  · rw [if_pos e] at this; exact this
  · rw [if_neg e] at this; exact this
theorem x_next_end {a : Nat} {p : Nat} {o : Bool} {kt : Sre.Kept} (h : k.code.getD (a + k.code.getD a 0) 0 = 0) (hw : wsum fs + 1 + kt.marks.size ≤ 16777216)
    (q : ∀ sn, Ends B (ms k a p hd o (pb kt mk) kt.lastmark kt.lastindex lp inn fs (some false) sn) P) : Ends (B + 1) (ms k pc pos hd om mk lm li lp inn (fBranch a p o kt :: fs) (some false) sn) P :=
  x_next hw fun sn => by rw [if_pos h]; exact q sn
theorem x_next_go {a : Nat} {p : Nat} {o : Bool} {kt : Sre.Kept} (h : k.code.getD (a + k.code.getD a 0) 0 ≠ 0) (hw : wsum fs + 1 + kt.marks.size ≤ 16777216)
    (q : ∀ sn, Ends B (ms k (a + k.code.getD a 0 + 1) p p o (pb kt mk) kt.lastmark kt.lastindex lp inn (fBranch (a + k.code.getD a 0) p o kt :: fs) none sn) P) : Ends (B + 1) (ms k pc pos hd om mk lm li lp inn (fBranch a p o kt :: fs) (some false) sn) P :=
  x_next hw fun sn => by rw [if_neg h]; exact q sn

/-- how many signs a place takes -/
def Ran (code text : Array Nat) (i : Nat) (n p r : Nat) : Prop := ∀ sn f, ∃ sn', Sre.run code text i n p f sn = .ok (f + r, sn')
theorem Ran.zero {code text : Array Nat} {i p : Nat} : Ran code text i 0 p 0 := fun sn f => ⟨sn, rfl⟩
theorem Ran.stop {code text : Array Nat} {i n p : Nat} (h : Acc code i (text.getD p 0) false) : Ran code text i n p 0 := fun sn f => by
  cases n with
  | zero => exact ⟨sn, rfl⟩
  | succ n =>
    obtain ⟨sn', e⟩ := h sn
    exact ⟨sn', by unfold Sre.run; rw [e]; rfl⟩
theorem Ran.more {code text : Array Nat} {i n p r : Nat} (h : Acc code i (text.getD p 0) true) (q : Ran code text i n (p + 1) r) : Ran code text i (n + 1) p (r + 1) := fun sn f => by
  obtain ⟨sn', e⟩ := h sn
  obtain ⟨sn'', e'⟩ := q sn' (f + 1)
  refine ⟨sn'', ?_⟩
  unfold Sre.run
  rw [e]
  refine Eq.trans (show _ = Sre.run code text i n (p + 1) (f + 1) sn' from rfl) ?_
  rw [e', show f + 1 + r = f + (r + 1) by omega]
abbrev fGive (pc pos : Nat) (om : Bool) (n : Int) (kt : Sre.Kept) : Sre.Frame := { wait := .giveBack, pc := pc, pos := pos, outermost := om, count := n, kept := kt }
theorem x_rep {n : Nat} (h : k.code.getD pc 0 = 24) (hs : pc < k.code.size) (hp : pos + k.code.getD (pc + 2) 0 ≤ k.lim) (hr : Ran k.code k.text (pc + 4) (min (k.code.getD (pc + 3) 0) (k.lim - pos)) pos n) (hn : k.code.getD (pc + 2) 0 ≤ n) (hw : wsum fs + 1 + mk.size ≤ 16777216)
    (q : ∀ sn, Ends B (ms k (pc + 1 + k.code.getD (pc + 1) 0) (pos + n) (pos + n) om mk lm li lp inn (fGive pc (pos + n) om n (kp lm li inn.isSome mk) :: fs) none sn) P) : Ends (B + 1) (ms k pc pos hd om mk lm li lp inn fs none sn) P := by
  refine Ends.eq rfl (step_exec hs) ?_
  have hw' : (ms k pc pos hd om mk lm li lp inn fs none sn).word 0 = k.code.getD pc 0 := rfl
  unfold M.exec
  rw [hw', h]
  obtain ⟨sn', e⟩ := hr ((sn.add 24).add (k.code.getD (pc + 4) 0)) 0
  show Ends B (if ((k.code.getD (pc + 2) 0 : Nat) : Int) > (k.lim : Int) - pos then _ else match Sre.run k.code k.text (pc + 4) (min (k.code.getD (pc + 3) 0) ((k.lim : Int) - pos).toNat) pos 0 ((sn.add 24).add (k.code.getD (pc + 4) 0)) with
    | .error why => _
    | .ok (n, seen) => _) P
  rw [if_neg (by omega), show ((k.lim : Int) - pos).toNat = k.lim - pos by omega, e]
  show Ends B (if 0 + n < k.code.getD (pc + 2) 0 then _ else _) P
  rw [if_neg (by omega), Nat.zero_add]
  show Ends B ((ms k pc (pos + n) hd om mk lm li lp inn fs none sn').attempt (fGive pc (pos + n) om n (kp lm li inn.isSome mk)) (pc + 1 + k.code.getD (pc + 1) 0) (pos + n) om) P
  rw [attempt_eq (Nat.le_trans (by have := kp_size lm li inn.isSome mk; show wsum fs + 1 + (kp lm li inn.isSome mk).marks.size ≤ _; omega) hw)]
  exact q sn'
theorem x_rep_no {n : Nat} (h : k.code.getD pc 0 = 24) (hs : pc < k.code.size) (hr : pos + k.code.getD (pc + 2) 0 ≤ k.lim → Ran k.code k.text (pc + 4) (min (k.code.getD (pc + 3) 0) (k.lim - pos)) pos n ∧ n < k.code.getD (pc + 2) 0)
    (q : ∀ sn, Ends B (ms k pc pos hd om mk lm li lp inn fs (some false) sn) P) : Ends (B + 1) (ms k pc pos hd om mk lm li lp inn fs none sn) P := by
  refine Ends.eq rfl (step_exec hs) ?_
  have hw' : (ms k pc pos hd om mk lm li lp inn fs none sn).word 0 = k.code.getD pc 0 := rfl
  unfold M.exec
  rw [hw', h]
  show Ends B (if ((k.code.getD (pc + 2) 0 : Nat) : Int) > (k.lim : Int) - pos then (ms k pc pos hd om mk lm li lp inn fs (some false) (sn.add 24)) else match Sre.run k.code k.text (pc + 4) (min (k.code.getD (pc + 3) 0) ((k.lim : Int) - pos).toNat) pos 0 ((sn.add 24).add (k.code.getD (pc + 4) 0)) with
    | .error why => _
    | .ok (n, seen) => _) P
  by_cases hp : pos + k.code.getD (pc + 2) 0 ≤ k.lim
  · obtain ⟨hr, hn⟩ := hr hp
    obtain ⟨sn', e⟩ := hr ((sn.add 24).add (k.code.getD (pc + 4) 0)) 0
    rw [if_neg (by omega), show ((k.lim : Int) - pos).toNat = k.lim - pos by omega, e]
    show Ends B (if 0 + n < k.code.getD (pc + 2) 0 then _ else _) P
    rw [if_pos (by omega)]
    exact q sn'
  · rw [if_pos (by omega)]
    exact q _
theorem x_give_end {c0 p : Nat} {o : Bool} {n : Int} {kt : Sre.Kept} (hn : n - 1 < (k.code.getD (c0 + 2) 0 : Nat)) (q : ∀ sn, Ends B (ms k c0 p hd o (pb kt mk) kt.lastmark kt.lastindex lp inn fs (some false) sn) P) :
    Ends (B + 1) (ms k pc pos hd om mk lm li lp inn (fGive c0 p o n kt :: fs) (some false) sn) P := by
  refine Ends.eq rfl step_resume ?_
  unfold M.resume
  show Ends B (if n - 1 < (k.code.getD (c0 + 2) 0 : Nat) then _ else _) P
  rw [if_pos hn]
  exact q sn
theorem x_give {c0 p : Nat} {o : Bool} {n : Int} {kt : Sre.Kept} (hn : ¬ n - 1 < (k.code.getD (c0 + 2) 0 : Nat)) (hw : wsum fs + 1 + kt.marks.size ≤ 16777216)
    (q : ∀ sn, Ends B (ms k (c0 + 1 + k.code.getD (c0 + 1) 0) (p - 1) (p - 1) o (pb kt mk) kt.lastmark kt.lastindex lp inn (fGive c0 (p - 1) o (n - 1) kt :: fs) none sn) P) :
    Ends (B + 1) (ms k pc pos hd om mk lm li lp inn (fGive c0 p o n kt :: fs) (some false) sn) P := by
  refine Ends.eq rfl step_resume ?_
  unfold M.resume
  show Ends B (if n - 1 < (k.code.getD (c0 + 2) 0 : Nat) then _ else _) P
  rw [if_neg hn]
  show Ends B ((ms k c0 (p - 1) hd o (pb kt mk) kt.lastmark kt.lastindex lp inn fs none sn).attempt (fGive c0 (p - 1) o (n - 1) kt) (c0 + 1 + k.code.getD (c0 + 1) 0) (p - 1) o) P
  rw [attempt_eq hw]
  exact q sn
abbrev fTake (pc pos : Nat) (om : Bool) (n : Int) (kt : Sre.Kept) : Sre.Frame := { wait := .takeMore, pc := pc, pos := pos, outermost := om, count := n, kept := kt }
theorem x_lazy (h : k.code.getD pc 0 = 26) (hs : pc < k.code.size) (h0 : k.code.getD (pc + 2) 0 = 0) (hp : pos ≤ k.lim) (hw : wsum fs + 1 + mk.size ≤ 16777216)
    (q : ∀ sn, Ends B (ms k (pc + 1 + k.code.getD (pc + 1) 0) pos pos om mk lm li lp inn (fTake pc pos om 0 (kp lm li inn.isSome mk) :: fs) none sn) P) : Ends (B + 1) (ms k pc pos hd om mk lm li lp inn fs none sn) P := by
  refine Ends.eq rfl (step_exec hs) ?_
  have hw' : (ms k pc pos hd om mk lm li lp inn fs none sn).word 0 = k.code.getD pc 0 := rfl
  unfold M.exec
  rw [hw', h]
  show Ends B (if ((k.code.getD (pc + 2) 0 : Nat) : Int) > (k.lim : Int) - pos then _ else match Sre.run k.code k.text (pc + 4) (min (k.code.getD (pc + 2) 0) ((k.lim : Int) - pos).toNat) pos 0 ((sn.add 26).add (k.code.getD (pc + 4) 0)) with
    | .error why => _
    | .ok (n, seen) => _) P
  rw [if_neg (by omega), h0, Nat.zero_min]
  show Ends B (if 0 < k.code.getD (pc + 2) 0 then _ else _) P
  rw [h0, if_neg (by omega)]
  show Ends B ((ms k pc (pos + 0) hd om mk lm li lp inn fs none _).attempt (fTake pc (pos + 0) om 0 (kp lm li inn.isSome mk)) (pc + 1 + k.code.getD (pc + 1) 0) (pos + 0) om) P
  rw [attempt_eq (Nat.le_trans (by have := kp_size lm li inn.isSome mk; show wsum fs + 1 + (kp lm li inn.isSome mk).marks.size ≤ _; omega) hw)]
  exact q _
theorem x_take {c0 p : Nat} {o : Bool} {n : Int} {kt : Sre.Kept} (hm : k.code.getD (c0 + 3) 0 = maxRepeat) (hp : p < k.lim) (ha : Acc k.code (c0 + 4) (k.text.getD p 0) true) (hw : wsum fs + 1 + kt.marks.size ≤ 16777216)
    (q : ∀ sn, Ends B (ms k (c0 + 1 + k.code.getD (c0 + 1) 0) (p + 1) (p + 1) o (pb kt mk) kt.lastmark kt.lastindex lp inn (fTake c0 (p + 1) o (n + 1) kt :: fs) none sn) P) :
    Ends (B + 1) (ms k pc pos hd om mk lm li lp inn (fTake c0 p o n kt :: fs) (some false) sn) P := by
  refine Ends.eq rfl step_resume ?_
  unfold M.resume
  obtain ⟨sn', e⟩ := ha sn
  show Ends B (if (decide (n + 1 > (k.code.getD (c0 + 3) 0 : Nat)) && (k.code.getD (c0 + 3) 0 != maxRepeat)) = true then _ else if p ≥ k.lim then _ else match accepts k.code (c0 + 4) (k.text.getD p 0) sn with
    | .error why => _
    | .ok (false, seen) => _
    | .ok (true, seen) => _) P
  rw [if_neg (by rw [hm]; simp), if_neg (by omega), e]
  show Ends B ((ms k c0 (p + 1) hd o (pb kt mk) kt.lastmark kt.lastindex lp inn fs none sn').attempt (fTake c0 (p + 1) o (n + 1) kt) (c0 + 1 + k.code.getD (c0 + 1) 0) (p + 1) o) P
  rw [attempt_eq hw]
  exact q sn'
theorem x_take_end {c0 p : Nat} {o : Bool} {n : Int} {kt : Sre.Kept} (hm : k.code.getD (c0 + 3) 0 = maxRepeat) (hp : k.lim ≤ p)
    (q : ∀ sn, Ends B (ms k c0 p hd o (pb kt mk) kt.lastmark kt.lastindex lp inn fs (some false) sn) P) :
    Ends (B + 1) (ms k pc pos hd om mk lm li lp inn (fTake c0 p o n kt :: fs) (some false) sn) P := by
  refine Ends.eq rfl step_resume ?_
  unfold M.resume
  show Ends B (if (decide (n + 1 > (k.code.getD (c0 + 3) 0 : Nat)) && (k.code.getD (c0 + 3) 0 != maxRepeat)) = true then _ else if p ≥ k.lim then _ else _) P
  rw [if_neg (by rw [hm]; simp), if_pos (by omega)]
  exact q sn
/-- the end -/
theorem x_over {b : Bool} (q : P { ms k pc pos hd om mk lm li lp inn [] (some b) sn with outcome := some (if b then .matched else .failed) }) : Ends (B + 1) (ms k pc pos hd om mk lm li lp inn [] (some b) sn) P :=
  Ends.step rfl ⟨0, Nat.zero_le _, rfl, q⟩
/-- frames that hand a yes on -/
def hands (f : Sre.Frame) : Bool := match f.wait with
  | .nextStart | .nextBranch | .giveBack | .takeMore | .closeLoop | .maxBelow | .maxMore | .maxTail => true
  | _ => false
theorem x_yes (hf : fs.all hands = true) (q : ∀ m : M, m.outcome = some .matched → m.start = k.start → m.handed = hd → m.marks = mk → m.lastmark = lm → m.lastindex = li → P m) : Ends (B + wsum fs + 1) (ms k pc pos hd om mk lm li lp inn fs (some true) sn) P := by
  induction fs generalizing pc pos om lp inn with
  | nil => exact x_over (q _ rfl rfl rfl rfl rfl rfl)
  | cons f fs ih =>
    rw [List.all_cons, Bool.and_eq_true] at hf
    refine Ends.le (B := B + wsum fs + 1 + 1) (by show B + wsum fs + 1 + 1 ≤ B + (wsum fs + 1 + f.kept.marks.size) + 1; omega) (Ends.eq rfl step_resume ?_)
    have h1 := hf.1
    unfold hands at h1
    unfold M.resume
    split at h1 <;> first | (rename_i e; rw [e]; exact ih hf.2 ) | cases h1
end
end Rx
end Mine
end
section
open PySem PySem.Sre
set_option maxRecDepth 100000
set_option linter.all false
namespace Mine
namespace Rx
section
variable {k : K} {pc pos hd : Nat} {om : Bool} {mk : Array (Option Nat)} {lm li : Int} {lp : Array Sre.Loop} {inn : Option Nat} {fs : List Sre.Frame} {sn : Seen} {P : M → Prop} {B : Nat}

abbrev fClose (pc pos : Nat) (om : Bool) (i : Nat) : Sre.Frame := { wait := .closeLoop, pc := pc, pos := pos, outermost := om, loop := i }
abbrev fMore (pc pos : Nat) (om : Bool) (i : Nat) (c : Int) (kt : Sre.Kept) (b : Option Nat) : Sre.Frame := { wait := .maxMore, pc := pc, pos := pos, outermost := om, loop := i, count := c, kept := kt, began := b }
abbrev fTail (pc pos : Nat) (om : Bool) (i : Nat) (c : Int) (kt : Sre.Kept) : Sre.Frame := { wait := .maxTail, pc := pc, pos := pos, outermost := om, loop := i, count := c, kept := kt }
abbrev fNot (pc pos : Nat) (om : Bool) (kt : Sre.Kept) : Sre.Frame := { wait := .lookNot, pc := pc, pos := pos, outermost := om, kept := kt }
theorem getD_last (lp : Array Sre.Loop) (L d : Sre.Loop) : (lp.push L).getD lp.size d = L := by
  simp [Array.getD_eq_getD_getElem?]
theorem modify_last (lp : Array Sre.Loop) (L : Sre.Loop) (f : Sre.Loop → Sre.Loop) : (lp.push L).modify lp.size f = lp.push (f L) := by
  apply Array.ext
  · simp
  · intro i h1 h2
    rw [Array.getElem_modify]
    simp only [Array.getElem_push]
    split
    · rename_i e; subst e; simp
    · rename_i e
      simp at h2
      have : i < lp.size := by omega
      simp [this]
theorem pop_last (lp : Array Sre.Loop) (L : Sre.Loop) : (lp.push L).pop = lp := by simp

theorem x_repeat {t : Nat} (h : (k.code.getD pc 0 == 23 && decide (pc < k.code.size) && (pc + 1 + k.code.getD (pc + 1) 0 == t)) = true) (hw : wsum fs + 1 ≤ 16777216)
    (q : ∀ sn, Ends B (ms k t pos pos om mk lm li (lp.push { pc := pc, outer := inn }) (some lp.size) (fClose pc pos om lp.size :: fs) none sn) P) : Ends (B + 1) (ms k pc pos hd om mk lm li lp inn fs none sn) P := by
  simp only [Bool.and_eq_true, beq_iff_eq, decide_eq_true_eq] at h
  obtain ⟨⟨h, hs⟩, rfl⟩ := h
  refine Ends.eq rfl (step_exec hs) ?_
  have hw' : (ms k pc pos hd om mk lm li lp inn fs none sn).word 0 = k.code.getD pc 0 := rfl
  unfold M.exec
  rw [hw', h]
  show Ends B ((ms k pc pos hd om mk lm li (lp.push { pc := pc, outer := inn }) (some lp.size) fs none (sn.add 23)).attempt (fClose pc pos om lp.size) (pc + 1 + k.code.getD (pc + 1) 0) pos om) P
  rw [attempt_eq (by simpa using hw)]
  exact q _
/-- the loop's turn is asked -/
theorem until_eq (L : Sre.Loop) (hl : k.code.getD (L.pc + 2) 0 = 0) (hc : 0 ≤ L.count + 1) : (ms k pc pos hd om mk lm li (lp.push L) (some lp.size) fs none sn).until_ true =
    if ((decide (L.count + 1 < (k.code.getD (L.pc + 3) 0 : Nat)) || k.code.getD (L.pc + 3) 0 == maxRepeat) && L.began != some pos) = true then
      (ms k pc pos hd om mk lm li (lp.push L) (some lp.size) fs none sn).round .maxMore lp.size (L.count + 1) true (kp lm li true mk)
    else (ms k pc pos hd om mk lm li (lp.push L) (some lp.size) fs none sn).afterLoop .maxTail lp.size (L.count + 1) fun _ => false := by
  have e : (ms k pc pos hd om mk lm li (lp.push L) (some lp.size) fs none sn).loopAt lp.size = L := getD_last _ _ _
  have h0 : (ms k pc pos hd om mk lm li (lp.push L) (some lp.size) fs none sn).until_ true = (fun l : Sre.Loop => if l.count + 1 < ((k.code.getD (l.pc + 2) 0 : Nat) : Int) then (ms k pc pos hd om mk lm li (lp.push L) (some lp.size) fs none sn).round .maxBelow lp.size (l.count + 1) false {} else
    if ((decide (l.count + 1 < (k.code.getD (l.pc + 3) 0 : Nat)) || k.code.getD (l.pc + 3) 0 == maxRepeat) && l.began != some pos) = true then
      (ms k pc pos hd om mk lm li (lp.push L) (some lp.size) fs none sn).round .maxMore lp.size (l.count + 1) true (kp lm li true mk)
    else (ms k pc pos hd om mk lm li (lp.push L) (some lp.size) fs none sn).afterLoop .maxTail lp.size (l.count + 1) fun _ => false) ((ms k pc pos hd om mk lm li (lp.push L) (some lp.size) fs none sn).loopAt lp.size) := rfl
  rw [h0, e]
  show (if L.count + 1 < ((k.code.getD (L.pc + 2) 0 : Nat) : Int) then _ else _) = _
  rw [if_neg (by rw [hl]; omega)]
theorem x_until_more {t : Nat} (L : Sre.Loop) (h : (k.code.getD pc 0 == 18 && decide (pc < k.code.size) && (pc + 1 == t)) = true) (hl : k.code.getD (L.pc + 2) 0 = 0) (hc : 0 ≤ L.count + 1)
    (hm : ((decide (L.count + 1 < (k.code.getD (L.pc + 3) 0 : Nat)) || k.code.getD (L.pc + 3) 0 == maxRepeat) && L.began != some pos) = true) (hw : wsum fs + 1 + mk.size ≤ 16777216)
    (q : ∀ sn, Ends B (ms k (L.pc + 4) pos pos om mk lm li (lp.push { L with count := L.count + 1, began := some pos }) (some lp.size) (fMore t pos om lp.size (L.count + 1) (kp lm li true mk) L.began :: fs) none sn) P) :
    Ends (B + 1) (ms k pc pos hd om mk lm li (lp.push L) (some lp.size) fs none sn) P := by
  simp only [Bool.and_eq_true, beq_iff_eq, decide_eq_true_eq] at h
  obtain ⟨⟨h, hs⟩, rfl⟩ := h
  refine Ends.eq rfl (step_exec hs) ?_
  have hw' : (ms k pc pos hd om mk lm li (lp.push L) (some lp.size) fs none sn).word 0 = k.code.getD pc 0 := rfl
  unfold M.exec
  rw [hw', h]
  show Ends B ((ms k (pc + 1) pos hd om mk lm li (lp.push L) (some lp.size) fs none (sn.add 18)).until_ true) P
  rw [until_eq L hl hc, if_pos hm]
  unfold M.round
  have e : (ms k (pc + 1) pos hd om mk lm li (lp.push L) (some lp.size) fs none (sn.add 18)).loopAt lp.size = L := getD_last _ _ _
  show Ends B (let l := (ms k (pc + 1) pos hd om mk lm li (lp.push L) (some lp.size) fs none (sn.add 18)).loopAt lp.size; _) P
  rw [e]
  show Ends B ((ms k (pc + 1) pos hd om mk lm li ((lp.push L).modify lp.size fun l => { l with count := L.count + 1, began := some pos }) (some lp.size) fs none (sn.add 18)).attempt (fMore (pc + 1) pos om lp.size (L.count + 1) (kp lm li true mk) L.began) (L.pc + 4) pos om) P
  rw [modify_last, attempt_eq (Nat.le_trans (by have := kp_size lm li true mk; show wsum fs + 1 + (kp lm li true mk).marks.size ≤ _; omega) hw)]
  exact q _
theorem afterLoop_eq {c : Int} (L : Sre.Loop) (hw : wsum fs + 1 ≤ 16777216) : (ms k pc pos hd om mk lm li (lp.push L) inn fs none sn).afterLoop .maxTail lp.size c (fun _ => false) =
    ms k pc pos pos om mk lm li (lp.push L) L.outer (fTail pc pos om lp.size c (kp lm li false mk) :: fs) none sn := by
  unfold M.afterLoop
  have e : (ms k pc pos hd om mk lm li (lp.push L) inn fs none sn).loopAt lp.size = L := getD_last _ _ _
  show (let outer := ((ms k pc pos hd om mk lm li (lp.push L) inn fs none sn).loopAt lp.size).outer; _) = _
  rw [e]
  show ((ms k pc pos hd om mk lm li (lp.push L) L.outer fs none sn).attempt (fTail pc pos om lp.size c (kp lm li false mk)) pc pos om) = _
  exact attempt_eq (by simpa [kp_false] using hw)
theorem x_until_out {t : Nat} (L : Sre.Loop) (h : (k.code.getD pc 0 == 18 && decide (pc < k.code.size) && (pc + 1 == t)) = true) (hl : k.code.getD (L.pc + 2) 0 = 0) (hc : 0 ≤ L.count + 1)
    (hm : ((decide (L.count + 1 < (k.code.getD (L.pc + 3) 0 : Nat)) || k.code.getD (L.pc + 3) 0 == maxRepeat) && L.began != some pos) = false) (hw : wsum fs + 1 ≤ 16777216)
    (q : ∀ sn, Ends B (ms k t pos pos om mk lm li (lp.push L) L.outer (fTail t pos om lp.size (L.count + 1) (kp lm li false mk) :: fs) none sn) P) :
    Ends (B + 1) (ms k pc pos hd om mk lm li (lp.push L) (some lp.size) fs none sn) P := by
  simp only [Bool.and_eq_true, beq_iff_eq, decide_eq_true_eq] at h
  obtain ⟨⟨h, hs⟩, rfl⟩ := h
  refine Ends.eq rfl (step_exec hs) ?_
  have hw' : (ms k pc pos hd om mk lm li (lp.push L) (some lp.size) fs none sn).word 0 = k.code.getD pc 0 := rfl
  unfold M.exec
  rw [hw', h]
  show Ends B ((ms k (pc + 1) pos hd om mk lm li (lp.push L) (some lp.size) fs none (sn.add 18)).until_ true) P
  rw [until_eq L hl hc, if_neg (by rw [hm]; exact Bool.false_ne_true), afterLoop_eq L hw]
  exact q _
theorem x_more_no {u p : Nat} {o : Bool} {c : Int} {kt : Sre.Kept} {b : Option Nat} (L : Sre.Loop) (hw : wsum fs + 1 ≤ 16777216)
    (q : ∀ sn, Ends B (ms k u p p o (pb kt mk) kt.lastmark kt.lastindex (lp.push { L with began := b, count := c - 1 }) L.outer (fTail u p o lp.size c (kp kt.lastmark kt.lastindex false (pb kt mk)) :: fs) none sn) P) :
    Ends (B + 1) (ms k pc pos hd om mk lm li (lp.push L) inn (fMore u p o lp.size c kt b :: fs) (some false) sn) P := by
  refine Ends.eq rfl step_resume ?_
  unfold M.resume
  show Ends B ((ms k u p hd o (pb kt mk) kt.lastmark kt.lastindex (((lp.push L).modify lp.size fun l => { l with began := b }).modify lp.size fun l => { l with count := c - 1 }) inn fs none sn).afterLoop .maxTail lp.size c fun _ => false) P
  rw [modify_last, modify_last, afterLoop_eq _ hw]
  exact q _
theorem x_tail_no {u p : Nat} {o : Bool} {c : Int} {kt : Sre.Kept} {i : Nat} (q : ∀ sn, Ends B (ms k u p hd o mk lm li lp (some i) fs (some false) sn) P) :
    Ends (B + 1) (ms k pc pos hd om mk lm li lp inn (fTail u p o i c kt :: fs) (some false) sn) P :=
  Ends.eq rfl step_resume (q sn)
theorem x_close_no {u p : Nat} {o : Bool} (L : Sre.Loop) (q : ∀ sn, Ends B (ms k u p hd o mk lm li lp L.outer fs (some false) sn) P) :
    Ends (B + 1) (ms k pc pos hd om mk lm li (lp.push L) inn (fClose u p o lp.size :: fs) (some false) sn) P := by
  refine Ends.eq rfl step_resume ?_
  unfold M.resume
  show Ends B (ms k u p hd o mk lm li (lp.push L).pop ((lp.push L).getD lp.size { pc := 0, outer := none }).outer fs (some false) sn) P
  rw [getD_last, pop_last]
  exact q sn
/-- a look behind that must not be -/
theorem x_not_short {t : Nat} (h : (k.code.getD pc 0 == 5 && decide (pc < k.code.size) && (pc + 1 + k.code.getD (pc + 1) 0 == t)) = true) (hp : pos < k.code.getD (pc + 2) 0)
    (q : ∀ sn, Ends B (ms k t pos hd om mk lm li lp inn fs none sn) P) : Ends (B + 1) (ms k pc pos hd om mk lm li lp inn fs none sn) P := by
  simp only [Bool.and_eq_true, beq_iff_eq, decide_eq_true_eq] at h
  obtain ⟨⟨h, hs⟩, rfl⟩ := h
  refine Ends.eq rfl (step_exec hs) ?_
  have hw' : (ms k pc pos hd om mk lm li lp inn fs none sn).word 0 = k.code.getD pc 0 := rfl
  unfold M.exec
  rw [hw', h]
  show Ends B (if pos < k.code.getD (pc + 2) 0 then _ else _) P
  rw [if_pos hp]
  exact q _
theorem x_not (h : (k.code.getD pc 0 == 5 && decide (pc < k.code.size)) = true) (hp : k.code.getD (pc + 2) 0 ≤ pos) (hw : wsum fs + 1 + mk.size ≤ 16777216)
    (q : ∀ sn, Ends B (ms k (pc + 3) (pos - k.code.getD (pc + 2) 0) (pos - k.code.getD (pc + 2) 0) false mk lm li lp inn (fNot pc pos om (kp lm li inn.isSome mk) :: fs) none sn) P) : Ends (B + 1) (ms k pc pos hd om mk lm li lp inn fs none sn) P := by
  simp only [Bool.and_eq_true, beq_iff_eq, decide_eq_true_eq] at h
  obtain ⟨h, hs⟩ := h
  refine Ends.eq rfl (step_exec hs) ?_
  have hw' : (ms k pc pos hd om mk lm li lp inn fs none sn).word 0 = k.code.getD pc 0 := rfl
  unfold M.exec
  rw [hw', h]
  show Ends B (if pos < k.code.getD (pc + 2) 0 then _ else (ms k pc pos hd om mk lm li lp inn fs none (sn.add 5)).attempt (fNot pc pos om (kp lm li inn.isSome mk)) (pc + 3) (pos - k.code.getD (pc + 2) 0) false) P
  rw [if_neg (by omega), attempt_eq (Nat.le_trans (by have := kp_size lm li inn.isSome mk; show wsum fs + 1 + (kp lm li inn.isSome mk).marks.size ≤ _; omega) hw)]
  exact q _
theorem x_not_yes {c0 p : Nat} {o : Bool} {kt : Sre.Kept} (q : ∀ sn, Ends B (ms k c0 p hd o mk lm li lp inn fs (some false) sn) P) : Ends (B + 1) (ms k pc pos hd om mk lm li lp inn (fNot c0 p o kt :: fs) (some true) sn) P :=
  Ends.eq rfl step_resume (q sn)
theorem x_not_no {c0 p t : Nat} {o : Bool} {kt : Sre.Kept} (ht : (c0 + 1 + k.code.getD (c0 + 1) 0 == t) = true) (q : ∀ sn, Ends B (ms k t p hd o (pb kt mk) kt.lastmark kt.lastindex lp inn fs none sn) P) : Ends (B + 1) (ms k pc pos hd om mk lm li lp inn (fNot c0 p o kt :: fs) (some false) sn) P := by
  rw [beq_iff_eq] at ht
  subst ht
  exact Ends.eq rfl step_resume (q sn)

/-! the rules once more, with what the code says as one look -/
theorem y_one {t : Nat} (h : (oneOp (k.code.getD pc 0) && decide (pc < k.code.size) && (pc + itemWidth k.code pc == t)) = true) (hp : pos < k.lim) (ha : Acc k.code pc (k.text.getD pos 0) true)
    (q : ∀ sn, Ends B (ms k t (pos + 1) hd om mk lm li lp inn fs none sn) P) : Ends (B + 1) (ms k pc pos hd om mk lm li lp inn fs none sn) P := by
  simp only [Bool.and_eq_true, beq_iff_eq, decide_eq_true_eq] at h
  obtain ⟨⟨h, hs⟩, rfl⟩ := h
  exact x_one h hp ha hs q
theorem y_one_no (h : (oneOp (k.code.getD pc 0) && decide (pc < k.code.size)) = true) (ha : pos < k.lim → Acc k.code pc (k.text.getD pos 0) false)
    (q : ∀ sn, Ends B (ms k pc pos hd om mk lm li lp inn fs (some false) sn) P) : Ends (B + 1) (ms k pc pos hd om mk lm li lp inn fs none sn) P := by
  simp only [Bool.and_eq_true, decide_eq_true_eq] at h
  exact x_one_no h.1 ha h.2 q
theorem y_success (h : (k.code.getD pc 0 == 1 && decide (pc < k.code.size)) = true) (q : ∀ sn, Ends B (ms k pc pos pos om mk lm li lp inn fs (some true) sn) P) : Ends (B + 1) (ms k pc pos hd om mk lm li lp inn fs none sn) P := by
  simp only [Bool.and_eq_true, beq_iff_eq, decide_eq_true_eq] at h
  exact x_success h.1 h.2 q
theorem y_jump {t : Nat} (h : (k.code.getD pc 0 == 15 && decide (pc < k.code.size) && (pc + 1 + k.code.getD (pc + 1) 0 == t)) = true) (q : ∀ sn, Ends B (ms k t pos hd om mk lm li lp inn fs none sn) P) : Ends (B + 1) (ms k pc pos hd om mk lm li lp inn fs none sn) P := by
  simp only [Bool.and_eq_true, beq_iff_eq, decide_eq_true_eq] at h
  obtain ⟨⟨h, hs⟩, rfl⟩ := h
  exact x_jump h hs q
theorem y_mark {i t : Nat} {mk' : Array (Option Nat)} {lm' li' : Int} (h : (k.code.getD pc 0 == 17 && decide (pc < k.code.size) && (k.code.getD (pc + 1) 0 == i) && (pc + 2 == t)) = true)
    (e1 : (clr mk lm i).setIfInBounds i (some pos) = mk') (e2 : max lm (i : Nat) = lm') (e3 : (if i % 2 == 1 then ((i / 2 + 1 : Nat) : Int) else li) = li')
    (q : ∀ sn, Ends B (ms k t pos hd om mk' lm' li' lp inn fs none sn) P) : Ends (B + 1) (ms k pc pos hd om mk lm li lp inn fs none sn) P := by
  simp only [Bool.and_eq_true, beq_iff_eq, decide_eq_true_eq] at h
  obtain ⟨⟨⟨h, hs⟩, rfl⟩, rfl⟩ := h
  subst e1; subst e2; subst e3
  exact x_mark h hs q
theorem y_branch {a t : Nat} (h : (k.code.getD pc 0 == 7 && decide (pc < k.code.size) && (pc + 1 == a) && (k.code.getD a 0 != 0) && (pc + 2 == t)) = true) (hw : wsum fs + 1 + mk.size ≤ 16777216)
    (q : ∀ sn, Ends B (ms k t pos pos om mk lm li lp inn (fBranch a pos om (kp lm li inn.isSome mk) :: fs) none sn) P) : Ends (B + 1) (ms k pc pos hd om mk lm li lp inn fs none sn) P := by
  simp only [Bool.and_eq_true, beq_iff_eq, decide_eq_true_eq, bne_iff_ne, ne_eq] at h
  obtain ⟨⟨⟨⟨h, hs⟩, rfl⟩, h0⟩, rfl⟩ := h
  exact x_branch h hs h0 hw q
theorem y_next {a b p t : Nat} {o : Bool} {kt : Sre.Kept} (h : ((a + k.code.getD a 0 == b) && (k.code.getD b 0 != 0) && (b + 1 == t)) = true) (hw : wsum fs + 1 + kt.marks.size ≤ 16777216)
    (q : ∀ sn, Ends B (ms k t p p o (pb kt mk) kt.lastmark kt.lastindex lp inn (fBranch b p o kt :: fs) none sn) P) : Ends (B + 1) (ms k pc pos hd om mk lm li lp inn (fBranch a p o kt :: fs) (some false) sn) P := by
  simp only [Bool.and_eq_true, beq_iff_eq, bne_iff_ne, ne_eq] at h
  obtain ⟨⟨rfl, h0⟩, rfl⟩ := h
  exact x_next_go h0 hw q
theorem y_next_end {a p : Nat} {o : Bool} {kt : Sre.Kept} (h : (k.code.getD (a + k.code.getD a 0) 0 == 0) = true) (hw : wsum fs + 1 + kt.marks.size ≤ 16777216)
    (q : ∀ sn, Ends B (ms k a p hd o (pb kt mk) kt.lastmark kt.lastindex lp inn fs (some false) sn) P) : Ends (B + 1) (ms k pc pos hd om mk lm li lp inn (fBranch a p o kt :: fs) (some false) sn) P :=
  x_next_end (beq_iff_eq.mp h) hw q
/-- one place or more, as many as there are -/
theorem y_rep {n least t : Nat} (h : (k.code.getD pc 0 == 24 && decide (pc < k.code.size) && (k.code.getD (pc + 2) 0 == least) && (k.code.getD (pc + 3) 0 == maxRepeat) && (pc + 1 + k.code.getD (pc + 1) 0 == t)) = true)
    (hl : k.lim ≤ maxRepeat) (hr : Ran k.code k.text (pc + 4) (k.lim - pos) pos n) (hn : least ≤ n) (hp : pos + n ≤ k.lim) (hw : wsum fs + 1 + mk.size ≤ 16777216)
    (q : ∀ sn, Ends B (ms k t (pos + n) (pos + n) om mk lm li lp inn (fGive pc (pos + n) om n (kp lm li inn.isSome mk) :: fs) none sn) P) : Ends (B + 1) (ms k pc pos hd om mk lm li lp inn fs none sn) P := by
  simp only [Bool.and_eq_true, beq_iff_eq, decide_eq_true_eq] at h
  obtain ⟨⟨⟨⟨h, hs⟩, rfl⟩, hm⟩, rfl⟩ := h
  exact x_rep h hs (by omega) (by rw [hm, Nat.min_eq_right (by omega)]; exact hr) hn hw q
theorem y_rep_no {n least : Nat} (h : (k.code.getD pc 0 == 24 && decide (pc < k.code.size) && (k.code.getD (pc + 2) 0 == least) && (k.code.getD (pc + 3) 0 == maxRepeat)) = true)
    (hl : k.lim ≤ maxRepeat) (hr : Ran k.code k.text (pc + 4) (k.lim - pos) pos n) (hn : n < least)
    (q : ∀ sn, Ends B (ms k pc pos hd om mk lm li lp inn fs (some false) sn) P) : Ends (B + 1) (ms k pc pos hd om mk lm li lp inn fs none sn) P := by
  simp only [Bool.and_eq_true, beq_iff_eq, decide_eq_true_eq] at h
  obtain ⟨⟨⟨h, hs⟩, rfl⟩, hm⟩ := h
  exact x_rep_no h hs (fun _ => ⟨by rw [hm, Nat.min_eq_right (by omega)]; exact hr, hn⟩) q
theorem pb_false (lm li : Int) (m0 mk : Array (Option Nat)) : pb (kp lm li false m0) mk = mk := rfl
end
end Rx
end Mine
end
section
open PySem PySem.W PySem.Calls PyProof.Rows PySem.Sre
set_option maxRecDepth 100000
set_option linter.all false
set_option maxHeartbeats 4000000
namespace Mine
namespace Rx
open PySem.Builtin.Re
/-- the code of a pattern, from the tuple that holds it -/
noncomputable def codeO (o : Obj) : Array Nat := match o.data with | .seq vs _ => (vs.toList.map fun v => (reRawOf v).toNat).toArray | _ => #[]
noncomputable abbrev cWs (P : Params) := codeO (top.o_103 P)
noncomputable abbrev cName (P : Params) := codeO (top.o_110 P)
noncomputable abbrev cStr (P : Params) := codeO (top.o_115 P)
noncomputable abbrev cInt (P : Params) := codeO (top.o_122 P)
noncomputable abbrev cFloat (P : Params) := codeO (top.o_129 P)
noncomputable abbrev cOp (P : Params) := codeO (top.o_151 P)
noncomputable abbrev cRoot (P : Params) := codeO (top.o_158 P)
noncomputable abbrev cData (P : Params) := codeO (top.o_163 P)
noncomputable abbrev cVar (P : Params) := codeO (top.o_197 P)

def isDg (c : Nat) : Bool := c == 48 || c == 49
def isSp (c : Nat) : Bool := c == 10 || c == 32
def isWd (c : Nat) : Bool := c == 48 || c == 49 || c == 97 || c == 122
theorem u_dec : ∀ c ∈ sig, Unicode.isDecimal c = isDg c := by decide +kernel
theorem u_spc : ∀ c ∈ sig, Unicode.isSpace c = isSp c := by decide +kernel
theorem u_wrd : ∀ c ∈ sig, isWordUni c = isWd c := by decide +kernel
theorem u_low : ∀ c ∈ sig, lowerUni c = c := by decide +kernel

theorem acc_any {code : Array Nat} {pc c : Nat} (h : (code.getD pc 0 == 3) = true) : Acc code pc c true := fun sn => ⟨sn, by
  unfold accepts
  rw [beq_iff_eq.mp h]; rfl⟩
theorem acc_lit {code : Array Nat} {pc c : Nat} (w : Nat) {b : Bool} (h : (code.getD pc 0 == 16 && code.getD (pc + 1) 0 == w) = true) (e : (c == w) = b) : Acc code pc c b := fun sn => ⟨sn, by
  rw [Bool.and_eq_true, beq_iff_eq, beq_iff_eq] at h
  unfold accepts
  rw [h.1, h.2, ← e]; rfl⟩
theorem acc_ign {code : Array Nat} {pc c : Nat} (w : Nat) {b : Bool} (h : (code.getD pc 0 == 40 && code.getD (pc + 1) 0 == w) = true) (e : (lowerUni c == w) = b) : Acc code pc c b := fun sn => ⟨sn, by
  rw [Bool.and_eq_true, beq_iff_eq, beq_iff_eq] at h
  unfold accepts
  rw [h.1, h.2, ← e]; rfl⟩
/-- a set of one category -/
theorem acc_cat {code : Array Nat} {pc c : Nat} (kk : Nat) {b : Bool} (h : (code.getD pc 0 == 13 && code.getD (pc + 2) 0 == 8 && code.getD (pc + 3) 0 == kk && code.getD (pc + 4) 0 == 0 && decide (1 < code.size)) = true) (e : category kk c = .ok b) : Acc code pc c b := fun sn => by
  simp only [Bool.and_eq_true, beq_iff_eq, decide_eq_true_eq] at h
  obtain ⟨⟨⟨⟨h0, h1⟩, h2⟩, h3⟩, hs⟩ := h
  obtain ⟨f, hf⟩ : ∃ f, code.size = f + 1 + 1 := ⟨code.size - 2, by omega⟩
  have ha : accepts code pc c sn = inSet code c code.size (pc + 2) true sn := by unfold accepts; rw [h0]; rfl
  rw [ha, hf]
  have h1' : code.getD (pc + 2 + 0) 0 = 8 := h1
  have h2' : code.getD (pc + 2 + 1) 0 = kk := h2
  have h3' : code.getD (pc + 2 + 2 + 0) 0 = 0 := h3
  cases b with
  | true =>
    refine ⟨(sn.add 8).add (55 + kk), ?_⟩
    unfold inSet
    simp only [h1', h2', show ops[8]? = some Op.CATEGORY from rfl, e]
    rfl
  | false =>
    refine ⟨((sn.add 8).add (55 + kk)).add 0, ?_⟩
    unfold inSet
    simp only [h1', h2', show ops[8]? = some Op.CATEGORY from rfl, e]
    show inSet code c (f + 1) (pc + 2 + 2) true ((sn.add 8).add (55 + kk)) = _
    unfold inSet
    simp only [h3', show ops[0]? = some Op.FAILURE from rfl]
    rfl
theorem acc_dig {code : Array Nat} {pc c : Nat} (hc : c ∈ sig) (h : (code.getD pc 0 == 13 && code.getD (pc + 2) 0 == 8 && code.getD (pc + 3) 0 == 10 && code.getD (pc + 4) 0 == 0 && decide (1 < code.size)) = true) : Acc code pc c (isDg c) :=
  acc_cat 10 h (by rw [show category 10 c = .ok (Unicode.isDecimal c != false) by unfold category; rfl, u_dec c hc]; cases isDg c <;> rfl)
theorem acc_spc {code : Array Nat} {pc c : Nat} (hc : c ∈ sig) (h : (code.getD pc 0 == 13 && code.getD (pc + 2) 0 == 8 && code.getD (pc + 3) 0 == 12 && code.getD (pc + 4) 0 == 0 && decide (1 < code.size)) = true) : Acc code pc c (isSp c) :=
  acc_cat 12 h (by rw [show category 12 c = .ok (Unicode.isSpace c != false) by unfold category; rfl, u_spc c hc]; cases isSp c <;> rfl)
theorem acc_wrd {code : Array Nat} {pc c : Nat} (hc : c ∈ sig) (h : (code.getD pc 0 == 13 && code.getD (pc + 2) 0 == 8 && code.getD (pc + 3) 0 == 14 && code.getD (pc + 4) 0 == 0 && decide (1 < code.size)) = true) : Acc code pc c (isWd c) :=
  acc_cat 14 h (by rw [show category 14 c = .ok (isWordUni c != false) by unfold category; rfl, u_wrd c hc]; cases isWd c <;> rfl)
/-- a set of one range -/
theorem acc_rng {code : Array Nat} {pc c : Nat} (lo hi : Nat) {b : Bool} (h : (code.getD pc 0 == 13 && code.getD (pc + 2) 0 == 22 && code.getD (pc + 3) 0 == lo && code.getD (pc + 4) 0 == hi && code.getD (pc + 5) 0 == 0 && decide (1 < code.size)) = true) (e : (decide (lo ≤ c) && decide (c ≤ hi)) = b) : Acc code pc c b := fun sn => by
  simp only [Bool.and_eq_true, beq_iff_eq, decide_eq_true_eq] at h
  obtain ⟨⟨⟨⟨⟨h0, h1⟩, h2⟩, h4⟩, h3⟩, hs⟩ := h
  obtain ⟨f, hf⟩ : ∃ f, code.size = f + 1 + 1 := ⟨code.size - 2, by omega⟩
  have ha : accepts code pc c sn = inSet code c code.size (pc + 2) true sn := by unfold accepts; rw [h0]; rfl
  rw [ha, hf]
  have h1' : code.getD (pc + 2 + 0) 0 = 22 := h1
  have h2' : code.getD (pc + 2 + 1) 0 = lo := h2
  have h4' : code.getD (pc + 2 + 2) 0 = hi := h4
  have h3' : code.getD (pc + 2 + 3 + 0) 0 = 0 := h3
  cases b with
  | true =>
    refine ⟨sn.add 22, ?_⟩
    unfold inSet
    simp only [h1', h2', h4', show ops[22]? = some Op.RANGE from rfl, e, if_true]
  | false =>
    refine ⟨(sn.add 22).add 0, ?_⟩
    unfold inSet
    simp only [h1', h2', h4', show ops[22]? = some Op.RANGE from rfl, e, Bool.false_eq_true, if_false]
    show inSet code c (f + 1) (pc + 2 + 3) true (sn.add 22) = _
    unfold inSet
    simp only [h3', show ops[0]? = some Op.FAILURE from rfl]
    rfl
/-- all but two signs -/
theorem acc_but {code : Array Nat} {pc c : Nat} (u v : Nat) {b : Bool} (h : (code.getD pc 0 == 13 && code.getD (pc + 2) 0 == 21 && code.getD (pc + 3) 0 == 16 && code.getD (pc + 4) 0 == u && code.getD (pc + 5) 0 == 16 && code.getD (pc + 6) 0 == v && code.getD (pc + 7) 0 == 0 && decide (3 < code.size)) = true)
    (e : (!(c == u || c == v)) = b) : Acc code pc c b := fun sn => by
  simp only [Bool.and_eq_true, beq_iff_eq, decide_eq_true_eq] at h
  obtain ⟨⟨⟨⟨⟨⟨⟨h0, h1⟩, h2⟩, h3⟩, h4⟩, h5⟩, h6⟩, hs⟩ := h
  obtain ⟨f, hf⟩ : ∃ f, code.size = f + 1 + 1 + 1 + 1 := ⟨code.size - 4, by omega⟩
  have ha : accepts code pc c sn = inSet code c code.size (pc + 2) true sn := by unfold accepts; rw [h0]; rfl
  rw [ha, hf]
  have h1' : code.getD (pc + 2 + 0) 0 = 21 := h1
  have h2' : code.getD (pc + 2 + 1 + 0) 0 = 16 := h2
  have h3' : code.getD (pc + 2 + 1 + 1) 0 = u := h3
  have h4' : code.getD (pc + 2 + 1 + 2 + 0) 0 = 16 := h4
  have h5' : code.getD (pc + 2 + 1 + 2 + 1) 0 = v := h5
  have h6' : code.getD (pc + 2 + 1 + 2 + 2 + 0) 0 = 0 := h6
  have s1 : inSet code c (f + 1 + 1 + 1 + 1) (pc + 2) true sn = inSet code c (f + 1 + 1 + 1) (pc + 2 + 1) false (sn.add 21) := by
    conv => lhs; unfold inSet
    simp only [h1', show ops[21]? = some Op.NEGATE from rfl]; rfl
  have s2 : inSet code c (f + 1 + 1 + 1) (pc + 2 + 1) false (sn.add 21) = if c == u then .ok (false, (sn.add 21).add 16) else inSet code c (f + 1 + 1) (pc + 2 + 1 + 2) false ((sn.add 21).add 16) := by
    conv => lhs; unfold inSet
    simp only [h2', h3', show ops[16]? = some Op.LITERAL from rfl]
  have s3 : inSet code c (f + 1 + 1) (pc + 2 + 1 + 2) false ((sn.add 21).add 16) = if c == v then .ok (false, ((sn.add 21).add 16).add 16) else inSet code c (f + 1) (pc + 2 + 1 + 2 + 2) false (((sn.add 21).add 16).add 16) := by
    conv => lhs; unfold inSet
    simp only [h4', h5', show ops[16]? = some Op.LITERAL from rfl]
  have s4 : inSet code c (f + 1) (pc + 2 + 1 + 2 + 2) false (((sn.add 21).add 16).add 16) = .ok (true, (((sn.add 21).add 16).add 16).add 0) := by
    conv => lhs; unfold inSet
    simp only [h6', show ops[0]? = some Op.FAILURE from rfl]; rfl
  rw [s1, s2]
  subst e
  cases h7 : (c == u) with
  | true => exact ⟨_, rfl⟩
  | false =>
    rw [if_neg Bool.false_ne_true, s3]
    cases h8 : (c == v) with
    | true => exact ⟨_, rfl⟩
    | false => rw [if_neg Bool.false_ne_true, s4]; exact ⟨_, rfl⟩
/-- how many signs from a place on fall under a test -/
noncomputable def cnt (f : Nat → Bool) : List Nat → Nat
  | [] => 0
  | x :: xs => if f x then cnt f xs + 1 else 0
theorem cnt_le (f : Nat → Bool) : ∀ l, cnt f l ≤ l.length
  | [] => Nat.le_refl _
  | x :: xs => by
    unfold cnt
    have := cnt_le f xs
    split <;> simp <;> omega
theorem ran_cnt {code text : Array Nat} {i : Nat} (f : Nat → Bool) (ht : ∀ c ∈ text.toList, Acc code i c (f c)) : ∀ (n p : Nat), p + n = text.size → Ran code text i n p (cnt f (text.toList.drop p))
  | 0, p, e => by
    rw [List.drop_eq_nil_of_le (by simp; omega)]
    exact Ran.zero
  | n + 1, p, e => by
    have hp : p < text.size := by omega
    have hd : text.toList.drop p = text[p] :: text.toList.drop (p + 1) := by
      rw [List.drop_eq_getElem_cons (by simpa using hp)]
      simp
    have hg : text.getD p 0 = text[p] := by simp [Array.getD_eq_getD_getElem?, hp]
    have ha : Acc code i (text.getD p 0) (f text[p]) := by rw [hg]; exact ht _ (Array.mem_toList_iff.mpr (Array.getElem_mem hp))
    rw [hd, cnt]
    cases hf : f text[p] with
    | true => rw [if_pos rfl]; exact Ran.more (hf ▸ ha) (ran_cnt f ht n (p + 1) (by omega))
    | false => rw [if_neg Bool.false_ne_true]; exact Ran.stop (hf ▸ ha)
/-- how a run ends: the place, and no group turned round -/
def okSpans (groups : Nat) (m : M) : Bool := !(List.range groups).any fun g => match m.marks.getD (2 * g) none, m.marks.getD (2 * g + 1) none with | some b, some e => decide (((2 * g + 1 : Nat) : Int) ≤ m.lastmark) && decide (e < b) | _, _ => false
def Hit (groups start e : Nat) (m : M) : Prop := m.outcome = some .matched ∧ m.start = start ∧ m.handed = e ∧ okSpans groups m = true
def Miss (m : M) : Prop := m.outcome = some .failed
/-- a match at a place of a text -/
def Mat (code : Array Nat) (groups : Nat) (x : Str) (p : Nat) (P : M → Prop) : Prop := Ends 1000000000 (Sre.forMatch code x.cps groups p x.length false false) P
end Rx
end Mine
end
section
open PySem PySem.W PySem.Calls PyProof.Rows PySem.Sre
set_option maxRecDepth 100000
set_option linter.all false
set_option maxHeartbeats 4000000
namespace Mine
namespace Rx
/-- what a frame keeps, from the marks that count -/
def kq (pref : List (Option Nat)) (li : Int) (w : Bool) : Sre.Kept := { lastmark := (pref.length : Int) - 1, lastindex := li, whole := w, marks := if w then pref.toArray else #[] }
/-- the run from a state of which only the marks that count are known -/
noncomputable def EP (k : K) (N : Nat) (P : M → Prop) (B pc pos : Nat) (om : Bool) (pref : List (Option Nat)) (lp : Array Sre.Loop) (inn : Option Nat) (fs : List Sre.Frame) (ans : Option Bool) : Prop :=
  ∀ hd mk li sn, mk.size = N → mk.toList.take pref.length = pref → Ends B (ms k pc pos hd om mk ((pref.length : Int) - 1) li lp inn fs ans sn) P
theorem kp_kq {mk : Array (Option Nat)} {pref : List (Option Nat)} {li : Int} {w : Bool} (h : mk.toList.take pref.length = pref) : kp ((pref.length : Int) - 1) li w mk = kq pref li w := by
  unfold kp kq
  cases w with
  | false => rfl
  | true =>
    simp only [if_true]
    congr 1
    apply Array.ext'
    rw [Array.toList_extract, show ((pref.length : Int) - 1 + 1).toNat = pref.length by omega]
    simp [List.extract_eq_take_drop, h]
theorem take_le {mk : Array (Option Nat)} {pref : List (Option Nat)} (h : mk.toList.take pref.length = pref) : pref.length ≤ mk.size := by
  have := congrArg List.length h
  rw [List.length_take] at this
  have e : mk.toList.length = mk.size := Array.length_toList
  omega
theorem kq_size {pref : List (Option Nat)} {li : Int} {w : Bool} {N : Nat} (h : pref.length ≤ N) : (kq pref li w).marks.size ≤ N := by
  unfold kq
  cases w <;> simp
  exact h
/-- marks put back -/
theorem pb_kq {mk : Array (Option Nat)} {pref pref' : List (Option Nat)} {li : Int} {w : Bool} {N : Nat} (hs : mk.size = N) (h : mk.toList.take pref'.length = pref') (hp : pref'.take pref.length = pref ∨ (w = true ∧ pref.length ≤ N)) :
    (pb (kq pref li w) mk).size = N ∧ (pb (kq pref li w) mk).toList.take pref.length = pref := by
  cases w with
  | false =>
    rcases hp with hp | ⟨h, _⟩
    · refine ⟨hs, ?_⟩
      show mk.toList.take pref.length = pref
      have hl : pref.length ≤ pref'.length := by
        have := congrArg List.length hp
        rw [List.length_take] at this
        omega
      rw [← h, List.take_take, Nat.min_eq_left hl] at hp
      exact hp
    · cases h
  | true =>
    have hl : pref.length ≤ N := by
      rcases hp with hp | ⟨_, h⟩
      · have := congrArg List.length hp
        rw [List.length_take] at this
        have := take_le h
        omega
      · exact h
    have e : pb (kq pref li true) mk = pref.toArray ++ mk.extract pref.length mk.size := by
      unfold pb kq
      simp
    rw [e]
    refine ⟨by simp; omega, ?_⟩
    simp
section
variable {k : K} {N pc pos : Nat} {om : Bool} {pref : List (Option Nat)} {lp : Array Sre.Loop} {inn : Option Nat} {fs : List Sre.Frame} {P : M → Prop} {B : Nat}
theorem EP.le {B' : Nat} {ans : Option Bool} (h : B ≤ B') (q : EP k N P B pc pos om pref lp inn fs ans) : EP k N P B' pc pos om pref lp inn fs ans := fun hd mk li sn hs hm => (q hd mk li sn hs hm).le h
theorem wb (h : Nat.ble (wsum fs + 20) 16777216 = true) {n : Nat} (hn : n ≤ 18) : wsum fs + 1 + n ≤ 16777216 := by
  have := Nat.le_of_ble_eq_true h
  omega
theorem e_one {t : Nat} (h : (oneOp (k.code.getD pc 0) && decide (pc < k.code.size) && (pc + itemWidth k.code pc == t)) = true) (hp : pos < k.lim) (ha : Acc k.code pc (k.text.getD pos 0) true)
    (q : EP k N P B t (pos + 1) om pref lp inn fs none) : EP k N P (B + 1) pc pos om pref lp inn fs none := fun hd mk li sn hs hm => y_one h hp ha fun sn => q _ _ _ _ hs hm
theorem e_one_no (h : (oneOp (k.code.getD pc 0) && decide (pc < k.code.size)) = true) (ha : pos < k.lim → Acc k.code pc (k.text.getD pos 0) false)
    (q : EP k N P B pc pos om pref lp inn fs (some false)) : EP k N P (B + 1) pc pos om pref lp inn fs none := fun hd mk li sn hs hm => y_one_no h ha fun sn => q _ _ _ _ hs hm
theorem e_jump {t : Nat} (h : (k.code.getD pc 0 == 15 && decide (pc < k.code.size) && (pc + 1 + k.code.getD (pc + 1) 0 == t)) = true) (q : EP k N P B t pos om pref lp inn fs none) : EP k N P (B + 1) pc pos om pref lp inn fs none :=
  fun hd mk li sn hs hm => y_jump h fun sn => q _ _ _ _ hs hm
/-- a mark: what counts is lengthened, the places between are none -/
def setM (pref : List (Option Nat)) (i pos : Nat) : List (Option Nat) := if i < pref.length then pref.set i (some pos) else pref ++ List.replicate (i - pref.length) none ++ [some pos]
theorem clr_fold (pl : Nat) : ∀ (n : Nat) (a : Array (Option Nat)), ((List.range n).foldl (fun (a : Array (Option Nat)) (j : Nat) => if (j : Int) > (pl : Int) - 1 then a.setIfInBounds j none else a) a).size = a.size ∧
    ∀ j, ((List.range n).foldl (fun (a : Array (Option Nat)) (j : Nat) => if (j : Int) > (pl : Int) - 1 then a.setIfInBounds j none else a) a)[j]? = if pl ≤ j ∧ j < n ∧ j < a.size then some none else a[j]?
  | 0, a => ⟨rfl, fun j => by simp⟩
  | n + 1, a => by
    obtain ⟨h1, h2⟩ := clr_fold pl n a
    rw [List.range_succ, List.foldl_append, List.foldl_cons, List.foldl_nil]
    generalize (List.range n).foldl (fun (a : Array (Option Nat)) (j : Nat) => if (j : Int) > (pl : Int) - 1 then a.setIfInBounds j none else a) a = b at h1 h2
    split
    · rename_i hn
      refine ⟨by rw [Array.size_setIfInBounds, h1], fun j => ?_⟩
      rw [Array.getElem?_setIfInBounds, h2 j]
      by_cases hj : n = j
      · subst hj
        by_cases hb : n < b.size
        · rw [if_pos rfl, if_pos hb, if_pos ⟨by omega, by omega, by omega⟩]
        · rw [if_pos rfl, if_neg hb, if_neg (by omega)]
          simp; omega
      · rw [if_neg hj]
        by_cases c : pl ≤ j ∧ j < n ∧ j < a.size
        · rw [if_pos c, if_pos ⟨c.1, by omega, c.2.2⟩]
        · rw [if_neg c, if_neg (by omega)]
    · rename_i hn
      refine ⟨h1, fun j => ?_⟩
      rw [h2 j]
      by_cases c : pl ≤ j ∧ j < n ∧ j < a.size
      · rw [if_pos c, if_pos ⟨c.1, by omega, c.2.2⟩]
      · rw [if_neg c, if_neg (by omega)]
theorem mark_list {mk : Array (Option Nat)} {i pos : Nat} (hs : mk.size = N) (hm : mk.toList.take pref.length = pref) (hi : i < N) :
    ((clr mk ((pref.length : Int) - 1) i).setIfInBounds i (some pos)).size = N ∧ ((clr mk ((pref.length : Int) - 1) i).setIfInBounds i (some pos)).toList.take (setM pref i pos).length = setM pref i pos := by
  have hpl := take_le hm
  have hget : ∀ j, j < pref.length → mk[j]? = pref[j]? := fun j hj => by
    have := congrArg (fun l => l[j]?) hm
    simp only [List.getElem?_take, if_pos hj] at this
    simpa using this
  have hc : (clr mk ((pref.length : Int) - 1) i).size = N ∧ ∀ j, (clr mk ((pref.length : Int) - 1) i)[j]? = if pref.length ≤ j ∧ j < i then some none else mk[j]? := by
    unfold clr
    split
    · rename_i h
      refine ⟨hs, fun j => ?_⟩
      rw [if_neg (by omega)]
    · obtain ⟨h1, h2⟩ := clr_fold pref.length i mk
      refine ⟨h1.trans hs, fun j => ?_⟩
      rw [h2 j]
      by_cases c : pref.length ≤ j ∧ j < i
      · rw [if_pos c, if_pos ⟨c.1, c.2, by omega⟩]
      · rw [if_neg c, if_neg (by omega)]
  refine ⟨by rw [Array.size_setIfInBounds]; exact hc.1, ?_⟩
  have hsl : (setM pref i pos).length = max pref.length (i + 1) := by
    unfold setM
    split
    · rw [List.length_set]; omega
    · simp; omega
  apply List.ext_getElem?
  intro j
  rw [List.getElem?_take]
  by_cases hj : j < (setM pref i pos).length
  · rw [if_pos hj, Array.getElem?_toList, Array.getElem?_setIfInBounds, hc.1, hc.2 j]
    rw [hsl] at hj
    by_cases hlt : i < pref.length
    · rw [show setM pref i pos = pref.set i (some pos) by unfold setM; rw [if_pos hlt], List.getElem?_set]
      by_cases hij : i = j
      · subst hij
        rw [if_pos rfl, if_pos hi, if_pos rfl, if_pos hlt]
      · rw [if_neg hij, if_neg hij, if_neg (by omega), hget j (by omega)]
    · rw [show setM pref i pos = pref ++ List.replicate (i - pref.length) none ++ [some pos] by unfold setM; rw [if_neg hlt]]
      by_cases hij : i = j
      · subst hij
        rw [if_pos rfl, if_pos hi, List.getElem?_append_right (by simp; omega)]
        simp only [List.length_append, List.length_replicate]
        rw [show i - (pref.length + (i - pref.length)) = 0 by omega]
        rfl
      · rw [if_neg hij]
        by_cases hjp : j < pref.length
        · rw [if_neg (by omega), hget j hjp, List.append_assoc, List.getElem?_append_left hjp]
        · rw [if_pos (by omega), List.getElem?_append_left (by simp; omega), List.getElem?_append_right (by omega), List.getElem?_replicate, if_pos (by omega)]
  · rw [if_neg hj, List.getElem?_eq_none (by omega)]
theorem e_mark {i t : Nat} (h : (k.code.getD pc 0 == 17 && decide (pc < k.code.size) && (k.code.getD (pc + 1) 0 == i) && (pc + 2 == t) && decide (i < N)) = true) (q : EP k N P B t pos om (setM pref i pos) lp inn fs none) : EP k N P (B + 1) pc pos om pref lp inn fs none := fun hd mk li sn hs hm => by
  rw [Bool.and_eq_true, decide_eq_true_eq] at h
  obtain ⟨a, b⟩ := mark_list hs hm h.2
  refine y_mark h.1 rfl rfl rfl fun sn => ?_
  have hl : max ((pref.length : Int) - 1) (i : Nat) = ((setM pref i pos).length : Int) - 1 := by
    unfold setM
    split
    · rw [List.length_set]; omega
    · simp; omega
  rw [hl]
  exact q _ _ _ _ a b
theorem e_branch {a t : Nat} (h : (k.code.getD pc 0 == 7 && decide (pc < k.code.size) && (pc + 1 == a) && (k.code.getD a 0 != 0) && (pc + 2 == t)) = true) (hN : N ≤ 18) (hw : Nat.ble (wsum fs + 20) 16777216 = true)
    (q : ∀ li, EP k N P B t pos om pref lp inn (fBranch a pos om (kq pref li inn.isSome) :: fs) none) : EP k N P (B + 1) pc pos om pref lp inn fs none := fun hd mk li sn hs hm =>
  y_branch h (wb hw (by omega)) fun sn => by rw [kp_kq hm]; exact q _ _ _ _ _ hs hm
theorem e_next {a b p t : Nat} {o : Bool} {pref' : List (Option Nat)} {li : Int} {w : Bool} (h : ((a + k.code.getD a 0 == b) && (k.code.getD b 0 != 0) && (b + 1 == t)) = true) (hN : N ≤ 18) (hl : pref'.length ≤ N) (hw : Nat.ble (wsum fs + 20) 16777216 = true) (hp : pref.take pref'.length = pref' ∨ (w = true ∧ pref'.length ≤ N))
    (q : EP k N P B t p o pref' lp inn (fBranch b p o (kq pref' li w) :: fs) none) : EP k N P (B + 1) pc pos om pref lp inn (fBranch a p o (kq pref' li w) :: fs) (some false) := fun hd mk li' sn hs hm => by
  obtain ⟨a, b⟩ := pb_kq (li := li) hs hm hp
  exact y_next h (wb hw (Nat.le_trans (kq_size hl) hN)) fun sn => q _ _ _ _ a b
theorem e_next_end {a p : Nat} {o : Bool} {pref' : List (Option Nat)} {li : Int} {w : Bool} (h : (k.code.getD (a + k.code.getD a 0) 0 == 0) = true) (hN : N ≤ 18) (hl : pref'.length ≤ N) (hw : Nat.ble (wsum fs + 20) 16777216 = true) (hp : pref.take pref'.length = pref' ∨ (w = true ∧ pref'.length ≤ N))
    (q : EP k N P B a p o pref' lp inn fs (some false)) : EP k N P (B + 1) pc pos om pref lp inn (fBranch a p o (kq pref' li w) :: fs) (some false) := fun hd mk li' sn hs hm => by
  obtain ⟨a, b⟩ := pb_kq (li := li) hs hm hp
  exact y_next_end h (wb hw (Nat.le_trans (kq_size hl) hN)) fun sn => q _ _ _ _ a b
theorem e_rep {n least t : Nat} (h : (k.code.getD pc 0 == 24 && decide (pc < k.code.size) && (k.code.getD (pc + 2) 0 == least) && (k.code.getD (pc + 3) 0 == maxRepeat) && (pc + 1 + k.code.getD (pc + 1) 0 == t)) = true)
    (hl : k.lim ≤ maxRepeat) (hr : Ran k.code k.text (pc + 4) (k.lim - pos) pos n) (hn : least ≤ n) (hp : pos + n ≤ k.lim) (hN : N ≤ 18) (hw : Nat.ble (wsum fs + 20) 16777216 = true)
    (q : ∀ li, EP k N P B t (pos + n) om pref lp inn (fGive pc (pos + n) om n (kq pref li inn.isSome) :: fs) none) : EP k N P (B + 1) pc pos om pref lp inn fs none := fun hd mk li sn hs hm =>
  y_rep h hl hr hn hp (wb hw (by omega)) fun sn => by rw [kp_kq hm]; exact q _ _ _ _ _ hs hm
theorem e_rep_no {n least : Nat} (h : (k.code.getD pc 0 == 24 && decide (pc < k.code.size) && (k.code.getD (pc + 2) 0 == least) && (k.code.getD (pc + 3) 0 == maxRepeat)) = true)
    (hl : k.lim ≤ maxRepeat) (hr : Ran k.code k.text (pc + 4) (k.lim - pos) pos n) (hn : n < least)
    (q : EP k N P B pc pos om pref lp inn fs (some false)) : EP k N P (B + 1) pc pos om pref lp inn fs none := fun hd mk li sn hs hm => y_rep_no h hl hr hn fun sn => q _ _ _ _ hs hm
theorem e_give_end {c0 p : Nat} {o : Bool} {n : Int} {pref' : List (Option Nat)} {li : Int} {w : Bool} (hn : n - 1 < (k.code.getD (c0 + 2) 0 : Nat)) (hp : pref.take pref'.length = pref' ∨ (w = true ∧ pref'.length ≤ N)) (q : EP k N P B c0 p o pref' lp inn fs (some false)) :
    EP k N P (B + 1) pc pos om pref lp inn (fGive c0 p o n (kq pref' li w) :: fs) (some false) := fun hd mk li' sn hs hm => by
  obtain ⟨a, b⟩ := pb_kq (li := li) hs hm hp
  exact x_give_end hn fun sn => q _ _ _ _ a b
theorem e_give {c0 p t : Nat} {o : Bool} {n : Int} {pref' : List (Option Nat)} {li : Int} {w : Bool} (ht : (c0 + 1 + k.code.getD (c0 + 1) 0 == t) = true) (hn : ¬ n - 1 < (k.code.getD (c0 + 2) 0 : Nat)) (hN : N ≤ 18) (hl : pref'.length ≤ N) (hw : Nat.ble (wsum fs + 20) 16777216 = true) (hp : pref.take pref'.length = pref' ∨ (w = true ∧ pref'.length ≤ N))
    (q : EP k N P B t (p - 1) o pref' lp inn (fGive c0 (p - 1) o (n - 1) (kq pref' li w) :: fs) none) :
    EP k N P (B + 1) pc pos om pref lp inn (fGive c0 p o n (kq pref' li w) :: fs) (some false) := fun hd mk li' sn hs hm => by
  obtain ⟨a, b⟩ := pb_kq (li := li) hs hm hp
  rw [beq_iff_eq] at ht
  subst ht
  exact x_give hn (wb hw (Nat.le_trans (kq_size hl) hN)) fun sn => q _ _ _ _ a b
theorem e_lazy {t : Nat} (h : (k.code.getD pc 0 == 26 && decide (pc < k.code.size) && (k.code.getD (pc + 2) 0 == 0) && (pc + 1 + k.code.getD (pc + 1) 0 == t)) = true) (hp : pos ≤ k.lim) (hN : N ≤ 18) (hw : Nat.ble (wsum fs + 20) 16777216 = true)
    (q : ∀ li, EP k N P B t pos om pref lp inn (fTake pc pos om 0 (kq pref li inn.isSome) :: fs) none) : EP k N P (B + 1) pc pos om pref lp inn fs none := fun hd mk li sn hs hm => by
  simp only [Bool.and_eq_true, beq_iff_eq, decide_eq_true_eq] at h
  obtain ⟨⟨⟨h, hc⟩, h0⟩, rfl⟩ := h
  exact x_lazy h hc h0 hp (wb hw (by omega)) fun sn => by rw [kp_kq hm]; exact q _ _ _ _ _ hs hm
theorem e_take {c0 p t : Nat} {o : Bool} {n : Int} {pref' : List (Option Nat)} {li : Int} {w : Bool} (ht : (c0 + 1 + k.code.getD (c0 + 1) 0 == t && k.code.getD (c0 + 3) 0 == maxRepeat) = true) (hp' : p < k.lim) (ha : Acc k.code (c0 + 4) (k.text.getD p 0) true) (hN : N ≤ 18) (hl : pref'.length ≤ N) (hw : Nat.ble (wsum fs + 20) 16777216 = true)
    (hp : pref.take pref'.length = pref' ∨ (w = true ∧ pref'.length ≤ N)) (q : EP k N P B t (p + 1) o pref' lp inn (fTake c0 (p + 1) o (n + 1) (kq pref' li w) :: fs) none) :
    EP k N P (B + 1) pc pos om pref lp inn (fTake c0 p o n (kq pref' li w) :: fs) (some false) := fun hd mk li' sn hs hm => by
  obtain ⟨a, b⟩ := pb_kq (li := li) hs hm hp
  simp only [Bool.and_eq_true, beq_iff_eq] at ht
  obtain ⟨rfl, hm'⟩ := ht
  exact x_take hm' hp' ha (wb hw (Nat.le_trans (kq_size hl) hN)) fun sn => q _ _ _ _ a b
theorem e_take_end {c0 p : Nat} {o : Bool} {n : Int} {pref' : List (Option Nat)} {li : Int} {w : Bool} (hm' : (k.code.getD (c0 + 3) 0 == maxRepeat) = true) (hp' : k.lim ≤ p)
    (hp : pref.take pref'.length = pref' ∨ (w = true ∧ pref'.length ≤ N)) (q : EP k N P B c0 p o pref' lp inn fs (some false)) :
    EP k N P (B + 1) pc pos om pref lp inn (fTake c0 p o n (kq pref' li w) :: fs) (some false) := fun hd mk li' sn hs hm => by
  obtain ⟨a, b⟩ := pb_kq (li := li) hs hm hp
  exact x_take_end (beq_iff_eq.mp hm') hp' fun sn => q _ _ _ _ a b
theorem e_repeat {t : Nat} (h : (k.code.getD pc 0 == 23 && decide (pc < k.code.size) && (pc + 1 + k.code.getD (pc + 1) 0 == t)) = true) (hw : Nat.ble (wsum fs + 20) 16777216 = true)
    (q : EP k N P B t pos om pref (lp.push { pc := pc, outer := inn }) (some lp.size) (fClose pc pos om lp.size :: fs) none) : EP k N P (B + 1) pc pos om pref lp inn fs none := fun hd mk li sn hs hm =>
  x_repeat h (wb hw (n := 0) (by omega)) fun sn => q _ _ _ _ hs hm
theorem e_until_more {t u : Nat} (L : Sre.Loop) (h : (k.code.getD pc 0 == 18 && decide (pc < k.code.size) && (pc + 1 == t)) = true) (hl : (k.code.getD (L.pc + 2) 0 == 0 && L.pc + 4 == u) = true) (hc : 0 ≤ L.count + 1)
    (hm : ((decide (L.count + 1 < (k.code.getD (L.pc + 3) 0 : Nat)) || k.code.getD (L.pc + 3) 0 == maxRepeat) && L.began != some pos) = true) (hN : N ≤ 18) (hw : Nat.ble (wsum fs + 20) 16777216 = true)
    (q : ∀ li, EP k N P B u pos om pref (lp.push { L with count := L.count + 1, began := some pos }) (some lp.size) (fMore t pos om lp.size (L.count + 1) (kq pref li true) L.began :: fs) none) :
    EP k N P (B + 1) pc pos om pref (lp.push L) (some lp.size) fs none := fun hd mk li sn hs hm' => by
  simp only [Bool.and_eq_true, beq_iff_eq] at hl
  obtain ⟨hl, rfl⟩ := hl
  exact x_until_more L h hl hc hm (wb hw (by omega)) fun sn => by rw [kp_kq hm']; exact q _ _ _ _ _ hs hm'
theorem e_until_out {t : Nat} (L : Sre.Loop) (h : (k.code.getD pc 0 == 18 && decide (pc < k.code.size) && (pc + 1 == t)) = true) (hl : (k.code.getD (L.pc + 2) 0 == 0) = true) (hc : 0 ≤ L.count + 1)
    (hm : ((decide (L.count + 1 < (k.code.getD (L.pc + 3) 0 : Nat)) || k.code.getD (L.pc + 3) 0 == maxRepeat) && L.began != some pos) = false) (hw : Nat.ble (wsum fs + 20) 16777216 = true)
    (q : ∀ kt : Sre.Kept, EP k N P B t pos om pref (lp.push L) L.outer (fTail t pos om lp.size (L.count + 1) { kt with marks := #[] } :: fs) none) :
    EP k N P (B + 1) pc pos om pref (lp.push L) (some lp.size) fs none := fun hd mk li sn hs hm' =>
  x_until_out L h (beq_iff_eq.mp hl) hc hm (wb hw (n := 0) (by omega)) fun sn => q (kp ((pref.length : Int) - 1) li false mk) _ _ _ _ hs hm'
theorem e_more_no {u p : Nat} {o : Bool} {c : Int} {pref' : List (Option Nat)} {li : Int} {b : Option Nat} (L : Sre.Loop) (hl : pref'.length ≤ N) (hw : Nat.ble (wsum fs + 20) 16777216 = true)
    (q : ∀ kt : Sre.Kept, EP k N P B u p o pref' (lp.push { L with began := b, count := c - 1 }) L.outer (fTail u p o lp.size c { kt with marks := #[] } :: fs) none) :
    EP k N P (B + 1) pc pos om pref (lp.push L) inn (fMore u p o lp.size c (kq pref' li true) b :: fs) (some false) := fun hd mk li' sn hs hm => by
  obtain ⟨a, b⟩ := pb_kq (pref := pref') (li := li) (w := true) hs hm (.inr ⟨rfl, hl⟩)
  exact x_more_no L (wb hw (n := 0) (by omega)) fun sn => q (kp (kq pref' li true).lastmark (kq pref' li true).lastindex false #[]) _ _ _ _ a b
theorem e_tail_no {u p : Nat} {o : Bool} {c : Int} {kt : Sre.Kept} {i : Nat} (q : EP k N P B u p o pref lp (some i) fs (some false)) : EP k N P (B + 1) pc pos om pref lp inn (fTail u p o i c kt :: fs) (some false) := fun hd mk li sn hs hm =>
  x_tail_no fun sn => q _ _ _ _ hs hm
theorem e_close_no {u p : Nat} {o : Bool} (L : Sre.Loop) (q : EP k N P B u p o pref lp L.outer fs (some false)) : EP k N P (B + 1) pc pos om pref (lp.push L) inn (fClose u p o lp.size :: fs) (some false) := fun hd mk li sn hs hm =>
  x_close_no L fun sn => q _ _ _ _ hs hm
/-- not behind a sign -/
theorem e_not {t wd : Nat} (h : (k.code.getD pc 0 == 5 && decide (pc + 5 < k.code.size) && (k.code.getD (pc + 2) 0 == 1) && (pc + 1 + k.code.getD (pc + 1) 0 == t) && (k.code.getD (pc + 3) 0 == 16 && k.code.getD (pc + 3 + 1) 0 == wd) && (k.code.getD (pc + 5) 0 == 1)) = true) (hN : N ≤ 18) (hw : Nat.ble (wsum fs + 20) 16777216 = true) (hlim : pos ≤ k.lim)
    (q1 : pos = 0 ∨ k.text.getD (pos - 1) 0 ≠ wd → EP k N P B t pos om pref lp inn fs none) (q2 : ¬ (pos = 0 ∨ k.text.getD (pos - 1) 0 ≠ wd) → EP k N P B pc pos om pref lp inn fs (some false)) : EP k N P (B + 4) pc pos om pref lp inn fs none := fun hd mk li sn hs hm => by
  simp only [Bool.and_eq_true, beq_iff_eq, decide_eq_true_eq] at h
  obtain ⟨⟨⟨⟨⟨h0, h1⟩, h2⟩, h3⟩, h4⟩, h5⟩ := h
  have hA : ∀ c b, (c == wd) = b → Acc k.code (pc + 3) c b := fun c b e => acc_lit wd (by simp [h4.1, h4.2]) e
  have hone : oneOp (k.code.getD (pc + 3) 0) = true := by rw [h4.1]; rfl
  have hwid : itemWidth k.code (pc + 3) = 2 := by unfold itemWidth; rw [h4.1]; rfl
  by_cases hz : pos = 0
  · subst hz
    exact Ends.le (B := B + 1) (by omega) <| x_not_short (t := t) (by simp only [h0, h3, Bool.and_eq_true, beq_self_eq_true, decide_eq_true_eq, and_true, true_and]; omega) (by rw [h2]; omega) fun sn => q1 (.inl rfl) _ _ _ _ hs hm
  · refine x_not (by simp only [h0, Bool.and_eq_true, beq_self_eq_true, decide_eq_true_eq, and_true, true_and]; omega) (by rw [h2]; omega) (wb hw (by omega)) fun sn => ?_
    rw [h2]
    by_cases hc : k.text.getD (pos - 1) 0 = wd
    · refine x_one hone (by omega) (hA _ _ (by rw [hc]; simp)) (by omega) fun sn => ?_
      rw [hwid]
      refine x_success h5 (by omega) fun sn => x_not_yes fun sn => q2 (fun x => x.elim hz (fun y => y hc)) _ _ _ _ hs hm
    · refine Ends.le (B := B + 2) (by omega) <| x_one_no hone (fun _ => hA _ _ (by simpa using hc)) (by omega) fun sn => x_not_no (t := t) (by rw [h3]; simp) fun sn => ?_
      rw [kp_kq hm]
      obtain ⟨a, b⟩ := pb_kq (pref := pref) (li := li) (w := inn.isSome) hs hm (.inl (by simp))
      exact q1 (.inr hc) _ _ _ _ a b
/-- the end of a run that hits -/
theorem e_success' (h : (k.code.getD pc 0 == 1 && decide (pc < k.code.size)) = true) (hf : fs.all hands = true)
    (q : ∀ m : M, m.outcome = some .matched → m.start = k.start → m.handed = pos → m.marks.size = N → m.marks.toList.take pref.length = pref → m.lastmark = (pref.length : Int) - 1 → P m) (hb : wsum fs + 2 ≤ B) : EP k N P B pc pos om pref lp inn fs none := fun hd mk li sn hs hm =>
  Ends.le (B := 0 + wsum fs + 1 + 1) (by omega) <| y_success h fun sn => x_yes hf fun m a b c d e f => q m a b c (d ▸ hs) (d ▸ hm) e
theorem e_success (h : (k.code.getD pc 0 == 1 && decide (pc < k.code.size)) = true) (hf : fs.all hands = true)
    (q : ∀ m : M, m.outcome = some .matched → m.start = k.start → m.handed = pos → m.marks.size = N → m.marks.toList.take pref.length = pref → m.lastmark = (pref.length : Int) - 1 → P m) (hb : Nat.ble (wsum fs + 2) 1000 = true := by rfl) (hB : 1000 ≤ B := by omega) : EP k N P B pc pos om pref lp inn fs none := fun hd mk li sn hs hm =>
  Ends.le (B := 0 + wsum fs + 1 + 1) (by have := Nat.le_of_ble_eq_true hb; omega) <| y_success h fun sn => x_yes hf fun m a b c d e f => q m a b c (d ▸ hs) (d ▸ hm) e
theorem e_miss (q : ∀ m : M, Miss m → P m) : EP k N P (B + 1) pc pos om pref lp inn [] (some false) := fun hd mk li sn hs hm => x_over (q _ rfl)
end
/-- no group that counts is turned round -/
noncomputable def prefOk : List (Option Nat) → Prop
  | some b :: some e :: r => b ≤ e ∧ prefOk r
  | _ :: _ :: r => prefOk r
  | _ => True
theorem prefOk.get : ∀ {l : List (Option Nat)}, prefOk l → ∀ g b e, l[2 * g]? = some (some b) → l[2 * g + 1]? = some (some e) → b ≤ e
  | x :: y :: r, h, 0, b, e, h1, h2 => by
    simp at h1 h2
    subst h1; subst h2
    exact h.1
  | x :: y :: r, h, g + 1, b, e, h1, h2 => by
    have hr : prefOk r := by
      cases x <;> cases y <;> first | exact h | exact h.2
    refine prefOk.get hr g b e ?_ ?_
    · rw [show 2 * (g + 1) = 2 * g + 1 + 1 by omega] at h1; simpa using h1
    · rw [show 2 * (g + 1) + 1 = 2 * g + 1 + 1 + 1 by omega] at h2; simpa using h2
  | [x], _, g, _, _, _, h2 => by simp at h2
  | [], _, g, _, _, h1, _ => by simp at h1
theorem okSpans_of {m : M} {pref : List (Option Nat)} {groups : Nat} (hm : m.marks.toList.take pref.length = pref) (hl : m.lastmark = (pref.length : Int) - 1) (h : prefOk pref) : okSpans groups m = true := by
  unfold okSpans
  rw [Bool.not_eq_true', List.any_eq_false]
  intro g _
  split
  · rename_i b e hb he
    rw [Bool.and_eq_true, decide_eq_true_eq, decide_eq_true_eq]
    rintro ⟨h1, h2⟩
    rw [hl] at h1
    have hget : ∀ j v, j < pref.length → m.marks.getD j none = some v → pref[j]? = some (some v) := fun j v hj hv => by
      have := congrArg (fun l => l[j]?) hm
      simp only [List.getElem?_take, if_pos hj] at this
      rw [← this]
      rw [Array.getD_eq_getD_getElem?] at hv
      rw [Array.getElem?_toList]
      cases hq : m.marks[j]? with
      | none => rw [hq] at hv; cases hv
      | some w => rw [hq] at hv; simp at hv; rw [hv]
    have := prefOk.get h g b e (hget _ _ (by omega) hb) (hget _ _ (by omega) he)
    omega
  · simp
theorem Hit.of {m : M} {pref : List (Option Nat)} {groups st e : Nat} (h1 : m.outcome = some .matched) (h2 : m.start = st) (h3 : m.handed = e) (hm : m.marks.toList.take pref.length = pref) (hl : m.lastmark = (pref.length : Int) - 1) (h : prefOk pref) : Hit groups st e m :=
  ⟨h1, h2, h3, okSpans_of hm hl h⟩
/-- how a match begins -/
theorem mat_start {code : Array Nat} {groups : Nat} {x : Str} {p : Nat} {P : M → Prop} (pc0 least : Nat) (h : (code.getD 0 0 == 14 && code.getD 3 0 == least && (1 + code.getD 1 0 == pc0)) = true) (hp : p ≤ x.length)
    (q1 : least ≤ x.length - p → EP ⟨code, x.cps, x.length, p⟩ (2 * groups) P 1000000000 pc0 p true [] #[] none [] none) (q2 : x.length - p < least → ∀ m, Miss m → P m) : Mat code groups x p P := by
  simp only [Bool.and_eq_true, beq_iff_eq] at h
  obtain ⟨⟨h0, h1⟩, rfl⟩ := h
  have hh : header code = (least, 1 + code.getD 1 0) := by
    unfold header
    rw [h0, show ops[14]? = some Op.INFO from rfl, ← h1]
  unfold Mat
  have e : Sre.forMatch code x.cps groups p x.length false false = if (least != 0 && decide (p ≤ x.length) && decide (x.length - p < least)) = true then
      (ms ⟨code, x.cps, x.length, p⟩ (header code).2 p p true (Array.replicate (2 * groups) none) (-1) (-1) #[] none [] (some false) (if (header code).2 == 0 then {} else ({} : Sre.Seen).add 14))
      else (ms ⟨code, x.cps, x.length, p⟩ (header code).2 p p true (Array.replicate (2 * groups) none) (-1) (-1) #[] none [] none (if (header code).2 == 0 then {} else ({} : Sre.Seen).add 14)) := by
    unfold Sre.forMatch
    rw [show (header code).1 = least by rw [hh]]
    rfl
  rw [e]
  by_cases hl : x.length - p < least
  · rw [if_pos (by simp [hp, hl]; omega)]
    exact Ends.le (B := 0 + 1) (by decide) (x_over (q2 hl _ rfl))
  · rw [if_neg (by simp [hl]), show (header code).2 = 1 + code.getD 1 0 by rw [hh]]
    exact q1 (by omega) _ _ _ _ (by simp) (by simp)
end Rx
end Mine
end
section
open PySem PySem.W PySem.Calls PyProof.Rows PySem.Sre
set_option maxRecDepth 100000
set_option linter.all false
set_option maxHeartbeats 4000000
namespace Mine
namespace Rx
abbrev kx (code : Array Nat) (x : Str) (p : Nat) : K := ⟨code, x.cps, x.length, p⟩
theorem big_ok {x : Str} (h : x.length ≤ 1000) : x.length ≤ maxRepeat := Nat.le_trans h (by decide)
theorem ran_at {code : Array Nat} {x : Str} {i : Nat} (f : Nat → Bool) (ha : ∀ c ∈ sig, Acc code i c (f c)) (hx : Alph x) {p : Nat} (hp : p ≤ x.length) : Ran code x.cps i (x.length - p) p (cnt f (x.cps.toList.drop p)) :=
  ran_cnt f (fun c hc => ha c (hx c hc)) _ _ (by show p + (x.length - p) = x.length; omega)
theorem cnt_room {x : Str} {p : Nat} (f : Nat → Bool) (hp : p ≤ x.length) : p + cnt f (x.cps.toList.drop p) ≤ x.length := by
  have := cnt_le f (x.cps.toList.drop p)
  rw [List.length_drop, len_list] at this
  omega
/-- one sign or more of a kind -/
theorem mat_plus {code : Array Nat} {x : Str} {p : Nat} {P : M → Prop} (pc0 t : Nat) (f : Nat → Bool) (h : (code.getD 0 0 == 14 && code.getD 3 0 == 1 && (1 + code.getD 1 0 == pc0)) = true)
    (h1 : (code.getD pc0 0 == 24 && decide (pc0 < code.size) && (code.getD (pc0 + 2) 0 == 1) && (code.getD (pc0 + 3) 0 == maxRepeat) && (pc0 + 1 + code.getD (pc0 + 1) 0 == t)) = true) (h2 : (code.getD t 0 == 1 && decide (t < code.size)) = true)
    (ha : ∀ c ∈ sig, Acc code (pc0 + 4) c (f c)) (hx : Alph x) (hl : x.length ≤ 1000) (hp : p ≤ x.length)
    (q1 : 0 < cnt f (x.cps.toList.drop p) → ∀ m, Hit 0 p (p + cnt f (x.cps.toList.drop p)) m → P m) (q2 : cnt f (x.cps.toList.drop p) = 0 → ∀ m, Miss m → P m) : Mat code 0 x p P := by
  refine mat_start pc0 1 h hp (fun hr => ?_) fun hr => q2 ?_
  · by_cases hn : 0 < cnt f (x.cps.toList.drop p)
    · refine e_rep h1 (big_ok hl) (ran_at f ha hx hp) hn (cnt_room f hp) (by omega) rfl fun li => ?_
      exact e_success h2 rfl fun m a b c d e f => q1 hn m (Hit.of a b c e f trivial)
    · refine e_rep_no (least := 1) (by simp only [Bool.and_eq_true] at h1 ⊢; exact h1.1) (big_ok hl) (ran_at f ha hx hp) (by omega) (e_miss (q2 (by omega)))
  · rw [List.drop_eq_nil_of_le (by rw [len_list]; omega)]; rfl
theorem mat_ws {P' : Params} {x : Str} {p : Nat} {P : M → Prop} (hx : Alph x) (hl : x.length ≤ 1000) (hp : p ≤ x.length)
    (q1 : 0 < cnt isSp (x.cps.toList.drop p) → ∀ m, Hit 0 p (p + cnt isSp (x.cps.toList.drop p)) m → P m) (q2 : cnt isSp (x.cps.toList.drop p) = 0 → ∀ m, Miss m → P m) : Mat (cWs P') 0 x p P :=
  mat_plus 5 15 isSp (by kernel_rfl) (by kernel_rfl) (by kernel_rfl) (fun c hc => acc_spc hc (by kernel_rfl)) hx hl hp q1 q2
theorem mat_name {P' : Params} {x : Str} {p : Nat} {P : M → Prop} (hx : Alph x) (hl : x.length ≤ 1000) (hp : p ≤ x.length)
    (q1 : 0 < cnt isWd (x.cps.toList.drop p) → ∀ m, Hit 0 p (p + cnt isWd (x.cps.toList.drop p)) m → P m) (q2 : cnt isWd (x.cps.toList.drop p) = 0 → ∀ m, Miss m → P m) : Mat (cName P') 0 x p P :=
  mat_plus 5 15 isWd (by kernel_rfl) (by kernel_rfl) (by kernel_rfl) (fun c hc => acc_wrd hc (by kernel_rfl)) hx hl hp q1 q2
theorem mat_data {P' : Params} {x : Str} {p : Nat} {P : M → Prop} (hx : Alph x) (hl : x.length ≤ 1000) (hp : p ≤ x.length)
    (q1 : 0 < cnt (fun _ => true) (x.cps.toList.drop p) → ∀ m, Hit 0 p (p + cnt (fun _ => true) (x.cps.toList.drop p)) m → P m) (q2 : cnt (fun _ => true) (x.cps.toList.drop p) = 0 → ∀ m, Miss m → P m) : Mat (cData P') 0 x p P :=
  mat_plus 5 11 (fun _ => true) (by kernel_rfl) (by kernel_rfl) (by kernel_rfl) (fun c hc => acc_any (by kernel_rfl)) hx hl hp q1 q2
section
variable {code : Array Nat} {x : Str} {p N pc pos : Nat} {om : Bool} {pref : List (Option Nat)} {lp : Array Sre.Loop} {inn : Option Nat} {fs : List Sre.Frame} {P : M → Prop} {B : Nat}
theorem at_get {q c : Nat} (h : x.cps[q]? = some c) : q < x.length ∧ x.cps.getD q 0 = c := by
  refine ⟨(Array.getElem?_eq_some_iff.mp h).1, ?_⟩
  rw [Array.getD_eq_getD_getElem?, h]; rfl
theorem at_ne {q c : Nat} (h : x.cps[q]? ≠ some c) (hq : q < x.length) : x.cps.getD q 0 ≠ c := fun e => h (by
  have : x.cps[q]? = some (x.cps[q]'hq) := Array.getElem?_eq_getElem hq
  rw [Array.getD_eq_getD_getElem?, this] at e
  rw [this]; simp at e; rw [e])
/-- a written sign -/
theorem e_lit {t : Nat} (w : Nat) (h : (oneOp (code.getD pc 0) && decide (pc < code.size) && (pc + itemWidth code pc == t)) = true) (h' : (code.getD pc 0 == 16 && code.getD (pc + 1) 0 == w) = true) (hc : x.cps[pos]? = some w)
    (q : EP (kx code x p) N P B t (pos + 1) om pref lp inn fs none) : EP (kx code x p) N P (B + 1) pc pos om pref lp inn fs none :=
  e_one h (at_get hc).1 (acc_lit w h' (by show (x.cps.getD pos 0 == w) = true; rw [(at_get hc).2]; simp)) q
theorem e_lit_no (w : Nat) (h' : (code.getD pc 0 == 16 && code.getD (pc + 1) 0 == w && decide (pc < code.size)) = true) (hc : x.cps[pos]? ≠ some w)
    (q : EP (kx code x p) N P B pc pos om pref lp inn fs (some false)) : EP (kx code x p) N P (B + 1) pc pos om pref lp inn fs none := by
  rw [Bool.and_eq_true, decide_eq_true_eq] at h'
  refine e_one_no ?_ (fun hp => acc_lit w h'.1 (by have := at_ne hc hp; simpa using this)) q
  have := h'.1
  rw [Bool.and_eq_true, beq_iff_eq] at this
  show (oneOp (code.getD pc 0) && decide (pc < code.size)) = true
  rw [this.1]
  simpa using ⟨rfl, h'.2⟩
end
/-- the end of a printed thing -/
theorem mat_var {P' : Params} {x : Str} {p : Nat} {P : M → Prop} (hx : Alph x) (hl : x.length ≤ 1000) (hp : p ≤ x.length)
    (q1 : x.cps[p]? = some 45 → x.cps[p + 1]? = some 125 → x.cps[p + 2]? = some 125 → ∀ m, Hit 0 p (p + 3 + cnt isSp (x.cps.toList.drop (p + 3))) m → P m)
    (q2 : x.cps[p]? = some 125 → x.cps[p + 1]? = some 125 → ∀ m, Hit 0 p (p + 2) m → P m)
    (q3 : ¬ (x.cps[p]? = some 45 ∧ x.cps[p + 1]? = some 125 ∧ x.cps[p + 2]? = some 125) → ¬ (x.cps[p]? = some 125 ∧ x.cps[p + 1]? = some 125) → ∀ m, Miss m → P m) : Mat (cVar P') 0 x p P := by
  refine mat_start 10 2 (by kernel_rfl) hp (fun hr => ?_) fun hr => q3 ?_ ?_
  · refine e_branch (a := 11) (t := 12) (by kernel_rfl) (by omega) rfl fun li => ?_
    have tail : ¬ (x.cps[p]? = some 45 ∧ x.cps[p + 1]? = some 125 ∧ x.cps[p + 2]? = some 125) → ∀ pc pos B, EP (kx (cVar P') x p) 0 P (B + 2000) pc pos true [] #[] none [fBranch 11 p true (kq [] li false)] (some false) := fun h1 pc pos B => by
      refine e_next (b := 30) (t := 31) (by kernel_rfl) (by omega) (by simp) rfl (.inl rfl) ?_
      by_cases c1 : x.cps[p]? = some 125
      · refine e_lit (t := 33) 125 (by kernel_rfl) (by kernel_rfl) c1 ?_
        by_cases c2 : x.cps[p + 1]? = some 125
        · refine e_lit (t := 35) 125 (by kernel_rfl) (by kernel_rfl) c2 ?_
          exact e_jump (t := 38) (by kernel_rfl) (e_success (by kernel_rfl) rfl fun m a b c d e f => q2 c1 c2 m (Hit.of a b c e f trivial))
        · exact e_lit_no 125 (by kernel_rfl) c2 (e_next_end (by kernel_rfl) (by omega) (by simp) rfl (.inl rfl) (e_miss (q3 h1 fun h => c2 h.2)))
      · exact e_lit_no 125 (by kernel_rfl) c1 (e_next_end (by kernel_rfl) (by omega) (by simp) rfl (.inl rfl) (e_miss (q3 h1 fun h => c1 h.1)))
    by_cases c1 : x.cps[p]? = some 45
    · refine e_lit (t := 14) 45 (by kernel_rfl) (by kernel_rfl) c1 ?_
      by_cases c2 : x.cps[p + 1]? = some 125
      · refine e_lit (t := 16) 125 (by kernel_rfl) (by kernel_rfl) c2 ?_
        by_cases c3 : x.cps[p + 2]? = some 125
        · refine e_lit (t := 18) 125 (by kernel_rfl) (by kernel_rfl) c3 ?_
          have hp3 := (at_get c3).1
          refine e_rep (t := 28) (least := 0) (by kernel_rfl) (big_ok hl) (ran_at isSp (fun c hc => acc_spc hc (by kernel_rfl)) hx (by omega)) (Nat.zero_le _) (cnt_room isSp (by omega)) (by omega) rfl fun li => ?_
          exact e_jump (t := 38) (by kernel_rfl) (e_success (by kernel_rfl) rfl fun m a b c d e f => q1 c1 c2 c3 m (Hit.of a b c e f trivial))
        · exact e_lit_no 125 (by kernel_rfl) c3 (tail (fun h => c3 h.2.2) _ _ _)
      · exact e_lit_no 125 (by kernel_rfl) c2 (tail (fun h => c2 h.2.1) _ _ _)
    · exact e_lit_no 45 (by kernel_rfl) c1 (tail (fun h => c1 h.1) _ _ _)
  · intro h
    have := (at_get h.2.1).1
    omega
  · intro h
    have := (at_get h.2).1
    omega
end Rx
end Mine
end
section
open PySem PySem.W PySem.Calls PyProof.Rows PySem.Sre
set_option maxRecDepth 100000
set_option linter.all false
set_option maxHeartbeats 4000000
namespace Mine
namespace Rx
theorem mem_sig {x : Str} (hx : Alph x) {q c : Nat} (h : x.cps[q]? = some c) : c ∈ sig := hx c (by
  obtain ⟨h', rfl⟩ := Array.getElem?_eq_some_iff.mp h
  exact Array.mem_toList_iff.mpr (Array.getElem_mem h'))
theorem not_sig {x : Str} (hx : Alph x) {q c : Nat} (hc : c ∉ sig) : x.cps[q]? ≠ some c := fun h => hc (mem_sig hx h)
def opens (x : Str) (j : Nat) : Prop := x.cps[j]? = some 123 ∧ x.cps[j + 1]? = some 123
def signLen (x : Str) (s : Nat) : Nat := if x.cps[s + 2]? = some 45 ∨ x.cps[s + 2]? = some 43 then 1 else 0
def rootMarks (p s e : Nat) : List (Option Nat) := [some p, some s, none, none, none, none, some s, some e, some (s + 2), some e]
def RootHit (p s e : Nat) (m : M) : Prop := m.outcome = some .matched ∧ m.start = p ∧ m.handed = e ∧ m.marks.size = 18 ∧ m.marks.toList.take 10 = rootMarks p s e ∧ m.lastmark = 9
theorem root_at {P' : Params} {x : Str} {p : Nat} {P : M → Prop} {li : Int} (hx : Alph x) (hl : x.length ≤ 1000)
    (q1 : ∀ s, p ≤ s → opens x s → (∀ j, p ≤ j → j < s → ¬ opens x j) → ∀ m, RootHit p s (s + 2 + signLen x s) m → P m) (q2 : (∀ j, p ≤ j → ¬ opens x j) → ∀ m, Miss m → P m) :
    ∀ (d s : Nat) (n : Int), d = x.length - s → p ≤ s → s ≤ x.length → (∀ j, p ≤ j → j < s → ¬ opens x j) → EP (kx (cRoot P') x p) 18 P (100 * d + 2100) 13 s true [some p] #[] none [fTake 7 s true n (kq [some p] li false)] none
  | d, s, n, hd, hps, hs, hno => by
    have hbud : s < x.length → 100 * (x.length - (s + 1)) + 2100 ≤ 100 * d + 2000 := fun h => by omega
    generalize hD : 100 * d = D at hbud ⊢
    refine e_mark (i := 1) (t := 15) (by kernel_rfl) ?_
    show EP _ _ _ _ _ _ _ [some p, some s] _ _ _ _
    refine e_branch (a := 16) (t := 17) (by kernel_rfl) (by omega) rfl fun li2 => ?_
    -- on to the next place
    have more : ¬ opens x s → ∀ pc pos pref', pref'.take 1 = [some p] → EP (kx (cRoot P') x p) 18 P (D + 2001) pc pos true pref' #[] none [fTake 7 s true n (kq [some p] li false)] (some false) := fun hn pc pos pref' hp' => by
      have hno' : ∀ j, p ≤ j → j < s + 1 → ¬ opens x j := fun j h1 h2 => by
        rcases Nat.lt_or_ge j s with h | h
        · exact hno j h1 h
        · exact (show j = s by omega) ▸ hn
      rcases Nat.lt_or_ge s x.length with hlt | hge
      · refine e_take (t := 13) (by kernel_rfl) hlt (acc_any (by kernel_rfl)) (by omega) (by simp) rfl (.inl hp') ?_
        exact EP.le (hbud hlt) <| root_at hx hl q1 q2 (x.length - (s + 1)) (s + 1) (n + 1) rfl (by omega) (by omega) hno'
      · refine e_take_end (by kernel_rfl) hge (.inl hp') (e_miss (q2 fun j hj ho => ?_))
        have := (at_get ho.1).1
        exact hno' j hj (by omega) ho
    -- the alternatives of other signs
    have last : ∀ pc pos pref', pref'.take 2 = [some p, some s] → ¬ opens x s → EP (kx (cRoot P') x p) 18 P (D + 2030) pc pos true pref' #[] none [fBranch 100 s true (kq [some p, some s] li2 false), fTake 7 s true n (kq [some p] li false)] (some false) := fun pc pos pref' hp' hn => by
      refine e_next (b := 130) (t := 131) (by kernel_rfl) (by omega) (by simp) rfl (.inl hp') ?_
      have e4 : ∀ pc pos pref', pref'.take 2 = [some p, some s] → EP (kx (cRoot P') x p) 18 P (D + 2015) pc pos true pref' #[] none [fBranch 130 s true (kq [some p, some s] li2 false), fTake 7 s true n (kq [some p] li false)] (some false) := fun pc pos pref' hp' => by
        refine e_next (b := 160) (t := 161) (by kernel_rfl) (by omega) (by simp) rfl (.inl hp') ?_
        have e5 : ∀ pc pos pref', pref'.take 2 = [some p, some s] → EP (kx (cRoot P') x p) 18 P (D + 2005) pc pos true pref' #[] none [fBranch 160 s true (kq [some p, some s] li2 false), fTake 7 s true n (kq [some p] li false)] (some false) := fun pc pos pref' hp' =>
          e_next_end (by kernel_rfl) (by omega) (by simp) rfl (.inl hp') (EP.le (B := D + 2001) (by omega) (more hn _ _ _ rfl))
        refine e_mark (i := 14) (t := 163) (by kernel_rfl) ?_
        by_cases c1 : x.cps[s]? = some 123
        · exact e_lit (t := 165) 123 (by kernel_rfl) (by kernel_rfl) c1 (e_lit_no 37 (by kernel_rfl) (not_sig hx (by decide)) (EP.le (B := D + 2005) (by omega) (e5 _ _ _ rfl)))
        · exact e_lit_no 123 (by kernel_rfl) c1 (EP.le (B := D + 2005) (by omega) (e5 _ _ _ rfl))
      refine e_mark (i := 10) (t := 133) (by kernel_rfl) ?_
      by_cases c1 : x.cps[s]? = some 123
      · exact e_lit (t := 135) 123 (by kernel_rfl) (by kernel_rfl) c1 (e_lit_no 35 (by kernel_rfl) (not_sig hx (by decide)) (EP.le (B := D + 2015) (by omega) (e4 _ _ _ rfl)))
      · exact e_lit_no 123 (by kernel_rfl) c1 (EP.le (B := D + 2015) (by omega) (e4 _ _ _ rfl))
    -- the second alternative
    have second : ∀ pc pos pref', pref'.take 2 = [some p, some s] → EP (kx (cRoot P') x p) 18 P (D + 2060) pc pos true pref' #[] none [fBranch 16 s true (kq [some p, some s] li2 false), fTake 7 s true n (kq [some p] li false)] (some false) := fun pc pos pref' hp' => by
      refine e_next (b := 100) (t := 101) (by kernel_rfl) (by omega) (by simp) rfl (.inl hp') ?_
      refine e_mark (i := 6) (t := 103) (by kernel_rfl) ?_
      show EP _ _ _ _ _ _ _ [some p, some s, none, none, none, none, some s] _ _ _ _
      by_cases c1 : x.cps[s]? = some 123
      · refine e_lit (t := 105) 123 (by kernel_rfl) (by kernel_rfl) c1 ?_
        by_cases c2 : x.cps[s + 1]? = some 123
        · refine e_lit (t := 107) 123 (by kernel_rfl) (by kernel_rfl) c2 ?_
          refine e_mark (i := 8) (t := 109) (by kernel_rfl) ?_
          show EP _ _ _ _ _ _ _ [some p, some s, none, none, none, none, some s, none, some (s + 2)] _ _ _ _
          refine e_branch (a := 110) (t := 111) (by kernel_rfl) (by omega) rfl fun li3 => ?_
          have fin : ∀ e fs, e = s + 2 + signLen x s → fs.all hands = true → Nat.ble (wsum fs + 2) 1000 = true → EP (kx (cRoot P') x p) 18 P (D + 2030) 124 e true [some p, some s, none, none, none, none, some s, none, some (s + 2)] #[] none fs none := fun e fs he hf hb => by
            refine e_mark (i := 9) (t := 126) (by kernel_rfl) ?_
            show EP _ _ _ _ _ _ _ [some p, some s, none, none, none, none, some s, none, some (s + 2), some e] _ _ _ _
            refine e_mark (i := 7) (t := 128) (by kernel_rfl) ?_
            show EP _ _ _ _ _ _ _ [some p, some s, none, none, none, none, some s, some e, some (s + 2), some e] _ _ _ _
            exact e_jump (t := 191) (by kernel_rfl) (e_success (by kernel_rfl) hf (fun m a b c d g f => q1 s hps ⟨c1, c2⟩ hno m ⟨a, b, c.trans he, d, he ▸ g, f⟩) (hb := hb))
          by_cases d1 : x.cps[s + 2]? = some 45
          · refine e_lit (t := 113) 45 (by kernel_rfl) (by kernel_rfl) d1 ?_
            exact e_jump (t := 124) (by kernel_rfl) (EP.le (B := D + 2030) (by omega) <| fin _ _ (by unfold signLen; rw [if_pos (.inl d1)]) rfl rfl)
          · refine e_lit_no 45 (by kernel_rfl) d1 ?_
            refine e_next (b := 115) (t := 116) (by kernel_rfl) (by omega) (by simp) rfl (.inl rfl) ?_
            by_cases d2 : x.cps[s + 2]? = some 43
            · refine e_lit (t := 118) 43 (by kernel_rfl) (by kernel_rfl) d2 ?_
              exact e_jump (t := 124) (by kernel_rfl) (EP.le (B := D + 2030) (by omega) <| fin _ _ (by unfold signLen; rw [if_pos (.inr d2)]) rfl rfl)
            · refine e_lit_no 43 (by kernel_rfl) d2 ?_
              refine e_next (b := 120) (t := 121) (by kernel_rfl) (by omega) (by simp) rfl (.inl rfl) ?_
              exact e_jump (t := 124) (by kernel_rfl) (EP.le (B := D + 2030) (by omega) <| fin _ _ (by unfold signLen; rw [if_neg (fun h => h.elim d1 d2)]) rfl rfl)
        · exact e_lit_no 123 (by kernel_rfl) c2 (EP.le (B := D + 2030) (by omega) <| last _ _ _ rfl fun h => c2 h.2)
      · exact e_lit_no 123 (by kernel_rfl) c1 (EP.le (B := D + 2030) (by omega) <| last _ _ _ rfl fun h => c1 h.1)
    refine e_mark (i := 2) (t := 19) (by kernel_rfl) ?_
    by_cases c1 : x.cps[s]? = some 123
    · exact e_lit (t := 21) 123 (by kernel_rfl) (by kernel_rfl) c1 (e_lit_no 37 (by kernel_rfl) (not_sig hx (by decide)) (EP.le (B := D + 2060) (by omega) (second _ _ _ rfl)))
    · exact e_lit_no 123 (by kernel_rfl) c1 (EP.le (B := D + 2060) (by omega) (second _ _ _ rfl))
termination_by d => d
theorem mat_root {P' : Params} {x : Str} {p : Nat} {P : M → Prop} (hx : Alph x) (hl : x.length ≤ 1000) (hp : p ≤ x.length)
    (q1 : ∀ s, p ≤ s → opens x s → (∀ j, p ≤ j → j < s → ¬ opens x j) → ∀ m, RootHit p s (s + 2 + signLen x s) m → P m) (q2 : (∀ j, p ≤ j → ¬ opens x j) → ∀ m, Miss m → P m) : Mat (cRoot P') 9 x p P := by
  refine mat_start 5 2 (by kernel_rfl) hp (fun hr => ?_) fun hr => q2 fun j hj ho => by
    have := (at_get ho.2).1
    omega
  refine e_mark (i := 0) (t := 7) (by kernel_rfl) ?_
  show EP _ _ _ _ _ _ _ [some p] _ _ _ _
  refine e_lazy (t := 13) (by kernel_rfl) hp (by omega) rfl fun li => ?_
  exact EP.le (B := 100 * (x.length - p) + 2100) (by omega) <| root_at hx hl q1 q2 _ p 0 rfl (Nat.le_refl _) hp fun j h1 h2 => by omega
end Rx
end Mine
end
section
open PySem PySem.W PySem.Calls PyProof.Rows PySem.Sre
set_option maxRecDepth 100000
set_option linter.all false
set_option maxHeartbeats 4000000
namespace Mine
namespace Rx
theorem cnt_in (f : Nat → Bool) : ∀ (l : List Nat) (j : Nat), j < cnt f l → ∃ c, l[j]? = some c ∧ f c = true
  | [], j, h => by simp [cnt] at h
  | a :: l, j, h => by
    unfold cnt at h
    split at h
    · rename_i ha
      cases j with
      | zero => exact ⟨a, rfl, ha⟩
      | succ j => simpa using cnt_in f l j (by omega)
    · omega
theorem cnt_at (f : Nat → Bool) : ∀ (l : List Nat) (c : Nat), l[cnt f l]? = some c → f c = false
  | [], c, h => by simp at h
  | a :: l, c, h => by
    unfold cnt at h
    split at h
    · exact cnt_at f l c (by simpa using h)
    · rename_i ha
      simp at h
      subst h
      simpa using ha
theorem run_in {x : Str} {f : Nat → Bool} {p j : Nat} (h : j < cnt f (x.cps.toList.drop p)) : ∃ c, x.cps[p + j]? = some c ∧ f c = true := by
  obtain ⟨c, h1, h2⟩ := cnt_in f _ j h
  rw [List.getElem?_drop] at h1
  exact ⟨c, by simpa using h1, h2⟩
theorem run_at {x : Str} {f : Nat → Bool} {p c : Nat} (h : x.cps[p + cnt f (x.cps.toList.drop p)]? = some c) : f c = false := by
  refine cnt_at f (x.cps.toList.drop p) c ?_
  rw [List.getElem?_drop]
  simpa using h
def notQ (c : Nat) : Bool := c != 39
section
variable {P' : Params} {x : Str} {p : Nat} {P : M → Prop}
theorem acc_q (hx : Alph x) : ∀ c ∈ sig, Acc (cStr P') 22 c (notQ c) := fun c hc => acc_but 39 92 (by kernel_rfl) (by
  have : c ≠ 92 := fun e => absurd (e ▸ hc) (by decide)
  have h2 : (c == 92) = false := by simpa using this
  rw [h2, Bool.or_false]; rfl)
/-- no escape: the loop is left at once -/
theorem str_star {B pos N : Nat} {pref : List (Option Nat)} {fs : List Sre.Frame} (hx : Alph x) (hN : N ≤ 18) (hw : wsum fs + 60 ≤ 16777216) (hpl : pref.length ≤ N)
    (q : ∀ kt : Sre.Kept, EP (kx (cStr P') x p) N P B 52 pos true pref ((#[] : Array Sre.Loop).push { pc := 31, count := -1, outer := none }) none (fTail 52 pos true 0 0 { kt with marks := #[] } :: fClose 31 pos true 0 :: fs) none) :
    EP (kx (cStr P') x p) N P (B + 4) 31 pos true pref #[] none fs none := by
  refine e_repeat (t := 51) (by kernel_rfl) (by apply Nat.ble_eq_true_of_le; omega) ?_
  refine e_until_more (t := 52) (u := 35) { pc := 31, outer := none } (by kernel_rfl) (by kernel_rfl) (by decide) (by kernel_rfl) hN (by apply Nat.ble_eq_true_of_le; simp [wsum]; omega) fun li => ?_
  refine e_lit_no 92 (by kernel_rfl) (not_sig hx (by decide)) ?_
  exact e_more_no (c := 0) { pc := 31, count := 0, began := some pos, outer := none } hpl (by apply Nat.ble_eq_true_of_le; simp [wsum]; omega) q
theorem str_give {li li2 : Int} (hx : Alph x) (q : ∀ m, Miss m → P m) : ∀ (j : Nat), (∀ i, i < j → x.cps[p + 1 + i]? ≠ some 39) → ∀ pc pos pref, pref.take 3 = [some p, none, some (p + 1)] →
    EP (kx (cStr P') x p) 6 P (20 * j + 2000) pc pos true pref #[] none [fGive 18 (p + 1 + j) true j (kq [some p, none, some (p + 1)] li false), fBranch 13 p true (kq [some p] li2 false)] (some false)
  | 0, _, pc, pos, pref, hp => by
    refine EP.le (B := 2000) (by omega) ?_
    refine e_give_end (by rw [show (cStr P').getD (18 + 2) 0 = 0 by kernel_rfl]; decide) (.inl hp) ?_
    refine e_next (b := 58) (t := 59) (by kernel_rfl) (by omega) (by simp) rfl (.inl rfl) ?_
    exact e_lit_no 34 (by kernel_rfl) (not_sig hx (by decide)) (e_next_end (by kernel_rfl) (by omega) (by simp) rfl (.inl rfl) (e_miss q))
  | j + 1, hj, pc, pos, pref, hp => by
    refine EP.le (B := 20 * j + 2020) (by omega) ?_
    refine e_give (t := 31) (by kernel_rfl) (by rw [show (cStr P').getD (18 + 2) 0 = 0 by kernel_rfl]; show ¬ ((j + 1 : Nat) : Int) - 1 < 0; omega) (by omega) (by simp) rfl (.inl hp) ?_
    rw [show p + 1 + (j + 1) - 1 = p + 1 + j by omega, show ((j + 1 : Nat) : Int) - 1 = (j : Nat) by omega]
    refine str_star hx (by omega) (by simp [wsum, kq]) (by simp) fun kt => ?_
    refine e_mark (i := 3) (t := 54) (by kernel_rfl) ?_
    refine e_lit_no 39 (by kernel_rfl) (hj j (by omega)) ?_
    exact e_tail_no (e_close_no (lp := #[]) { pc := 31, count := -1, outer := none } (EP.le (B := 20 * j + 2000) (by omega) <| str_give hx q j (fun i hi => hj i (by omega)) _ _ _ rfl))
/-- a text in quotes -/
theorem mat_str (hx : Alph x) (hl : x.length ≤ 1000) (hp : p ≤ x.length)
    (q1 : x.cps[p]? = some 39 → x.cps[p + 1 + cnt notQ (x.cps.toList.drop (p + 1))]? = some 39 → ∀ m, Hit 3 p (p + 1 + cnt notQ (x.cps.toList.drop (p + 1)) + 1) m → P m)
    (q2 : ¬ (x.cps[p]? = some 39 ∧ x.cps[p + 1 + cnt notQ (x.cps.toList.drop (p + 1))]? = some 39) → ∀ m, Miss m → P m) : Mat (cStr P') 3 x p P := by
  refine mat_start 10 2 (by kernel_rfl) hp (fun hr => ?_) fun hr => q2 fun h => by
    have := (at_get h.2).1
    omega
  refine e_mark (i := 0) (t := 12) (by kernel_rfl) ?_
  show EP _ _ _ _ _ _ _ [some p] _ _ _ _
  refine e_branch (a := 13) (t := 14) (by kernel_rfl) (by omega) rfl fun li2 => ?_
  by_cases c1 : x.cps[p]? = some 39
  · refine e_lit (t := 16) 39 (by kernel_rfl) (by kernel_rfl) c1 ?_
    refine e_mark (i := 2) (t := 18) (by kernel_rfl) ?_
    show EP _ _ _ _ _ _ _ [some p, none, some (p + 1)] _ _ _ _
    have hp1 := (at_get c1).1
    refine e_rep (t := 31) (least := 0) (by kernel_rfl) (big_ok hl) (ran_at notQ (acc_q (P' := P') hx) hx (by omega)) (Nat.zero_le _) (cnt_room notQ (by omega)) (by omega) rfl fun li => ?_
    refine str_star hx (by omega) (by simp [wsum, kq]) (by simp) fun kt => ?_
    refine e_mark (i := 3) (t := 54) (by kernel_rfl) ?_
    show EP _ _ _ _ _ _ _ [some p, none, some (p + 1), some (p + 1 + cnt notQ (x.cps.toList.drop (p + 1)))] _ _ _ _
    by_cases c2 : x.cps[p + 1 + cnt notQ (x.cps.toList.drop (p + 1))]? = some 39
    · refine e_lit (t := 56) 39 (by kernel_rfl) (by kernel_rfl) c2 ?_
      refine e_jump (t := 104) (by kernel_rfl) (e_mark (i := 1) (t := 106) (by kernel_rfl) ?_)
      show EP _ _ _ _ _ _ _ [some p, some (p + 1 + cnt notQ (x.cps.toList.drop (p + 1)) + 1), some (p + 1), some (p + 1 + cnt notQ (x.cps.toList.drop (p + 1)))] _ _ _ _
      exact e_success (by kernel_rfl) rfl fun m a b c d e f => q1 c1 c2 m (Hit.of a b c e f ⟨by omega, by omega, trivial⟩)
    · refine e_lit_no 39 (by kernel_rfl) c2 ?_
      refine e_tail_no (e_close_no (lp := #[]) { pc := 31, count := -1, outer := none } ?_)
      have hroom := cnt_room (x := x) (p := p + 1) notQ (by omega)
      refine EP.le (B := 20 * cnt notQ (x.cps.toList.drop (p + 1)) + 2000) (by omega) <| str_give hx (q2 fun h => c2 h.2) _ (fun i hi hc => ?_) _ _ _ rfl
      obtain ⟨c, h1, h2⟩ := run_in hi
      rw [h1] at hc
      cases hc
      exact absurd h2 (by decide)
  · refine e_lit_no 39 (by kernel_rfl) c1 ?_
    refine e_next (b := 58) (t := 59) (by kernel_rfl) (by omega) (by simp) rfl (.inl rfl) ?_
    exact e_lit_no 34 (by kernel_rfl) (not_sig hx (by decide)) (e_next_end (by kernel_rfl) (by omega) (by simp) rfl (.inl rfl) (e_miss (q2 fun h => c1 h.1)))
end
end Rx
end Mine
end
section
open PySem PySem.W PySem.Calls PyProof.Rows PySem.Sre
set_option maxRecDepth 100000
set_option linter.all false
set_option maxHeartbeats 4000000
namespace Mine
namespace Rx
section
variable {k : K} {N pc pos : Nat} {om : Bool} {pref : List (Option Nat)} {lp : Array Sre.Loop} {inn : Option Nat} {fs : List Sre.Frame} {P : M → Prop} {B : Nat}
/-- at most one, and there is none -/
theorem e_opt {t : Nat} (h : (k.code.getD pc 0 == 24 && decide (pc < k.code.size) && (k.code.getD (pc + 2) 0 == 0) && (pc + 1 + k.code.getD (pc + 1) 0 == t)) = true)
    (hr : ∀ n, Ran k.code k.text (pc + 4) n pos 0) (hp : pos ≤ k.lim) (hN : N ≤ 18) (hw : Nat.ble (wsum fs + 20) 16777216 = true)
    (q : ∀ li, EP k N P B t pos om pref lp inn (fGive pc pos om 0 (kq pref li inn.isSome) :: fs) none) : EP k N P (B + 1) pc pos om pref lp inn fs none := fun hd mk li sn hs hm => by
  simp only [Bool.and_eq_true, beq_iff_eq, decide_eq_true_eq] at h
  obtain ⟨⟨⟨h, hc⟩, h0⟩, rfl⟩ := h
  exact x_rep (n := 0) h hc (by omega) (hr _) (by omega) (wb hw (by omega)) fun sn => by rw [kp_kq hm]; exact q _ _ _ _ _ hs hm
end
theorem ran_no95 {code : Array Nat} {x : Str} {i : Nat} (hx : Alph x) (h : (code.getD i 0 == 16 && code.getD (i + 1) 0 == 95) = true) (n q : Nat) : Ran code x.cps i n q 0 := by
  cases n with
  | zero => exact Ran.zero
  | succ n =>
    refine Ran.stop (acc_lit 95 h ?_)
    by_cases hq : q < x.length
    · have hg : x.cps[q]? = some (x.cps.getD q 0) := by rw [Array.getD_eq_getD_getElem?, Array.getElem?_eq_getElem hq]; rfl
      have := not_sig hx (q := q) (c := 95) (by decide)
      rw [hg] at this
      simpa using this
    · rw [Array.getD_eq_getD_getElem?, Array.getElem?_eq_none (by simpa [Str.length] using hq)]
      rfl
theorem bleL {fs : List Sre.Frame} {n m : Nat} (h : wsum fs + n ≤ m) : Nat.ble (wsum fs + n) m = true := Nat.ble_eq_true_of_le h
section
variable {P' : Params} {x : Str} {p : Nat} {P : M → Prop}
/-- a run of figures, one at a turn -/
theorem int_loop (hx : Alph x) (hl : x.length ≤ 1000) (f : Nat → Bool) (a b : Nat) (o d e u : Nat)
    (hU : ((cInt P').getD u 0 == 18 && decide (u < (cInt P').size) && (u + 1 == u + 1)) = true) (hL : ((cInt P').getD (o + 2) 0 == 0 && o + 4 == o + 4) = true) (hM : ((cInt P').getD (o + 3) 0 == maxRepeat) = true)
    (hA : ((cInt P').getD (o + 4) 0 == 17 && decide (o + 4 < (cInt P').size) && ((cInt P').getD (o + 4 + 1) 0 == a) && (o + 4 + 2 == o + 6) && decide (a < 12)) = true)
    (hO : ((cInt P').getD (o + 6) 0 == 24 && decide (o + 6 < (cInt P').size) && ((cInt P').getD (o + 6 + 2) 0 == 0) && (o + 6 + 1 + (cInt P').getD (o + 6 + 1) 0 == d)) = true) (hO' : ((cInt P').getD (o + 6 + 4) 0 == 16 && (cInt P').getD (o + 6 + 4 + 1) 0 == 95) = true)
    (hD : (oneOp ((cInt P').getD d 0) && decide (d < (cInt P').size) && (d + itemWidth (cInt P') d == e)) = true) (hD' : ∀ c ∈ sig, Acc (cInt P') d c (f c))
    (hB : ((cInt P').getD e 0 == 17 && decide (e < (cInt P').size) && ((cInt P').getD (e + 1) 0 == b) && (e + 2 == u) && decide (b < 12)) = true) (hb : b = a + 1) (ha8 : 8 ≤ a) (ha2 : a % 2 = 0) (ha12 : b < 12)
    (hJ : ((cInt P').getD (u + 1) 0 == 15 && decide (u + 1 < (cInt P').size) && (u + 1 + 1 + (cInt P').getD (u + 1 + 1) 0 == 151)) = true)
    (st : Nat) (hst : (kx (cInt P') x p).start = st) : ∀ (n q : Nat) (pref : List (Option Nat)) (c : Int) (bg : Option Nat) (fs : List Sre.Frame),
      n = cnt f (x.cps.toList.drop q) → q ≤ x.length → p ≤ q → bg ≠ some q → -1 ≤ c → fs.all hands = true → wsum fs + 60 * (n + 2) ≤ 1000000 →
      (pref = [some p] ∨ ∃ r s, r ≤ s ∧ pref = [some p] ++ List.replicate (a - 1) none ++ [some r, some s]) → (∀ m, Hit 6 p (q + n) m → P m) →
      EP (kx (cInt P') x p) 12 P (20 * n + 2000000) u q true pref ((#[] : Array Sre.Loop).push { pc := o, count := c, began := bg, outer := none }) (some 0) fs none
  | n, q, pref, c, bg, fs, hn, hq, hpq, hbg, hc, hf, hw, hpr, hit => by
    have hplen : pref.length ≤ 12 := by
      rcases hpr with rfl | ⟨r, s, _, rfl⟩
      · simp
      · simp; omega
    refine EP.le (B := 20 * (n - 1) + 2000000 + (if n = 0 then 0 else 20)) (by split <;> omega) ?_
    generalize hbud : 20 * (n - 1) + 2000000 + (if n = 0 then 0 else 20) = bud
    have hb1 : 1000600 ≤ bud := by rw [← hbud]; omega
    obtain ⟨bud', rfl⟩ : ∃ b', bud = b' + 20 := ⟨bud - 20, by omega⟩
    refine e_until_more (lp := #[]) (t := u + 1) (u := o + 4) { pc := o, count := c, began := bg, outer := none } hU hL (by show 0 ≤ c + 1; omega) ?_ (by omega) (bleL (by omega)) fun li => ?_
    · show ((decide (c + 1 < ((cInt P').getD (o + 3) 0 : Nat)) || (cInt P').getD (o + 3) 0 == maxRepeat) && bg != some q) = true
      rw [hM, Bool.or_true, Bool.true_and]
      simpa using hbg
    -- the marks of this turn
    have hset : ∀ v, ∃ tl, setM pref a v = [some p] ++ List.replicate (a - 1) none ++ [some v] ++ tl ∧ tl.length ≤ 1 := fun v => by
      rcases hpr with rfl | ⟨r, s, _, rfl⟩
      · refine ⟨[], ?_, by simp⟩
        unfold setM
        rw [if_neg (by simp; omega)]
        simp
      · refine ⟨[some s], ?_, by simp⟩
        unfold setM
        rw [if_pos (by simp; omega)]
        have hl0 : ([some p] ++ List.replicate (a - 1) (none : Option Nat)).length = a := by simp; omega
        generalize ([some p] ++ List.replicate (a - 1) (none : Option Nat)) = pre at hl0 ⊢
        subst hl0
        simp
    have hset2 : ∀ v w, setM (setM pref a v) b w = [some p] ++ List.replicate (a - 1) none ++ [some v, some w] := fun v w => by
      obtain ⟨tl, e1, htl⟩ := hset v
      rw [e1]
      have hl0 : ([some p] ++ List.replicate (a - 1) (none : Option Nat)).length = a := by simp; omega
      generalize ([some p] ++ List.replicate (a - 1) (none : Option Nat)) = pre at hl0 ⊢
      subst hl0; subst hb
      unfold setM
      match tl, htl with
      | [], _ => rw [if_neg (by simp)]; simp
      | [y], _ => rw [if_pos (by simp)]; simp
    refine e_mark (i := a) (t := o + 6) hA ?_
    refine e_opt (t := d) hO (fun n' => ran_no95 hx hO' n' q) hq (by omega) (bleL ?_) fun li2 => ?_
    · simp only [wsum, kq, if_true, List.size_toArray]; omega
    have hsl : (setM pref a q).length ≤ 12 := by
      obtain ⟨tl, e1, htl⟩ := hset q
      rw [e1]; simp; omega
    cases n with
    | zero =>
      have hno : q < x.length → Acc (cInt P') d (x.cps.getD q 0) false := fun hlt => by
        have hg : x.cps[q]? = some (x.cps.getD q 0) := by rw [Array.getD_eq_getD_getElem?, Array.getElem?_eq_getElem hlt]; rfl
        have h0 : f (x.cps.getD q 0) = false := run_at (p := q) (by rw [← hn]; simpa using hg)
        exact h0 ▸ hD' _ (mem_sig hx hg)
      refine e_one_no (by simp only [Bool.and_eq_true] at hD ⊢; exact hD.1) hno ?_
      refine e_give_end (by
        simp only [Bool.and_eq_true, beq_iff_eq] at hO
        show (0 : Int) - 1 < (((cInt P').getD (o + 6 + 2) 0 : Nat) : Int)
        rw [hO.1.2]; decide) (.inl (by simp)) ?_
      refine e_more_no (lp := #[]) (c := c + 1) { pc := o, count := c + 1, began := some q, outer := none } hplen (bleL (by omega)) fun kt => ?_
      refine e_jump (t := 151) hJ ?_
      refine e_mark (i := 1) (t := 153) (by kernel_rfl) ?_
      have hfin : ∃ r, setM pref 1 q = [some p, some q] ++ r ∧ prefOk r := by
        rcases hpr with rfl | ⟨r, s, hrs, rfl⟩
        · exact ⟨[], rfl, trivial⟩
        · refine ⟨List.replicate (a - 2) none ++ [some r, some s], ?_, ?_⟩
          · unfold setM
            rw [if_pos (by simp <;> omega)]
            obtain ⟨a', rfl⟩ : ∃ a', a = a' + 2 := ⟨a - 2, by omega⟩
            simp [List.replicate_succ]
          · have : ∀ n, prefOk (List.replicate (2 * n) none ++ [some r, some s]) := fun n => by
              induction n with
              | zero => exact ⟨hrs, trivial⟩
              | succ n ih => rw [show 2 * (n + 1) = 2 * n + 1 + 1 by omega, List.replicate_succ, List.replicate_succ]; exact ih
            have := this ((a - 2) / 2)
            rwa [show 2 * ((a - 2) / 2) = a - 2 by omega] at this
      obtain ⟨r, e1, hr⟩ := hfin
      rw [e1]
      refine EP.le (B := 1000500) (by omega) <| e_success' (hb := by show wsum fs + 1 + 0 + 2 ≤ 1000500; omega) (by kernel_rfl) (by simpa [hands] using hf) fun m a1 b1 c1 d1 e2 f1 => hit m (Hit.of a1 b1 (by simpa using c1) e2 f1 ⟨hpq, hr⟩)
    | succ n =>
      obtain ⟨cc, h1, h2⟩ := run_in (p := q) (f := f) (j := 0) (x := x) (by omega)
      rw [Nat.add_zero] at h1
      have hlt := (at_get h1).1
      refine e_one (t := e) hD hlt (by show Acc (cInt P') d (x.cps.getD q 0) true; rw [(at_get h1).2, ← h2]; exact hD' _ (mem_sig hx h1)) ?_
      refine e_mark (i := b) (t := u) hB ?_
      rw [hset2]
      have hdrop : x.cps.toList.drop q = cc :: x.cps.toList.drop (q + 1) := drop_at h1
      have hn' : n = cnt f (x.cps.toList.drop (q + 1)) := by
        rw [hdrop, cnt, if_pos h2] at hn
        omega
      refine EP.le (B := 20 * n + 2000000) (by rw [if_neg (by omega)] at hbud; omega) <| int_loop hx hl f a b o d e u hU hL hM hA hO hO' hD hD' hB hb ha8 ha2 ha12 hJ st hst n (q + 1) _ (c + 1) (some q) _ hn' (by omega) (by omega) (by simp) (by omega) (by simpa [hands] using hf) ?_ (.inr ⟨q, q + 1, by omega, rfl⟩) (by rw [show q + 1 + n = q + (n + 1) by omega]; exact hit)
      simp only [wsum, kq, if_true, List.size_toArray, Option.isSome_some]
      omega
/-- a letter that no text holds -/
theorem e_ign_no {code : Array Nat} {N pc pos : Nat} {om : Bool} {pref : List (Option Nat)} {lp : Array Sre.Loop} {inn : Option Nat} {fs : List Sre.Frame} {B : Nat} (w : Nat) (hx : Alph x) (hw : w ∉ sig) (h : (code.getD pc 0 == 40 && code.getD (pc + 1) 0 == w && decide (pc < code.size)) = true)
    (q : EP (kx code x p) N P B pc pos om pref lp inn fs (some false)) : EP (kx code x p) N P (B + 1) pc pos om pref lp inn fs none := by
  rw [Bool.and_eq_true, decide_eq_true_eq] at h
  refine e_one_no ?_ (fun hp => ?_) q
  · have := h.1
    rw [Bool.and_eq_true, beq_iff_eq] at this
    show (oneOp (code.getD pc 0) && decide (pc < code.size)) = true
    rw [this.1]
    simpa using ⟨rfl, h.2⟩
  · have hp' : pos < x.length := hp
    have hg : x.cps[pos]? = some (x.cps.getD pos 0) := by rw [Array.getD_eq_getD_getElem?, Array.getElem?_eq_getElem hp']; rfl
    have hm := mem_sig hx hg
    refine acc_ign w h.1 ?_
    show (lowerUni (x.cps.getD pos 0) == w) = false
    rw [u_low _ hm]
    exact beq_false_of_ne fun e => hw (e ▸ hm)
theorem mat_int (hx : Alph x) (hl : x.length ≤ 1000) (hp : p ≤ x.length)
    (q1 : x.cps[p]? = some 49 → ∀ m, Hit 6 p (p + 1 + cnt isDg (x.cps.toList.drop (p + 1))) m → P m)
    (q2 : x.cps[p]? = some 48 → ∀ m, Hit 6 p (p + 1 + cnt (· == 48) (x.cps.toList.drop (p + 1))) m → P m)
    (q3 : x.cps[p]? ≠ some 49 → x.cps[p]? ≠ some 48 → ∀ m, Miss m → P m) : Mat (cInt P') 6 x p P := by
  refine mat_start 5 1 (by kernel_rfl) hp (fun hr => ?_) fun hr => q3 (fun h => ?_) (fun h => ?_)
  rotate_left
  · have := (at_get h).1
    omega
  · have := (at_get h).1
    omega
  refine e_mark (i := 0) (t := 7) (by kernel_rfl) ?_
  show EP _ _ _ _ _ _ _ [some p] _ _ _ _
  refine e_branch (a := 8) (t := 9) (by kernel_rfl) (by omega) rfl fun li => ?_
  have hlen := fun n => cnt_room (x := x) (p := p + 1) n
  -- nought
  have a5 : x.cps[p]? ≠ some 49 → ∀ pc pos, EP (kx (cInt P') x p) 12 P 3000000 pc pos true [some p] #[] none [fBranch 97 p true (kq [some p] li false)] (some false) := fun hn pc pos => by
    refine e_next (b := 127) (t := 128) (by kernel_rfl) (by omega) (by simp) rfl (.inl rfl) ?_
    by_cases c0 : x.cps[p]? = some 48
    · refine e_lit (t := 130) 48 (by kernel_rfl) (by kernel_rfl) c0 ?_
      refine e_repeat (t := 147) (by kernel_rfl) rfl ?_
      have hp1 := (at_get c0).1
      have hc := hlen (· == 48) (by omega)
      refine EP.le (B := 20 * cnt (· == 48) (x.cps.toList.drop (p + 1)) + 2000000) (by omega) <| int_loop hx hl (· == 48) 10 11 130 143 145 147 (by kernel_rfl) (by kernel_rfl) (by kernel_rfl) (by kernel_rfl) (by kernel_rfl) (by kernel_rfl) (by kernel_rfl) (fun c _ => acc_lit 48 (by kernel_rfl) rfl) (by kernel_rfl) rfl (by omega) rfl (by omega) (by kernel_rfl) p rfl _ (p + 1) [some p] _ _ _ rfl (by omega) (by omega) (by simp) (by decide) rfl ?_ (.inl rfl) (q2 c0)
      simp [wsum, kq]; omega
    · exact e_lit_no 48 (by kernel_rfl) c0 (e_next_end (by kernel_rfl) (by omega) (by simp) rfl (.inl rfl) (e_miss (q3 hn c0)))
  -- figures
  have a4 : ∀ pc pos, EP (kx (cInt P') x p) 12 P 3000100 pc pos true [some p] #[] none [fBranch 66 p true (kq [some p] li false)] (some false) := fun pc pos => by
    refine e_next (b := 97) (t := 98) (by kernel_rfl) (by omega) (by simp) rfl (.inl rfl) ?_
    by_cases c0 : x.cps[p]? = some 49
    · refine e_one (t := 104) (by kernel_rfl) (at_get c0).1 (acc_rng 49 57 (by kernel_rfl) (by show (decide (49 ≤ x.cps.getD p 0) && decide (x.cps.getD p 0 ≤ 57)) = true; rw [(at_get c0).2]; rfl)) ?_
      refine e_repeat (t := 124) (by kernel_rfl) rfl ?_
      have hp1 := (at_get c0).1
      have hc := hlen isDg (by omega)
      refine EP.le (B := 20 * cnt isDg (x.cps.toList.drop (p + 1)) + 2000000) (by omega) <| int_loop hx hl isDg 8 9 104 117 122 124 (by kernel_rfl) (by kernel_rfl) (by kernel_rfl) (by kernel_rfl) (by kernel_rfl) (by kernel_rfl) (by kernel_rfl) (fun c hc => acc_dig hc (by kernel_rfl)) (by kernel_rfl) rfl (by omega) rfl (by omega) (by kernel_rfl) p rfl _ (p + 1) [some p] _ _ _ rfl (by omega) (by omega) (by simp) (by decide) rfl ?_ (.inl rfl) (q1 c0)
      simp [wsum, kq]; omega
    · refine e_one_no (by kernel_rfl) (fun hlt => ?_) (EP.le (B := 3000000) (by omega) (a5 c0 _ _))
      have hlt' : p < x.length := hlt
      have hg : x.cps[p]? = some (x.cps.getD p 0) := by rw [Array.getD_eq_getD_getElem?, Array.getElem?_eq_getElem hlt']; rfl
      have hm := mem_sig hx hg
      refine acc_rng 49 57 (by kernel_rfl) ?_
      show (decide (49 ≤ x.cps.getD p 0) && decide (x.cps.getD p 0 ≤ 57)) = false
      rw [hg] at c0
      generalize x.cps.getD p 0 = c at hm c0
      have : ∀ c ∈ sig, (decide (49 ≤ c) && decide (c ≤ 57)) = (c == 49) := by decide
      rw [this c hm]
      simpa using c0
  have a3 : ∀ pc pos, EP (kx (cInt P') x p) 12 P 3000200 pc pos true [some p] #[] none [fBranch 37 p true (kq [some p] li false)] (some false) := fun pc pos => by
    refine e_next (b := 66) (t := 67) (by kernel_rfl) (by omega) (by simp) rfl (.inl rfl) ?_
    by_cases c0 : x.cps[p]? = some 48
    · exact e_lit (t := 69) 48 (by kernel_rfl) (by kernel_rfl) c0 (e_ign_no 120 hx (by decide) (by kernel_rfl) (EP.le (B := 3000100) (by omega) (a4 _ _)))
    · exact e_lit_no 48 (by kernel_rfl) c0 (EP.le (B := 3000100) (by omega) (a4 _ _))
  have a2 : ∀ pc pos, EP (kx (cInt P') x p) 12 P 3000300 pc pos true [some p] #[] none [fBranch 8 p true (kq [some p] li false)] (some false) := fun pc pos => by
    refine e_next (b := 37) (t := 38) (by kernel_rfl) (by omega) (by simp) rfl (.inl rfl) ?_
    by_cases c0 : x.cps[p]? = some 48
    · exact e_lit (t := 40) 48 (by kernel_rfl) (by kernel_rfl) c0 (e_ign_no 111 hx (by decide) (by kernel_rfl) (EP.le (B := 3000200) (by omega) (a3 _ _)))
    · exact e_lit_no 48 (by kernel_rfl) c0 (EP.le (B := 3000200) (by omega) (a3 _ _))
  by_cases c0 : x.cps[p]? = some 48
  · exact e_lit (t := 11) 48 (by kernel_rfl) (by kernel_rfl) c0 (e_ign_no 98 hx (by decide) (by kernel_rfl) (EP.le (B := 3000300) (by omega) (a2 _ _)))
  · exact e_lit_no 48 (by kernel_rfl) c0 (EP.le (B := 3000300) (by omega) (a2 _ _))
end
end Rx
end Mine
end
section
open PySem PySem.W PySem.Calls PyProof.Rows PySem.Sre
set_option maxRecDepth 100000
set_option linter.all false
set_option maxHeartbeats 4000000
namespace Mine
namespace Rx
section
variable {k : K} {N pc pos : Nat} {om : Bool} {pref : List (Option Nat)} {lp : Array Sre.Loop} {inn : Option Nat} {fs : List Sre.Frame} {P : M → Prop} {B : Nat}
theorem until_eq' {hd : Nat} {mk : Array (Option Nat)} {lm li : Int} {sn : Sre.Seen} (i : Nat) (L : Sre.Loop) (hL : lp.getD i { pc := 0, outer := none } = L) (hl : k.code.getD (L.pc + 2) 0 = 0) (hc : 0 ≤ L.count + 1) (hm : ((decide (L.count + 1 < (k.code.getD (L.pc + 3) 0 : Nat)) || k.code.getD (L.pc + 3) 0 == maxRepeat) && L.began != some pos) = false) (hw : wsum fs + 1 ≤ 16777216) :
    (ms k pc pos hd om mk lm li lp (some i) fs none sn).until_ true = ms k pc pos pos om mk lm li lp L.outer (fTail pc pos om i (L.count + 1) (kp lm li false mk) :: fs) none sn := by
  have e : (ms k pc pos hd om mk lm li lp (some i) fs none sn).loopAt i = L := hL
  have h0 : (ms k pc pos hd om mk lm li lp (some i) fs none sn).until_ true = (fun l : Sre.Loop => if l.count + 1 < ((k.code.getD (l.pc + 2) 0 : Nat) : Int) then (ms k pc pos hd om mk lm li lp (some i) fs none sn).round .maxBelow i (l.count + 1) false {} else
    if ((decide (l.count + 1 < (k.code.getD (l.pc + 3) 0 : Nat)) || k.code.getD (l.pc + 3) 0 == maxRepeat) && l.began != some pos) = true then
      (ms k pc pos hd om mk lm li lp (some i) fs none sn).round .maxMore i (l.count + 1) true (kp lm li true mk)
    else (ms k pc pos hd om mk lm li lp (some i) fs none sn).afterLoop .maxTail i (l.count + 1) fun _ => false) ((ms k pc pos hd om mk lm li lp (some i) fs none sn).loopAt i) := rfl
  rw [h0, e]
  show (if L.count + 1 < ((k.code.getD (L.pc + 2) 0 : Nat) : Int) then _ else if _ then _ else _) = _
  rw [if_neg (by rw [hl]; omega), if_neg (by rw [hm]; exact Bool.false_ne_true)]
  have h1 : (ms k pc pos hd om mk lm li lp (some i) fs none sn).afterLoop .maxTail i (L.count + 1) (fun _ => false) = (fun l : Sre.Loop => (ms k pc pos hd om mk lm li lp l.outer fs none sn).attempt (fTail pc pos om i (L.count + 1) (kp lm li false mk)) pc pos om) ((ms k pc pos hd om mk lm li lp (some i) fs none sn).loopAt i) := rfl
  rw [h1, e]
  exact attempt_eq (by simpa [kp_false] using hw)
theorem e_until_out' {t : Nat} (i : Nat) (L : Sre.Loop) (hL : lp.getD i { pc := 0, outer := none } = L) (h : (k.code.getD pc 0 == 18 && decide (pc < k.code.size) && (pc + 1 == t)) = true) (hl : (k.code.getD (L.pc + 2) 0 == 0) = true) (hc : 0 ≤ L.count + 1)
    (hm : ((decide (L.count + 1 < (k.code.getD (L.pc + 3) 0 : Nat)) || k.code.getD (L.pc + 3) 0 == maxRepeat) && L.began != some pos) = false) (hw : wsum fs + 1 ≤ 16777216)
    (q : ∀ kt : Sre.Kept, EP k N P B t pos om pref lp L.outer (fTail t pos om i (L.count + 1) { kt with marks := #[] } :: fs) none) : EP k N P (B + 1) pc pos om pref lp (some i) fs none := fun hd mk li sn hs hm' => by
  simp only [Bool.and_eq_true, beq_iff_eq, decide_eq_true_eq] at h
  obtain ⟨⟨h, hs'⟩, rfl⟩ := h
  refine Ends.eq rfl (step_exec hs') ?_
  have hw' : (ms k pc pos hd om mk ((pref.length : Int) - 1) li lp (some i) fs none sn).word 0 = k.code.getD pc 0 := rfl
  unfold M.exec
  rw [hw', h]
  show Ends B ((ms k (pc + 1) pos hd om mk ((pref.length : Int) - 1) li lp (some i) fs none (sn.add 18)).until_ true) P
  rw [until_eq' i L hL (beq_iff_eq.mp hl) hc hm hw]
  exact q (kp ((pref.length : Int) - 1) li false mk) _ _ _ _ hs hm'
/-- all that was taken is given back, and nothing fits -/
theorem give_all {c0 t L0 b n T : Nat} {pref' : List (Option Nat)} {li : Int} {w : Bool} (ht : (c0 + 1 + k.code.getD (c0 + 1) 0 == t) = true) (h0 : (k.code.getD (c0 + 2) 0 == L0) = true) (hN : N ≤ 18) (hl : pref'.length ≤ N) (hw : Nat.ble (wsum fs + 20) 16777216 = true)
    (tail : ∀ j Bj, L0 ≤ j → j < n → (∀ pc pos pref'', pref''.take pref'.length = pref' → EP k N P Bj pc pos om pref'' lp inn (fGive c0 (b + j) om j (kq pref' li w) :: fs) (some false)) →
      EP k N P (Bj + T) t (b + j) om pref' lp inn (fGive c0 (b + j) om j (kq pref' li w) :: fs) none)
    (q : ∀ p', EP k N P B c0 p' om pref' lp inn fs (some false)) : ∀ j, j ≤ n → ∀ pc pos pref'', pref''.take pref'.length = pref' → EP k N P (B + 1 + j * (T + 1)) pc pos om pref'' lp inn (fGive c0 (b + j) om j (kq pref' li w) :: fs) (some false)
  | 0, hj, pc, pos, pref'', hp => by
    rw [beq_iff_eq] at h0
    exact EP.le (B := B + 1) (Nat.le_add_right _ _) <| e_give_end (by omega) (.inl hp) (q _)
  | j + 1, hj, pc, pos, pref'', hp => by
    have h0' := beq_iff_eq.mp h0
    by_cases hlt : j < L0
    · exact EP.le (B := B + 1) (Nat.le_add_right _ _) <| e_give_end (by omega) (.inl hp) (q _)
    · refine EP.le (B := B + 1 + j * (T + 1) + T + 1) (by rw [Nat.succ_mul]; omega) <| e_give ht (by omega) hN hl hw (.inl hp) ?_
      rw [show b + (j + 1) - 1 = b + j by omega, show ((j + 1 : Nat) : Int) - 1 = (j : Nat) by omega]
      exact tail j _ (by omega) (by omega) (give_all ht h0 hN hl hw tail q j (by omega))
end
section
variable {P' : Params} {x : Str} {p : Nat} {P : M → Prop}
/-- figures with bars between them: there is no bar -/
theorem f_star (B0 : Nat) {B : Nat} (hB : B0 + 2100 ≤ B) (hx : Alph x) (hl : x.length ≤ 1000) (o a : Nat) (hR : ((cFloat P').getD o 0 == 23 && decide (o < (cFloat P').size) && (o + 1 + (cFloat P').getD (o + 1) 0 == o + 20)) = true)
    (hU : ((cFloat P').getD (o + 20) 0 == 18 && decide (o + 20 < (cFloat P').size) && (o + 20 + 1 == o + 21)) = true) (hL : ((cFloat P').getD (o + 2) 0 == 0 && o + 4 == o + 4) = true) (hM : ((cFloat P').getD (o + 3) 0 == maxRepeat) = true)
    (hA : ((cFloat P').getD (o + 4) 0 == 17 && decide (o + 4 < (cFloat P').size) && ((cFloat P').getD (o + 4 + 1) 0 == a) && (o + 4 + 2 == o + 6) && decide (a < 12)) = true)
    (hO : ((cFloat P').getD (o + 6) 0 == 24 && decide (o + 6 < (cFloat P').size) && ((cFloat P').getD (o + 6 + 2) 0 == 1) && ((cFloat P').getD (o + 6 + 3) 0 == maxRepeat) && (o + 6 + 1 + (cFloat P').getD (o + 6 + 1) 0 == o + 16)) = true)
    (hD : ∀ c ∈ sig, Acc (cFloat P') (o + 6 + 4) c (isDg c)) (hB' : ((cFloat P').getD (o + 16) 0 == 16 && (cFloat P').getD (o + 16 + 1) 0 == 95 && decide (o + 16 < (cFloat P').size)) = true)
    {pos : Nat} {pref : List (Option Nat)} {lp : Array Sre.Loop} {inn : Option Nat} {fs : List Sre.Frame} (hpos : pos ≤ x.length) (hpl : pref.length ≤ 12) (ha : pref.length ≤ a) (hw : wsum fs + 200 ≤ 16777216)
    (q : ∀ kt : Sre.Kept, EP (kx (cFloat P') x p) 12 P B0 (o + 21) pos true pref (lp.push { pc := o, count := -1, outer := inn }) inn (fTail (o + 21) pos true lp.size 0 { kt with marks := #[] } :: fClose o pos true lp.size :: fs) none) :
    EP (kx (cFloat P') x p) 12 P B o pos true pref lp inn fs none := by
  refine EP.le hB ?_
  refine e_repeat (t := o + 20) hR (by apply Nat.ble_eq_true_of_le; omega) ?_
  refine e_until_more (t := o + 21) (u := o + 4) { pc := o, outer := inn } hU hL (by show (0 : Int) ≤ -1 + 1; omega) ?_ (by omega) (by apply Nat.ble_eq_true_of_le; simp [wsum]; omega) fun li => ?_
  · show ((decide ((-1 : Int) + 1 < ((cFloat P').getD (o + 3) 0 : Nat)) || (cFloat P').getD (o + 3) 0 == maxRepeat) && (none : Option Nat) != some pos) = true
    rw [hM, Bool.or_true]; rfl
  have ha12 : a < 12 := by simp only [Bool.and_eq_true, decide_eq_true_eq] at hA; exact hA.2
  have hset : (setM pref a pos).take pref.length = pref ∧ (setM pref a pos).length ≤ 12 := by
    unfold setM
    rw [if_neg (by omega)]
    refine ⟨by simp, by simp; omega⟩
  have back : ∀ pc pos' pref', pref'.take pref.length = pref → EP (kx (cFloat P') x p) 12 P (B0 + 1) pc pos' true pref' (lp.push { pc := o, count := -1 + 1, began := some pos, outer := inn }) (some lp.size) (fMore (o + 21) pos true lp.size (-1 + 1) (kq pref li true) none :: fClose o pos true lp.size :: fs) (some false) := fun pc pos' pref' hp =>
    e_more_no (c := -1 + 1) { pc := o, count := -1 + 1, began := some pos, outer := inn } hpl (by apply Nat.ble_eq_true_of_le; simp [wsum]; omega) q
  refine e_mark (i := a) (t := o + 6) hA ?_
  have hws : wsum (fMore (o + 21) pos true lp.size (-1 + 1) (kq pref li true) none :: fClose o pos true lp.size :: fs) + 20 ≤ 16777216 := by simp [wsum, kq]; omega
  by_cases hn : 0 < cnt isDg (x.cps.toList.drop pos)
  · refine e_rep (least := 1) (t := o + 16) hO (big_ok hl) (ran_at isDg hD hx hpos) hn (cnt_room isDg hpos) (by omega) (Nat.ble_eq_true_of_le hws) fun li2 => ?_
    have g : ∀ pc pos' pref', pref'.take (setM pref a pos).length = setM pref a pos → EP (kx (cFloat P') x p) 12 P (B0 + 1 + 1 + cnt isDg (x.cps.toList.drop pos) * (1 + 1)) pc pos' true pref' (lp.push { pc := o, count := -1 + 1, began := some pos, outer := inn }) (some lp.size)
        (fGive (o + 6) (pos + cnt isDg (x.cps.toList.drop pos)) true (cnt isDg (x.cps.toList.drop pos)) (kq (setM pref a pos) li2 true) :: fMore (o + 21) pos true lp.size (-1 + 1) (kq pref li true) none :: fClose o pos true lp.size :: fs) (some false) := by
      refine give_all (T := 1) (t := o + 16) (L0 := 1) (b := pos) (n := cnt isDg (x.cps.toList.drop pos)) ?_ ?_ (by omega) hset.2 (Nat.ble_eq_true_of_le hws) (fun j Bj _ _ ih => ?_) (fun p' => back _ _ _ hset.1) _ (Nat.le_refl _)
      · simp only [Bool.and_eq_true] at hO; exact hO.2
      · simp only [Bool.and_eq_true] at hO; exact hO.1.1.2
      · exact e_lit_no 95 hB' (not_sig hx (by decide)) (ih _ _ _ (by simp))
    have hroom := cnt_room (x := x) isDg hpos
    exact e_lit_no 95 hB' (not_sig hx (by decide)) (EP.le (by omega) (g _ _ _ (by simp)))
  · refine e_rep_no (least := 1) (n := cnt isDg (x.cps.toList.drop pos)) (by simp only [Bool.and_eq_true] at hO ⊢; exact hO.1) (big_ok hl) (ran_at isDg hD hx hpos) (by omega) (EP.le (by omega) (back _ _ _ hset.1))
/-- with a power: never -/
theorem f_alt1 (B0 : Nat) {B : Nat} (hB : B0 + 20000 ≤ B) (hx : Alph x) (hl : x.length ≤ 1000) {pos : Nat} {pref : List (Option Nat)} {lp : Array Sre.Loop} {inn : Option Nat} {fs : List Sre.Frame} (hpos : pos ≤ x.length) (hpl : pref.length = 3) (hw : wsum fs + 400 ≤ 16777216)
    (q : ∀ pc pos', EP (kx (cFloat P') x p) 12 P B0 pc pos' true pref lp inn fs (some false)) : EP (kx (cFloat P') x p) 12 P B 46 pos true pref lp inn fs none := by
  refine EP.le hB ?_
  refine e_repeat (t := 87) (by kernel_rfl) (by apply Nat.ble_eq_true_of_le; omega) ?_
  refine e_until_more (t := 88) (u := 50) { pc := 46, outer := inn } (by kernel_rfl) (by kernel_rfl) (by show (0 : Int) ≤ -1 + 1; omega) (by kernel_rfl) (by omega) (by apply Nat.ble_eq_true_of_le; simp [wsum]; omega) fun li => ?_
  -- the loop is left, and no power stands there
  have back : ∀ pc pos' pref', EP (kx (cFloat P') x p) 12 P (B0 + 4) pc pos' true pref' (lp.push { pc := 46, count := -1 + 1, began := some pos, outer := inn }) (some lp.size) (fMore 88 pos true lp.size (-1 + 1) (kq pref li true) none :: fClose 46 pos true lp.size :: fs) (some false) := fun pc pos' pref' =>
    e_more_no (c := -1 + 1) { pc := 46, count := -1 + 1, began := some pos, outer := inn } (by omega) (by apply Nat.ble_eq_true_of_le; simp [wsum]; omega) fun kt =>
      e_ign_no 101 hx (by decide) (by kernel_rfl) (e_tail_no (e_close_no { pc := 46, count := -1 + 1 - 1, began := none, outer := inn } (q _ _)))
  refine e_mark (i := 4) (t := 52) (by kernel_rfl) ?_
  have hset : (setM pref 4 pos).length = 5 := by
    unfold setM
    rw [if_neg (by omega)]
    simp; omega
  by_cases c1 : x.cps[pos]? = some 46
  · refine e_lit (t := 54) 46 (by kernel_rfl) (by kernel_rfl) c1 ?_
    have hlt := (at_get c1).1
    have hws : wsum (fMore 88 pos true lp.size (-1 + 1) (kq pref li true) none :: fClose 46 pos true lp.size :: fs) + 300 ≤ 16777216 := by simp [wsum, kq]; omega
    generalize hf : (fMore 88 pos true lp.size (-1 + 1) (kq pref li true) none :: fClose 46 pos true lp.size :: fs) = fs2 at back hws ⊢
    refine f_star (B0 + 15000) (by omega) hx hl 54 6 (by kernel_rfl) (by kernel_rfl) (by kernel_rfl) (by kernel_rfl) (by kernel_rfl) (by kernel_rfl) (fun c hc => acc_dig hc (by kernel_rfl)) (by kernel_rfl) (by omega) (by omega) (by omega) (by omega) fun kt => ?_
    have out : ∀ pc pos' pref', EP (kx (cFloat P') x p) 12 P (B0 + 6) pc pos' true pref' ((lp.push { pc := 46, count := -1 + 1, began := some pos, outer := inn }).push { pc := 54, count := -1, outer := some lp.size }) (some lp.size)
        (fTail (54 + 21) (pos + 1) true (lp.push { pc := 46, count := -1 + 1, began := some pos, outer := inn }).size 0 { kt with marks := #[] } :: fClose 54 (pos + 1) true (lp.push { pc := 46, count := -1 + 1, began := some pos, outer := inn }).size :: fs2) (some false) := fun pc pos' pref' =>
      e_tail_no (e_close_no { pc := 54, count := -1, outer := some lp.size } (back _ _ _))
    have hws2 : wsum (fTail (54 + 21) (pos + 1) true (lp.push { pc := 46, count := -1 + 1, began := some pos, outer := inn }).size 0 { kt with marks := #[] } :: fClose 54 (pos + 1) true (lp.push { pc := 46, count := -1 + 1, began := some pos, outer := inn }).size :: fs2) + 100 ≤ 16777216 := by simp [wsum]; omega
    generalize hf3 : (fTail (54 + 21) (pos + 1) true (lp.push { pc := 46, count := -1 + 1, began := some pos, outer := inn }).size 0 { kt with marks := #[] } :: fClose 54 (pos + 1) true (lp.push { pc := 46, count := -1 + 1, began := some pos, outer := inn }).size :: fs2) = fs3 at out hws2 ⊢
    have hD : ∀ c ∈ sig, Acc (cFloat P') (75 + 4) c (isDg c) := fun c hc => acc_dig hc (by kernel_rfl)
    by_cases hn : 0 < cnt isDg (x.cps.toList.drop (pos + 1))
    · -- every number of figures fails at the power
      have tl : ∀ j Bx (fs4 : List Sre.Frame) pref5, wsum fs4 + 40 ≤ 16777216 → pref5.length = 5 → (∀ pc pos' pref', pref'.take pref5.length = pref5 → EP (kx (cFloat P') x p) 12 P Bx pc pos' true pref' ((lp.push { pc := 46, count := -1 + 1, began := some pos, outer := inn }).push { pc := 54, count := -1, outer := some lp.size }) (some lp.size) fs4 (some false)) →
          EP (kx (cFloat P') x p) 12 P (Bx + 4) 85 (pos + 1 + j) true pref5 ((lp.push { pc := 46, count := -1 + 1, began := some pos, outer := inn }).push { pc := 54, count := -1, outer := some lp.size }) (some lp.size) fs4 none := fun j Bx fs4 pref5 hw4 h5 ih => by
        refine e_mark (i := 5) (t := 87) (by kernel_rfl) ?_
        refine e_until_out' (t := 88) lp.size { pc := 46, count := -1 + 1, began := some pos, outer := inn } ?_ (by kernel_rfl) (by kernel_rfl) (by show (0 : Int) ≤ -1 + 1 + 1; omega) ?_ (by omega) fun kt2 => ?_
        · rw [Array.getD_eq_getD_getElem?, Array.getElem?_push_lt (by simp)]
          simp
        · show ((decide ((-1 : Int) + 1 + 1 < ((cFloat P').getD (46 + 3) 0 : Nat)) || (cFloat P').getD (46 + 3) 0 == maxRepeat) && some pos != some (pos + 1 + j)) = false
          rw [show (cFloat P').getD (46 + 3) 0 = 1 by kernel_rfl]
          rfl
        · refine e_ign_no 101 hx (by decide) (by kernel_rfl) (e_tail_no (ih _ _ _ ?_))
          unfold setM
          rw [if_neg (by omega)]
          simp
      refine e_rep (least := 1) (t := 85) (by kernel_rfl) (big_ok hl) (ran_at isDg hD hx (by omega)) hn (cnt_room isDg (by omega)) (by omega) (by apply Nat.ble_eq_true_of_le; omega) fun li2 => ?_
      have hroom := cnt_room (x := x) (p := pos + 1) isDg (by omega)
      refine EP.le (B := B0 + 6 + 1 + cnt isDg (x.cps.toList.drop (pos + 1)) * (4 + 1) + 4) (by omega) <| tl _ _ _ _ (by simp only [wsum, kq, Option.isSome_some, if_true, List.size_toArray]; omega) hset ?_
      refine give_all (T := 4) (t := 85) (L0 := 1) (b := pos + 1) (n := cnt isDg (x.cps.toList.drop (pos + 1))) (by kernel_rfl) (by kernel_rfl) (by omega) (by omega) (by apply Nat.ble_eq_true_of_le; omega) (fun j Bj _ _ ih => ?_) (fun p' => out _ _ _) _ (Nat.le_refl _)
      exact tl _ _ _ _ (by simp only [wsum, kq, Option.isSome_some, if_true, List.size_toArray]; omega) hset ih
    · exact e_rep_no (least := 1) (n := cnt isDg (x.cps.toList.drop (pos + 1))) (by kernel_rfl) (big_ok hl) (ran_at isDg hD hx (by omega)) (by omega) (EP.le (by omega) (out _ _ _))
  · exact e_lit_no 46 (by kernel_rfl) c1 (EP.le (by omega) (back _ _ _))
/-- a fraction -/
theorem mat_float (hx : Alph x) (hl : x.length ≤ 1000) (hp : p ≤ x.length) {n m : Nat} (hn : n = cnt isDg (x.cps.toList.drop p)) (hm : m = cnt isDg (x.cps.toList.drop (p + n + 1)))
    (q1 : (p = 0 ∨ x.cps[p - 1]? ≠ some 46) → 0 < n → x.cps[p + n]? = some 46 → 0 < m → ∀ r, Hit 6 p (p + n + 1 + m) r → P r)
    (q2 : ¬ ((p = 0 ∨ x.cps[p - 1]? ≠ some 46) ∧ 0 < n ∧ x.cps[p + n]? = some 46 ∧ 0 < m) → ∀ r, Miss r → P r) : Mat (cFloat P') 6 x p P := by
  have hroom := cnt_room (x := x) isDg hp
  rw [← hn] at hroom
  refine mat_start 5 3 (by kernel_rfl) hp (fun hr => ?_) fun hr => q2 fun h => by
    have h1 := (at_get h.2.2.1).1
    have := cnt_room (x := x) (p := p + n + 1) isDg (by omega)
    rw [← hm] at this
    omega
  have hpm : ∀ w, (p = 0 ∨ x.cps.getD (p - 1) 0 ≠ w) ↔ (p = 0 ∨ x.cps[p - 1]? ≠ some w) := fun w => by
    by_cases h0 : p = 0
    · simp [h0]
    · have hlt : p - 1 < x.cps.size := by show p - 1 < x.length; omega
      rw [Array.getD_eq_getD_getElem?, Array.getElem?_eq_getElem hlt]
      simp
  refine e_not (t := 11) (wd := 46) (by kernel_rfl) (by omega) rfl hp (fun h1 => ?_) (fun h1 => e_miss (q2 fun h => h1 ((hpm 46).mpr h.1)))
  replace h1 := (hpm 46).mp h1
  refine f_star 900000000 (by omega) (pref := []) (lp := #[]) (inn := none) (fs := []) hx hl 11 0 (by kernel_rfl) (by kernel_rfl) (by kernel_rfl) (by kernel_rfl) (by kernel_rfl) (by kernel_rfl) (fun c hc => acc_dig hc (by kernel_rfl)) (by kernel_rfl) hp (by simp) (by simp) (by simp [wsum]) fun kt => ?_
  -- no way at all
  have none' : ¬ (0 < n ∧ x.cps[p + n]? = some 46 ∧ 0 < m) → ∀ pc pos pref, EP (kx (cFloat P') x p) 12 P 10 pc pos true pref ((#[] : Array Sre.Loop).push { pc := 11, count := -1, outer := none }) none [fTail (11 + 21) p true 0 0 { kt with marks := #[] }, fClose 11 p true 0] (some false) := fun h pc pos pref =>
    e_tail_no (e_close_no (lp := #[]) { pc := 11, count := -1, outer := none } (e_miss (q2 fun h' => h h'.2)))
  have hD : ∀ c ∈ sig, Acc (cFloat P') (32 + 4) c (isDg c) := fun c hc => acc_dig hc (by kernel_rfl)
  by_cases hn0 : 0 < n
  · refine e_rep (n := n) (least := 1) (t := 42) (by kernel_rfl) (big_ok hl) (hn ▸ ran_at isDg hD hx hp) hn0 hroom (by omega) (by apply Nat.ble_eq_true_of_le; simp [wsum]) fun li => ?_
    -- a place at which no fraction follows
    have bad : ∀ j Bj, (x.cps[p + j]? ≠ some 46 ∨ (j = n ∧ m = 0)) → p + j ≤ x.length → (∀ pc pos pref, pref.take 0 = [] → EP (kx (cFloat P') x p) 12 P Bj pc pos true pref ((#[] : Array Sre.Loop).push { pc := 11, count := -1, outer := none }) none [fGive 32 (p + j) true j (kq [] li false), fTail (11 + 21) p true 0 0 { kt with marks := #[] }, fClose 11 p true 0] (some false)) →
        EP (kx (cFloat P') x p) 12 P (Bj + 60000) 42 (p + j) true [] ((#[] : Array Sre.Loop).push { pc := 11, count := -1, outer := none }) none [fGive 32 (p + j) true j (kq [] li false), fTail (11 + 21) p true 0 0 { kt with marks := #[] }, fClose 11 p true 0] none := fun j Bj hj hle ih => by
      refine EP.le (B := Bj + 50000) (by omega) ?_
      refine e_mark (i := 2) (t := 44) (by kernel_rfl) ?_
      show EP _ _ _ _ _ _ _ [none, none, some (p + j)] _ _ _ _
      refine e_branch (a := 45) (t := 46) (by kernel_rfl) (by omega) rfl fun li2 => ?_
      refine f_alt1 (Bj + 20000) (by omega) hx hl hle rfl (by simp [wsum, kq]) fun pc pos' => ?_
      refine e_next (b := 135) (t := 136) (by kernel_rfl) (by omega) (by simp) rfl (.inl rfl) ?_
      have out : ∀ pc pos' pref', pref'.take 3 = [none, none, some (p + j)] → EP (kx (cFloat P') x p) 12 P (Bj + 1) pc pos' true pref' ((#[] : Array Sre.Loop).push { pc := 11, count := -1, outer := none }) none [fBranch 135 (p + j) true (kq [none, none, some (p + j)] li2 false), fGive 32 (p + j) true j (kq [] li false), fTail (11 + 21) p true 0 0 { kt with marks := #[] }, fClose 11 p true 0] (some false) := fun pc pos' pref' hp' =>
        e_next_end (by kernel_rfl) (by omega) (by simp) rfl (.inl hp') (ih _ _ _ rfl)
      by_cases c1 : x.cps[p + j]? = some 46
      · obtain ⟨rfl, hm0⟩ := hj.resolve_left fun h => h c1
        refine e_lit (t := 138) 46 (by kernel_rfl) (by kernel_rfl) c1 ?_
        have hlt := (at_get c1).1
        refine f_star (Bj + 1000) (by omega) hx hl 138 10 (by kernel_rfl) (by kernel_rfl) (by kernel_rfl) (by kernel_rfl) (by kernel_rfl) (by kernel_rfl) (fun c hc => acc_dig hc (by kernel_rfl)) (by kernel_rfl) (by omega) (by simp) (by simp) (by simp [wsum, kq]) fun kt2 => ?_
        refine e_rep_no (n := m) (least := 1) (by kernel_rfl) (big_ok hl) (hm ▸ ran_at isDg (fun c hc => acc_dig hc (by kernel_rfl)) hx (by omega)) (by omega) ?_
        exact e_tail_no (e_close_no (lp := (#[] : Array Sre.Loop).push { pc := 11, count := -1, outer := none }) { pc := 138, count := -1, outer := none } (EP.le (by omega) (out _ _ _ rfl)))
      · exact e_lit_no 46 (by kernel_rfl) c1 (EP.le (by omega) (out _ _ _ rfl))
    have gv : ¬ (0 < n ∧ x.cps[p + n]? = some 46 ∧ 0 < m) → ∀ pc pos pref, pref.take 0 = [] → EP (kx (cFloat P') x p) 12 P (10 + 1 + n * (60000 + 1)) pc pos true pref ((#[] : Array Sre.Loop).push { pc := 11, count := -1, outer := none }) none [fGive 32 (p + n) true n (kq [] li false), fTail (11 + 21) p true 0 0 { kt with marks := #[] }, fClose 11 p true 0] (some false) := fun hbad =>
      give_all (T := 60000) (pref' := []) (t := 42) (L0 := 1) (b := p) (n := n) (by kernel_rfl) (by kernel_rfl) (by omega) (by simp) (by apply Nat.ble_eq_true_of_le; simp [wsum]) (fun j Bj hj0 hj ih => bad j Bj (.inl fun h => by
        obtain ⟨c, h1, h2⟩ := run_in (f := isDg) (p := p) (x := x) (j := j) (by omega)
        rw [h1] at h
        cases h
        exact absurd h2 (by decide)) (by omega) ih) (fun p' => none' hbad _ _ _) _ (Nat.le_refl _)
    by_cases hgood : x.cps[p + n]? = some 46 ∧ 0 < m
    · refine e_mark (i := 2) (t := 44) (by kernel_rfl) ?_
      show EP _ _ _ _ _ _ _ [none, none, some (p + n)] _ _ _ _
      refine e_branch (a := 45) (t := 46) (by kernel_rfl) (by omega) rfl fun li2 => ?_
      have hlt := (at_get hgood.1).1
      refine f_alt1 800000000 (by omega) hx hl (by omega) rfl (by simp [wsum, kq]) fun pc pos' => ?_
      refine e_next (b := 135) (t := 136) (by kernel_rfl) (by omega) (by simp) rfl (.inl rfl) ?_
      refine e_lit (t := 138) 46 (by kernel_rfl) (by kernel_rfl) hgood.1 ?_
      refine f_star 700000000 (by omega) hx hl 138 10 (by kernel_rfl) (by kernel_rfl) (by kernel_rfl) (by kernel_rfl) (by kernel_rfl) (by kernel_rfl) (fun c hc => acc_dig hc (by kernel_rfl)) (by kernel_rfl) (by omega) (by simp) (by simp) (by simp [wsum, kq]) fun kt2 => ?_
      have hroom2 := cnt_room (x := x) (p := p + n + 1) isDg (by omega)
      rw [← hm] at hroom2
      refine e_rep (n := m) (least := 1) (t := 169) (by kernel_rfl) (big_ok hl) (hm ▸ ran_at isDg (fun c hc => acc_dig hc (by kernel_rfl)) hx (by omega)) hgood.2 hroom2 (by omega) (by apply Nat.ble_eq_true_of_le; simp [wsum, kq]) fun li3 => ?_
      refine e_jump (t := 172) (by kernel_rfl) (e_mark (i := 3) (t := 174) (by kernel_rfl) ?_)
      show EP _ _ _ _ _ _ _ [none, none, some (p + n), some (p + n + 1 + m)] _ _ _ _
      exact e_success (by kernel_rfl) rfl fun r a b c d e f => q1 h1 hn0 hgood.1 hgood.2 r (Hit.of a b c e f ⟨by omega, trivial⟩)
    · have hbad : ¬ (0 < n ∧ x.cps[p + n]? = some 46 ∧ 0 < m) := fun h => hgood h.2
      refine EP.le (B := 10 + 1 + n * (60000 + 1) + 60000) (by omega) <| bad n _ ?_ hroom (gv hbad)
      by_cases c1 : x.cps[p + n]? = some 46
      · exact .inr ⟨rfl, by
          have : ¬ 0 < m := fun h => hgood ⟨c1, h⟩
          omega⟩
      · exact .inl c1
  · exact e_rep_no (n := n) (least := 1) (by kernel_rfl) (big_ok hl) (hn ▸ ran_at isDg hD hx hp) (by omega) (EP.le (by omega) (none' (fun h => hn0 h.1) _ _ _))
end
end Rx
end Mine
end
section
open PySem PySem.W PySem.Calls PyProof.Rows
set_option maxRecDepth 100000
set_option linter.all false
set_option maxHeartbeats 4000000
namespace Mine
open PySem.Builtin.Re
open Mine.Rx (codeO Mat okSpans)
theorem plainAttrs_pat : PlainAttrs "re.Pattern" :=
  ⟨⟨"object.__getattribute__", by rw [typeLookup_type, builtinLookup_eq_fast]; kernel_rfl, by decide +kernel⟩, by rw [typeLookup_type, builtinLookup_eq_fast]; kernel_rfl⟩
theorem plainAttrs_mat : PlainAttrs "re.Match" :=
  ⟨⟨"object.__getattribute__", by rw [typeLookup_type, builtinLookup_eq_fast]; kernel_rfl, by decide +kernel⟩, by rw [typeLookup_type, builtinLookup_eq_fast]; kernel_rfl⟩
theorem slot_match : Slot "re.Pattern" "match" "re.Pattern.match" :=
  .of (owner := "re.Pattern") (n := "match") (by rw [typeLookup_type, builtinLookup_eq_fast]; kernel_rfl) (by decide +kernel) (by decide +kernel) (by decide +kernel)
    (by first | exact .inl (by decide +kernel) | exact .inr (by decide +kernel)) (by rw [isSubtype_type]; kernel_rfl)
theorem slot_group : Slot "re.Match" "group" "re.Match.group" :=
  .of (owner := "re.Match") (n := "group") (by rw [typeLookup_type, builtinLookup_eq_fast]; kernel_rfl) (by decide +kernel) (by decide +kernel) (by decide +kernel)
    (by first | exact .inl (by decide +kernel) | exact .inr (by decide +kernel)) (by rw [isSubtype_type]; kernel_rfl)
theorem slot_groups : Slot "re.Match" "groups" "re.Match.groups" :=
  .of (owner := "re.Match") (n := "groups") (by rw [typeLookup_type, builtinLookup_eq_fast]; kernel_rfl) (by decide +kernel) (by decide +kernel) (by decide +kernel)
    (by first | exact .inl (by decide +kernel) | exact .inr (by decide +kernel)) (by rw [isSubtype_type]; kernel_rfl)
theorem slot_end : Slot "re.Match" "end" "re.Match.end" :=
  .of (owner := "re.Match") (n := "end") (by rw [typeLookup_type, builtinLookup_eq_fast]; kernel_rfl) (by decide +kernel) (by decide +kernel) (by decide +kernel)
    (by first | exact .inl (by decide +kernel) | exact .inr (by decide +kernel)) (by rw [isSubtype_type]; kernel_rfl)
theorem type_match : typeOf (.builtin "re.Pattern.match") = pure (.type "method_descriptor") := by show builtinType _ = _; rw [builtinType_eq_fast]; kernel_rfl
theorem type_group : typeOf (.builtin "re.Match.group") = pure (.type "method_descriptor") := by show builtinType _ = _; rw [builtinType_eq_fast]; kernel_rfl
theorem type_groups : typeOf (.builtin "re.Match.groups") = pure (.type "method_descriptor") := by show builtinType _ = _; rw [builtinType_eq_fast]; kernel_rfl
theorem type_end : typeOf (.builtin "re.Match.end") = pure (.type "method_descriptor") := by show builtinType _ = _; rw [builtinType_eq_fast]; kernel_rfl
theorem entry_match : entryFor table "re.Pattern.match" = some Builtin.«re.Pattern.match» := entryFor_of_tree (by kernel_rfl)
theorem entry_group : entryFor table "re.Match.group" = some Builtin.«re.Match.group» := entryFor_of_tree (by kernel_rfl)
theorem entry_groups : entryFor table "re.Match.groups" = some Builtin.«re.Match.groups» := entryFor_of_tree (by kernel_rfl)
theorem entry_end : entryFor table "re.Match.end" = some Builtin.«re.Match.end» := entryFor_of_tree (by kernel_rfl)
theorem args_match (a b c : Value) : argsOk "re.Pattern.match" ⟨[a, b, c], []⟩ := by unfold argsOk; kernel_rfl
theorem args_group (a : Value) : argsOk "re.Match.group" ⟨[a], []⟩ := by unfold argsOk; kernel_rfl
theorem args_groups (a : Value) : argsOk "re.Match.groups" ⟨[a], []⟩ := by unfold argsOk; kernel_rfl
theorem args_end (a : Value) : argsOk "re.Match.end" ⟨[a], []⟩ := by unfold argsOk; kernel_rfl

/-- the spans of a match: two numbers a group -/
def spansOf (groups : Nat) (m : Sre.M) : List Value := (List.range groups).flatMap fun g =>
    match if ((2 * g + 1 : Nat) : Int) ≤ m.lastmark then (m.marks.getD (2 * g) none, m.marks.getD (2 * g + 1) none) else (none, none) with
    | (some b, some e) => [rawInt b, rawInt e]
    | _ => [rawInt (-1), rawInt (-1)]
theorem spansOf_len (groups : Nat) (m : Sre.M) : (spansOf groups m).length = 2 * groups := by
  unfold spansOf
  have : ∀ l : List Nat, (l.flatMap fun g =>
    match if ((2 * g + 1 : Nat) : Int) ≤ m.lastmark then (m.marks.getD (2 * g) none, m.marks.getD (2 * g + 1) none) else (none, none) with
    | (some b, some e) => [rawInt b, rawInt e]
    | _ => [rawInt (-1), rawInt (-1)]).length = 2 * l.length := fun l => by
    induction l with
    | nil => rfl
    | cons g l ih =>
      rw [List.flatMap_cons, List.length_append, ih]
      simp only [List.length_cons]
      split <;> simp <;> omega
  have := this (List.range groups)
  rwa [List.length_range] at this
/-- a match on the heap -/
def MatchAt (h : Heap) (a : Addr) (x : Str) (st e : Nat) (sp : List Value) : Prop := ∃ t pv p0 p1 li b, h.get? a = some { cls := .type "re.Match", data := .fields #[.str x t, pv, p0, p1, li, .ref b] } ∧ h.IsTuple b (rawInt st :: rawInt e :: sp).toArray
theorem MatchAt.keep {h h' : Heap} {a : Addr} {x : Str} {st e : Nat} {sp : List Value} (m : MatchAt h a x st e sp) (k : Keep h h') : MatchAt h' a x st e sp := by
  obtain ⟨t, pv, p0, p1, li, b, h1, h2⟩ := m
  exact ⟨t, pv, p0, p1, li, b, k _ _ h1, TupKeep.of_keep k _ _ h2⟩
section
variable {c : Cx} {h : Heap} {E : Value → Heap → Prop} {α : Type}
theorem W_rule {tag : String} {Q : Unit → Heap → Prop} (q : Q () h) : W c h (rule tag) Q E := fun tk => wpAny_rule ⟨h, tk, rfl, q⟩
theorem reDrive_ok : ∀ (n turns : Nat) (m : Sre.M) {Q : Sre.M → Heap → Prop}, n ≤ 4 * turns → (m.runFor n).outcome.isSome = true → Q (m.runFor n) h → 0 < turns → W c h (reDrive turns m) Q E
  | n, 0, _, _, _, _, _, h0 => absurd h0 (Nat.lt_irrefl _)
  | n, turns + 1, m, Q, hn, ho, q, _ => by
    have stay : ∀ (k : Nat) (m : Sre.M), m.outcome.isSome = true → m.runFor k = m := fun k m hm => by
      cases k with
      | zero => rfl
      | succ k => rw [Sre.M.runFor, if_pos hm]
    have add : ∀ (a b : Nat) (m : Sre.M), m.runFor (a + b) = (m.runFor a).runFor b := fun a => by
      induction a with
      | zero => intro b m; rw [Nat.zero_add]; rfl
      | succ a ih =>
        intro b m
        rw [Nat.succ_add, Sre.M.runFor, Sre.M.runFor]
        by_cases hm : m.outcome.isSome = true
        · rw [if_pos hm, if_pos hm, stay b m hm]
        · rw [if_neg hm, if_neg hm]; exact ih b _
    show W c h (if (m.runFor 4).outcome.isSome = true then pure (m.runFor 4) else do rule "sre.turn"; reDrive turns (m.runFor 4)) Q E
    by_cases h4 : (m.runFor 4).outcome.isSome = true
    · rw [if_pos h4]
      have : m.runFor n = m.runFor 4 := by
        rcases Nat.le_total n 4 with hle | hle
        · have e := add n (4 - n) m
          rw [show n + (4 - n) = 4 by omega, stay _ _ ho] at e
          exact e.symm
        · have e := add 4 (n - 4) m
          rw [show 4 + (n - 4) = n by omega, stay _ _ h4] at e
          exact e
      rw [this] at q
      exact W_pure q
    · rw [if_neg h4]
      have hn4 : 4 < n := by
        rcases Nat.lt_or_ge 4 n with h | h
        · exact h
        · exfalso
          have e := add n (4 - n) m
          rw [show n + (4 - n) = 4 by omega, stay _ _ ho] at e
          rw [e] at h4
          exact h4 ho
      have e := add 4 (n - 4) m
      rw [show 4 + (n - 4) = n by omega] at e
      exact W_bind (W_rule (reDrive_ok (n - 4) turns _ (by omega) (e ▸ ho) (e ▸ q) (by omega)))
theorem seen_ok (f : Nat → Bool) : ∀ (l : List Nat) {Q : PUnit → Heap → Prop}, Q ⟨⟩ h → W c h (forIn l PUnit.unit fun i _ => (if f i = true then do rule (Sre.names.getD i ""); pure (ForInStep.yield PUnit.unit) else do pure PUnit.unit; pure (ForInStep.yield PUnit.unit) : Sem (ForInStep PUnit))) Q E
  | [], Q, q => by rw [List.forIn_nil]; exact W_pure q
  | i :: l, Q, q => by
    rw [List.forIn_cons]
    refine W_bind ?_
    by_cases hf : f i = true
    · rw [if_pos hf]
      exact W_bind (W_rule (W_pure (seen_ok f l q)))
    · rw [if_neg hf]
      exact W_bind (W_pure (W_pure (seen_ok f l q)))
theorem reRunToEnd_ok {m : Sre.M} {P : Sre.M → Prop} {B : Nat} (hB : B ≤ 1000000000) (e : Rx.Ends B m P) {Q : Option Sre.M → Heap → Prop}
    (q : ∀ m', P m' → (match m'.outcome with | some .matched => Q (some m') h | some .failed => Q none h | _ => False)) : W c h (reRunToEnd m) Q E := by
  obtain ⟨n, hn, ho, hp⟩ := e
  unfold reRunToEnd
  refine W_bind (reDrive_ok n _ m (by have : (1000000000 : Nat) ≤ 4 * 2 ^ 64 := by decide
                                      omega) ho ?_ (by decide))
  generalize m.runFor n = m' at hp
  have q' := q m' hp
  refine W_bind (seen_ok (fun i => m'.seen.has i) _ ?_)
  cases hm : m'.outcome with
  | none => rw [hm] at q'; exact q'.elim
  | some o => cases o with
    | matched => rw [hm] at q'; exact W_pure q'
    | failed => rw [hm] at q'; exact W_pure q'
    | stuck w => rw [hm] at q'; exact q'.elim
/-- a pattern on the heap -/
structure PatAt (h : Heap) (pa : Addr) (code : Array Nat) (groups : Nat) : Prop where
  ok : ∃ (o oc : Obj) (fs vs : Array Value) (n ca : Nat), h.get? pa = some o ∧ o.cls = .type "re.Pattern" ∧ o.dict = none ∧ o.data = .fields fs ∧ reRawNat (fs.getD 6 .none) = 0 ∧ reRawNat (fs.getD 2 .none) = groups ∧ fs.getD 5 .none = .ref ca ∧
    h.get? ca = some oc ∧ oc.data = .seq vs n ∧ codeO oc = code
theorem PatAt.keep {h h' : Heap} {pa : Addr} {code : Array Nat} {groups : Nat} (m : PatAt h pa code groups) (k : Keep h h') : PatAt h' pa code groups := by
  obtain ⟨o, oc, fs, vs, n, ca, h1, h2, h3, h4, h5, h6, h7, h8, h9⟩ := m
  exact ⟨o, oc, fs, vs, n, ca, k _ _ h1, h2, h3, h4, h5, h6, h7, k _ _ h8, h9⟩
theorem PatAt.typeIs {s : Shared} {pa : Addr} {code : Array Nat} {groups : Nat} (m : PatAt s.heap pa code groups) : s.TypeIs (.ref pa) "re.Pattern" := by
  obtain ⟨o, oc, fs, vs, n, ca, h1, h2, _⟩ := m
  exact ⟨o, h1, h2⟩
theorem PatAt.noDict {h : Heap} {pa : Addr} {code : Array Nat} {groups : Nat} (m : PatAt h pa code groups) : ∀ a, Value.ref pa = .ref a → ∃ ob, h.get? a = some ob ∧ ob.dict = none := by
  obtain ⟨o, oc, fs, vs, n, ca, h1, h2, h3, _⟩ := m
  intro a e; cases e; exact ⟨o, h1, h3⟩
theorem codeO_eq {oc : Obj} {vs : Array Value} {n : Nat} (h : oc.data = .seq vs n) : codeO oc = (vs.map reRawOf).map (·.toNat) := by
  unfold Rx.codeO
  rw [h]
  apply Array.ext'
  simp
theorem w_rematch {pa : Addr} {code : Array Nat} {groups : Nat} {x : Str} {t : Tok} {p : Nat} {u : Tok} {P : Sre.M → Prop} {Q : Value → Heap → Prop} (po : PatAt h pa code groups) (hp : p ≤ x.length) (hl : x.length ≤ 1000) (hg : groups ≤ 100)
    (m : Mat code groups x p P) (q : ∀ m, P m → (match m.outcome with
      | some .matched => okSpans groups m = true ∧ ∀ a h', Keep h h' → New h a → MatchAt h' a x m.start m.handed (spansOf groups m) → Q (.ref a) h'
      | some .failed => Q .none h
      | _ => False)) : W c h (call (.builtin "re.Pattern.match") [.ref pa, .str x t, .int p u]) Q E := fun tk => by
  refine wpAny_call_entry slot_match po.typeIs entry_match ?_ (args_match _ _ _)
  obtain ⟨o, oc, fs, vs, n, ca, h1, h2, h3, h4, h5, h6, h7, h8, h9, h10⟩ := po
  unfold Builtin.«re.Pattern.match»
  have named : reNamed "re.Pattern.match" "match" ["string", "pos", "endpos"] 1 [.str x t, .int p u] [] = pure [some (.str x t), some (.int p u), none] := by kernel_rfl
  refine wpAny_bind ?_
  unfold reTarget
  simp only [named]
  refine wpAny_bind (wpAny_pure ?_)
  have hss : reSsize (.int p u) = pure (p : Int) := by
    unfold reSsize
    have h0 : asIndex (.int p u) = pure (p : Int) := rfl
    rw [h0]
    show (if (decide ((p : Int) < -(2 ^ 63)) || decide ((p : Int) ≥ 2 ^ 63)) = true then _ else pure (p : Int)) = pure (p : Int)
    rw [if_neg]
    simp only [Bool.or_eq_true, decide_eq_true_eq]
    omega
  show wpAny _ _ (reSsize (.int p u) >>= _) _ _ _
  rw [hss]
  refine wpAny_bind (wpAny_pure ?_)
  refine wpAny_bind (wpAny_pure ?_)
  refine wpAny_bind (wpAny_fieldsOf h1 h4 ?_)
  refine wpAny_bind (m := reTextOf (.str x t)) (wpAny_of_eq (a := (x.cps, 0)) rfl ?_)
  rw [h5]
  show wpAny _ _ (reNoCollectionInside (.str x t) 0 >>= _) _ _ _
  refine wpAny_bind (wpAny_of_eq (a := ()) rfl ?_)
  refine wpAny_bind ?_
  rw [h7]
  unfold reRawItems
  refine wpAny_bind (wpAny_seqItems h8 h9 ?_)
  refine wpAny_pure ?_
  refine wpAny_pure ?_
  have hcl : min (p : Int).toNat x.cps.size = p := by
    show min (p : Int).toNat x.length = p
    omega
  have hcl2 : min (2 ^ 63 - 1 : Int).toNat x.cps.size = x.length := by
    show min (2 ^ 63 - 1 : Int).toNat x.length = x.length
    omega
  simp only [hcl, hcl2, h6, Option.getD_some, ← codeO_eq h9, h10]
  unfold reAnswer
  refine wpAny_bind ?_
  have run := reRunToEnd_ok (c := c.in1) (h := h) (E := E) (Nat.le_refl _) m (Q := fun r h' => h' = h ∧ match r with
      | some m' => okSpans groups m' = true ∧ ∀ a h', Keep h h' → New h a → MatchAt h' a x m'.start m'.handed (spansOf groups m') → Q (.ref a) h'
      | none => Q .none h) (fun m' hm' => by
    have := q m' hm'
    cases ho : m'.outcome with
    | none => rw [ho] at this; exact this.elim
    | some o => cases o with
      | matched => rw [ho] at this; exact ⟨rfl, this⟩
      | failed => rw [ho] at this; exact ⟨rfl, this⟩
      | stuck w => rw [ho] at this; exact this.elim) tk
  refine wpAny_mono run (fun r s' ⟨h', tk', e, hr⟩ => ?_) fun _ _ y => y
  obtain ⟨rfl, hr⟩ := hr
  subst e
  cases r with
  | none => exact wpAny_pure ⟨.none, rfl, _, tk', rfl, hr⟩
  | some m' =>
    obtain ⟨hok, hr⟩ := hr
    refine wpAny_bind ?_
    unfold reNewMatch
    have hany : (List.range groups).any (fun g => match m'.marks.getD (2 * g) none, m'.marks.getD (2 * g + 1) none with | some b, some e => decide (((2 * g + 1 : Nat) : Int) ≤ m'.lastmark) && decide (e < b) | _, _ => false) = false := by
      have := hok
      unfold okSpans at this
      rwa [Bool.not_eq_true'] at this
    show wpAny _ _ (if ((List.range groups).any (fun g => match m'.marks.getD (2 * g) none, m'.marks.getD (2 * g + 1) none with | some b, some e => decide (((2 * g + 1 : Nat) : Int) ≤ m'.lastmark) && decide (e < b) | _, _ => false)) = true then _ else _) _ _ _
    rw [hany, if_neg Bool.false_ne_true]
    refine wpAny_bind (wpAny_newTuple ?_ ?_)
    · refine wpAny_newObj_type ?_ (by show (6 : Nat) ≤ _; decide)
      refine wpAny_pure ⟨_, rfl, _, tk', rfl, ?_⟩
      refine hr _ _ (Keep.trans (Keep.push _ _) (Keep.push _ _)) (New.of_le (by simp [Heap.size_push])) ?_
      refine ⟨t, .ref pa, _, _, _, _, Heap.get?_push_size _ rfl, TupKeep.of_keep (Keep.push _ _) _ _ ⟨_, Heap.get?_push_size _ rfl, rfl, 0, rfl⟩⟩
    · have hbig : (1000 : Nat) < sizeLine := by decide
      show (spansOf groups m').length + 1 + 1 ≤ _
      rw [spansOf_len]
      omega
/-- what stands in a group -/
def grp (x : Str) (sp : Array Int) (g : Nat) : Option Str := if sp.getD (2 * g) (-1) < 0 ∨ sp.getD (2 * g + 1) (-1) < 0 then none else some (sl x (sp.getD (2 * g) (-1)).toNat (sp.getD (2 * g + 1) (-1)).toNat)
inductive OptVals : List Value → List (Option Str) → Prop
  | nil : OptVals [] []
  | none {vs xs} : OptVals vs xs → OptVals (.none :: vs) (.none :: xs)
  | some {x t vs xs} : OptVals vs xs → OptVals (.str x t :: vs) (.some x :: xs)
theorem extract_sl (x : Str) (i j : Nat) : (⟨x.cps.extract i j⟩ : Str) = sl x i j := by
  apply str_ext
  rw [sl_list, Array.toList_extract]
theorem W_groupText {x : Str} {t : Tok} {fs : Array Value} {sp : Array Int} {g : Nat} {Q : Value → Heap → Prop} (hx : fs.getD 0 .none = .str x t) (hl : x.length ≤ sizeLine)
    (q : match grp x sp g with | none => Q .none h | some y => ∀ tk, Q (.str y tk) h) : W c h (reGroupText ⟨fs, sp⟩ g .none) Q E := by
  unfold reGroupText
  unfold grp at q
  show W c h (if (decide (sp.getD (2 * g) (-1) < 0) || decide (sp.getD (2 * g + 1) (-1) < 0)) = true then pure .none else (reTextOf (fs.getD 0 .none) >>= fun r => reSlice r.1 r.2 (sp.getD (2 * g) (-1)).toNat (sp.getD (2 * g + 1) (-1)).toNat)) Q E
  by_cases hb : sp.getD (2 * g) (-1) < 0 ∨ sp.getD (2 * g + 1) (-1) < 0
  · rw [if_pos hb] at q
    rw [if_pos (by simpa using hb)]
    exact W_pure q
  · rw [if_neg hb] at q
    rw [if_neg (by simpa using hb), hx]
    refine W_bind (W_eq (t' := pure (x.cps, 0)) rfl (W_pure ?_))
    show W c h (mkStr ⟨x.cps.extract _ _⟩) Q E
    rw [extract_sl]
    unfold mkStr
    rw [if_neg (by have := sl_le x (sp.getD (2 * g) (-1)).toNat (sp.getD (2 * g + 1) (-1)).toNat; omega)]
    exact fun tk => wpAny_bind (wpAny_fresh (wpAny_pure ⟨h, _, rfl, q _⟩))
theorem W_found {a : Addr} {x : Str} {st e : Nat} {sp : List Value} {Q : ReFound → Heap → Prop} (m : MatchAt h a x st e sp) (q : ∀ t pv p0 p1 li b, Q ⟨#[.str x t, pv, p0, p1, li, .ref b], ((rawInt st :: rawInt e :: sp).map reRawOf).toArray⟩ h) : W c h (reFound (.ref a)) Q E := fun tk => by
  obtain ⟨t, pv, p0, p1, li, b, h1, o, h2, h3, n, h4⟩ := m
  unfold reFound
  refine wpAny_bind (wpAny_fieldsOf h1 rfl (wpAny_bind ?_))
  show wpAny _ _ (reRawItems (.ref b)) _ _ _
  unfold reRawItems
  refine wpAny_bind (wpAny_seqItems h2 h4 (wpAny_pure (wpAny_pure ⟨h, tk, rfl, ?_⟩)))
  have := q t pv p0 p1 li b
  simpa using this
theorem MatchAt.typeIs {s : Shared} {a : Addr} {x : Str} {st e : Nat} {sp : List Value} (m : MatchAt s.heap a x st e sp) : s.TypeIs (.ref a) "re.Match" := by
  obtain ⟨t, pv, p0, p1, li, b, h1, h2⟩ := m
  exact ⟨_, h1, rfl⟩
theorem MatchAt.noDict {h : Heap} {a : Addr} {x : Str} {st e : Nat} {sp : List Value} (m : MatchAt h a x st e sp) : ∀ b, Value.ref a = .ref b → ∃ ob, h.get? b = some ob ∧ ob.dict = none := by
  obtain ⟨t, pv, p0, p1, li, b, h1, h2⟩ := m
  intro a e; cases e; exact ⟨_, h1, rfl⟩
/-- m.group() -/
theorem w_regroup {env : Env} {o : Expr} {apos pos : Pos} {Q : Value → Heap → Prop}
    (y : W c h (eval o env) (fun ov h₁ => ∃ a x st e sp, ov = .ref a ∧ MatchAt h₁ a x st e sp ∧ x.length ≤ sizeLine ∧ ∀ tk, Q (.str (sl x st e) tk) h₁) E)
    (hbase : attributeBase o "group" env (eval o env) = eval o env := by rfl) (hline : (apos.endLine == pos.line) = true := by rfl) : W c h (eval (.Call (.Attribute o "group" apos) [] [] pos) env) Q E :=
  w_meth0 plainAttrs_mat slot_group type_group (W_mono y (fun ov h₁ ⟨a, x, st, e, sp, hv, m, hl, q⟩ => by
    subst hv
    refine ⟨fun s es => MatchAt.typeIs (es ▸ m), m.noDict, fun tk => PySem.Calls.callWith_builtin rfl (PySem.evalArgs_none ?_)⟩
    refine wpAny_call_entry (s := c.st h₁ tk) slot_group (MatchAt.typeIs (s := c.st h₁ tk) m) entry_group ?_ (args_group _)
    have run := W_found (c := c.in1) (E := E) m (Q := fun r h' => W c.in1 h' (reGroupText r 0 .none >>= fun v => ret v) (fun fin h' => ∃ v, fin = .done (.ret v) ∧ Q v h') E) (fun t pv p0 p1 li b => W_bind (W_groupText (x := x) (t := t) rfl hl (by
      have hg : grp x ((rawInt st :: rawInt e :: sp).map reRawOf).toArray 0 = some (sl x st e) := by
        unfold grp
        have h0 : ((rawInt st :: rawInt e :: sp).map reRawOf).toArray.getD (2 * 0) (-1) = (st : Int) := rfl
        have h1 : ((rawInt st :: rawInt e :: sp).map reRawOf).toArray.getD (2 * 0 + 1) (-1) = (e : Int) := rfl
        rw [h0, h1, if_neg (by omega)]
        rfl
      rw [hg]
      exact fun tk => W_pure ⟨_, rfl, q tk⟩)))
    unfold Builtin.«re.Match.group»
    refine wpAny_bind (wpAny_of_eq (a := ()) rfl ?_)
    refine wpAny_bind (wpAny_mono (run tk) (fun r s' ⟨h', tk', es, hr⟩ => ?_) fun _ _ y => y)
    subst es
    exact wpAny_mono (hr tk') (fun fin s' ⟨h'', tk'', es, v, hv, hq⟩ => ⟨v, hv, h'', tk'', es, hq⟩) fun _ _ y => y) fun _ _ y => y) hbase hline
/-- m.end() -/
theorem w_reend {env : Env} {o : Expr} {apos pos : Pos} {Q : Value → Heap → Prop}
    (y : W c h (eval o env) (fun ov h₁ => ∃ a x st e sp, ov = .ref a ∧ MatchAt h₁ a x st e sp ∧ ∀ tk, Q (.int (e : Nat) tk) h₁) E)
    (hbase : attributeBase o "end" env (eval o env) = eval o env := by rfl) (hline : (apos.endLine == pos.line) = true := by rfl) : W c h (eval (.Call (.Attribute o "end" apos) [] [] pos) env) Q E :=
  w_meth0 plainAttrs_mat slot_end type_end (W_mono y (fun ov h₁ ⟨a, x, st, e, sp, hv, m, q⟩ => by
    subst hv
    refine ⟨fun s es => MatchAt.typeIs (es ▸ m), m.noDict, fun tk => PySem.Calls.callWith_builtin rfl (PySem.evalArgs_none ?_)⟩
    refine wpAny_call_entry (s := c.st h₁ tk) slot_end (MatchAt.typeIs (s := c.st h₁ tk) m) entry_end ?_ (args_end _)
    have run := W_found (c := c.in1) (E := E) m (Q := fun r h' => r.spans.getD 1 (-1) = (e : Int) ∧ h' = h₁) (fun t pv p0 p1 li b => ⟨rfl, rfl⟩)
    unfold Builtin.«re.Match.end» reOneGroup
    refine wpAny_bind (wpAny_bind (wpAny_of_eq (a := (.ref a, [])) (by kernel_rfl) ?_))
    refine wpAny_bind (wpAny_mono (run tk) (fun r s' ⟨h', tk', es, hr, hh⟩ => ?_) fun _ _ y => y)
    subst es; subst hh
    refine wpAny_bind (wpAny_pure (wpAny_pure ?_))
    show wpAny _ _ (retInt (r.spans.getD 1 (-1))) _ _ _
    rw [hr]
    exact wpAny_bind (wpAny_bind (wpAny_fresh (wpAny_pure (wpAny_pure ⟨_, rfl, h', _, rfl, q _⟩))))) fun _ _ y => y) hbase hline
theorem W_mapM {x : Str} {t : Tok} {fs : Array Value} {sp : Array Int} (hx : fs.getD 0 .none = .str x t) (hl : x.length ≤ sizeLine) : ∀ (gs : List Nat) {Q : List Value → Heap → Prop}, (∀ vs, OptVals vs (gs.map fun g => grp x sp (g + 1)) → Q vs h) → W c h (gs.mapM fun g => reGroupText ⟨fs, sp⟩ (g + 1) .none) Q E
  | [], Q, q => by rw [List.mapM_nil]; exact W_pure (q _ .nil)
  | g :: gs, Q, q => by
    rw [List.mapM_cons]
    refine W_bind (W_groupText (x := x) (t := t) hx hl ?_)
    cases hg : grp x sp (g + 1) with
    | none => exact W_bind (W_mapM hx hl gs fun vs hv => W_pure (q _ (by rw [List.map_cons, hg]; exact .none hv)))
    | some y => exact fun tk => W_bind (W_mapM hx hl gs fun vs hv => W_pure (q _ (by rw [List.map_cons, hg]; exact .some hv)))
/-- m.groups() -/
theorem w_regroups {env : Env} {o : Expr} {apos pos : Pos} {Q : Value → Heap → Prop}
    (y : W c h (eval o env) (fun ov h₁ => ∃ a x st e sp, ov = .ref a ∧ MatchAt h₁ a x st e sp ∧ x.length ≤ sizeLine ∧ sp.length ≤ 1000 ∧
      ∀ b h' vs, Keep h₁ h' → New h₁ b → h'.IsTuple b vs.toArray → OptVals vs ((List.range (sp.length / 2)).map fun g => grp x (sp.map reRawOf).toArray g) → Q (.ref b) h') E)
    (hbase : attributeBase o "groups" env (eval o env) = eval o env := by rfl) (hline : (apos.endLine == pos.line) = true := by rfl) : W c h (eval (.Call (.Attribute o "groups" apos) [] [] pos) env) Q E :=
  w_meth0 plainAttrs_mat slot_groups type_groups (W_mono y (fun ov h₁ ⟨a, x, st, e, sp, hv, m, hl, hsp, q⟩ => by
    subst hv
    refine ⟨fun s es => MatchAt.typeIs (es ▸ m), m.noDict, fun tk => PySem.Calls.callWith_builtin rfl (PySem.evalArgs_none ?_)⟩
    refine wpAny_call_entry (s := c.st h₁ tk) slot_groups (MatchAt.typeIs (s := c.st h₁ tk) m) entry_groups ?_ (args_groups _)
    have hgr : ∀ g, grp x ((rawInt st :: rawInt e :: sp).map reRawOf).toArray (g + 1) = grp x (sp.map reRawOf).toArray g := fun g => by
      unfold grp
      have e1 : ∀ i, ((rawInt st :: rawInt e :: sp).map reRawOf).toArray.getD (i + 2) (-1) = (sp.map reRawOf).toArray.getD i (-1) := fun i => by
        simp [Array.getD_eq_getD_getElem?]
      rw [show 2 * (g + 1) = 2 * g + 2 by omega, show 2 * g + 2 + 1 = 2 * g + 1 + 2 by omega, e1, e1]
    have run := W_found (c := c.in1) (E := E) m (Q := fun r h' => W c.in1 h' ((List.range (r.spans.size / 2 - 1)).mapM fun g => reGroupText r (g + 1) .none) (fun vs h' => h' = h₁ ∧ OptVals vs ((List.range (sp.length / 2)).map fun g => grp x (sp.map reRawOf).toArray g)) E) (fun t pv p0 p1 li b => W_mapM (x := x) (t := t) rfl hl _ (fun vs hv => ⟨rfl, by
      simp only [hgr] at hv
      have hn : (((rawInt st :: rawInt e :: sp).map reRawOf).toArray.size / 2 - 1) = sp.length / 2 := by simp; omega
      rw [hn] at hv
      exact hv⟩))
    unfold Builtin.«re.Match.groups» reWithDefault
    have named : reNamed "re.Match.groups" "groups" ["default"] 0 [] [] = pure [none] := by kernel_rfl
    refine wpAny_bind ?_
    show wpAny _ _ (reNamed "re.Match.groups" "groups" ["default"] 0 [] [] >>= _) _ _ _
    rw [named]
    refine wpAny_bind (wpAny_pure ?_)
    refine wpAny_bind (wpAny_mono (run tk) (fun r s' ⟨h', tk', es, hr⟩ => ?_) fun _ _ y => y)
    subst es
    refine wpAny_pure ?_
    refine wpAny_bind (wpAny_mono (hr tk') (fun vs s' ⟨h'', tk'', es, hh, hv⟩ => ?_) fun _ _ y => y)
    subst es; subst hh
    have hvl : ∀ {vs xs}, OptVals vs xs → vs.length = xs.length := fun h => by
      induction h with
      | nil => rfl
      | none _ ih => simp [ih]
      | some _ ih => simp [ih]
    refine wpAny_bind (wpAny_newTuple ?_ (by
      rw [hvl hv, List.length_map, List.length_range]
      have : (1000 : Nat) < sizeLine := by decide
      omega))
    exact wpAny_pure ⟨_, rfl, _, tk'', rfl, q _ _ vs (Keep.push _ _) (New.of_le (Nat.le_refl _)) ⟨_, Heap.get?_push_size _ rfl, rfl, 0, rfl⟩ hv⟩) fun _ _ y => y) hbase hline
end
end Mine
end
section
open PySem PySem.W PySem.Calls PyProof.Rows
set_option maxRecDepth 100000
set_option linter.all false
set_option maxHeartbeats 4000000
namespace Mine
section
variable {c : Cx} {h : Heap} {E : Value → Heap → Prop}
theorem wc_rule (B : Base c.w h) (D : c.A.depth < recursionLimit) {v1 v2 v3 : Value} {R : Value → Heap → Prop} (q : ∀ h' t, Keep h h' → h'.IsTuple t #[v1, v2, v3] → R (.ref t) h') : WC c h (.call (.ref 386) ⟨[v1, v2, v3], []⟩) R E := by
  refine wc_fn "_Rule" ["pattern", "tokens", "command"] [] 386 385 (top.o_434 c.w.params) (top.o_433 c.w.params) [v1, v2, v3] B D (by kernel_rfl) (by kernel_rfl) (by kernel_rfl) (by kernel_rfl) (by kernel_rfl) (by decide) (by kernel_rfl) (by kernel_rfl) (by kernel_rfl) rfl (by kernel_rfl) (by kernel_rfl) (by kernel_rfl) ?_
  have X : FnOk (([("pattern" : Str), "tokens", "command"] : List Str) ++ ([] : List Str)) (fscope (top.o_434 c.w.params)) := FnOk.of (by kernel_rfl)
  intro c' h₁ L hw hp' hdp hun hhd B₁ K₁ F
  refine w_cons ?_
  exact w_return <| w_tuple <| w_args <| w_loc X F.ns (i := 0) rfl rfl <| w_args <| w_loc X F.ns (i := 1) rfl rfl <| w_args <| w_loc X F.ns (i := 2) rfl rfl <| w_args_nil ⟨rfl, fun a h' k n ht => q h' a (Keep.trans F.keep k) ht⟩
theorem wc_failure (B : Base c.w h) (D : c.A.depth + 1 < recursionLimit) {v : Value} {R : Value → Heap → Prop} (q : ∀ h' x, Keep h h' → R (.ref x) h') : WC c h (.call (.ref 216) ⟨[v], []⟩) R E := by
  refine wc_make (fI := 206) B (by kernel_rfl) (by kernel_rfl) (by kernel_rfl) fun c1 h1 x dx hw hp hdp hun hhd hfr k nx nd hne hx hd => ?_
  have B1 : Base c1.w h1 := hw ▸ B.mono k
  have hdn : New (H1 c1.w.params) dx := hw ▸ B.new nd
  refine wc_fn "Failure.__init__" ["self", "message"] [] 206 205 (top.o_245 c1.w.params) (top.o_244 c1.w.params) [.ref x, v] B1 (by omega) (by kernel_rfl) (by kernel_rfl) (by kernel_rfl) (by kernel_rfl) (by kernel_rfl) (by decide) (by kernel_rfl) (by kernel_rfl) (by kernel_rfl) rfl (by kernel_rfl) (by kernel_rfl) (by kernel_rfl) ?_
  have X : FnOk (([("self" : Str), "message"] : List Str) ++ ([] : List Str)) (fscope (top.o_245 c1.w.params)) := FnOk.of (by kernel_rfl)
  intro c' h₁ L hw2 hp' hdp2 hun2 hhd2 B₁ K₁ F
  obtain ⟨o, ho, hE⟩ := hd
  refine w_cons <| w_assign_attr <| w_loc X F.ns (i := 1) rfl rfl <| w_loc X F.ns (i := 0) rfl rfl <| w_setattr B₁ (F.keep _ _ hx) ⟨o, F.keep _ _ ho, hE⟩ (by kernel_rfl) (by kernel_rfl) (by kernel_rfl) (by kernel_rfl) rfl rfl fun h' kb ho' => ?_
  exact w_nil ⟨rfl, q h' x (fun b o e => kb b o (nd.ne e) (F.keep b o (k b o e)))⟩
theorem w_globS {L b : Addr} {nm : Str} {sc : Scope} {cd : Value} {x : Str} {pos : Pos} (y : Str) {Q : Value → Heap → Prop} (B : Base c.w h) (hv : (mg0 c.w.params x).bind strVal = some y) (q : ∀ t, Q (.str y t) h) (hk : sc.kind = .function := by rfl)
    (hx : (envOf nm sc L b cd).kindOf x = some .globalImplicit := by rfl) (hd : (x == ("__debug__" : Str)) = false := by decide) : W c h (eval (.Name x pos) (envOf nm sc L b cd)) Q E := by
  obtain ⟨v, h1, h2⟩ := Option.bind_eq_some_iff.mp hv
  obtain ⟨t, rfl⟩ := strVal.of h2
  exact w_glob (base_g B) h1 (q t) hk hx hd
/-- an own kind of tuple -/
def OlsO (vs : List Value) (o : Obj) : Prop := o.cls = .ref 376 ∧ ∃ n, o.data = .seq vs.toArray n
theorem OlsO.nt {vs : List Value} : ∀ o, OlsO vs o → o.cls ≠ .type "tuple" := fun o e => by rw [e.1]; simp
end
/-- the contract of OptionalLStrip(a, b) -/
noncomputable def OlsContract : Prop := ∀ {c : Cx} {h : Heap} {E : Value → Heap → Prop} {a b : Value} {R : Value → Heap → Prop}, c.prog = P0 → Base c.w h → c.A.depth + 1 < recursionLimit → c.A.units + 20 < cLine →
  (∀ h' x, Keep h h' → New h x → (∃ o, h'.get? x = some o ∧ OlsO [a, b] o) → R (.ref x) h') → WC c h (.call (.ref 376) ⟨[a, b], []⟩) R E
abbrev nsL : List Str := ([("self" : Str), "environment"] : List Str) ++ [("tag_rules" : Str)]
/-- a rule: its pattern, what it tells, its command -/
def RuleAt (h : Heap) (t : Addr) (pa : Nat) (tok : Str) (cmd : Option Str) : Prop := ∃ u w, h.IsTuple t #[.ref pa, .str tok u, w] ∧ (match cmd with | none => w = .none | some y => ∃ v, w = .str y v)
theorem RuleAt.tup {h h' : Heap} {t : Addr} {pa : Nat} {tok : Str} {cmd : Option Str} (k : TupKeep h h') (r : RuleAt h t pa tok cmd) : RuleAt h' t pa tok cmd := by
  obtain ⟨u, w, a, b⟩ := r
  exact ⟨u, w, k _ _ a, b⟩
/-- the rules within a printed thing -/
def varRules : List (Nat × Str × Option Str) := [(165, "variable_end", some "#pop"), (96, "whitespace", none), (116, "float", none), (111, "integer", none), (101, "name", none), (106, "string", none), (125, "operator", none)]
inductive RulesAt (h : Heap) : List Value → List (Nat × Str × Option Str) → Prop
  | nil : RulesAt h [] []
  | cons {t : Addr} {pa : Nat} {tok : Str} {cmd : Option Str} {vs rs} : RuleAt h t pa tok cmd → RulesAt h vs rs → RulesAt h (.ref t :: vs) ((pa, tok, cmd) :: rs)
theorem RulesAt.tup {h h' : Heap} (k : TupKeep h h') : ∀ {vs rs}, RulesAt h vs rs → RulesAt h' vs rs
  | _, _, .nil => .nil
  | _, _, .cons a r => .cons (a.tup k) (r.tup k)
theorem RulesAt.append {h : Heap} : ∀ {vs rs vs' rs'}, RulesAt h vs rs → RulesAt h vs' rs' → RulesAt h (vs ++ vs') (rs ++ rs')
  | _, _, _, _, .nil, r => r
  | _, _, _, _, .cons a r, r' => .cons a (r.append r')
end Mine
end
section
open PySem PySem.W PySem.Calls PyProof.Rows
set_option maxRecDepth 100000
set_option linter.all false
set_option maxHeartbeats 4000000
namespace Mine
/-- a lexer -/
def IsLexer (prog : Program) (w : World) (h : Heap) (x : Addr) (v2 v4 : Value) : Prop := ∃ dx d lr lv O kvs rk r0 r1 vvs t0 t1 t2 t3 u w0, h.get? x = some (instObj 432 dx) ∧ (∃ o, h.get? dx = some o ∧ EntsO kvs o) ∧ kvs.lookup ("lstrip_blocks" : Str) = some v2 ∧ kvs.lookup ("keep_trailing_newline" : Str) = some v4 ∧
  kvs.lookup ("rules" : Str) = some (.ref d) ∧ h.DictOf (strKind prog w) d rk ∧ valueAt rk ("root" : Str) = some (.ref lr) ∧ valueAt rk ("variable_begin" : Str) = some (.ref lv) ∧ Lst h lr [.ref r0, .ref r1] ∧ h.IsTuple r0 #[.ref 130, .ref O, .str "#bygroup" t0] ∧ h.IsTuple r1 #[.ref 135, .str "data" u, w0] ∧ w0 = .none ∧
  Lst h lv vvs ∧ RulesAt h vvs varRules ∧ (∃ o, h.get? O = some o ∧ OlsO [.str "data" t1, .str "#bygroup" t2] o) ∧ t3 = t2 ∧ kvs.lookup ("tokeniter" : Str) = none
section
variable {c : Cx} {h : Heap} {E : Value → Heap → Prop}
theorem w_ruleCall {L b : Addr} {nm : Str} {sc : Scope} {cd : Value} {p pos : Pos} {e1 e2 e3 : Expr} {Q : Value → Heap → Prop} (B : Base c.w h) (D : c.A.depth < recursionLimit)
    (y : W c h (spliced (backTo pos (starEach [e1, e2, e3] (envOf nm sc L b cd)))) (fun vs h₁ => Base c.w h₁ ∧ ∃ v1 v2 v3, vs = [v1, v2, v3] ∧ ∀ h' t, Keep h₁ h' → h'.IsTuple t #[v1, v2, v3] → Q (.ref t) h') E)
    (hk : sc.kind = .function := by rfl) (hx : (envOf nm sc L b cd).kindOf "_Rule" = some .globalImplicit := by rfl)
    (he : starEach [e1, e2, e3] (envOf nm sc L b cd) = (false, eval e1 (envOf nm sc L b cd)) :: starEach [e2, e3] (envOf nm sc L b cd) := by rfl) (hplain : (backTo pos (starEach [e2, e3] (envOf nm sc L b cd))).any (·.1) = false := by rfl) :
    W c h (eval (.Call (.Name "_Rule" p) [e1, e2, e3] [] pos) (envOf nm sc L b cd)) Q E := by
  have gr : ∀ P, GFn P "_Rule" 386 (top.o_434 P) := fun P => ⟨by kernel_rfl, by kernel_rfl, by kernel_rfl, by decide, by kernel_rfl⟩
  exact w_callG (gr _) B (W_mono y (fun vs h₁ ⟨B₁, v1, v2, v3, e, q⟩ => ⟨B₁, by subst e; exact W_call (wc_rule B₁ D q)⟩) fun _ _ y => y) hk hx (by decide) he
theorem wc_lexer_init (hols : OlsContract) (hP : c.prog = P0) {hb : Heap} (K0 : Keep hb h) (B : Base c.w hb) (D : c.A.depth + 3 < recursionLimit) (U : c.A.units + 40 < cLine) {x dx en : Addr} {b1 : Bool} {v2 v3 v4 : Value} (nx : New hb x) (nd : New hb dx) (hne : x ≠ dx)
    (hx : h.get? x = some (instObj 432 dx)) (hd : ∃ o, h.get? dx = some o ∧ EntsO [] o) (hen : IsEnv hb en (.bool b1) v2 v3 v4)
    (hh2 : handedIn v2 = true) (hh3 : handedIn v3 = true) (hh4 : handedIn v4 = true) {R : Value → Heap → Prop}
    (q : ∀ h', Keep hb h' → IsLexer c.prog c.w h' x v2 v4 → (∀ L h'', (∃ o, hb.get? L = some o) → KeepBut L h' h'' → TupKeep h' h'' → IsLexer c.prog c.w h'' x v2 v4) → R .none h') : WC c h (.call (.ref 400) ⟨[.ref x, .ref en], []⟩) R E := by
  refine wc_fn "Lexer.__init__" ["self", "environment"] ["tag_rules"] 400 399 (top.o_451 c.w.params) (top.o_450 c.w.params) [.ref x, .ref en] (B.mono K0) (by omega) (by kernel_rfl) (by kernel_rfl) (by kernel_rfl) (by kernel_rfl) (by kernel_rfl) (by decide) (by kernel_rfl) (by kernel_rfl) (by kernel_rfl) rfl (by kernel_rfl) (by kernel_rfl) (by kernel_rfl) ?_
  have X : FnOk nsL (fscope (top.o_451 c.w.params)) := FnOk.of (by kernel_rfl)
  intro c' h₁ L hw hp' hdp hun hhd B₁ K₁ F
  have D' : c'.A.depth + 1 < recursionLimit := by omega
  have hP' : c'.prog = P0 := hp'.trans hP
  have nL0 : New h L := New.of_le F.above
  have nL : New hb L := nL0.back K0
  have Bw : Base c'.w hb := hw ▸ B
  have M : MS c'.w hb [] (fun _ => True) L nsL _ [(x, .obj (· = instObj 432 dx)), (dx, .obj (EntsO []))] h₁ :=
    ⟨B₁, F.ns, fun p hp => by
        simp only [List.mem_cons, List.not_mem_nil, or_false] at hp
        rcases hp with rfl | rfl
        · exact ⟨⟨_, K₁ _ _ hx, rfl⟩, fun o e => by rw [e]; simp⟩
        · obtain ⟨o, ho, hh⟩ := hd
          exact ⟨⟨o, K₁ _ _ ho, hh⟩, EntsO.nt⟩, by
        obtain ⟨o, ho, _⟩ := hd
        have h1 := nL0.ne ho
        have h2 := nL0.ne hx
        simp only [List.map_cons, List.map_nil, List.nodup_cons, List.mem_cons, List.not_mem_nil, or_false, not_or, List.nodup_nil, and_true, not_false_eq_true]
        exact ⟨⟨Ne.symm h2, Ne.symm h1⟩, hne⟩, fun b o _ e => F.keep b o (K0 b o e),
      fun a ha => by
        simp only [List.map_cons, List.map_nil, List.mem_cons, List.not_mem_nil, or_false] at ha
        rcases ha with rfl | rfl | rfl
        · exact .inr nL
        · exact .inr nx
        · exact .inr nd, fun a ha => by
        simp only [List.map_cons, List.map_nil, List.mem_cons, List.not_mem_nil, or_false] at ha
        rcases ha with rfl | rfl | rfl
        · exact Bw.new nL
        · exact Bw.new nx
        · exact Bw.new nd, trivial, fun _ _ _ _ => trivial⟩
  have kp : ∀ {I vs ls g}, MS c'.w hb [] I L nsL vs ls g → Keep hb g := fun M b o e => M.keep b o (by simp) e
  have envAt : ∀ {I vs ls g}, MS c'.w hb [] I L nsL vs ls g → IsEnv g en (.bool b1) v2 v3 v4 := fun M => by
    obtain ⟨dy, e1, o, e2, e3⟩ := hen
    exact ⟨dy, kp M _ _ e1, o, kp M _ _ e2, e3⟩
  have gattr : ∀ {I vs ls g name v} {Q : Value → Heap → Prop}, MS c'.w hb [] I L nsL vs ls g → plainGet (KF c'.w.params) 491 name = true → findIn (KF c'.w.params) (.ref 491) name = some none → (∀ kvs : List (Str × Value), (kvs.lookup ("trim_blocks" : Str) = some (.bool b1) ∧ kvs.lookup ("lstrip_blocks" : Str) = some v2 ∧ kvs.lookup ("newline_sequence" : Str) = some v3 ∧ kvs.lookup ("keep_trailing_newline" : Str) = some v4) → kvs.lookup name = some v) → handedIn v = true → Q v g → W c' g (getAttr (.ref en) name true) Q (fun _ _ => False) := fun M hg ha hl hv q => by
    obtain ⟨dy, e1, o, e2, kvs, e3, e4⟩ := envAt M
    exact w_getattr M.base e1 ⟨o, e2, e3⟩ hg (by kernel_rfl) ha (hl kvs e4) hv q
  replace M := M.know (I' := fun g => RulesAt g [] []) .nil (fun _ _ k r => r.tup k)
  have rule : ∀ {vs rs lo ls g g1 t pa tok cmd}, MS c'.w hb [] (fun g => RulesAt g vs rs) L nsL lo ls g → Keep g g1 → RuleAt g1 t pa tok cmd → MS c'.w hb [] (fun g => RulesAt g (vs ++ [.ref t]) (rs ++ [(pa, tok, cmd)])) L nsL lo ls g1 := @fun vs rs lo ls g g1 t pa tok cmd M k r =>
    (M.mono k).know (I' := fun g => RulesAt g (vs ++ [Value.ref t]) (rs ++ [(pa, tok, cmd)])) ((M.mono k).inv.append (.cons r .nil)) (fun _ _ k r => r.tup k)
  refine w_cons <| w_assign <| w_list <| ?_
  refine w_args <| w_ruleCall M.base (by omega) <| w_args <| w_glob (base_g M.base) (show mg0 c'.w.params "whitespace_re" = some (.ref 96) by kernel_rfl) <| w_args <| w_globS "whitespace" M.base (by kernel_rfl) fun t1 => w_args <| w_none <| w_args_nil ⟨M.base, _, _, _, rfl, fun g0 r0 k0 h0 => ?_⟩
  replace M := rule M k0 (pa := 96) (tok := "whitespace") (cmd := none) ⟨_, _, h0, rfl⟩
  refine w_args <| w_ruleCall M.base (by omega) <| w_args <| w_glob (base_g M.base) (show mg0 c'.w.params "float_re" = some (.ref 116) by kernel_rfl) <| w_args <| w_globS "float" M.base (by kernel_rfl) fun t1 => w_args <| w_none <| w_args_nil ⟨M.base, _, _, _, rfl, fun g1 r1 k1 h1 => ?_⟩
  replace M := rule M k1 (pa := 116) (tok := "float") (cmd := none) ⟨_, _, h1, rfl⟩
  refine w_args <| w_ruleCall M.base (by omega) <| w_args <| w_glob (base_g M.base) (show mg0 c'.w.params "integer_re" = some (.ref 111) by kernel_rfl) <| w_args <| w_globS "integer" M.base (by kernel_rfl) fun t1 => w_args <| w_none <| w_args_nil ⟨M.base, _, _, _, rfl, fun g2 r2 k2 h2 => ?_⟩
  replace M := rule M k2 (pa := 111) (tok := "integer") (cmd := none) ⟨_, _, h2, rfl⟩
  refine w_args <| w_ruleCall M.base (by omega) <| w_args <| w_glob (base_g M.base) (show mg0 c'.w.params "name_re" = some (.ref 101) by kernel_rfl) <| w_args <| w_globS "name" M.base (by kernel_rfl) fun t1 => w_args <| w_none <| w_args_nil ⟨M.base, _, _, _, rfl, fun g3 r3 k3 h3 => ?_⟩
  replace M := rule M k3 (pa := 101) (tok := "name") (cmd := none) ⟨_, _, h3, rfl⟩
  refine w_args <| w_ruleCall M.base (by omega) <| w_args <| w_glob (base_g M.base) (show mg0 c'.w.params "string_re" = some (.ref 106) by kernel_rfl) <| w_args <| w_globS "string" M.base (by kernel_rfl) fun t1 => w_args <| w_none <| w_args_nil ⟨M.base, _, _, _, rfl, fun g4 r4 k4 h4 => ?_⟩
  replace M := rule M k4 (pa := 106) (tok := "string") (cmd := none) ⟨_, _, h4, rfl⟩
  refine w_args <| w_ruleCall M.base (by omega) <| w_args <| w_glob (base_g M.base) (show mg0 c'.w.params "operator_re" = some (.ref 125) by kernel_rfl) <| w_args <| w_globS "operator" M.base (by kernel_rfl) fun t1 => w_args <| w_none <| w_args_nil ⟨M.base, _, _, _, rfl, fun g5 r5 k5 h5 => ?_⟩
  replace M := rule M k5 (pa := 125) (tok := "operator") (cmd := none) ⟨_, _, h5, rfl⟩
  refine w_args_nil ⟨rfl, fun T g6 k6 nT lT => ?_⟩
  replace M := M.add nT (nT.back (kp M)) k6 lT
  refine w_store X M.ns (i := 2) rfl rfl fun g7 N7 k7 => ?_
  replace M := M.store N7 k7
  have store : ∀ {I : Heap → Prop} {kvs : List (Str × Value)} {lo g name v c0 ls} {Q : Heap → Prop}, MS c'.w hb [] I L nsL lo (c0 :: (dx, .obj (EntsO kvs)) :: ls) g → g.get? x = some (instObj 432 dx) → takerIn (KF c'.w.params) 432 name = some none → (kvs.map (·.1)).contains name = false → Nat.ble kvs.length 100 = true →
      (∀ g', MS c'.w hb [] I L nsL lo (c0 :: (dx, .obj (EntsO (kvs ++ [(name, v)]))) :: ls) g' → Q g') → W c' g (setAttr (.ref x) name v) (fun _ => Q) (fun _ _ => False) := fun M hx ht hf hl q =>
    w_setattr M.base hx (M.getO 1 rfl) (by kernel_rfl) (by kernel_rfl) ht (by kernel_rfl) hf hl fun g' kb ho => q g' (M.setO 1 rfl ho EntsO.nt kb)
  have inst : ∀ {I lo ls g}, MS c'.w hb [] I L nsL lo ((x, .obj (· = instObj 432 dx)) :: ls) g → g.get? x = some (instObj 432 dx) := fun M => by
    obtain ⟨o, ho, e⟩ := M.getO 0 rfl
    rw [ho, e]
  refine w_cons <| w_assign_attr <| w_attr (by rfl) (by intros; rfl) <| w_loc X M.ns (i := 1) rfl rfl <| gattr M (by kernel_rfl) (by kernel_rfl) (fun _ e => e.2.1) hh2 <| w_loc X M.ns (i := 0) rfl rfl <| store M (inst M) (by kernel_rfl) (by kernel_rfl) rfl fun g8 M => ?_
  refine w_cons <| w_assign_attr <| w_attr (by rfl) (by intros; rfl) <| w_loc X M.ns (i := 1) rfl rfl <| gattr M (by kernel_rfl) (by kernel_rfl) (fun _ e => e.2.2.1) hh3 <| w_loc X M.ns (i := 0) rfl rfl <| store M (inst M) (by kernel_rfl) (by kernel_rfl) rfl fun g9 M => ?_
  refine w_cons <| w_assign_attr <| w_attr (by rfl) (by intros; rfl) <| w_loc X M.ns (i := 1) rfl rfl <| gattr M (by kernel_rfl) (by kernel_rfl) (fun _ e => e.2.2.2) hh4 <| w_loc X M.ns (i := 0) rfl rfl <| store M (inst M) (by kernel_rfl) (by kernel_rfl) rfl fun g10 M => ?_
  refine @w_cons _ _ _ _ _ _ _ (@w_assign_attr _ _ _ _ _ _ _ _ _ _ (@w_dict _ _ _ _ _ _ _ _ (fun d g11 nd11 k11 hD => ?_) (by rfl) (by rfl) (by rfl) (by rfl)) (by with_unfolding_all rfl))
  have hdt : ∃ o, g11.get? d = some o ∧ o.cls = .type "dict" := hD.typeIs (s := c'.st g11 0)
  replace M := M.addO nd11 (nd11.back (kp M)) k11 hdt (fun o e => by rw [e]; simp)
  have KK := Keep.rfl' g11
  have U' : c'.A.units + 20 < cLine := by omega
  -- the outer rules
  refine w_pairs <| w_str fun ka => w_list <| w_args <| w_ruleCall M.base (by omega) <| w_args <| w_glob (base_g M.base) (show mg0 c'.w.params "root_re" = some (.ref 130) by kernel_rfl) <| w_args <| w_callK (show mg0 c'.w.params "OptionalLStrip" = some (.ref 376) by kernel_rfl) M.base (by kernel_rfl) <|
    w_args <| w_globS "data" M.base (by kernel_rfl) fun t1 => w_args <| w_str fun t2 => w_args_nil ⟨M.base, W_call (hols hP' M.base D' U' fun g12 O k12 nO hO => ?_)⟩
  replace M := M.addO nO (nO.back (kp M)) k12 hO OlsO.nt
  replace KK := Keep.trans KK k12
  refine w_args <| w_str fun t3 => w_args_nil ⟨M.base, _, _, _, rfl, fun g13 r13 k13 h13 => ?_⟩
  replace M := (M.mono k13).know (I' := fun g => RulesAt g _ _ ∧ g.IsTuple r13 _) ⟨(M.mono k13).inv, h13⟩ (fun _ _ k r => ⟨r.1.tup k, k _ _ r.2⟩)
  replace KK := Keep.trans KK k13
  refine w_args <| w_ruleCall M.base (by omega) <| w_args <| w_glob (base_g M.base) (show mg0 c'.w.params "data_re" = some (.ref 135) by kernel_rfl) <| w_args <| w_globS "data" M.base (by kernel_rfl) fun t4 => w_args <| w_none <| w_args_nil ⟨M.base, _, _, _, rfl, fun g14 r14 k14 h14 => ?_⟩
  replace M := (M.mono k14).know (I' := fun g => (RulesAt g _ _ ∧ g.IsTuple r13 _) ∧ g.IsTuple r14 _) ⟨(M.mono k14).inv, h14⟩ (fun _ _ k r => ⟨⟨r.1.1.tup k, k _ _ r.1.2⟩, k _ _ r.2⟩)
  replace KK := Keep.trans KK k14
  refine w_args_nil ⟨rfl, fun Rl g15 k15 n15 l15 => ?_⟩
  replace M := M.add n15 (n15.back (kp M)) k15 l15
  replace KK := Keep.trans KK k15
  have anyIf : ∀ {I : Heap → Prop} {lo ls g nm1 nm2 a1 a2 p1 p2 p3 p4 p5} {Q : Value → Heap → Prop}, MS c'.w hb [] I L nsL lo ls g → lo[1]? = some (some (.ref en)) → mg0 c'.w.params nm1 = some (.ref a1) → mg0 c'.w.params nm2 = some (.ref a2) →
      (envOf "Lexer.__init__" (fscope (top.o_451 c.w.params)) L 400 (.ref 399)).kindOf nm1 = some .globalImplicit → (envOf "Lexer.__init__" (fscope (top.o_451 c.w.params)) L 400 (.ref 399)).kindOf nm2 = some .globalImplicit → (nm1 == ("__debug__" : Str)) = false → (nm2 == ("__debug__" : Str)) = false → (∀ v, Q v g) →
      W c' g (eval (.IfExp (.Attribute (.Name "environment" p1) "trim_blocks" p2) (.Name nm1 p3) (.Name nm2 p4) p5) (envOf "Lexer.__init__" (fscope (top.o_451 c.w.params)) L 400 (.ref 399))) Q (fun _ _ => False) := fun M hl h1 h2 k1 k2 d1 d2 q =>
    w_ifexp' (b1 = true) (fun g' => _ = g') (w_tval <| w_attr (by rfl) (by intros; rfl) <| w_loc X M.ns (i := 1) rfl hl <| gattr M (by kernel_rfl) (by kernel_rfl) (fun _ e => e.1) rfl <| w_tbool ⟨rfl, Iff.rfl⟩)
      (fun _ g' e => by subst e; exact w_glob (base_g M.base) h1 (q _) X.kind k1 d1) (fun _ g' e => by subst e; exact w_glob (base_g M.base) h2 (q _) X.kind k2 d2)
  -- remarks
  refine w_pairs <| w_globS "comment_begin" M.base (by kernel_rfl) fun kb => w_list <| w_args <| w_ruleCall M.base (by omega) <| w_args <| anyIf M rfl (show mg0 c'.w.params "comment_trim_re" = some (.ref 150) by kernel_rfl) (show mg0 c'.w.params "comment_re" = some (.ref 145) by kernel_rfl) (by kernel_rfl) (by kernel_rfl) (by kernel_rfl) (by kernel_rfl) fun v1 => ?_
  refine w_args <| w_tuple <| w_args <| w_globS "comment" M.base (by kernel_rfl) fun t5 => w_args <| w_globS "comment_end" M.base (by kernel_rfl) fun t6 => w_args_nil ⟨rfl, fun u16 g16 k16 _ _ => ?_⟩
  replace M := M.mono k16
  replace KK := Keep.trans KK k16
  refine w_args <| w_str fun t7 => w_args_nil ⟨M.base, _, _, _, rfl, fun g17 r17 k17 _ => ?_⟩
  replace M := M.mono k17
  replace KK := Keep.trans KK k17
  refine w_args <| w_ruleCall M.base (by omega) <| w_args <| w_glob (base_g M.base) (show mg0 c'.w.params "missing_re" = some (.ref 140) by kernel_rfl) <| w_args <| w_tuple <| w_args <| w_callK (show mg0 c'.w.params "Failure" = some (.ref 216) by kernel_rfl) M.base (by kernel_rfl) <| w_args <| w_str fun tf => w_args_nil ⟨M.base, W_call (wc_failure M.base (by omega) fun gxa fx kxa => ?_)⟩
  replace M := M.mono kxa
  replace KK := Keep.trans KK kxa
  refine w_args_nil ⟨rfl, fun ux gxb kxb _ _ => ?_⟩
  replace M := M.mono kxb
  replace KK := Keep.trans KK kxb
  refine w_args <| w_none <| w_args_nil ⟨M.base, _, _, _, rfl, fun gxc rx kxc _ => ?_⟩
  replace M := M.mono kxc
  replace KK := Keep.trans KK kxc
  refine w_args_nil ⟨rfl, fun lx gxd kxd _ _ => ?_⟩
  replace M := M.mono kxd
  replace KK := Keep.trans KK kxd
  -- blocks
  refine w_pairs <| w_globS "block_begin" M.base (by kernel_rfl) fun kc => w_binop <| w_list <| w_args <| w_ruleCall M.base (by omega) <| w_args <| anyIf M rfl (show mg0 c'.w.params "block_trim_re" = some (.ref 160) by kernel_rfl) (show mg0 c'.w.params "block_re" = some (.ref 155) by kernel_rfl) (by kernel_rfl) (by kernel_rfl) (by kernel_rfl) (by kernel_rfl) fun vx2 => ?_
  refine w_args <| w_globS "block_end" M.base (by kernel_rfl) fun t8 => w_args <| w_str fun t9 => w_args_nil ⟨M.base, _, _, _, rfl, fun g18 r18 k18 _ => ?_⟩
  replace M := M.mono k18
  replace KK := Keep.trans KK k18
  refine w_args_nil ⟨rfl, fun l19 g19 k19 _ hl19 => ?_⟩
  replace M := M.mono k19
  replace KK := Keep.trans KK k19
  refine w_loc X M.ns (i := 2) rfl rfl <| w_add_list hl19 (M.get 2 rfl) (by show (7 : Nat) ≤ _; decide) fun l20 g20 k20 _ _ => ?_
  replace M := M.mono k20
  replace KK := Keep.trans KK k20
  -- printed things
  refine w_pairs <| w_globS "variable_begin" M.base (by kernel_rfl) fun kd => w_binop <| w_list <| w_args <| w_ruleCall M.base (by omega) <| w_args <| w_glob (base_g M.base) (show mg0 c'.w.params "variable_re" = some (.ref 165) by kernel_rfl) <|
    w_args <| w_globS "variable_end" M.base (by kernel_rfl) fun t8 => w_args <| w_str fun t9 => w_args_nil ⟨M.base, _, _, _, rfl, fun g21 r21 k21 h21 => ?_⟩
  replace M := (M.mono k21).know (I' := fun g => (((RulesAt g _ _ ∧ g.IsTuple r13 _) ∧ g.IsTuple r14 _)) ∧ RuleAt g r21 165 "variable_end" (some "#pop")) ⟨(M.mono k21).inv, ⟨_, _, h21, _, rfl⟩⟩ (fun _ _ k r => ⟨⟨⟨r.1.1.1.tup k, k _ _ r.1.1.2⟩, k _ _ r.1.2⟩, r.2.tup k⟩)
  replace KK := Keep.trans KK k21
  refine w_args_nil ⟨rfl, fun l22 g22 k22 _ hl22 => ?_⟩
  replace M := M.mono k22
  replace KK := Keep.trans KK k22
  refine w_loc X M.ns (i := 2) rfl rfl <| w_add_list hl22 (M.get 2 rfl) (by show (7 : Nat) ≤ _; decide) fun Vl g23 k23 n23 l23 => ?_
  replace M := M.add n23 (n23.back (kp M)) k23 l23
  replace KK := Keep.trans KK k23
  -- raw parts
  refine w_pairs <| w_globS "raw_begin" M.base (by kernel_rfl) fun ke => w_list <| w_args <| w_ruleCall M.base (by omega) <| w_args <| anyIf M rfl (show mg0 c'.w.params "raw_trim_re" = some (.ref 175) by kernel_rfl) (show mg0 c'.w.params "raw_re" = some (.ref 170) by kernel_rfl) (by kernel_rfl) (by kernel_rfl) (by kernel_rfl) (by kernel_rfl) fun v3 => ?_
  refine w_args <| w_callK (show mg0 c'.w.params "OptionalLStrip" = some (.ref 376) by kernel_rfl) M.base (by kernel_rfl) <|
    w_args <| w_globS "data" M.base (by kernel_rfl) fun t10 => w_args <| w_globS "raw_end" M.base (by kernel_rfl) fun t11 => w_args_nil ⟨M.base, W_call (hols hP' M.base D' U' fun g24 O2 k24 _ _ => ?_)⟩
  replace M := M.mono k24
  replace KK := Keep.trans KK k24
  refine w_args <| w_str fun t12 => w_args_nil ⟨M.base, _, _, _, rfl, fun g25 r25 k25 _ => ?_⟩
  replace M := M.mono k25
  replace KK := Keep.trans KK k25
  refine w_args <| w_ruleCall M.base (by omega) <| w_args <| w_glob (base_g M.base) (show mg0 c'.w.params "missing_re" = some (.ref 140) by kernel_rfl) <| w_args <| w_tuple <| w_args <| w_callK (show mg0 c'.w.params "Failure" = some (.ref 216) by kernel_rfl) M.base (by kernel_rfl) <| w_args <| w_str fun tf => w_args_nil ⟨M.base, W_call (wc_failure M.base (by omega) fun gya fy kya => ?_)⟩
  replace M := M.mono kya
  replace KK := Keep.trans KK kya
  refine w_args_nil ⟨rfl, fun uy gyb kyb _ _ => ?_⟩
  replace M := M.mono kyb
  replace KK := Keep.trans KK kyb
  refine w_args <| w_none <| w_args_nil ⟨M.base, _, _, _, rfl, fun gyc ry kyc _ => ?_⟩
  replace M := M.mono kyc
  replace KK := Keep.trans KK kyc
  refine w_args_nil ⟨rfl, fun ly gyd kyd _ _ => ?_⟩
  replace M := M.mono kyd
  replace KK := Keep.trans KK kyd
  refine w_pairs_nil ⟨KK, [(("root" : Str), .ref Rl), ("comment_begin", .ref lx), ("block_begin", .ref l20), ("variable_begin", .ref Vl), ("raw_begin", .ref ly)], ⟨strKind_is _ _ _ _, rfl, strKind_is _ _ _ _, rfl, strKind_is _ _ _ _, rfl, strKind_is _ _ _ _, rfl, strKind_is _ _ _ _, rfl, trivial⟩, fun g26 hD26 kb26 => ?_⟩
  rw [merged_append_of_fresh [] _ (by simp only [List.nil_append, List.map]; decide)] at hD26
  obtain ⟨od, hod, hdd⟩ := Heap.dictOf_iff.mp hD26
  have hcl : od.cls = .type "dict" := by
    obtain ⟨o', h1, h2⟩ := hD26.typeIs (s := c'.st g26 0)
    have e : g26.get? d = some o' := h1
    rw [hod] at e
    cases e
    exact h2
  replace M := M.setO 3 rfl (P' := fun o => o.IsDictOf (strKind c'.prog c'.w) ([] ++ [(("root" : Str), Value.ref Rl), ("comment_begin", .ref lx), ("block_begin", .ref l20), ("variable_begin", .ref Vl), ("raw_begin", .ref ly)]) ∧ o.cls = .type "dict") ⟨od, hod, hdd, hcl⟩ (fun o e => by rw [e.2]; simp) kb26
  refine w_loc X M.ns (i := 0) rfl rfl <| store M (inst M) (by kernel_rfl) (by kernel_rfl) rfl fun g27 M => ?_
  obtain ⟨o1, ho1, hE1⟩ := M.getO 1 rfl
  obtain ⟨o3, ho3, hd3, _⟩ := M.getO 3 rfl
  obtain ⟨o4, ho4, hO4⟩ := M.getO 4 rfl
  obtain ⟨⟨⟨i1, i2⟩, i3⟩, i4⟩ := M.inv
  obtain ⟨n5, l5⟩ := M.get 5 rfl
  obtain ⟨n6, l6⟩ := M.get 6 rfl
  have hx7 := inst M
  have fin : ∀ h'' : Heap, (∀ a o, New hb a → g27.get? a = some o → h''.get? a = some o) → TupKeep g27 h'' → IsLexer c.prog c.w h'' x v2 v4 := fun h'' k tk => by
    have hDf : h''.DictOf (strKind c.prog c.w) d ([] ++ [(("root" : Str), Value.ref Rl), ("comment_begin", .ref lx), ("block_begin", .ref l20), ("variable_begin", .ref Vl), ("raw_begin", .ref ly)]) := by
      rw [← hw, ← hp']
      exact Heap.dictOf_iff.mpr ⟨o3, k _ _ ((M.new d (by simp)).resolve_left (by simp)) ho3, hd3⟩
    exact ⟨dx, d, Rl, Vl, O, _, _, r13, r14, _, t3, t1, t2, t2, t4, .none, k _ _ nx hx7, ⟨o1, k _ _ nd ho1, hE1⟩, by kernel_rfl, by kernel_rfl, by kernel_rfl, hDf, by kernel_rfl, by kernel_rfl, ⟨n5, k _ _ ((M.new Rl (by simp)).resolve_left (by simp)) l5⟩, tk _ _ i2, tk _ _ i3, rfl, ⟨n6, k _ _ ((M.new Vl (by simp)).resolve_left (by simp)) l6⟩, (RulesAt.cons i4 i1).tup tk, ⟨o4, k _ _ ((M.new O (by simp)).resolve_left (by simp)) ho4, hO4⟩, rfl, by kernel_rfl⟩
  exact w_nil (q g27 (kp M) (fin g27 (fun _ _ _ e => e) fun _ _ e => e) fun L h'' ⟨o, e⟩ k tk => fin h'' (fun a o' n e' => k a o' (fun x => New.ne n (x ▸ e) rfl) e') tk)
/-- Lexer(environment) -/
theorem wc_lexer (hols : OlsContract) (hP : c.prog = P0) (B : Base c.w h) (D : c.A.depth + 4 < recursionLimit) (U : c.A.units + 50 < cLine) {en : Addr} {b1 : Bool} {v2 v3 v4 : Value} (hen : IsEnv h en (.bool b1) v2 v3 v4)
    (hh2 : handedIn v2 = true) (hh3 : handedIn v3 = true) (hh4 : handedIn v4 = true) {R : Value → Heap → Prop} (q : ∀ h' x, Keep h h' → IsLexer c.prog c.w h' x v2 v4 → (∀ L h'', (∃ o, h.get? L = some o) → KeepBut L h' h'' → TupKeep h' h'' → IsLexer c.prog c.w h'' x v2 v4) → R (.ref x) h') : WC c h (.call (.ref 432) ⟨[.ref en], []⟩) R E := by
  refine wc_make (fI := 400) B (by kernel_rfl) (by kernel_rfl) (by kernel_rfl) fun c1 h1 x dx hw hp hdp hun hhd hfr k nx nd hne hx hd => ?_
  refine wc_lexer_init hols (hp.trans hP) k (hw ▸ B) (by omega) (by omega) nx nd hne hx hd hen hh2 hh3 hh4 fun h' kk hl st => ⟨rfl, q h' x kk ?_ ?_⟩
  · rw [← hp, ← hw]
    exact hl
  · rw [← hp, ← hw]
    exact st
end
end Mine
end
section
open PySem PySem.W PySem.Calls PyProof.Rows
set_option maxRecDepth 100000
set_option linter.all false
set_option maxHeartbeats 4000000
namespace Mine
/-- what the consumer of a generator keeps: its list, its frame, what it knows of tuples -/
structure Cons where
  T : Addr
  Lc : Addr
  K : Heap
  PT : Nat → Heap → Obj → Prop
  PL : Nat → Heap → Obj → Prop
  Ic : Nat → Heap → Prop
  ntT : ∀ n h o, PT n h o → NoTup o
  ntL : ∀ n h o, PL n h o → NoTup o
  stT : ∀ n h h' o, TupKeep h h' → PT n h o → PT n h' o
  stL : ∀ n h h' o, TupKeep h h' → PL n h o → PL n h' o
  st : ∀ n h h', TupKeep h h' → Ic n h → Ic n h'
  ne : Lc ≠ T
def Cons.X (C : Cons) : List Addr := [C.Lc, C.T]
def Cons.cells (C : Cons) (n : Nat) : List (Addr × Cell) := [(C.Lc, .objH (C.PL n)), (C.T, .objH (C.PT n))]
/-- as it stands at a yield or a return -/
structure Cons.at (C : Cons) (w : World) (h₀ : Heap) (n : Nat) (h : Heap) : Prop where
  base : Base w h
  t : ∃ o, h.get? C.T = some o ∧ C.PT n h o
  l : ∃ o, h.get? C.Lc = some o ∧ C.PL n h o
  i : C.Ic n h
  keep : ∀ b o, b ∉ C.X → h₀.get? b = some o → h.get? b = some o
/-- the consumer's step -/
structure Cons.step (C : Cons) (n : Nat) (h h' : Heap) : Prop where
  tup : TupKeep h h'
  but : ∀ b o, b ∉ C.X → h.get? b = some o → h'.get? b = some o
  t : ∃ o, h'.get? C.T = some o ∧ C.PT n h' o
  l : ∃ o, h'.get? C.Lc = some o ∧ C.PL n h' o
  i : C.Ic n h'
section
variable {C : Cons} {w : World} {h₀ h h' : Heap} {I : Heap → Prop} {L : Addr} {ns : List Str} {vs : List (Option Value)} {ls : List (Addr × Cell)} {n : Nat}
/-- the generator's state: its frame, its cells, and what the consumer keeps -/
abbrev GS (C : Cons) (w : World) (h₀ : Heap) (n : Nat) (I : Heap → Prop) (L : Addr) (ns : List Str) (vs : List (Option Value)) (ls : List (Addr × Cell)) (h : Heap) : Prop := MS w h₀ C.X (fun h => C.Ic n h ∧ I h) L ns vs (C.cells n ++ ls) h
theorem MS.cons (M : GS C w h₀ n I L ns vs ls h) : C.at w h₀ n h :=
  ⟨M.base, (M.lst (C.T, .objH (C.PT n)) (by simp [Cons.cells])).1, (M.lst (C.Lc, .objH (C.PL n)) (by simp [Cons.cells])).1, M.inv.1, M.keep⟩
theorem MS.step (M : GS C w h₀ (n + 1) I L ns vs ls h) (hI : ∀ h h', TupKeep h h' → I h → I h') (s : C.step n h h') : GS C w h₀ n I L ns vs ls h' := by
  have nd := M.nd
  have hmap : L :: (C.cells (n + 1) ++ ls).map (·.1) = L :: C.Lc :: C.T :: ls.map (·.1) := by simp [Cons.cells]
  have hmap' : L :: (C.cells n ++ ls).map (·.1) = L :: C.Lc :: C.T :: ls.map (·.1) := by simp [Cons.cells]
  have nb := M.nb
  have nw := M.new
  rw [hmap] at nd nb nw
  have hX : ∀ a, a ∈ C.X ↔ a = C.Lc ∨ a = C.T := fun a => by simp [Cons.X]
  have hL : L ∉ C.X := fun h => by
    rw [hX] at h
    rcases h with h | h <;> simp [h] at nd
  refine ⟨fun b o hb => s.but b o (fun hx => ?_) (M.base b o hb), ?_, fun p hp => ?_, by rw [hmap']; exact nd, fun b o hb e => s.but b o hb (M.keep b o hb e), by rw [hmap']; exact nw, by rw [hmap']; exact nb, ⟨s.i, hI _ _ s.tup M.inv.2⟩, fun h h' t i => ⟨C.st n h h' t i.1, hI _ _ t i.2⟩⟩
  · rw [hX] at hx
    have : New (H1 w.params) b := nb b (by rcases hx with hx | hx <;> simp [hx])
    exact New.ne this hb rfl
  · obtain ⟨o, es, ep, e, r⟩ := M.ns
    exact ⟨o, es, ep, s.but L o hL e, r⟩
  · simp only [Cons.cells, List.cons_append, List.nil_append, List.mem_cons] at hp
    rcases hp with rfl | rfl | hp
    · exact ⟨s.l, C.ntL n, C.stL n⟩
    · exact ⟨s.t, C.ntT n, C.stT n⟩
    · have hpX : p.1 ∉ C.X := fun h => by
        rw [hX] at h
        have hm : p.1 ∈ ls.map (·.1) := List.mem_map_of_mem hp
        have nd2 := (List.nodup_cons.mp nd).2
        rcases h with h | h
        · rw [h] at hm
          exact (List.nodup_cons.mp nd2).1 (List.mem_cons_of_mem _ hm)
        · rw [h] at hm
          exact (List.nodup_cons.mp (List.nodup_cons.mp nd2).2).1 hm
      have := M.lst p (by simp only [Cons.cells, List.cons_append, List.nil_append, List.mem_cons]; exact .inr (.inr hp))
      obtain ⟨a, x⟩ := p
      cases x with
      | lst vs => obtain ⟨k, e⟩ := this; exact ⟨k, s.but _ _ hpX e⟩
      | obj P => obtain ⟨⟨o, e, q⟩, f⟩ := this; exact ⟨⟨o, s.but _ _ hpX e, q⟩, f⟩
      | objH P => obtain ⟨⟨o, e, q⟩, f, g⟩ := this; exact ⟨⟨o, s.but _ _ hpX e, g _ _ _ s.tup q⟩, f, g⟩
end
end Mine
end
section
open PySem PySem.W PySem.Calls PyProof.Rows
set_option maxRecDepth 100000
set_option linter.all false
set_option maxHeartbeats 4000000
namespace Mine
/-- the parts of tokeniter -/
def hdS : List Stmt → Stmt | s :: _ => s | [] => .Pass { line := 0, col := 0, endLine := 0, endCol := 0 }
def sBody : Stmt → List Stmt | .While _ b _ _ => b | .For _ _ b _ _ => b | .If _ b _ _ => b | _ => []
def sElse : Stmt → List Stmt | .While _ _ b _ => b | .For _ _ _ b _ => b | .If _ _ b _ => b | _ => []
def sTest : Stmt → Expr | .While t _ _ _ => t | .For t _ _ _ _ => t | .If t _ _ _ => t | _ => .Constant .none 0 { line := 0, col := 0, endLine := 0, endCol := 0 }
noncomputable def whT (P : Params) : Stmt := hdS ((fbody (top.o_480 P)).drop 12)
noncomputable def forT (P : Params) : Stmt := hdS (sBody (whT P))
noncomputable abbrev envT (P : Params) (L : Addr) : Env := envOf "Lexer.tokeniter" (fscope (top.o_480 P)) L 429 (.ref 428)
noncomputable abbrev WL (P : Params) (L : Addr) : Code := .whileLoop (sTest (whT P)) (sBody (whT P)) (sElse (whT P)) (envT P L)
noncomputable abbrev FL (P : Params) (it L : Addr) : Code := .forLoop (sTest (forT P)) (.ref it) (sBody (forT P)) (sElse (forT P)) (envT P L)
abbrev nsK : List Str := ([("self" : Str), "source", "name", "filename", "state"] : List Str) ++ [("lines" : Str), "pos", "lineno", "stack", "statetokens", "source_length", "balancing_stack", "newlines_stripped", "line_starting", "regex", "tokens", "new_state", "m", "groups", "text", "strip_sign", "stripped", "l_pos", "idx", "token", "key", "value", "data", "expected_op", "pos2"]
theorem okT (P : Params) : FnOk nsK (fscope (top.o_480 P)) := FnOk.of (by kernel_rfl)
/-- an iterator of a list -/
def IterO (l : Addr) (i : Nat) (o : Obj) : Prop := o.cls = .type "list_iterator" ∧ o.data = .fields #[.ref l, .int i 0]
theorem IterO.nt {l : Addr} {i : Nat} : ∀ o, IterO l i o → o.cls ≠ .type "tuple" := fun o e => by rw [e.1]; simp
section
variable {c : Cx} {h h₀ : Heap} {E : Value → Heap → Prop} {env : Env} {C : Cons} {G : GSpec} {n : Nat} {fs : List PySem.Frame} {I : Heap → Prop} {L : Addr} {vs : List (Option Value)} {ls : List (Addr × Cell)}
theorem w_assign_tup {elts : List Expr} {k : Nat} {tpos : Pos} {t : Addr} {items : Array Value} {Q : Unit → Heap → Prop} (hh : c.A.handled = none) (ht : h.IsTuple t items) (hn : (assignEach elts env).length = items.size)
    (q : ∀ h', Keep h h' → W c h' (assignInOrder ((assignEach elts env).map (·.2)) items.toList) Q E) (hstar : (assignEach elts env).findIdx? (·.1) = none := by rfl) : W c h (assign (.Tuple elts k tpos) env (.ref t)) Q E := fun tk =>
  wpAny_assign_Tuple (s := c.st h tk) hh ht hn hstar fun h'' k => q h'' (keep_of_fresh k) tk
/-- the next rule is looked at -/
theorem for_next {k i : Nat} {it R t : Addr} {items : List Value} {a b d : Value} (hh : (c.ov (FL c.w.params it L) fs).A.handled = none) (M : GS C c.w h₀ n I L nsK vs ls h) (hv : vs.length = 30) (hk : (C.cells n ++ ls)[k]? = some (it, .obj (IterO R i))) (hl : Lst h R items) (hx : items[i]? = some (.ref t)) (ht : h.IsTuple t #[a, b, d])
    (q : ∀ h', MS c.w h₀ C.X (fun h => C.Ic n h ∧ I h) L nsK (((vs.set 14 (some a)).set 15 (some b)).set 16 (some d)) ((C.cells n ++ ls).set k (it, .obj (IterO R (i + 1)))) h' → SX c G n (FL c.w.params it L) fs (loopK (FL c.w.params it L)) (loopH (envT c.w.params L)) (envT c.w.params L) (sBody (forT c.w.params)) h') :
    SG c G n (FL c.w.params it L) ((model c.prog c.w).den (FL c.w.params it L)) fs h := by
  have X := okT c.w.params
  obtain ⟨o, ho, hoc, hod⟩ := M.getO k hk
  refine sg_forLoop (w_next_list (c := c.ov (FL c.w.params it L) fs) hh ⟨o, ho, hoc, hod⟩ hl.isList ?_)
  have hx' : items.toArray[i]? = some (.ref t) := by simpa using hx
  rw [hx']
  intro h1 hi kb
  have M1 := M.setO k hk (P' := IterO R (i + 1)) (let ⟨o, a, b, d⟩ := hi; ⟨o, a, b, d⟩) IterO.nt kb
  have ht1 : h1.IsTuple t #[a, b, d] := by
    refine TupKeep.of_cell (x := .obj (IterO R i)) ⟨⟨o, ho, hoc, hod⟩, IterO.nt⟩ kb _ _ ht
  refine fun tk => wpAny_letOwnedTupleGo_listiter (s := c.st h1 tk) hi ⟨h1, tk, rfl, ?_⟩
  refine w_assign_tup (c := c.ov (FL c.w.params it L) fs) hh ht1 rfl fun h2 k2 => ?_
  replace M1 := M1.mono k2
  refine w_order <| w_store X M1.ns (i := 14) rfl (by simp [hv]) fun h3 N3 k3 => ?_
  have M3 := M1.store N3 k3
  refine w_order <| w_store X M3.ns (i := 15) rfl (by simp [hv]) fun h4 N4 k4 => ?_
  have M4 := M3.store N4 k4
  refine w_order <| w_store X M4.ns (i := 16) rfl (by simp [hv]) fun h5 N5 k5 => ?_
  exact w_order_nil (q h5 (M4.store N5 k5))
end
end Mine
end
section
open PySem PySem.W PySem.Calls PyProof.Rows
set_option maxRecDepth 100000
set_option linter.all false
set_option maxHeartbeats 4000000
namespace Mine
open Rx
/-- a pattern tried at a place: what a miss tells, what a hit tells -/
def Tries (h : Heap) (pa : Addr) (x : Str) (p : Nat) (Fm : Prop) (Fh : Nat → Nat → List Value → Prop) : Prop :=
  ∃ code groups, PatAt h pa code groups ∧ groups ≤ 100 ∧ Mat code groups x p (fun m => (Miss m ∧ Fm) ∨ (∃ st e, Hit groups st e m ∧ Fh st e (spansOf groups m)))
theorem Tries.keep {h h' : Heap} {pa : Addr} {x : Str} {p : Nat} {Fm : Prop} {Fh : Nat → Nat → List Value → Prop} (t : Tries h pa x p Fm Fh) (k : Keep h h') : Tries h' pa x p Fm Fh :=
  let ⟨code, groups, a, b, c⟩ := t; ⟨code, groups, a.keep k, b, c⟩
/-- a match, its spans apart -/
def MatchO (x : Str) (b : Addr) (o : Obj) : Prop := ∃ t pv p0 p1 li, o = { cls := .type "re.Match", data := .fields #[.str x t, pv, p0, p1, li, .ref b] }
theorem MatchO.nt {x : Str} {b : Addr} : ∀ o, MatchO x b o → o.cls ≠ .type "tuple" := fun o ⟨_, _, _, _, _, e⟩ => by subst e; simp
section
variable {c : Cx} {h h₀ : Heap} {E : Value → Heap → Prop} {env : Env} {C : Cons} {G : GSpec} {n : Nat} {fs : List PySem.Frame} {I : Heap → Prop} {L : Addr} {vs : List (Option Value)} {ls : List (Addr × Cell)}
theorem w_rmatch {o e : Expr} {rest : List Expr} {apos pos : Pos} {pa : Addr} {x : Str} {t u : Tok} {p : Nat} {Fm : Prop} {Fh : Nat → Nat → List Value → Prop} {Q : Value → Heap → Prop} (hp : p ≤ x.length) (hl : x.length ≤ 1000)
    (y : W c h (eval o env) (fun ov h₁ => ov = .ref pa ∧ Tries h₁ pa x p Fm Fh ∧ W c h₁ (spliced (backTo pos (starEach (e :: rest) env))) (fun vs h₂ => vs = [.str x t, .int p u] ∧ Tries h₂ pa x p Fm Fh ∧ (Fm → Q .none h₂) ∧
      (∀ st e sp a b h', Fh st e sp → Keep h₂ h' → New h₂ a → (∃ o, h'.get? a = some o ∧ MatchO x b o) → h'.IsTuple b (rawInt st :: rawInt e :: sp).toArray → Q (.ref a) h')) E) E)
    (hbase : attributeBase o "match" env (eval o env) = eval o env := by rfl) (hline : (apos.endLine == pos.line) = true := by rfl)
    (hfew : ((backTo pos (starEach (e :: rest) env)).all (fun x => !x.1) && (backToKw pos (keywordEach [] env)).all (fun x => x.1.isSome)
      && decide ((e :: rest).length + ([] : List Keyword).length + (if ([] : List Keyword).isEmpty then 0 else 1) < 30)) = true := by rfl)
    (he : starEach (e :: rest) env = (false, eval e env) :: starEach rest env := by rfl) (hplain : (backTo pos (starEach (e :: rest) env)).any (·.1) = false := by rfl) :
    W c h (eval (.Call (.Attribute o "match" apos) (e :: rest) [] pos) env) Q E := by
  refine w_meth plainAttrs_pat slot_match type_match (W_mono y (fun ov h₁ ⟨hv, T, z⟩ => ?_) fun _ _ y => y) hbase hline hfew he hplain
  subst hv
  obtain ⟨code, groups, po, hg, m⟩ := T
  refine ⟨fun s es => PatAt.typeIs (es ▸ po), po.noDict, W_mono z (fun vs h₂ ⟨hvs, T2, q0, q1⟩ => ?_) fun _ _ y => y⟩
  subst hvs
  obtain ⟨code, groups, po, hg, m⟩ := T2
  refine w_rematch po hp hl hg m fun m hm => ?_
  rcases hm with ⟨h1, h2⟩ | ⟨st, e, h1, h2⟩
  · rw [show m.outcome = some .failed from h1]
    exact q0 h2
  · obtain ⟨a1, a2, a3, a4⟩ := h1
    rw [a1]
    subst a2 a3
    refine ⟨a4, fun a h' k na ma => ?_⟩
    obtain ⟨t, pv, p0, p1, li, b, e1, e2⟩ := ma
    exact q1 _ _ _ a b h' h2 k na ⟨_, e1, t, pv, p0, p1, li, rfl⟩ e2
theorem se_if_t {code : Code} {K : Flow → Sem Fin} {H : Value → Sem Fin} {test : Expr} {body orelse : List Stmt} {pos : Pos} (x : W (c.ov code fs) h (isTrue test env (eval test env)) (fun b h' => b = true ∧ SX c G n code fs K H env body h') (fun e h' => SG c G n code (H e) fs h')) :
    SE c G n code fs K H env (.If test body orelse pos) h := se_if (W_mono x (fun b h' ⟨e, q⟩ => by subst e; exact q) fun _ _ y => y)
theorem se_if_f {code : Code} {K : Flow → Sem Fin} {H : Value → Sem Fin} {test : Expr} {body orelse : List Stmt} {pos : Pos} (x : W (c.ov code fs) h (isTrue test env (eval test env)) (fun b h' => b = false ∧ SX c G n code fs K H env orelse h') (fun e h' => SG c G n code (H e) fs h')) :
    SE c G n code fs K H env (.If test body orelse pos) h := se_if (W_mono x (fun b h' ⟨e, q⟩ => by subst e; exact q) fun _ _ y => y)
/-- new to the generator's start too -/
theorem MS.fresh (M : GS C c.w h₀ n I L nsK vs ls h) {a : Addr} (na : New h a) : New h₀ a := by
  cases z : h₀.get? a with
  | none => exact z
  | some o =>
    by_cases hx : a ∈ C.X
    · simp only [Cons.X, List.mem_cons, List.not_mem_nil, or_false] at hx
      rcases hx with rfl | rfl
      · obtain ⟨⟨o, e, _⟩, _⟩ := M.lst (C.Lc, .objH (C.PL n)) (by simp [Cons.cells])
        exact absurd rfl (New.ne na e)
      · obtain ⟨⟨o, e, _⟩, _⟩ := M.lst (C.T, .objH (C.PT n)) (by simp [Cons.cells])
        exact absurd rfl (New.ne na e)
    · exact absurd rfl (New.ne na (M.keep a o hx z))
/-- the head of a rule's turn: its pattern is tried -/
theorem rule_try {it pa : Addr} {x : Str} {t u : Tok} {p : Nat} {Fm : Prop} {Fh : Nat → Nat → List Value → Prop} (M : GS C c.w h₀ n I L nsK vs ls h) (hv : vs.length = 30) (hI : ∀ h h', TupKeep h h' → I h → I h')
    (h1 : vs[1]? = some (some (.str x t))) (h6 : vs[6]? = some (some (.int p u))) (h14 : vs[14]? = some (some (.ref pa))) (T : Tries h pa x p Fm Fh) (hp : p ≤ x.length) (hl : x.length ≤ 1000)
    (q0 : Fm → ∀ h', GS C c.w h₀ n I L nsK (vs.set 17 (some .none)) ls h' → SG c G n (FL c.w.params it L) ((model c.prog c.w).den (FL c.w.params it L)) fs h')
    (q1 : ∀ st e sp a b h', Fh st e sp → GS C c.w h₀ n (fun h => I h ∧ h.IsTuple b (rawInt st :: rawInt e :: sp).toArray) L nsK (vs.set 17 (some (.ref a))) (ls ++ [(a, .obj (MatchO x b))]) h' →
      SX c G n (FL c.w.params it L) fs (loopK (FL c.w.params it L)) (loopH (envT c.w.params L)) (envT c.w.params L) ((sBody (forT c.w.params)).drop 2) h') :
    SX c G n (FL c.w.params it L) fs (loopK (FL c.w.params it L)) (loopH (envT c.w.params L)) (envT c.w.params L) (sBody (forT c.w.params)) h := by
  have X := okT c.w.params
  refine sx_W <| w_assign <| w_rmatch hp hl <| w_loc X M.ns (i := 14) rfl h14 ⟨rfl, T, w_args <| w_loc X M.ns (i := 1) rfl h1 <| w_args <| w_loc X M.ns (i := 6) rfl h6 <| w_args_nil ⟨rfl, T, fun fm => ?_, fun st e sp a b h' fh k na ma tb => ?_⟩⟩
  · refine w_store X M.ns (i := 17) rfl (by simp [hv]) fun h3 N3 k3 => ?_
    have M3 := M.store N3 k3
    have hg : ((vs.set 17 (some Value.none))[17]?) = some (some .none) := by simp [hv]
    refine sx_cons <| se_if_t <| w_tcmp <| w_loc X M3.ns (i := 17) rfl hg <| w_none <| w_is_none <| w_tbool ⟨rfl, ?_⟩
    refine sx_W <| fun tk => wpAny_Continue ⟨h3, tk, rfl, ?_⟩
    exact sg_again rfl (q0 fm h3 M3)
  · have M1 := MS.addO M na (M.fresh na) k ma MatchO.nt
    have M2 := MS.know (I' := fun h => C.Ic n h ∧ (I h ∧ h.IsTuple b (rawInt st :: rawInt e :: sp).toArray)) M1 ⟨M1.inv.1, M1.inv.2, tb⟩ (fun h h' tk i => ⟨C.st n h h' tk i.1, hI _ _ tk i.2.1, tk _ _ i.2.2⟩)
    rw [List.append_assoc] at M2
    refine w_store X M2.ns (i := 17) rfl (by simp [hv]) fun h3 N3 k3 => ?_
    have M3 := M2.store N3 k3
    have hg : ((vs.set 17 (some (Value.ref a)))[17]?) = some (some (.ref a)) := by simp [hv]
    refine sx_cons <| se_if_f <| w_tcmp <| w_loc X M3.ns (i := 17) rfl hg <| w_none <| w_is_none <| w_tbool ⟨rfl, ?_⟩
    exact sx_nil (q1 st e sp a b h3 fh M3)
end
end Mine
end
section
open PySem PySem.W PySem.Calls PyProof.Rows
set_option maxRecDepth 100000
set_option linter.all false
set_option maxHeartbeats 4000000
namespace Mine
section
variable {c : Cx} {h h₀ : Heap} {E : Value → Heap → Prop} {env : Env} {C : Cons} {G : GSpec} {n : Nat} {fs : List PySem.Frame} {I : Heap → Prop} {L : Addr} {vs : List (Option Value)} {ls : List (Addr × Cell)}
abbrev endNames : List Str := ["variable_end", "block_end", "linestatement_end"]
/-- a rule's end sign within braces is passed over -/
theorem rule_bal {it Bk : Addr} {bv : List Value} {tok : Str} {t : Tok} (j : Nat) (M : GS C c.w h₀ n I L nsK vs ls h) (hu : (c.ov (FL c.w.params it L) fs).A.units + 1 < cLine)
    (h11 : vs[11]? = some (some (.ref Bk))) (hb : (C.cells n ++ ls)[j]? = some (Bk, .lst bv)) (h15 : vs[15]? = some (some (.str tok t))) (hbl : bv.length ≤ 100000) (hok : PyData.strOk tok = true)
    (q0 : bv ≠ [] → tok ∈ endNames → ∀ h', GS C c.w h₀ n I L nsK vs ls h' → SG c G n (FL c.w.params it L) ((model c.prog c.w).den (FL c.w.params it L)) fs h')
    (q1 : bv = [] ∨ tok ∉ endNames → ∀ h', GS C c.w h₀ n I L nsK vs ls h' → SX c G n (FL c.w.params it L) fs (loopK (FL c.w.params it L)) (loopH (envT c.w.params L)) (envT c.w.params L) ((sBody (forT c.w.params)).drop 3) h') :
    SX c G n (FL c.w.params it L) fs (loopK (FL c.w.params it L)) (loopH (envT c.w.params L)) (envT c.w.params L) ((sBody (forT c.w.params)).drop 2) h := by
  have X := okT c.w.params
  have hl := M.get j hb
  have fit : (bv.toArray.size : Int) < 2 ^ 63 := by
    rw [List.size_toArray]
    omega
  refine sx_cons <| se_if <| w_tand <| w_tval <| w_loc X M.ns (i := 11) rfl h11 <| w_tlist hl.isList fit ?_
  by_cases hbv : bv = []
  · subst hbv
    exact sx_nil (q1 (.inl rfl) h M)
  · have e1 : (!bv.toArray.isEmpty) = true := by
      cases bv with
      | nil => exact absurd rfl hbv
      | cons a l => rfl
    rw [e1, if_pos rfl]
    refine w_tcmp <| w_loc X M.ns (i := 15) rfl h15 <| w_tuple <| w_args <| w_globS "variable_end" M.base (by kernel_rfl) fun t1 => w_args <| w_globS "block_end" M.base (by kernel_rfl) fun t2 => w_args <| w_globS "linestatement_end" M.base (by kernel_rfl) fun t3 => w_args_nil ⟨rfl, fun a h1 k1 na ta => ?_⟩
    replace M := M.mono k1
    refine w_in_tuple (xs := endNames) ta (.cons (.cons (.cons .nil))) (by decide +kernel) hok hu <| w_tbool ?_
    by_cases hm : tok ∈ endNames
    · rw [if_pos (by simpa using hm)]
      refine sx_W <| fun tk => wpAny_Continue ⟨h1, tk, rfl, ?_⟩
      exact sg_again rfl (q0 hbv hm h1 M)
    · rw [if_neg (by simpa using hm)]
      exact sx_nil (q1 (.inr hm) h1 M)
/-- the same outside of braces -/
theorem rule_bal0 {it Bk : Addr} (j : Nat) (M : GS C c.w h₀ n I L nsK vs ls h)
    (h11 : vs[11]? = some (some (.ref Bk))) (hb : (C.cells n ++ ls)[j]? = some (Bk, .lst []))
    (q1 : SX c G n (FL c.w.params it L) fs (loopK (FL c.w.params it L)) (loopH (envT c.w.params L)) (envT c.w.params L) ((sBody (forT c.w.params)).drop 3) h) :
    SX c G n (FL c.w.params it L) fs (loopK (FL c.w.params it L)) (loopH (envT c.w.params L)) (envT c.w.params L) ((sBody (forT c.w.params)).drop 2) h := by
  have X := okT c.w.params
  have hl := M.get j hb
  exact sx_cons <| se_if <| w_tand <| w_tval <| w_loc X M.ns (i := 11) rfl h11 <| w_tlist hl.isList (by decide) (sx_nil q1)
end
end Mine
end
section
open PySem PySem.W PySem.Calls PyProof.Rows
set_option maxRecDepth 100000
set_option linter.all false
set_option maxHeartbeats 0
namespace Mine
section
variable {c : Cx} {h : Heap} {E : Value → Heap → Prop} {Q : Value → Heap → Prop}
theorem w_isi_str {x : Str} {t : Tok} (B : Base c.w h) (q : Q (.bool false) h) : W c h (call (.builtin "isinstance") [.str x t, .type "tuple"]) Q E := by
  refine @w_dr_call _ _ _ _ _ _ 0 (Code.call (Value.builtin "isinstance") { pos := [Value.str x t, Value.type "tuple"] }) B (by kernel_rfl) ?_
  refine WC_tree' ?_
  refine @w_dr_again _ _ _ _ _ _ _ 0 (Code.builtin "isinstance" { pos := [Value.str x t, Value.type "tuple"] }) B (by kernel_rfl) (by kernel_rfl) ?_
  refine WC_builtin' (Bi := Builtin.«isinstance») (entryFor_of_tree (by kernel_rfl)) ?_
  refine @w_dr_again _ _ _ _ _ _ _ 0 (Code.builtin "isinstance.nested" { pos := [Value.str x t, Value.type "tuple", Value.int (Int.ofNat 0) 0] }) B (by kernel_rfl) (by kernel_rfl) ?_
  refine WC_builtin' (Bi := Builtin.«isinstance.nested») (entryFor_of_tree (by kernel_rfl)) ?_
  refine @w_dr_fresh _ _ _ _ _ _ 0 B (by kernel_rfl) fun tk0 => ?_
  refine @w_dr_call _ _ _ _ _ _ 0 (Code.call (Value.builtin "object.__getattribute__") { pos := [Value.str x t, Value.str (Str.ofString "__class__") tk0] }) B (by kernel_rfl) ?_
  refine WC_tree' ?_
  refine @w_dr_again _ _ _ _ _ _ _ 0 (Code.builtin "object.__getattribute__" { pos := [Value.str x t, Value.str (Str.ofString "__class__") tk0] }) B (by kernel_rfl) (by kernel_rfl) ?_
  refine WC_builtin' (Bi := Builtin.«object.__getattribute__») (entryFor_of_tree (by kernel_rfl)) ?_
  refine @w_dr_call _ _ _ _ _ _ 0 (Code.call (Value.builtin "getset_descriptor.__get__") { pos := [Value.builtin "object.__class__", Value.str x t, Value.type "str"] }) B (by kernel_rfl) ?_
  refine WC_tree' ?_
  refine @w_dr_again _ _ _ _ _ _ _ 0 (Code.builtin "getset_descriptor.__get__" { pos := [Value.builtin "object.__class__", Value.str x t, Value.type "str"] }) B (by kernel_rfl) (by kernel_rfl) ?_
  refine WC_builtin' (Bi := Builtin.«getset_descriptor.__get__») (entryFor_of_tree (by kernel_rfl)) ?_
  refine @w_dr_again _ _ _ _ _ _ _ 0 (Code.builtin "object.__class__" { pos := [Value.str x t] }) B (by kernel_rfl) (by kernel_rfl) ?_
  refine WC_builtin' (Bi := Builtin.«object.__class__») (entryFor_of_tree (by kernel_rfl)) ?_
  refine @w_dr_done _ _ _ _ _ _ _ 0 (Value.type "str") B (by kernel_rfl) ?_
  refine @w_dr_done _ _ _ _ _ _ _ 0 (Value.type "str") B (by kernel_rfl) ?_
  refine @w_dr_done _ _ _ _ _ _ _ 0 (Value.bool false) B (by kernel_rfl) ?_
  refine @w_dr_pure _ _ _ _ _ _ (Value.bool false) 0 B (by kernel_rfl) ?_
  exact q
theorem w_isi_strF {x : Str} {t : Tok} (B : Base c.w h) (q : Q (.bool false) h) : W c h (call (.builtin "isinstance") [.str x t, .ref 216]) Q E := by
  refine @w_dr_call _ _ _ _ _ _ 0 (Code.call (Value.builtin "isinstance") { pos := [Value.str x t, Value.ref 216] }) B (by kernel_rfl) ?_
  refine WC_tree' ?_
  refine @w_dr_again _ _ _ _ _ _ _ 0 (Code.builtin "isinstance" { pos := [Value.str x t, Value.ref 216] }) B (by kernel_rfl) (by kernel_rfl) ?_
  refine WC_builtin' (Bi := Builtin.«isinstance») (entryFor_of_tree (by kernel_rfl)) ?_
  refine @w_dr_again _ _ _ _ _ _ _ 0 (Code.builtin "isinstance.nested" { pos := [Value.str x t, Value.ref 216, Value.int (Int.ofNat 0) 0] }) B (by kernel_rfl) (by kernel_rfl) ?_
  refine WC_builtin' (Bi := Builtin.«isinstance.nested») (entryFor_of_tree (by kernel_rfl)) ?_
  refine @w_dr_fresh _ _ _ _ _ _ 2 B (by kernel_rfl) fun tk0 => ?_
  refine @w_dr_call _ _ _ _ _ _ 0 (Code.call (Value.builtin "object.__getattribute__") { pos := [Value.str x t, Value.str (Str.ofString "__class__") tk0] }) B (by kernel_rfl) ?_
  refine WC_tree' ?_
  refine @w_dr_again _ _ _ _ _ _ _ 0 (Code.builtin "object.__getattribute__" { pos := [Value.str x t, Value.str (Str.ofString "__class__") tk0] }) B (by kernel_rfl) (by kernel_rfl) ?_
  refine WC_builtin' (Bi := Builtin.«object.__getattribute__») (entryFor_of_tree (by kernel_rfl)) ?_
  refine @w_dr_call _ _ _ _ _ _ 0 (Code.call (Value.builtin "getset_descriptor.__get__") { pos := [Value.builtin "object.__class__", Value.str x t, Value.type "str"] }) B (by kernel_rfl) ?_
  refine WC_tree' ?_
  refine @w_dr_again _ _ _ _ _ _ _ 0 (Code.builtin "getset_descriptor.__get__" { pos := [Value.builtin "object.__class__", Value.str x t, Value.type "str"] }) B (by kernel_rfl) (by kernel_rfl) ?_
  refine WC_builtin' (Bi := Builtin.«getset_descriptor.__get__») (entryFor_of_tree (by kernel_rfl)) ?_
  refine @w_dr_again _ _ _ _ _ _ _ 0 (Code.builtin "object.__class__" { pos := [Value.str x t] }) B (by kernel_rfl) (by kernel_rfl) ?_
  refine WC_builtin' (Bi := Builtin.«object.__class__») (entryFor_of_tree (by kernel_rfl)) ?_
  refine @w_dr_done _ _ _ _ _ _ _ 0 (Value.type "str") B (by kernel_rfl) ?_
  refine @w_dr_done _ _ _ _ _ _ _ 0 (Value.type "str") B (by kernel_rfl) ?_
  refine @w_dr_done _ _ _ _ _ _ _ 0 (Value.bool false) B (by kernel_rfl) ?_
  refine @w_dr_pure _ _ _ _ _ _ (Value.bool false) 0 B (by kernel_rfl) ?_
  exact q
theorem w_isi_olsT {O : Addr} {vs : List Value} {k : Nat} {d : Option Addr} {sl : Array (Option Value)} (B : Base c.w h) (ho : h.get? O = some { cls := .ref 376, dict := d, data := .seq vs.toArray k, slots := sl }) (q : Q (.bool true) h) : W c h (call (.builtin "isinstance") [.ref O, .type "tuple"]) Q E := by
  refine @w_dr_call _ _ _ _ _ _ 0 (Code.call (Value.builtin "isinstance") { pos := [Value.ref O, Value.type "tuple"] }) B (by kernel_rfl) ?_
  refine WC_tree' ?_
  refine @w_dr_again _ _ _ _ _ _ _ 0 (Code.builtin "isinstance" { pos := [Value.ref O, Value.type "tuple"] }) B (by kernel_rfl) (by kernel_rfl) ?_
  refine WC_builtin' (Bi := Builtin.«isinstance») (entryFor_of_tree (by kernel_rfl)) ?_
  refine @w_dr_again _ _ _ _ _ _ _ 0 (Code.builtin "isinstance.nested" { pos := [Value.ref O, Value.type "tuple", Value.int (Int.ofNat 0) 0] }) B (by kernel_rfl) (by kernel_rfl) ?_
  refine WC_builtin' (Bi := Builtin.«isinstance.nested») (entryFor_of_tree (by kernel_rfl)) ?_
  refine @w_dr_load _ _ _ _ _ _ 0 O _ B (by kernel_rfl) ho ?_
  refine @w_dr_load _ _ _ _ _ _ 0 O _ B (by kernel_rfl) ho ?_
  refine @w_dr_done _ _ _ _ _ _ _ 1 (Value.bool true) B (by kernel_rfl) ?_
  refine @w_dr_pure _ _ _ _ _ _ (Value.bool true) 0 B (by kernel_rfl) ?_
  exact q
theorem w_isi_ols {O : Addr} {vs : List Value} {k : Nat} {d : Option Addr} {sl : Array (Option Value)} (B : Base c.w h) (ho : h.get? O = some { cls := .ref 376, dict := d, data := .seq vs.toArray k, slots := sl }) (q : Q (.bool true) h) : W c h (call (.builtin "isinstance") [.ref O, .ref 376]) Q E := by
  refine @w_dr_call _ _ _ _ _ _ 0 (Code.call (Value.builtin "isinstance") { pos := [Value.ref O, Value.ref 376] }) B (by kernel_rfl) ?_
  refine WC_tree' ?_
  refine @w_dr_again _ _ _ _ _ _ _ 0 (Code.builtin "isinstance" { pos := [Value.ref O, Value.ref 376] }) B (by kernel_rfl) (by kernel_rfl) ?_
  refine WC_builtin' (Bi := Builtin.«isinstance») (entryFor_of_tree (by kernel_rfl)) ?_
  refine @w_dr_again _ _ _ _ _ _ _ 0 (Code.builtin "isinstance.nested" { pos := [Value.ref O, Value.ref 376, Value.int (Int.ofNat 0) 0] }) B (by kernel_rfl) (by kernel_rfl) ?_
  refine WC_builtin' (Bi := Builtin.«isinstance.nested») (entryFor_of_tree (by kernel_rfl)) ?_
  refine @w_dr_load _ _ _ _ _ _ 0 O _ B (by kernel_rfl) ho ?_
  refine @w_dr_done _ _ _ _ _ _ _ 0 (Value.bool true) B (by kernel_rfl) ?_
  refine @w_dr_pure _ _ _ _ _ _ (Value.bool true) 0 B (by kernel_rfl) ?_
  exact q
end
end Mine
end
section
open PySem PySem.W PySem.Calls PyProof.Rows
set_option maxRecDepth 100000
set_option linter.all false
set_option maxHeartbeats 4000000
namespace Mine
section
variable {c : Cx} {h h₀ : Heap} {E : Value → Heap → Prop} {env : Env} {C : Cons} {G : GSpec} {n : Nat} {fs : List PySem.Frame} {I : Heap → Prop} {L : Addr} {vs : List (Option Value)} {ls : List (Addr × Cell)}
theorem w_slice_any {value lo : Expr} {p pos : Pos} {Q : Value → Heap → Prop} (x : W c h (eval value env) (fun o h₁ => W c h₁ (eval lo env) (fun l h₂ =>
      ∃ x t i ti, o = .str x t ∧ l = .int i ti ∧ x.length ≤ sizeLine ∧ ∀ h' t', Keep h₂ h' → Q (.str (Txt.slice x (some i) none) t') h') E) E) : W c h (eval (.Subscript value (.Slice (some lo) none none p) pos) env) Q E :=
  w_subT F.slot_str_getitem.lookup (fun _ _ => ⟨_, rfl⟩) (W_mono x (fun o h1 y => w_slc (w_part (W_mono y (fun l h2 z => w_part0 (w_part0 fun h3 sl k3 n3 hs => by
    obtain ⟨x, t, i, ti, rfl, rfl, hsz, q⟩ := z
    exact ⟨fun tk => typeIs_str _ x t, fun tk => wpAny_getItem_str_slice (s := c.st h3 tk) (l := some (i, ti)) (u := none) (st := none) hs rfl (post_val_or_str ⟨Nat.le_trans (Txt.slice_le x _ _) hsz, fun t' k => ⟨_, k, rfl, q _ _ k3⟩⟩)⟩)) fun _ _ y => y))) fun _ _ y => y)
theorem sx_done {code : Code} {K : Flow → Sem Fin} {H : Value → Sem Fin} {rest : List Stmt} (x : SX c G n code fs K H env rest h) : SG c G n code (nextK rest env K H .next) fs h := x
theorem set_get {l : List (Option Value)} {i : Nat} {x : Option Value} (h : i < l.length) : (l.set i x)[i]? = some x := by simp [h]
theorem w_neg {i : Int} {k : Nat} {p pos : Pos} {Q : Value → Heap → Prop} (q : ∀ tk, Q (.int (-i) tk) h) : W c h (eval (.UnaryOp .USub (.Constant (.int i) k p) pos) env) Q E := fun tk =>
  wpAny_UnaryOp (wpAny_Constant_int (PyProof.Rows.neg_int ⟨h, _, rfl, q _⟩))
theorem MS.match (M : GS C c.w h₀ n I L nsK vs ls h) {a b : Addr} {x : Str} {st e : Nat} {sp : List Value} (ja : Nat) (hm : (C.cells n ++ ls)[ja]? = some (a, .obj (MatchO x b))) (tb : ∀ h, I h → h.IsTuple b (rawInt st :: rawInt e :: sp).toArray) : MatchAt h a x st e sp := by
  obtain ⟨o, ho, t, pv, p0, p1, li, rfl⟩ := M.getO ja hm
  exact ⟨t, pv, p0, p1, li, b, ho, tb h M.inv.2⟩
/-- the end of a rule's turn that leaves the state -/
theorem tail_none {it a b : Addr} {x : Str} {st e p : Nat} {sp : List Value} {u : Tok} (ja : Nat) (M : GS C c.w h₀ n I L nsK vs ls h) (hv : vs.length = 30) (h6 : vs[6]? = some (some (.int p u))) (h16 : vs[16]? = some (some .none)) (h17 : vs[17]? = some (some (.ref a)))
    (hm : (C.cells n ++ ls)[ja]? = some (a, .obj (MatchO x b))) (tb : ∀ h, I h → h.IsTuple b (rawInt st :: rawInt e :: sp).toArray) (hne : e ≠ p) (hl : x.length ≤ sizeLine)
    (q : ∀ h' b1 u1 u2, GS C c.w h₀ n I L nsK (((vs.set 13 (some (.bool b1))).set 29 (some (.int e u1))).set 6 (some (.int e u2))) ls h' → SG c G n (FL c.w.params it L) (.pure (.done .next)) fs h') :
    SX c G n (FL c.w.params it L) fs (loopK (FL c.w.params it L)) (loopH (envT c.w.params L)) (envT c.w.params L) ((sBody (forT c.w.params)).drop 4) h := by
  have X := okT c.w.params
  have A := M.match ja hm tb
  refine sx_W <| w_assign <| w_cmp <| w_slice_any <| w_regroup <| w_loc X M.ns (i := 17) rfl h17 ⟨a, x, st, e, sp, rfl, A, hl, fun t1 => w_neg fun t2 => ⟨_, _, _, _, rfl, rfl, Nat.le_trans (by rw [sl_len]; omega) hl, fun h' t' k => ?_⟩⟩
  replace M := M.mono k
  refine w_str fun t3 => w_eq_str <| w_store X M.ns (i := 13) rfl (by simp [hv]) fun h2 N2 k2 => ?_
  replace M := M.store N2 k2
  have A := M.match ja hm tb
  refine sx_W <| w_assign <| w_reend <| w_loc X M.ns (i := 17) rfl (by simpa using h17) ⟨a, x, st, e, sp, rfl, A, fun t4 => w_store X M.ns (i := 29) rfl (by simp [hv]) fun h3 N3 k3 => ?_⟩
  replace M := M.store N3 k3
  refine sx_cons <| se_if_f <| w_tcmp <| w_loc X M.ns (i := 16) rfl (by simpa using h16) <| w_none <| w_isnot_none <| w_tbool ⟨rfl, ?_⟩
  refine sx_cons <| se_if_f <| w_tcmp <| w_loc X M.ns (i := 29) rfl (set_get (by simp [hv])) <| w_loc X M.ns (i := 6) rfl (by simpa using h6) <| w_eq_int <| w_tbool ⟨decide_eq_false (by omega), ?_⟩
  refine sx_nil <| sx_done <| sx_nil <| sx_done <| sx_W <| w_assign <| w_loc X M.ns (i := 29) rfl (set_get (by simp [hv])) <| w_store X M.ns (i := 6) rfl (by simp [hv]) fun h4 N4 k4 => ?_
  replace M := M.store N4 k4
  refine sx_W <| fun tk => wpAny_Break ⟨h4, tk, rfl, ?_⟩
  exact q h4 _ _ _ M
end
end Mine
end
section
open PySem PySem.W PySem.Calls PyProof.Rows
set_option maxRecDepth 100000
set_option linter.all false
set_option maxHeartbeats 4000000
namespace Mine
/-- the tree run with the code around it known -/
def WA {α : Type} (c : Cx) (h : Heap) (code : Code) (t : Sem α) (Q : α → Heap → Prop) (E : Value → Heap → Prop) : Prop :=
  ∀ tk, _root_.PySem.wpAt (model c.prog c.w) c.A code t (fun a s' => ∃ h' tk', s' = c.st h' tk' ∧ Q a h') (fun e s' => ∃ h' tk', s' = c.st h' tk' ∧ E e h') (c.st h tk)
def fclo (o : Obj) : List (Str × Addr) := match o.data with | .func fd => fd.closure | _ => []
abbrev fnO (qual : Str) (o : Obj) (cd : Addr) : FuncData := fnX (fname o) qual (fparams o) (fbody o) (fscope o) (fclo o) (fdef o) (fkwd o) (fdoc o) (fmod o) (fann o) (.ref cd) (fct o)
section
variable {c : Cx} {h : Heap} {E : Value → Heap → Prop}
theorem WA.ofW {α : Type} {code : Code} {t : Sem α} {Q : α → Heap → Prop} (x : W c h t Q E) : WA c h code t Q E := fun tk => wpAt_of_wpAny (x tk)
theorem WA.mono {α : Type} {code : Code} {t : Sem α} {Q Q' : α → Heap → Prop} {E' : Value → Heap → Prop} (x : WA c h code t Q E) (hQ : ∀ a h', Q a h' → Q' a h') (hE : ∀ a h', E a h' → E' a h') : WA c h code t Q' E' := fun tk =>
  ks_wpAt_mono (x tk) (fun a s' ⟨h', tk', e, q⟩ => ⟨h', tk', e, hQ _ _ q⟩) (fun a s' ⟨h', tk', e, q⟩ => ⟨h', tk', e, hE _ _ q⟩)
theorem wa_cons {code : Code} {env : Env} {st : Stmt} {rest : List Stmt} {Q : Flow → Heap → Prop} (x : WA c h code (exec st env) (fun f h' => match f with | .next => WA c h' code (execs rest env) Q E | f => Q f h') E) : WA c h code (execs (st :: rest) env) Q E := fun tk =>
  ks_wpAt_execs_cons (ks_wpAt_mono (x tk) (fun f s' ⟨h', tk', e, q⟩ => by
    subst e
    cases f <;> first | exact q tk' | exact ⟨h', tk', rfl, q⟩) fun _ _ y => y)
theorem wa_return {code : Code} {env : Env} {e : Expr} {pos : Pos} {Q : Flow → Heap → Prop} (x : WA c h code (eval e env) (fun v h' => Q (.ret v) h') E) : WA c h code (exec (.Return (some e) pos) env) Q E := fun tk =>
  ks_wpAt_Return_some (x tk)
theorem wa_expr {code : Code} {env : Env} {e : Expr} {pos : Pos} {Q : Flow → Heap → Prop} (x : WA c h code (eval e env) (fun _ h' => Q .next h') E) (hi : interactive env = false := by rfl) (hs : swapsWith e none pos.line env = pure false := by rfl) : WA c h code (exec (.Expr e pos) env) Q E := fun tk =>
  ks_wpAt_Expr_any (x tk) hi hs
theorem wa_method {code : Code} {env : Env} {o : Expr} {name : Str} {apos pos : Pos} {args : List Expr} {pl : Sem Bool} {Q : Value → Heap → Prop}
    (x : WA c h code (attributeBase o name env (eval o env)) (fun ov h₁ => W c h₁ (getMethod ov name pl) (fun fx h₂ => W c h₂ (callWith pos fx.1 fx.2 (backTo pos (starEach args env)) []) Q E) E) E)
    (he : eval (.Call (.Attribute o name apos) args [] pos) env = (do
      let ov ← attributeBase o name env (eval o env)
      standAt apos.atName
      let (f, first) ← holding [ov] (getMethod ov name pl)
      callWith pos f first (backTo pos (starEach args env)) []) := by rfl) :
    WA c h code (eval (.Call (.Attribute o name apos) args [] pos) env) Q E := fun tk =>
  ks_wpAt_MethodCall (ks_wpAt_mono (x tk) (fun ov s' ⟨h', tk', e, q⟩ => by
    subst e
    exact wpAny_mono (q tk') (fun fx s'' ⟨h'', tk'', e, q⟩ => by subst e; exact q tk'') fun _ _ y => y) fun _ _ y => y) he
/-- a local name, its frame of any kind -/
theorem w_locX {nm : Str} {sc : Scope} {L a : Addr} {cd : Value} {cl : List (Str × Addr)} {ns : List Str} {vs : List (Option Value)} {i : Nat} {x : Str} {v : Value} {Q : Value → Heap → Prop} (X : FnOk ns sc) (N : h.Ns L (frm ns vs)) (hx : ns[i]? = some x) (hv : vs[i]? = some (some v)) (q : Q v h) :
    W c h (loadName (envX nm sc L a cd cl) x) Q E := fun tk =>
  wpAny_loadName_local X.kind (X.loc x (List.mem_of_getElem? hx)) N (frm_get X.nd hx hv) ⟨h, tk, rfl, q⟩
theorem w_nameX {env : Env} {x : Str} {pos : Pos} {Q : Value → Heap → Prop} (y : W c h (loadName env x) Q E) (hd : (x == ("__debug__" : Str)) = false := by decide) : W c h (eval (.Name x pos) env) Q E := fun tk => wpAny_Name (y tk) hd
/-- a function of the module with cells of its own closing -/
theorem wc_fnA {R : Value → Heap → Prop} (qual : Str) (ps ls : List Str) (a cd : Nat) (o oc : Obj) {args : Args} (B : Base c.w h) (D : c.A.depth < recursionLimit)
    (e : (top.tree_612 c.w.params).get a = some o) (al : alive o = some o) (ec : (top.tree_612 c.w.params).get cd = some oc) (alc : alive oc = some oc) (hr : recOk oc qual = true) (lt : a < 552 ∧ cd < 552)
    (hdata : o.data = .func (fnO qual o cd)) (hok : okB (ps ++ ls) (fscope o) = true)
    (hco : (fscope o).isCoroutine = false) (hgen : (fscope o).isGenerator = false) (hcell : cellFree (fscope o) = true)
    (x : W c.in1 h (bindArgs (fnO qual o cd) args) (fun bs h1 => ∃ vals, bs = ps.zip vals ∧ ps.length = vals.length ∧ Keep h h1 ∧ Base c.w h1 ∧
      ∀ (c' : Cx) h₂ L, c' = { c with A := c.A.deeper (envX qual (fscope o) L a (.ref cd) (fclo o)) } → Keep h1 h₂ → Base c'.w h₂ → Fm h1 L (ps ++ ls) (vals.map some ++ ls.map fun _ => none) h₂ →
        WA c' h₂ (.func (fbody o) (envX qual (fscope o) L a (.ref cd) (fclo o))) (execs (fbody o) (envX qual (fscope o) L a (.ref cd) (fclo o))) (fun f h' => R (match f with | .ret v => v | _ => .none) h')
          (fun e h' => W c' h' («leaving» (envX qual (fscope o) L a (.ref cd) (fclo o)) e) (fun _ h'' => E e h'') (fun e' h'' => E e' h''))) E) : WC c h (.call (.ref a) args) R E := fun tk => by
  have X := FnOk.of hok
  refine codeAny_call_function D (base_at B e lt.1 al) hdata hco hgen rfl (cr_of oc B ec lt.2 alc hr) (wpAny_mono (x tk) (fun bs s' ⟨h1, tk', es, vals, hb, hl, k1, B1, y⟩ => ?_) fun _ _ ⟨h', tk', e, q⟩ => ⟨h', tk', e, q⟩)
  subst es hb
  refine wpAny_newFunctionEnv (cellFree.of hcell) (fun y hy => X.loc y.1 (List.mem_append_left _ (List.of_mem_zip hy).1)) (fun h₀ hn hsb => ⟨(base_lim B1).fresh _ hsb, ks_codeAny_funcAt ?_⟩) X.kind
  have hk : Keep h1 h₀ := fun b o e => hsb.extBut b o (Nat.ne_of_lt (Heap.lt_size e)) (Heap.get?_push_of_some _ e)
  rw [frm_binds X.nd hl] at hn
  have F : Fm h1 h1.objs.size (ps ++ ls) (vals.map some ++ ls.map fun _ => none) h₀ := ⟨hn, hk, Nat.le_refl _⟩
  refine ks_wpAt_mono (y { c with A := c.A.deeper (envX qual (fscope o) h1.objs.size a (.ref cd) (fclo o)) } h₀ h1.objs.size rfl hk (B1.mono hk) F _) (fun f s' ⟨h', tk', e, q⟩ => ⟨h', tk', e, q⟩) (fun e s' ⟨h', tk', es, q⟩ => ?_)
  subst es
  exact wpAny_mono (q tk') (fun _ s' ⟨h', tk', e, q⟩ => ⟨h', tk', e, q⟩) (fun _ s' ⟨h', tk', e, q⟩ => ⟨h', tk', e, q⟩)
end
end Mine
end
section
open PySem PySem.W PySem.Calls PyProof.Rows
set_option maxRecDepth 100000
set_option linter.all false
set_option maxHeartbeats 0
namespace Mine
section
variable {c : Cx} {h : Heap} {E : Value → Heap → Prop} {Q : Value → Heap → Prop}
theorem w_last1 {x : Str} {p : Pos} {p2 p3 : Pos} {u : Tok} {S : Addr} {a : Value} {n : Nat} (B : Base c.w h) (hS : h.get? S = some { cls := .type "list", dict := none, data := .seq #[a] n, slots := #[] }) (q : Q a h) : W c h (subscriptTail (.Name x p) (.UnaryOp .USub (.Constant (.int 1) 0 p2) p3) (.ref S) (.int (-1) u)) Q E := by
  refine @w_dr_load _ _ _ _ _ _ 0 S _ B (by kernel_rfl) hS ?_
  refine @w_dr_load _ _ _ _ _ _ 0 S _ B (by kernel_rfl) hS ?_
  refine @w_dr_load _ _ _ _ _ _ 0 S _ B (by kernel_rfl) hS ?_
  refine @w_dr_call _ _ _ _ _ _ 0 (Code.call (Value.builtin "list.__getitem__") { pos := [Value.ref S, Value.int (Int.negSucc 0) u] }) B (by kernel_rfl) ?_
  refine WC_tree' ?_
  refine @w_dr_load _ _ _ _ _ _ 0 S _ B (by kernel_rfl) hS ?_
  refine @w_dr_again _ _ _ _ _ _ _ 0 (Code.builtin "list.__getitem__" { pos := [Value.ref S, Value.int (Int.negSucc 0) u] }) B (by kernel_rfl) (by kernel_rfl) ?_
  refine WC_builtin' (Bi := Builtin.«list.__getitem__») (entryFor_of_tree (by kernel_rfl)) ?_
  refine @w_dr_load _ _ _ _ _ _ 0 S _ B (by kernel_rfl) hS ?_
  refine @w_dr_done _ _ _ _ _ _ _ 0 (a) B (by kernel_rfl) ?_
  refine @w_dr_pure _ _ _ _ _ _ (a) 0 B (by kernel_rfl) ?_
  exact q
theorem w_last2 {x : Str} {p : Pos} {p2 p3 : Pos} {u : Tok} {S : Addr} {a b : Value} {n : Nat} (B : Base c.w h) (hS : h.get? S = some { cls := .type "list", dict := none, data := .seq #[a, b] n, slots := #[] }) (q : Q b h) : W c h (subscriptTail (.Name x p) (.UnaryOp .USub (.Constant (.int 1) 0 p2) p3) (.ref S) (.int (-1) u)) Q E := by
  refine @w_dr_load _ _ _ _ _ _ 0 S _ B (by kernel_rfl) hS ?_
  refine @w_dr_load _ _ _ _ _ _ 0 S _ B (by kernel_rfl) hS ?_
  refine @w_dr_load _ _ _ _ _ _ 0 S _ B (by kernel_rfl) hS ?_
  refine @w_dr_call _ _ _ _ _ _ 0 (Code.call (Value.builtin "list.__getitem__") { pos := [Value.ref S, Value.int (Int.negSucc 0) u] }) B (by kernel_rfl) ?_
  refine WC_tree' ?_
  refine @w_dr_load _ _ _ _ _ _ 0 S _ B (by kernel_rfl) hS ?_
  refine @w_dr_again _ _ _ _ _ _ _ 0 (Code.builtin "list.__getitem__" { pos := [Value.ref S, Value.int (Int.negSucc 0) u] }) B (by kernel_rfl) (by kernel_rfl) ?_
  refine WC_builtin' (Bi := Builtin.«list.__getitem__») (entryFor_of_tree (by kernel_rfl)) ?_
  refine @w_dr_load _ _ _ _ _ _ 0 S _ B (by kernel_rfl) hS ?_
  refine @w_dr_done _ _ _ _ _ _ _ 0 (b) B (by kernel_rfl) ?_
  refine @w_dr_pure _ _ _ _ _ _ (b) 0 B (by kernel_rfl) ?_
  exact q
/-- the lexer's rules, its two lists of rules named -/
def LexR (prog : Program) (w : World) (h : Heap) (x lr lv : Addr) : Prop := ∃ dx d kvs rk, h.get? x = some (instObj 432 dx) ∧ (∃ o, h.get? dx = some o ∧ EntsO kvs o) ∧ kvs.lookup ("rules" : Str) = some (.ref d) ∧ h.DictOf (strKind prog w) d rk ∧ valueAt rk ("root" : Str) = some (.ref lr) ∧ valueAt rk ("variable_begin" : Str) = some (.ref lv)
theorem w_expr_any {env : Env} {e : Expr} {pos : Pos} {Q : Flow → Heap → Prop} (x : W c h (eval e env) (fun _ h' => Q .next h') E) (hi : interactive env = false := by rfl) (hs : swapsWith e none pos.line env = pure false := by with_unfolding_all rfl) : W c h (exec (.Expr e pos) env) Q E := fun tk => by
  rw [exec_Expr env e pos hi hs]
  exact wpAny_bind (wpAny_standAt (wpAny_bind (wpAny_mono (x tk) (fun v s' ⟨h', tk', e, q⟩ => wpAny_dropValue ⟨h', tk', e, q⟩) fun _ _ y => y)))
theorem w_rules {x lr lv : Addr} {env : Env} {o slice : Expr} {p pos : Pos} {Q : Value → Heap → Prop} (B : Base c.w h) (l : LexR c.prog c.w h x lr lv) (name : Str) (r : Addr) (hr : (name = "root" ∧ r = lr) ∨ (name = "variable_begin" ∧ r = lv))
    (hb : attributeBase o "rules" env (eval o env) = eval o env) (hn : ∀ a r, letTemporaryGo o a r = pure ())
    (y : W c h (eval o env) (fun v h1 => v = .ref x ∧ h1 = h ∧ W c h (eval slice env) (fun i h2 => ∃ t, i = .str name t ∧ h2 = h ∧ Q (.ref r) h) E) E)
    (hs : ∀ d t, subscripted slice false (.ref d) (.str name t) = operate [.ref d, .str name t] (getItem (.ref d) (.str name t)) := by intro _ _; with_unfolding_all rfl) : W c h (eval (.Subscript (.Attribute o "rules" p) slice pos) env) Q E := by
  obtain ⟨dx, d, kvs, rk, e1, e2, e3, e4, e5, e6⟩ := l
  refine w_sub <| w_attr hb hn (W_mono y (fun v h1 ⟨e, e', z⟩ => ?_) fun _ _ y => y)
  subst e e'
  refine w_getattr B e1 e2 (by kernel_rfl) (by kernel_rfl) (by kernel_rfl) e3 (by rfl) (W_mono z (fun i h2 ⟨t, e, e', q⟩ => ?_) fun _ _ y => y)
  subst e e'
  rcases hr with ⟨rfl, rfl⟩ | ⟨rfl, rfl⟩
  · exact w_item_dict e4 e5 q (hs d t)
  · exact w_item_dict e4 e6 q (hs d t)
end
end Mine
end
section
open PySem PySem.W PySem.Calls PyProof.Rows
set_option maxRecDepth 100000
set_option linter.all false
set_option maxHeartbeats 4000000
namespace Mine
section
variable {c : Cx} {h h₀ : Heap} {E : Value → Heap → Prop} {env : Env} {C : Cons} {G : GSpec} {n : Nat} {fs : List PySem.Frame} {I : Heap → Prop} {L : Addr} {vs : List (Option Value)} {ls : List (Addr × Cell)}
/-- the end of a rule's turn that leaves the variable -/
theorem tail_pop {it a b S xl lr lv : Addr} {x : Str} {st e p : Nat} {sp : List Value} {tt t0 : Tok} {sv : Value} (ja js : Nat) (M : GS C c.w h₀ n I L nsK vs ls h) (hv : vs.length = 30) (h0 : vs[0]? = some (some (.ref xl))) (h8 : vs[8]? = some (some (.ref S))) (h16 : vs[16]? = some (some (.str "#pop" tt))) (h17 : vs[17]? = some (some (.ref a)))
    (KB : ∀ h, (∀ b o, b ∉ C.X → h₀.get? b = some o → h.get? b = some o) → LexR c.prog c.w h xl lr lv)
    (hm : (C.cells n ++ ls)[ja]? = some (a, .obj (MatchO x b))) (hS : (C.cells n ++ ls)[js]? = some (S, .lst [.str "root" t0, sv])) (tb : ∀ h, I h → h.IsTuple b (rawInt st :: rawInt e :: sp).toArray) (hl : x.length ≤ sizeLine)
    (q : ∀ h' b1 u1 u2, MS c.w h₀ C.X (fun h => C.Ic n h ∧ I h) L nsK ((((vs.set 13 (some (.bool b1))).set 29 (some (.int e u1))).set 9 (some (.ref lr))).set 6 (some (.int e u2))) ((C.cells n ++ ls).set js (S, .lst [.str "root" t0])) h' → SG c G n (FL c.w.params it L) (.pure (.done .next)) fs h') :
    SX c G n (FL c.w.params it L) fs (loopK (FL c.w.params it L)) (loopH (envT c.w.params L)) (envT c.w.params L) ((sBody (forT c.w.params)).drop 4) h := by
  have X := okT c.w.params
  have A := M.match ja hm tb
  refine sx_W <| w_assign <| w_cmp <| w_slice_any <| w_regroup <| w_loc X M.ns (i := 17) rfl h17 ⟨a, x, st, e, sp, rfl, A, hl, fun t1 => w_neg fun t2 => ⟨_, _, _, _, rfl, rfl, Nat.le_trans (by rw [sl_len]; omega) hl, fun h' t' k => ?_⟩⟩
  replace M := M.mono k
  refine w_str fun t3 => w_eq_str <| w_store X M.ns (i := 13) rfl (by simp [hv]) fun h2 N2 k2 => ?_
  replace M := M.store N2 k2
  have A := M.match ja hm tb
  refine sx_W <| w_assign <| w_reend <| w_loc X M.ns (i := 17) rfl (by simpa using h17) ⟨a, x, st, e, sp, rfl, A, fun t4 => w_store X M.ns (i := 29) rfl (by simp [hv]) fun h3 N3 k3 => ?_⟩
  replace M := M.store N3 k3
  refine sx_cons <| se_if_t <| w_tcmp <| w_loc X M.ns (i := 16) rfl (by simpa using h16) <| w_none <| w_isnot_none <| w_tbool ⟨rfl, ?_⟩
  refine sx_cons <| se_if_t <| w_tcmp <| w_loc X M.ns (i := 16) rfl (by simpa using h16) <| w_str fun t5 => w_eq_str <| w_tbool ⟨by decide +kernel, ?_⟩
  refine sx_W <| w_expr_any <| w_pop <| w_loc X M.ns (i := 8) rfl (by simpa using h8) ⟨S, [.str "root" t0], sv, rfl, M.get js hS, by show (1 : Nat) < _; decide, fun h4 l4 k4 => ?_⟩
  replace M := M.set js hS l4 k4
  obtain ⟨k, e4⟩ := l4
  refine sx_nil <| sx_done <| sx_W <| w_assign <| w_rules M.base (KB _ M.keep) "root" lr (.inl ⟨rfl, rfl⟩) (by rfl) (by intro _ _; rfl) <| w_loc X M.ns (i := 0) rfl (by simpa using h0) ⟨rfl, rfl, w_sub <| w_loc X M.ns (i := 8) rfl (by simpa using h8) <| w_neg fun t6 => w_last1 M.base e4 ⟨t0, rfl, rfl, ?_⟩⟩
  refine w_store X M.ns (i := 9) rfl (by simp [hv]) fun h5 N5 k5 => ?_
  replace M := M.store N5 k5
  have h29 : ((((vs.set 13 (some (Value.bool (decide (Txt.slice (sl x st e) (some (-1)) none = Str.ofString "\n"))))).set 29 (some (Value.int (↑e) t4))).set 9 (some (.ref lr)))[29]?) = some (some (Value.int (↑e) t4)) := by simp [hv]
  refine sx_nil <| sx_done <| sx_W <| w_assign <| w_loc X M.ns (i := 29) rfl h29 <| w_store X M.ns (i := 6) rfl (by simp [hv]) fun h6 N6 k6 => ?_
  replace M := M.store N6 k6
  refine sx_W <| fun tk => wpAny_Break ⟨h6, tk, rfl, ?_⟩
  exact q h6 _ _ _ M
end
end Mine
end
section
open PySem PySem.W PySem.Calls PyProof.Rows
set_option maxRecDepth 100000
set_option linter.all false
set_option maxHeartbeats 4000000
namespace Mine
section
variable {c : Cx} {h h₀ : Heap} {E : Value → Heap → Prop} {env : Env} {C : Cons} {G : GSpec} {n : Nat} {fs : List PySem.Frame} {I : Heap → Prop} {L : Addr} {vs : List (Option Value)} {ls : List (Addr × Cell)}
/-- what is done for a rule whose token is a text -/
noncomputable def elseB (P : Params) : List Stmt := sElse (hdS ((sBody (forT P)).drop 3))
/-- the flow after it -/
noncomputable abbrev KT (c : Cx) (it L : Addr) : Flow → Sem Fin := nextK ((sBody (forT c.w.params)).drop 4) (envT c.w.params L) (loopK (FL c.w.params it L)) (loopH (envT c.w.params L))
theorem str_head {it a b : Addr} {x : Str} {st e : Nat} {sp : List Value} {tok : Str} {t : Tok} (ja : Nat) (M : GS C c.w h₀ n I L nsK vs ls h) (hv : vs.length = 30) (h15 : vs[15]? = some (some (.str tok t))) (h17 : vs[17]? = some (some (.ref a)))
    (hm : (C.cells n ++ ls)[ja]? = some (a, .obj (MatchO x b))) (tb : ∀ h, I h → h.IsTuple b (rawInt st :: rawInt e :: sp).toArray) (hl : x.length ≤ sizeLine)
    (q : ∀ h' t', GS C c.w h₀ n I L nsK (vs.set 27 (some (.str (sl x st e) t'))) ls h' → SX c G n (FL c.w.params it L) fs (KT c it L) (loopH (envT c.w.params L)) (envT c.w.params L) ((elseB c.w.params).drop 1) h') :
    SX c G n (FL c.w.params it L) fs (loopK (FL c.w.params it L)) (loopH (envT c.w.params L)) (envT c.w.params L) ((sBody (forT c.w.params)).drop 3) h := by
  have X := okT c.w.params
  have A := M.match ja hm tb
  refine sx_cons <| se_if_f <| w_tval <| w_callN <| w_blt (base_g M.base) (base_b M.base) (v := .builtin "isinstance") (by kernel_rfl) (by kernel_rfl) <| w_with_bi <| w_args <| w_loc X M.ns (i := 15) rfl h15 <| w_args <|
    w_blt (base_g M.base) (base_b M.base) (v := .type "tuple") (by kernel_rfl) (by kernel_rfl) <| w_args_nil <| w_isi_str M.base <| w_tbool ⟨rfl, ?_⟩
  refine sx_W <| w_assign <| w_regroup <| w_loc X M.ns (i := 17) rfl h17 ⟨a, x, st, e, sp, rfl, A, hl, fun t1 => w_store X M.ns (i := 27) rfl (by simp [hv]) fun h2 N2 k2 => ?_⟩
  exact q h2 t1 (M.store N2 k2)
/-- the token is told, the lines are counted -/
theorem str_tell {it : Addr} {y tok : Str} {t t' u : Tok} {row : Nat} (M : GS C c.w h₀ (n + 1) I L nsK vs ls h) (hI : ∀ h h', TupKeep h h' → I h → I h') (hv : vs.length = 30) (h7 : vs[7]? = some (some (.int row u))) (h15 : vs[15]? = some (some (.str tok t))) (h27 : vs[27]? = some (some (.str y t')))
    (hy : 0 < y.length) (hyl : y.length ≤ sizeLine) (hfs : splitAtGen fs = none) (hfg : fs.any Frame.guarded = false)
    (hY : ∀ v h', TokV h' v (row, tok, y) → C.at c.w h₀ (n + 1) h' → G.Yv n v h') (hSt : ∀ h' h'', G.St n h' h'' → C.step n h' h'')
    (q : ∀ h' u', GS C c.w h₀ n I L nsK (vs.set 7 (some (.int ((row + nl y : Nat)) u'))) ls h' → SX c G n (FL c.w.params it L) fs (loopK (FL c.w.params it L)) (loopH (envT c.w.params L)) (envT c.w.params L) ((sBody (forT c.w.params)).drop 4) h') :
    SX c G (n + 1) (FL c.w.params it L) fs (KT c it L) (loopH (envT c.w.params L)) (envT c.w.params L) ((elseB c.w.params).drop 2) h := by
  have X := okT c.w.params
  refine sx_cons <| se_if_t <| w_tboolop <| w_or <| w_tval <| w_loc X M.ns (i := 27) rfl h27 <| w_tstr (by have := len_lt63 hyl; omega) ?_
  have e1 : ((y.length : Int) != 0) = true := by simp; omega
  rw [e1, if_pos rfl]
  refine ⟨rfl, sx_cons <| se_yield hfs hfg <| w_tuple <| w_args <| w_loc X M.ns (i := 7) rfl h7 <| w_args <| w_loc X M.ns (i := 15) rfl h15 <| w_args <| w_loc X M.ns (i := 27) rfl h27 <| w_args_nil ⟨rfl, fun a h' k na ta => ?_⟩⟩
  replace M := M.mono k
  refine ⟨hY _ _ (.mk ta) M.cons, fun h'' hst => ?_⟩
  have M2 := M.step hI (hSt _ _ hst)
  refine sx_done <| sx_nil <| sx_done <| sx_W <| w_aug <| w_locN X M2.ns (i := 7) rfl h7 <| w_count <| w_loc X M2.ns (i := 27) rfl h27 ⟨_, _, rfl, w_str fun t9 => ⟨_, _, rfl, fun t10 => w_iadd fun t11 => w_store X M2.ns (i := 7) rfl (by simp [hv]) fun h10 N10 k10 => ?_⟩⟩
  have M3 := M2.store N10 k10
  refine sx_nil <| sx_done <| q h10 t11 ?_
  rw [count_nl] at M3
  exact M3
end
end Mine
end
section
open PySem PySem.W PySem.Calls PyProof.Rows
set_option maxRecDepth 100000
set_option linter.all false
set_option maxHeartbeats 4000000
namespace Mine
section
variable {c : Cx} {h h₀ : Heap} {E : Value → Heap → Prop} {env : Env} {C : Cons} {G : GSpec} {n : Nat} {fs : List PySem.Frame} {I : Heap → Prop} {L : Addr} {vs : List (Option Value)} {ls : List (Addr × Cell)}
theorem op_skip {it : Addr} {tok : Str} {t : Tok} (M : GS C c.w h₀ n I L nsK vs ls h) (h15 : vs[15]? = some (some (.str tok t))) (hne : tok ≠ "operator")
    (q : SX c G n (FL c.w.params it L) fs (KT c it L) (loopH (envT c.w.params L)) (envT c.w.params L) ((elseB c.w.params).drop 2) h) :
    SX c G n (FL c.w.params it L) fs (KT c it L) (loopH (envT c.w.params L)) (envT c.w.params L) ((elseB c.w.params).drop 1) h := by
  have X := okT c.w.params
  exact sx_cons <| se_if_f <| w_tcmp <| w_loc X M.ns (i := 15) rfl h15 <| w_globS "operator" M.base (by kernel_rfl) fun t => w_eq_str <| w_tbool ⟨decide_eq_false hne, sx_nil <| sx_done q⟩
theorem set_same {l : List (Option Value)} {i : Nat} (h : i < l.length) : l.set i l[i] = l := List.set_getElem_self h
/-- an operator that keeps the braces in order -/
theorem op_ok {it Bk : Addr} {y : Str} {t t' : Tok} {bv : List Value} {stk stk' : List Str} (jb : Nat) (M : GS C c.w h₀ n I L nsK vs ls h) (hu : (c.ov (FL c.w.params it L) fs).A.units + 1 < cLine) (hv : vs.length = 30) (h11 : vs[11]? = some (some (.ref Bk))) (h15 : vs[15]? = some (some (.str "operator" t))) (h27 : vs[27]? = some (some (.str y t')))
    (hB : (C.cells n ++ ls)[jb]? = some (Bk, .lst bv)) (hsv : StrVals bv stk) (hbl : bv.length ≤ 100000) (hok : PyData.strOk y = true) (hn : nextStk stk y = .ok stk')
    (q : ∀ h' bv' o, StrVals bv' stk' → MS c.w h₀ C.X (fun h => C.Ic n h ∧ I h) L nsK (vs.set 28 o) ((C.cells n ++ ls).set jb (Bk, .lst bv')) h' → SX c G n (FL c.w.params it L) fs (KT c it L) (loopH (envT c.w.params L)) (envT c.w.params L) ((elseB c.w.params).drop 2) h') :
    SX c G n (FL c.w.params it L) fs (KT c it L) (loopH (envT c.w.params L)) (envT c.w.params L) ((elseB c.w.params).drop 1) h := by
  have X := okT c.w.params
  have hsl : bv.length ≤ sizeLine := Nat.le_trans hbl (by decide)
  have vself : vs.set 28 (vs[28]'(by omega)) = vs := set_same _
  have hBl : (C.cells n ++ ls).set jb (Bk, .lst bv) = C.cells n ++ ls := by
    apply List.ext_getElem?
    intro j
    rw [List.getElem?_set]
    by_cases hj : jb = j
    · subst hj
      have := (List.getElem?_eq_some_iff.mp hB).1
      rw [if_pos rfl, if_pos this, hB]
    · rw [if_neg hj]
  refine sx_cons <| se_if_t <| w_tcmp <| w_loc X M.ns (i := 15) rfl h15 <| w_globS "operator" M.base (by kernel_rfl) fun t1 => w_eq_str <| w_tbool ⟨by decide +kernel, ?_⟩
  refine sx_cons <| se_if <| w_tcmp <| w_loc X M.ns (i := 27) rfl h27 <| w_str fun t2 => w_eq_str <| w_tbool ?_
  by_cases e1 : y = "{"
  · rw [if_pos (by simpa using e1)]
    refine sx_W <| w_expr <| w_append <| w_loc X M.ns (i := 11) rfl h11 ⟨Bk, bv, rfl, M.get jb hB, w_str fun t3 => ⟨bv, M.get jb hB, hsl, fun h2 l2 k2 => ⟨rfl, ?_⟩⟩⟩
    have M2 := M.set jb hB l2 k2
    refine sx_nil <| sx_done <| sx_nil <| sx_done <| q h2 _ (vs[28]'(by omega)) ?_ (by rw [vself]; exact M2)
    subst e1
    cases hn
    exact hsv.app
  rw [if_neg (by simpa using e1)]
  refine sx_cons <| se_if <| w_tcmp <| w_loc X M.ns (i := 27) rfl h27 <| w_str fun t4 => w_eq_str <| w_tbool ?_
  by_cases e2 : y = "("
  · rw [if_pos (by simpa using e2)]
    refine sx_W <| w_expr <| w_append <| w_loc X M.ns (i := 11) rfl h11 ⟨Bk, bv, rfl, M.get jb hB, w_str fun t3 => ⟨bv, M.get jb hB, hsl, fun h2 l2 k2 => ⟨rfl, ?_⟩⟩⟩
    have M2 := M.set jb hB l2 k2
    refine sx_nil <| sx_done <| sx_nil <| sx_done <| sx_nil <| sx_done <| q h2 _ (vs[28]'(by omega)) ?_ (by rw [vself]; exact M2)
    subst e2
    cases hn
    exact hsv.app
  rw [if_neg (by simpa using e2)]
  refine sx_cons <| se_if <| w_tcmp <| w_loc X M.ns (i := 27) rfl h27 <| w_str fun t5 => w_eq_str <| w_tbool ?_
  by_cases e3 : y = "["
  · rw [if_pos (by simpa using e3)]
    refine sx_W <| w_expr <| w_append <| w_loc X M.ns (i := 11) rfl h11 ⟨Bk, bv, rfl, M.get jb hB, w_str fun t3 => ⟨bv, M.get jb hB, hsl, fun h2 l2 k2 => ⟨rfl, ?_⟩⟩⟩
    have M2 := M.set jb hB l2 k2
    refine sx_nil <| sx_done <| sx_nil <| sx_done <| sx_nil <| sx_done <| sx_nil <| sx_done <| q h2 _ (vs[28]'(by omega)) ?_ (by rw [vself]; exact M2)
    subst e3
    cases hn
    exact hsv.app
  rw [if_neg (by simpa using e3)]
  have hd : dueOf y = none := by unfold dueOf; rw [if_neg e1, if_neg e2, if_neg e3]
  unfold nextStk at hn
  rw [hd] at hn
  refine sx_cons <| se_if <| w_tcmp <| w_loc X M.ns (i := 27) rfl h27 <| w_tuple <| w_args <| w_str fun t6 => w_args <| w_str fun t7 => w_args <| w_str fun t8 => w_args_nil ⟨rfl, fun a h1 k1 na ta => ?_⟩
  replace M := M.mono k1
  refine w_in_tuple (xs := closers) ta (.cons (.cons (.cons .nil))) (by decide +kernel) hok hu <| w_tbool ?_
  by_cases e4 : y ∈ closers
  · rw [if_pos (by simpa using e4)]
    rw [if_pos e4] at hn
    cases hg : stk.getLast? with
    | none => rw [hg] at hn; cases hn
    | some d =>
      rw [hg] at hn
      dsimp only at hn
      split at hn
      · rename_i hdy
        subst hdy
        cases hn
        obtain ⟨s0, rfl⟩ := List.getLast?_eq_some_iff.mp hg
        obtain ⟨bv', td, rfl, hsv'⟩ := hsv.last
        refine sx_cons <| se_if_f <| w_tnot <| w_tval <| w_loc X M.ns (i := 11) rfl h11 <| w_tlist (M.get jb hB).isList (by rw [List.size_toArray]; omega) ⟨by simp, ?_⟩
        refine sx_nil <| sx_done <| sx_W <| w_assign <| w_pop <| w_loc X M.ns (i := 11) rfl h11 ⟨Bk, bv', .str d td, rfl, M.get jb hB, by simp at hsl; omega, fun h2 l2 k2 => ?_⟩
        have M2 := M.set jb hB l2 k2
        refine w_store X M2.ns (i := 28) rfl (by simp [hv]) fun h3 N3 k3 => ?_
        have M3 := M2.store N3 k3
        refine sx_cons <| se_if_f <| w_tcmp <| w_loc X M3.ns (i := 28) rfl (set_get (by simp [hv])) <| w_loc X M3.ns (i := 27) rfl (by simpa using h27) <| w_ne_str <| w_tbool ⟨by simp, ?_⟩
        refine sx_nil <| sx_done <| sx_nil <| sx_done <| sx_nil <| sx_done <| sx_nil <| sx_done <| sx_nil <| sx_done <| sx_nil <| sx_done <| q h3 bv' _ ?_ M3
        rw [List.dropLast_concat]
        exact hsv'
      · cases hn
  · rw [if_neg (by simpa using e4)]
    rw [if_neg e4] at hn
    cases hn
    refine sx_nil <| sx_done <| sx_nil <| sx_done <| sx_nil <| sx_done <| sx_nil <| sx_done <| sx_nil <| sx_done <| q h1 bv (vs[28]'(by omega)) hsv (by rw [vself, hBl]; exact M)
end
end Mine
end
section
open PySem PySem.W PySem.Calls PyProof.Rows
set_option maxRecDepth 100000
set_option linter.all false
set_option maxHeartbeats 4000000
namespace Mine
def evStack {α : Type} : Sem α → Bool | .stack _ => true | _ => false
def kStack {α : Type} : Sem α → List (Code × Pos) → Sem α | .stack k, l => k l | t, _ => t
theorem drive_wpAt {α : Type} {look : Addr → Option Obj} {M : Model} {A : Around} {c : Code} {s : Shared} {E : Value → Shared → Prop} (hl : ∀ a o, look a = some o → s.heap.get? a = some o) {Q : α → Shared → Prop} {t : Sem α} : ∀ {n : Nat}, _root_.PySem.wpAt M A c (drive look ⟨M.prog, M.w.params⟩ t n) Q E s → _root_.PySem.wpAt M A c t Q E s := by
  induction t with
  | rule _ k ih => intro n x Γ p hc hΓ; exact ih () x Γ p hc hΓ
  | «at» p' k ih => intro n x Γ p hc hΓ; exact ih () x Γ p' hc hΓ
  | load b p' k ih =>
    intro n x
    cases n with
    | zero => exact x
    | succ n =>
      unfold drive at x
      cases h : look b with
      | none => rw [h] at x; exact x
      | some o => rw [h] at x; exact fun Γ p hc hΓ => ⟨o, hl b o h, ih o x Γ p hc hΓ⟩
  | point _ k ih => intro n x Γ p hc hΓ; exact ih () x Γ p hc hΓ
  | ask k ih => intro n x Γ p hc hΓ; exact ih _ x Γ p hc hΓ
  | _ => intro n x; exact x
/-- a builtin that looks at its own place on the stack -/
theorem WC_builtinS {c : Cx} {h : Heap} {id : String} {args : Args} {Bi : Builtin} {Q E : Value → Heap → Prop} (n : Nat) (B : Base c.w h) (entry : entryFor table id = some Bi) (e : evStack (dr (c.un (.builtin id args)) n (Bi args)) = true)
    (x : ∀ p below, W (c.un (.builtin id args)) h (kStack (dr (c.un (.builtin id args)) n (Bi args)) ((.builtin id args, p) :: below)) (FinW c Q E) E) : WC c h (.builtin id args) Q E := fun tk => by
  refine codeAny_builtinAt entry (drive_wpAt (M := model c.prog c.w) (n := n) (lookB_ok B) ?_)
  generalize hu : dr (c.un (.builtin id args)) n (Bi args) = u at e x
  have hu' : drive (lookB c.w.params) ⟨(model c.prog c.w).prog, (model c.prog c.w).w.params⟩ (Bi args) n = u := hu
  rw [hu']
  cases u <;> simp [evStack] at e
  intro Γ p hc hΓ
  have := x p Γ.below tk Γ p hΓ
  show Sem.wp _ _ (kStack (Sem.stack _) ((Γ.code, p) :: Γ.below)) _ _ _ _
  rw [hc]
  refine Sem.wp_mono _ Γ _ (fun fin p' s' ⟨h', tk', e, q⟩ => ?_) (fun _ _ _ h' => h') p _ this
  subst e
  cases fin with
  | done f => cases f <;> first | exact ⟨h', tk', rfl, q⟩ | exact q.elim
  | again c' => exact ⟨q.1, q.2 tk'⟩
theorem entry_exc_new : entryFor table "Exception.__new__" = some Builtin.«BaseException.__new__» := entryFor_alias (id' := "BaseException.__new__") (by rw [fastTable_eq_tree]; kernel_rfl) (by first | rfl | decide +kernel) (by decide +kernel) (by rw [fastTable_eq_tree]; kernel_rfl)
theorem entry_exc_init : entryFor table "Exception.__init__" = some Builtin.«BaseException.__init__» := entryFor_alias (id' := "BaseException.__init__") (by rw [fastTable_eq_tree]; kernel_rfl) (by first | rfl | decide +kernel) (by decide +kernel) (by rw [fastTable_eq_tree]; kernel_rfl)
end Mine
end
section
open PySem PySem.W PySem.Calls PyProof.Rows
set_option maxRecDepth 100000
set_option linter.all false
set_option maxHeartbeats 4000000
namespace Mine
abbrev nsN : List Str := ([("cls" : Str), "members", "kwargs"] : List Str) ++ ([] : List Str)
section
variable {c : Cx} {h : Heap} {E : Value → Heap → Prop}
open PySem.Builtin.List in
theorem iadd_eq {s a : Addr} (ne : a ≠ s) : Builtin.«list.__iadd__» ⟨[.ref s, .ref a], []⟩ = (do
    let t ← typeOf (.ref a)
    if false || t == .type "list" || t == .type "tuple" then
      let xs ← listItems (.ref a)
      let mine ← listItems (.ref s)
      if !mine.isEmpty && listTooLong (mine.size + xs.size) then unsupported "list.extend:memory"
      listUpdate (.ref s) (· ++ xs)
      return ← ret (.ref s)
    let iter ← pyIter (.ref a)
    let room ← holding [iter] (listLengthHint (.ref a))
    if room || (["set", "frozenset", "dict", "dict_keys", "dict_values", "dict_items"] : List String).any (fun x => t == .type x) then rule "list.extend.makes-room"; listTouch (.ref s)
    again (.builtin "list.extend.loop" ⟨[.ref s, iter, .ref s], []⟩)) := by
  have e : listSameRef (.ref s) (.ref a) = false := by
    have : (s == a) = false := beq_false_of_ne (Ne.symm ne)
    exact this
  show listExtendWith (.ref s) (.ref a) (.ref s) = _
  unfold listExtendWith
  rw [e]
  rfl
theorem wa_super {q : Str} {sc : Scope} {L f cda D cc : Addr} {cl : List (Str × Addr)} {p0 p1 : Pos} {attr : Str} {whole : Sem Value} {of oc : Obj} {fd : FuncData} {y : Str} {vs : Array Value} {file : Str} {tf : Tok} {self : Value} {body : List Stmt} {oD : Obj} {cdD : ClassData} {Q : Value → Heap → Prop}
    (B : Base c.w h) (hp0 : c.prog = P0) (hks : (envX q sc L f (.ref cda) cl).kindOf "super" = some .globalImplicit) (hkc : (envX q sc L f (.ref cda) cl).kindOf "__class__" = some .free) (hat : (attr == ("__class__" : Str)) = false)
    (hf : h.get? f = some of) (hfd : of.data = .func fd) (hp : ((fd.params.posonlyargs ++ fd.params.args).head?).map (·.arg) = some y) (hcc : h.get? cda = some oc) (hoc : oc.data = .fields vs) (hvs : vs[2]? = some (.str file tf))
    (hfile : ((P0.main.file : Str) == file) = true) (hcl : cl.lookup ("__class__" : Str) = some cc) (hcell : h.IsCell cc (some (.ref D))) (hD : h.get? D = some oD) (hdD : oD.data = .cls cdD) (hk : sc.kind = .function)
    (hself : W c h (loadName (envX q sc L f (.ref cda) cl) y) (fun v h1 => v = self ∧ h1 = h) E)
    (x : W c h (call (.type "super") [.ref D, self]) Q E) : WA c h (.func body (envX q sc L f (.ref cda) cl)) (attributeBase (.Call (.Name "super" p0) [] [] p1) attr (envX q sc L f (.ref cda) cl) whole) Q E := fun tk => by
  obtain ⟨ar, hp', rfl⟩ := Option.map_eq_some_iff.mp hp
  refine ks_wpAt_super_base (env := envX q sc L f (.ref cda) cl) hks hkc hat rfl hf hfd hp' rfl hcc hoc hvs (by rw [hp0]; exact hfile) (by rw [hp0]; kernel_rfl) ?_
  refine ks_loadName_global hk hks (loadGlobal_builtin (env := envX q sc L f (.ref cda) cl) (mg := mg0 c.w.params) (mb := mb0 c.w.params) (v := .type "super") (base_g B) (by kernel_rfl) (base_b B) (by kernel_rfl) ⟨rfl, ?_⟩)
  refine wpAny_loadName_free hk hkc hcl hcell ?_
  refine wpAny_mono (hself tk) (fun v s' ⟨h', tk', es, e1, e2⟩ => ?_) fun _ _ y => y
  subst es e1 e2
  exact ks_wpAny_isType_cls hD hdD ⟨rfl, x tk'⟩
theorem wc_ols (B : Base c.w h) (D : c.A.depth + 1 < recursionLimit) (hp0 : c.prog = P0) {a b : Value} {R : Value → Heap → Prop}
   (q : ∀ h' x, Keep h h' → New h x → (∃ o, h'.get? x = some o ∧ OlsO [a, b] o) → R (.ref x) h') : WC c h (.call (.ref 376) ⟨[a, b], []⟩) R E := by
  refine WC_tree' ?_
  refine @w_dr_again _ _ _ _ _ _ _ 2 (Code.call (Value.builtin "type.__call__") { pos := [Value.ref 376, a, b] }) B (by kernel_rfl) (by kernel_rfl) ?_
  refine WC_tree' ?_
  refine @w_dr_again _ _ _ _ _ _ _ 1 (Code.builtin "type.__call__" { pos := [Value.ref 376, a, b] }) B (by kernel_rfl) (by kernel_rfl) ?_
  refine WC_builtin' (Bi := Builtin.«type.__call__») (entryFor_of_tree (by kernel_rfl)) ?_
  refine @w_dr_fresh _ _ _ _ _ _ 3 B (by kernel_rfl) fun tk0 => ?_
  refine @w_dr_call _ _ _ _ _ _ 1 (Code.call (Value.builtin "type.__getattribute__") { pos := [Value.ref 376, Value.str (Str.ofString "__new__") tk0] }) B (by kernel_rfl) ?_
  refine WC_tree' ?_
  refine @w_dr_again _ _ _ _ _ _ _ 1 (Code.builtin "type.__getattribute__" { pos := [Value.ref 376, Value.str (Str.ofString "__new__") tk0] }) B (by kernel_rfl) (by kernel_rfl) ?_
  refine WC_builtin' (Bi := Builtin.«type.__getattribute__») (entryFor_of_tree (by kernel_rfl)) ?_
  refine @w_dr_call _ _ _ _ _ _ 7 (Code.call (Value.builtin "staticmethod.__get__") { pos := [Value.ref 377, Value.none, Value.ref 376] }) B (by kernel_rfl) ?_
  refine WC_tree' ?_
  refine @w_dr_again _ _ _ _ _ _ _ 1 (Code.builtin "staticmethod.__get__" { pos := [Value.ref 377, Value.none, Value.ref 376] }) B (by kernel_rfl) (by kernel_rfl) ?_
  refine WC_builtin' (Bi := Builtin.«staticmethod.__get__») (entryFor_of_tree (by kernel_rfl)) ?_
  refine @w_dr_done _ _ _ _ _ _ _ 1 (Value.ref 372) B (by kernel_rfl) ?_
  refine @w_dr_done _ _ _ _ _ _ _ 0 (Value.ref 372) B (by kernel_rfl) ?_
  refine @w_dr_call _ _ _ _ _ _ 0 (Code.call (Value.ref 372) { pos := [Value.ref 376, a, b] }) B (by kernel_rfl) ?_
  have X : FnOk nsN (fscope (top.o_420 c.w.params)) := FnOk.of (by kernel_rfl)
  refine wc_fnA "OptionalLStrip.__new__" ["cls", "members", "kwargs"] [] 372 371 (top.o_420 c.w.params) (top.o_419 c.w.params) B D (by kernel_rfl) (by kernel_rfl) (by kernel_rfl) (by kernel_rfl) (by kernel_rfl) (by decide) (by kernel_rfl) (by kernel_rfl) (by kernel_rfl) (by kernel_rfl) (by kernel_rfl) ?_
  refine @w_dr_alloc _ _ _ _ _ _ 0 ({ cls := Value.type "tuple", data := Data.seq { toList := [a, b] } 0 }) B (by kernel_rfl) rfl fun a1 h1 n1 k1 e1 => ?_
  have B1 : Base _ h1 := Base.mono B k1
  have nb1 := Base.new B n1
  refine @w_dr_alloc _ _ _ _ _ _ 0 ({ cls := Value.type "dict", data := Data.dict { toList := [] } 0 }) B1 (by kernel_rfl) rfl fun a2 h2 n2 k2 e2 => ?_
  have B2 : Base _ h2 := Base.mono B1 k2
  have nb2 := Base.new B1 n2
  have ne2_a1 : a1 ≠ a2 := New.ne n2 e1
  replace e1 := k2 _ _ e1
  refine @w_dr_pure _ _ _ _ _ _ ([({ cps := { toList := [99, 108, 115] } }, Value.ref 376), ({ cps := { toList := [109, 101, 109, 98, 101, 114, 115] } }, Value.ref a1), ({ cps := { toList := [107, 119, 97, 114, 103, 115] } }, Value.ref a2)]) 0 B2 (by kernel_rfl) ?_
  refine ⟨[.ref 376, .ref a1, .ref a2], by kernel_rfl, rfl, Keep.trans k1 k2, B2, fun c' h3 L hc' k3 B3 F => ?_⟩
  subst hc'
  replace e1 := k3 _ _ e1
  refine wa_cons <| wa_return <| wa_method <| wa_super (self := .ref 376) (oc := top.o_419 c.w.params) (of := top.o_420 c.w.params) (y := "cls") (oD := top.o_424 c.w.params) (D := 376) (fd := fnO "OptionalLStrip.__new__" (top.o_420 c.w.params) 371) B3 hp0 (by kernel_rfl) (by kernel_rfl) (by kernel_rfl) (base_at B3 (by kernel_rfl) (by decide) (by kernel_rfl)) (by kernel_rfl) (by kernel_rfl) (base_at B3 (by kernel_rfl) (by decide) (by kernel_rfl)) rfl rfl (by kernel_rfl) (cc := 359) (by kernel_rfl) ?_ (base_at B3 (by kernel_rfl) (by decide) (by kernel_rfl)) rfl (by kernel_rfl) ?_ ?_
  · exact ⟨top.o_407 c.w.params, base_at B3 (by kernel_rfl) (by decide) (by kernel_rfl), rfl⟩
  · exact w_locX X F.ns (i := 0) rfl rfl ⟨rfl, rfl⟩
  obtain ⟨oL, es, ep, hL, rL⟩ := F.ns
  refine @w_dr_call _ _ _ _ _ _ 0 (Code.call (Value.type "super") { pos := [Value.ref 376, Value.ref 376] }) B3 (by kernel_rfl) ?_
  refine WC_tree' ?_
  refine @w_dr_again _ _ _ _ _ _ _ 0 (Code.builtin "type.__call__" { pos := [Value.type "super", Value.ref 376, Value.ref 376] }) B3 (by kernel_rfl) (by kernel_rfl) ?_
  refine WC_builtin' (Bi := Builtin.«type.__call__») (entryFor_of_tree (by kernel_rfl)) ?_
  refine @w_dr_call _ _ _ _ _ _ 1 (Code.call (Value.builtin "super.__new__") { pos := [Value.type "super", Value.ref 376, Value.ref 376] }) B3 (by kernel_rfl) ?_
  refine WC_tree' ?_
  refine @w_dr_again _ _ _ _ _ _ _ 0 (Code.builtin "super.__new__" { pos := [Value.type "super", Value.ref 376, Value.ref 376] }) B3 (by kernel_rfl) (by kernel_rfl) ?_
  refine WC_builtin' (Bi := Builtin.«super.__new__») (entryFor_of_tree (by kernel_rfl)) ?_
  refine @w_dr_alloc _ _ _ _ _ _ 0 ({ cls := Value.type "super", data := Data.fields { toList := [Value.none, Value.none, Value.none] } }) B3 (by kernel_rfl) rfl fun a11 h11 n11 k11 e11 => ?_
  have B11 : Base _ h11 := Base.mono B3 k11
  have nb11 := Base.new B3 n11
  have ne11_a1 : a1 ≠ a11 := New.ne n11 e1
  replace e1 := k11 _ _ e1
  have ne11_L : L ≠ a11 := New.ne n11 hL
  replace hL := k11 _ _ hL
  refine @w_dr_done _ _ _ _ _ _ _ 0 (Value.ref a11) B11 (by kernel_rfl) ?_
  refine @w_dr_load _ _ _ _ _ _ 0 a11 _ B11 (by kernel_rfl) e11 ?_
  refine @w_dr_load _ _ _ _ _ _ 0 a11 _ B11 (by kernel_rfl) e11 ?_
  refine @w_dr_call _ _ _ _ _ _ 0 (Code.call (Value.builtin "super.__init__") { pos := [Value.ref a11, Value.ref 376, Value.ref 376] }) B11 (by kernel_rfl) ?_
  refine WC_tree' ?_
  refine @w_dr_load _ _ _ _ _ _ 0 a11 _ B11 (by kernel_rfl) e11 ?_
  refine @w_dr_again _ _ _ _ _ _ _ 0 (Code.builtin "super.__init__" { pos := [Value.ref a11, Value.ref 376, Value.ref 376] }) B11 (by kernel_rfl) (by kernel_rfl) ?_
  refine WC_builtin' (Bi := Builtin.«super.__init__») (entryFor_of_tree (by kernel_rfl)) ?_
  refine @w_dr_load _ _ _ _ _ _ 3 a11 _ B11 (by kernel_rfl) e11 ?_
  refine @w_dr_upd _ _ _ _ _ _ 0 a11 _ ({ cls := Value.type "super", data := Data.fields { toList := [Value.ref 376, Value.none, Value.none] } }) B11 (by kernel_rfl) e11 (by kernel_rfl) rfl fun h12 kb12 e12 => ?_
  have B12 : Base _ h12 := Base.but B11 kb12 (by assumption)
  replace e1 := kb12 _ _ (by first | assumption | (apply Ne.symm; assumption)) e1
  replace hL := kb12 _ _ (by first | assumption | (apply Ne.symm; assumption)) hL
  refine @w_dr_load _ _ _ _ _ _ 0 a11 _ B12 (by kernel_rfl) e12 ?_
  refine @w_dr_upd _ _ _ _ _ _ 0 a11 _ ({ cls := Value.type "super", data := Data.fields { toList := [Value.ref 376, Value.ref 376, Value.none] } }) B12 (by kernel_rfl) e12 (by kernel_rfl) rfl fun h13 kb13 e13 => ?_
  have B13 : Base _ h13 := Base.but B12 kb13 (by assumption)
  replace e1 := kb13 _ _ (by first | assumption | (apply Ne.symm; assumption)) e1
  replace hL := kb13 _ _ (by first | assumption | (apply Ne.symm; assumption)) hL
  refine @w_dr_load _ _ _ _ _ _ 0 a11 _ B13 (by kernel_rfl) e13 ?_
  refine @w_dr_upd _ _ _ _ _ _ 0 a11 _ ({ cls := Value.type "super", data := Data.fields { toList := [Value.ref 376, Value.ref 376, Value.ref 376] } }) B13 (by kernel_rfl) e13 (by kernel_rfl) rfl fun h14 kb14 e14 => ?_
  have B14 : Base _ h14 := Base.but B13 kb14 (by assumption)
  replace e1 := kb14 _ _ (by first | assumption | (apply Ne.symm; assumption)) e1
  replace hL := kb14 _ _ (by first | assumption | (apply Ne.symm; assumption)) hL
  refine @w_dr_done _ _ _ _ _ _ _ 0 (Value.none) B14 (by kernel_rfl) ?_
  refine @w_dr_done _ _ _ _ _ _ _ 0 (Value.ref a11) B14 (by kernel_rfl) ?_
  refine @w_dr_pure _ _ _ _ _ _ (Value.ref a11) 0 B14 (by kernel_rfl) ?_
  refine @w_dr_load _ _ _ _ _ _ 0 a11 _ B14 (by kernel_rfl) e14 ?_
  refine @w_dr_fresh _ _ _ _ _ _ 0 B14 (by kernel_rfl) fun tk15 => ?_
  refine @w_dr_load _ _ _ _ _ _ 0 a11 _ B14 (by kernel_rfl) e14 ?_
  refine @w_dr_call _ _ _ _ _ _ 0 (Code.call (Value.builtin "super.__getattribute__") { pos := [Value.ref a11, Value.str (Str.ofString "__new__") tk15] }) B14 (by kernel_rfl) ?_
  refine WC_tree' ?_
  refine @w_dr_load _ _ _ _ _ _ 0 a11 _ B14 (by kernel_rfl) e14 ?_
  refine @w_dr_again _ _ _ _ _ _ _ 0 (Code.builtin "super.__getattribute__" { pos := [Value.ref a11, Value.str (Str.ofString "__new__") tk15] }) B14 (by kernel_rfl) (by kernel_rfl) ?_
  refine WC_builtin' (Bi := Builtin.«super.__getattribute__») (entryFor_of_tree (by kernel_rfl)) ?_
  refine @w_dr_load _ _ _ _ _ _ 0 a11 _ B14 (by kernel_rfl) e14 ?_
  refine @w_dr_load _ _ _ _ _ _ 0 a11 _ B14 (by kernel_rfl) e14 ?_
  refine @w_dr_load _ _ _ _ _ _ 0 a11 _ B14 (by kernel_rfl) e14 ?_
  refine @w_dr_done _ _ _ _ _ _ _ 2 (Value.builtin "tuple.__new__") B14 (by kernel_rfl) ?_
  refine @w_dr_pure _ _ _ _ _ _ ((Value.builtin "tuple.__new__", [])) 0 B14 (by kernel_rfl) ?_
  have N14 : h14.Ns L _ := ⟨oL, es, ep, hL, rL⟩
  refine w_with_bi <| w_args <| w_nameX <| w_locX X N14 (i := 0) rfl rfl <| w_args <| w_nameX <| w_locX X N14 (i := 1) rfl rfl <| w_args_nil ?_
  refine @w_dr_call _ _ _ _ _ _ 0 (Code.call (Value.builtin "tuple.__new__") { pos := [Value.ref 376, Value.ref a1] }) B14 (by kernel_rfl) ?_
  refine WC_tree' ?_
  refine @w_dr_again _ _ _ _ _ _ _ 6 (Code.builtin "tuple.__new__" { pos := [Value.ref 376, Value.ref a1] }) B14 (by kernel_rfl) (by kernel_rfl) ?_
  refine WC_builtin' (Bi := Builtin.«tuple.__new__») (entryFor_of_tree (by kernel_rfl)) ?_
  refine @w_dr_call _ _ _ _ _ _ 9 (Code.builtin "proto.collect" { pos := [Value.ref a1] }) B14 (by kernel_rfl) ?_
  refine WC_builtin' (Bi := Builtin.«proto.collect») (entryFor_of_tree (by kernel_rfl)) ?_
  refine @w_dr_alloc _ _ _ _ _ _ 0 ({ cls := Value.type "list", data := Data.seq { toList := [] } 0 }) B14 (by kernel_rfl) rfl fun a21 h21 n21 k21 e21 => ?_
  have B21 : Base _ h21 := Base.mono B14 k21
  have nb21 := Base.new B14 n21
  have ne21_a11 : a11 ≠ a21 := New.ne n21 e14
  replace e14 := k21 _ _ e14
  have ne21_a1 : a1 ≠ a21 := New.ne n21 e1
  replace e1 := k21 _ _ e1
  have ne21_L : L ≠ a21 := New.ne n21 hL
  replace hL := k21 _ _ hL
  refine @w_dr_again _ _ _ _ _ _ _ 0 (Code.builtin "list.__iadd__" { pos := [Value.ref a21, Value.ref a1] }) B21 (by kernel_rfl) (by kernel_rfl) ?_
  refine WC_builtin' (Bi := Builtin.«list.__iadd__») (entryFor_of_tree (by kernel_rfl)) ?_
  refine W_eq (iadd_eq ne21_a1) ?_
  refine @w_dr_load _ _ _ _ _ _ 0 a1 _ B21 (by kernel_rfl) e1 ?_
  refine @w_dr_load _ _ _ _ _ _ 0 a1 _ B21 (by kernel_rfl) e1 ?_
  refine @w_dr_load _ _ _ _ _ _ 0 a21 _ B21 (by kernel_rfl) e21 ?_
  refine @w_dr_load _ _ _ _ _ _ 0 a21 _ B21 (by kernel_rfl) e21 ?_
  refine @w_dr_upd _ _ _ _ _ _ 0 a21 _ ({ cls := Value.type "list", data := Data.seq { toList := [a, b] } 1 }) B21 (by kernel_rfl) e21 (by kernel_rfl) rfl fun h31 kb31 e31 => ?_
  have B31 : Base _ h31 := Base.but B21 kb31 (by assumption)
  replace e14 := kb31 _ _ (by first | assumption | (apply Ne.symm; assumption)) e14
  replace e1 := kb31 _ _ (by first | assumption | (apply Ne.symm; assumption)) e1
  replace hL := kb31 _ _ (by first | assumption | (apply Ne.symm; assumption)) hL
  refine @w_dr_load _ _ _ _ _ _ 0 a21 _ B31 (by kernel_rfl) e31 ?_
  refine @w_dr_done _ _ _ _ _ _ _ 0 (Value.ref a21) B31 (by kernel_rfl) ?_
  refine @w_dr_load _ _ _ _ _ _ 0 a21 _ B31 (by kernel_rfl) e31 ?_
  refine @w_dr_alloc _ _ _ _ _ _ 0 ({ cls := Value.type "dict", data := Data.dict { toList := [] } 0 }) B31 (by kernel_rfl) rfl fun a32 h32 n32 k32 e32 => ?_
  have B32 : Base _ h32 := Base.mono B31 k32
  have nb32 := Base.new B31 n32
  have ne32_a21 : a21 ≠ a32 := New.ne n32 e31
  replace e31 := k32 _ _ e31
  have ne32_a11 : a11 ≠ a32 := New.ne n32 e14
  replace e14 := k32 _ _ e14
  have ne32_a1 : a1 ≠ a32 := New.ne n32 e1
  replace e1 := k32 _ _ e1
  have ne32_L : L ≠ a32 := New.ne n32 hL
  replace hL := k32 _ _ hL
  refine @w_dr_alloc _ _ _ _ _ _ 0 ({ cls := Value.ref 376, dict := some a32, data := Data.seq { toList := [a, b] } 0 }) B32 (by kernel_rfl) rfl fun a33 h33 n33 k33 e33 => ?_
  have B33 : Base _ h33 := Base.mono B32 k33
  have nb33 := Base.new B32 n33
  have ne33_a32 : a32 ≠ a33 := New.ne n33 e32
  replace e32 := k33 _ _ e32
  have ne33_a21 : a21 ≠ a33 := New.ne n33 e31
  replace e31 := k33 _ _ e31
  have ne33_a11 : a11 ≠ a33 := New.ne n33 e14
  replace e14 := k33 _ _ e14
  have ne33_a1 : a1 ≠ a33 := New.ne n33 e1
  replace e1 := k33 _ _ e1
  have ne33_L : L ≠ a33 := New.ne n33 hL
  replace hL := k33 _ _ hL
  refine @w_dr_done _ _ _ _ _ _ _ 1 (Value.ref a33) B33 (by kernel_rfl) ?_
  refine @w_dr_pure _ _ _ _ _ _ (Value.ref a33) 0 B33 (by kernel_rfl) ?_
  dsimp only
  refine @w_dr_load _ _ _ _ _ _ 0 a33 _ B33 (by kernel_rfl) e33 ?_
  refine @w_dr_load _ _ _ _ _ _ 1 a33 _ B33 (by kernel_rfl) e33 ?_
  refine @w_dr_call _ _ _ _ _ _ 3 (Code.call (Value.builtin "object.__init__") { pos := [Value.ref a33, a, b] }) B33 (by kernel_rfl) ?_
  refine WC_tree' ?_
  refine @w_dr_load _ _ _ _ _ _ 0 a33 _ B33 (by kernel_rfl) e33 ?_
  refine @w_dr_again _ _ _ _ _ _ _ 1 (Code.builtin "object.__init__" { pos := [Value.ref a33, a, b] }) B33 (by kernel_rfl) (by kernel_rfl) ?_
  refine WC_builtin' (Bi := Builtin.«object.__init__») (entryFor_of_tree (by kernel_rfl)) ?_
  refine @w_dr_load _ _ _ _ _ _ 0 a33 _ B33 (by kernel_rfl) e33 ?_
  refine @w_dr_done _ _ _ _ _ _ _ 5 (Value.none) B33 (by kernel_rfl) ?_
  refine @w_dr_done _ _ _ _ _ _ _ 0 (Value.ref a33) B33 (by kernel_rfl) ?_
  have K14 : Keep h3 h14 := Keep.butN (Keep.butN (Keep.butN k11 kb12 n11) kb13 n11) kb14 n11
  have K31 : Keep h14 h31 := Keep.butN k21 kb31 n21
  have K32 : Keep h h32 := Keep.trans (Keep.trans (Keep.trans (Keep.trans (Keep.trans k1 k2) k3) K14) K31) k32
  exact q _ _ (Keep.trans K32 k33) (New.back n33 K32) ⟨_, e33, rfl, 0, rfl⟩
theorem hols : OlsContract := fun hp0 B D _ q => wc_ols B D hp0 q
end
end Mine
end
section
open PySem PySem.W PySem.Calls PyProof.Rows
set_option maxRecDepth 100000
set_option linter.all false
set_option maxHeartbeats 4000000
namespace Mine
section
variable {c : Cx} {h : Heap} {E : Value → Heap → Prop}
theorem w_with_meth {pos : Pos} {q g : Addr} {self : Value} {first : List Value} {e : Expr} {rest : List Expr} {env : Env} {Q : Value → Heap → Prop} (hf : fnIn (KF c.w.params) g = true)
    (y : W c h (spliced (backTo pos (starEach (e :: rest) env))) (fun vs h₁ => Base c.w h₁ ∧ h₁.get? q = some (methodObj (.ref g) self) ∧ W c h₁ (call (.ref q) (first ++ vs)) Q E) E)
    (he : starEach (e :: rest) env = (false, eval e env) :: starEach rest env := by rfl) (hplain : (backTo pos (starEach rest env)).any (·.1) = false := by rfl) :
    W c h (callWith pos (.ref q) first (backTo pos (starEach (e :: rest) env)) []) Q E := fun tk => by
  have y' := y tk
  rw [he] at y' ⊢
  refine callWith_of (by show ((false || (backTo pos (starEach rest env)).any (·.1)) || false) = false; rw [hplain]; rfl) (keeps_M (K := KF c.w.params) (self := self) hf) (evalArgs_plain (wpAny_mono y' (fun vs s' ⟨h', tk', e, B', hq, x⟩ => ?_) fun _ _ y => y))
  subst e
  exact ⟨⟨hq, KF_in B'⟩, x tk'⟩
theorem w_operate {vs : List Value} {m : Sem Value} {Q : Value → Heap → Prop} (x : W c h m Q E) : W c h (operate vs m) Q E := fun tk Γ p hΓ => by
  rw [Sem.wp_operate]
  exact x tk Γ p hΓ
theorem w_with_any {pos : Pos} {f : Value} {first : List Value} {e : Expr} {rest : List Expr} {env : Env} {Q : Value → Heap → Prop}
    (y : W c h (spliced (backTo pos (starEach (e :: rest) env))) (fun vs h₁ => W c h₁ (keeperOf f) (fun _ h₂ => W c h₂ (call f (first ++ vs)) Q E) E) E)
    (he : starEach (e :: rest) env = (false, eval e env) :: starEach rest env := by rfl) (hplain : (backTo pos (starEach rest env)).any (·.1) = false := by rfl) :
    W c h (callWith pos f first (backTo pos (starEach (e :: rest) env)) []) Q E := fun tk => by
  have y' := y tk
  rw [he] at y' ⊢
  unfold callWith
  refine wpAny_bind (wpAny_holding (evalArgs_plain (wpAny_mono y' (fun vs s' ⟨h', tk', e, x⟩ => ?_) fun _ _ y => y)))
  subst e
  refine wpAny_bind (wpAny_standAt ?_)
  have hst : (((false, eval e env) :: backTo pos (starEach rest env)).any (·.1) || ([] : List (Option Str × Sem Value)).any (·.1.isNone)) = false := by
    show ((false || (backTo pos (starEach rest env)).any (·.1)) || false) = false
    rw [hplain]; rfl
  show wpAny _ _ (keeperOf f >>= _) _ _ _
  refine wpAny_bind (wpAny_mono (x tk') (fun k s'' ⟨h'', tk'', e2, z⟩ => ?_) fun _ _ y => y)
  subst e2
  have hst' : (((false, eval e env) :: backTo pos (starEach rest env)).any (·.1) || ([] : List (Option Str × Sem Value)).any (·.1.isNone)) = false := hst
  have tail : ∀ {t : Sem Value}, W c h'' t Q E → wpAny (model c.prog c.w) c.A (t >>= fun r => holding [r] point >>= fun _ => pure r) (fun a s' => ∃ h' tk', s' = c.st h' tk' ∧ Q a h') (fun e s' => ∃ h' tk', s' = c.st h' tk' ∧ E e h') (c.st h'' tk'') :=
    fun ht => wpAny_bind (wpAny_mono (ht tk'') (fun r s₂ hr => wpAny_bind (wpAny_holding (wpAny_point (wpAny_pure hr)))) fun _ _ x => x)
  have marked (mk : Value) : W c h'' (callMarked mk f (first ++ vs) []) Q E := fun tk => by unfold callMarked; exact Calls.wpAny_keep (z tk)
  have hst2 : (List.any ((false, eval e env) :: backTo pos (starEach rest env)) fun x => x.1) = false := by
    show (false || (backTo pos (starEach rest env)).any (·.1)) = false
    rw [hplain]; rfl
  simp only [List.any_nil, Bool.or_false]
  rw [show (List.any (backTo pos ((false, eval e env) :: starEach rest env)) fun x => x.1) = false from hst2]
  cases k <;> dsimp only <;> first | exact tail z | exact tail (w_operate z) | (split <;> first | exact tail z | exact tail (marked _))
abbrev nsT : List Str := ([("self" : Str), "message", "lineno", "name", "filename"] : List Str) ++ ([] : List Str)
abbrev nsB : List Str := ([("self" : Str), "message"] : List Str) ++ ([] : List Str)
/-- TemplateError.__init__ -/
theorem wc_terr_init (B : Base c.w h) (D : c.A.depth < recursionLimit) (hp0 : c.prog = P0) {x : Addr} {v : Value} {t0 : Addr} {R : Value → Heap → Prop} (hx : h.get? x = some { cls := .ref 89, data := .fields #[.ref t0, .none, .none, .none, .bool false, .none] }) (nx : New (H1 c.w.params) x)
   (q : ∀ h' ta, KeepBut x h h' → New h ta → h'.get? x = some { cls := .ref 89, data := .fields #[.ref ta, .none, .none, .none, .bool false, .none] } → h'.get? ta = some { cls := .type "tuple", data := .seq #[v] 0 } → R .none h') : WC c h (.call (.ref 55) ⟨[.ref x, v], []⟩) R E := by
  have X : FnOk nsB (fscope (top.o_59 c.w.params)) := FnOk.of (by kernel_rfl)
  have hne : ¬ ((Value.ref x == Value.ref 89) = true) := fun e => by
    have e1 : x = 89 := by simpa using e
    subst e1
    have := base_at (a := 89) (o := top.o_97 c.w.params) B (by kernel_rfl) (by decide) (by kernel_rfl)
    rw [hx] at this
    have e2 := congrArg Obj.data (Option.some.inj this)
    exact absurd e2 (by intro q; cases q)
  refine wc_fnA "TemplateError.__init__" ["self", "message"] [] 55 54 (top.o_59 c.w.params) (top.o_58 c.w.params) B D (by kernel_rfl) (by kernel_rfl) (by kernel_rfl) (by kernel_rfl) (by kernel_rfl) (by decide) (by kernel_rfl) (by kernel_rfl) (by kernel_rfl) (by kernel_rfl) (by kernel_rfl) ?_
  refine @w_dr_pure _ _ _ _ _ _ ([("self", .ref x), ("message", v)]) 20 B (by kernel_rfl) ?_
  refine ⟨[.ref x, v], rfl, rfl, Keep.rfl' h, B, fun c' h3 L hc' k3 B3 F => ?_⟩
  subst hc'
  have neL : L ≠ x := fun e => absurd (Heap.lt_size hx) (Nat.not_lt.mpr (e ▸ F.above))
  replace hx := k3 _ _ hx
  obtain ⟨oL, es, ep, hL, rL⟩ := F.ns
  refine wa_cons <| wa_expr <| wa_method <| wa_super (self := .ref x) (oc := top.o_58 c.w.params) (of := top.o_59 c.w.params) (y := "self") (oD := top.o_77 c.w.params) (D := 66) (fd := fnO "TemplateError.__init__" (top.o_59 c.w.params) 54) B3 hp0 (by kernel_rfl) (by kernel_rfl) (by kernel_rfl) (base_at B3 (by kernel_rfl) (by decide) (by kernel_rfl)) (by kernel_rfl) (by kernel_rfl) (base_at B3 (by kernel_rfl) (by decide) (by kernel_rfl)) rfl rfl (by kernel_rfl) (cc := 42) (by kernel_rfl) ⟨top.o_46 c.w.params, base_at B3 (by kernel_rfl) (by decide) (by kernel_rfl), rfl⟩ (base_at B3 (by kernel_rfl) (by decide) (by kernel_rfl)) rfl (by kernel_rfl) (w_locX X F.ns (i := 0) rfl rfl ⟨rfl, rfl⟩) ?_
  refine @w_dr_call _ _ _ _ _ _ 0 (Code.call (Value.type "super") { pos := [Value.ref 66, Value.ref x] }) B3 (by kernel_rfl) ?_
  refine WC_tree' ?_
  refine @w_dr_again _ _ _ _ _ _ _ 0 (Code.builtin "type.__call__" { pos := [Value.type "super", Value.ref 66, Value.ref x] }) B3 (by kernel_rfl) (by kernel_rfl) ?_
  refine WC_builtin' (Bi := Builtin.«type.__call__») (entryFor_of_tree (by kernel_rfl)) ?_
  refine @w_dr_call _ _ _ _ _ _ 1 (Code.call (Value.builtin "super.__new__") { pos := [Value.type "super", Value.ref 66, Value.ref x] }) B3 (by kernel_rfl) ?_
  refine WC_tree' ?_
  refine @w_dr_again _ _ _ _ _ _ _ 0 (Code.builtin "super.__new__" { pos := [Value.type "super", Value.ref 66, Value.ref x] }) B3 (by kernel_rfl) (by kernel_rfl) ?_
  refine WC_builtin' (Bi := Builtin.«super.__new__») (entryFor_of_tree (by kernel_rfl)) ?_
  refine @w_dr_alloc _ _ _ _ _ _ 0 ({ cls := Value.type "super", data := Data.fields { toList := [Value.none, Value.none, Value.none] } }) B3 (by kernel_rfl) rfl fun a11 h11 n11 k11 e11 => ?_
  have B11 : Base _ h11 := Base.mono B3 k11
  have nb11 := Base.new B3 n11
  have ne11_x : x ≠ a11 := New.ne n11 hx
  replace hx := k11 _ _ hx
  have ne11_L : L ≠ a11 := New.ne n11 hL
  replace hL := k11 _ _ hL
  refine @w_dr_done _ _ _ _ _ _ _ 0 (Value.ref a11) B11 (by kernel_rfl) ?_
  refine @w_dr_load _ _ _ _ _ _ 0 a11 _ B11 (by kernel_rfl) e11 ?_
  refine @w_dr_load _ _ _ _ _ _ 0 a11 _ B11 (by kernel_rfl) e11 ?_
  refine @w_dr_call _ _ _ _ _ _ 0 (Code.call (Value.builtin "super.__init__") { pos := [Value.ref a11, Value.ref 66, Value.ref x] }) B11 (by kernel_rfl) ?_
  refine WC_tree' ?_
  refine @w_dr_load _ _ _ _ _ _ 0 a11 _ B11 (by kernel_rfl) e11 ?_
  refine @w_dr_again _ _ _ _ _ _ _ 0 (Code.builtin "super.__init__" { pos := [Value.ref a11, Value.ref 66, Value.ref x] }) B11 (by kernel_rfl) (by kernel_rfl) ?_
  refine WC_builtin' (Bi := Builtin.«super.__init__») (entryFor_of_tree (by kernel_rfl)) ?_
  refine @w_dr_load _ _ _ _ _ _ 1 x _ B11 (by kernel_rfl) hx ?_
  refine @w_dr_load _ _ _ _ _ _ 0 x _ B11 (by kernel_rfl) hx ?_
  refine @w_dr_load _ _ _ _ _ _ 1 a11 _ B11 (by kernel_rfl) e11 ?_
  refine @w_dr_upd _ _ _ _ _ _ 0 a11 _ ({ cls := Value.type "super", data := Data.fields { toList := [Value.ref 66, Value.none, Value.none] } }) B11 (by kernel_rfl) e11 (by kernel_rfl) rfl fun h12 kb12 e12 => ?_
  have B12 : Base _ h12 := Base.but B11 kb12 (by assumption)
  replace hx := kb12 _ _ (by first | assumption | (apply Ne.symm; assumption)) hx
  replace hL := kb12 _ _ (by first | assumption | (apply Ne.symm; assumption)) hL
  refine @w_dr_load _ _ _ _ _ _ 0 a11 _ B12 (by kernel_rfl) e12 ?_
  refine @w_dr_upd _ _ _ _ _ _ 0 a11 _ ({ cls := Value.type "super", data := Data.fields { toList := [Value.ref 66, Value.ref x, Value.none] } }) B12 (by kernel_rfl) e12 (by kernel_rfl) rfl fun h13 kb13 e13 => ?_
  have B13 : Base _ h13 := Base.but B12 kb13 (by assumption)
  replace hx := kb13 _ _ (by first | assumption | (apply Ne.symm; assumption)) hx
  replace hL := kb13 _ _ (by first | assumption | (apply Ne.symm; assumption)) hL
  refine @w_dr_load _ _ _ _ _ _ 0 a11 _ B13 (by kernel_rfl) e13 ?_
  refine @w_dr_upd _ _ _ _ _ _ 0 a11 _ ({ cls := Value.type "super", data := Data.fields { toList := [Value.ref 66, Value.ref x, Value.ref 89] } }) B13 (by kernel_rfl) e13 (by kernel_rfl) rfl fun h14 kb14 e14 => ?_
  have B14 : Base _ h14 := Base.but B13 kb14 (by assumption)
  replace hx := kb14 _ _ (by first | assumption | (apply Ne.symm; assumption)) hx
  replace hL := kb14 _ _ (by first | assumption | (apply Ne.symm; assumption)) hL
  refine @w_dr_done _ _ _ _ _ _ _ 0 (Value.none) B14 (by kernel_rfl) ?_
  refine @w_dr_done _ _ _ _ _ _ _ 0 (Value.ref a11) B14 (by kernel_rfl) ?_
  refine @w_dr_pure _ _ _ _ _ _ (Value.ref a11) 0 B14 (by kernel_rfl) ?_
  refine @w_dr_load _ _ _ _ _ _ 0 a11 _ B14 (by kernel_rfl) e14 ?_
  refine @w_dr_fresh _ _ _ _ _ _ 0 B14 (by kernel_rfl) fun tk15 => ?_
  refine @w_dr_load _ _ _ _ _ _ 0 a11 _ B14 (by kernel_rfl) e14 ?_
  refine @w_dr_call _ _ _ _ _ _ 0 (Code.call (Value.builtin "super.__getattribute__") { pos := [Value.ref a11, Value.str (Str.ofString "__init__") tk15] }) B14 (by kernel_rfl) ?_
  refine WC_tree' ?_
  refine @w_dr_load _ _ _ _ _ _ 0 a11 _ B14 (by kernel_rfl) e14 ?_
  refine @w_dr_again _ _ _ _ _ _ _ 0 (Code.builtin "super.__getattribute__" { pos := [Value.ref a11, Value.str (Str.ofString "__init__") tk15] }) B14 (by kernel_rfl) (by kernel_rfl) ?_
  refine WC_builtin' (Bi := Builtin.«super.__getattribute__») (entryFor_of_tree (by kernel_rfl)) ?_
  refine @w_dr_load _ _ _ _ _ _ 0 a11 _ B14 (by kernel_rfl) e14 ?_
  refine @w_dr_load _ _ _ _ _ _ 0 a11 _ B14 (by kernel_rfl) e14 ?_
  refine @w_dr_load _ _ _ _ _ _ 0 a11 _ B14 (by kernel_rfl) e14 ?_
  refine @w_dr_call _ _ _ _ _ _ 2 (Code.call (Value.builtin "wrapper_descriptor.__get__") { pos := [Value.builtin "Exception.__init__", if (Value.ref x == Value.ref 89) = true then Value.none else Value.ref x, Value.ref 89] }) B14 (by kernel_rfl) ?_
  rw [if_neg hne]
  refine WC_tree' ?_
  refine @w_dr_again _ _ _ _ _ _ _ 0 (Code.builtin "wrapper_descriptor.__get__" { pos := [Value.builtin "Exception.__init__", Value.ref x, Value.ref 89] }) B14 (by kernel_rfl) (by kernel_rfl) ?_
  refine WC_builtin' (Bi := Builtin.«wrapper_descriptor.__get__») (entryFor_of_tree (by kernel_rfl)) ?_
  refine @w_dr_load _ _ _ _ _ _ 0 x _ B14 (by kernel_rfl) hx ?_
  refine @w_dr_alloc _ _ _ _ _ _ 1 ({ cls := Value.type "method-wrapper", data := Data.fields { toList := [Value.builtin "Exception.__init__", Value.ref x] } }) B14 (by kernel_rfl) rfl fun a21 h21 n21 k21 e21 => ?_
  have B21 : Base _ h21 := Base.mono B14 k21
  have nb21 := Base.new B14 n21
  have ne21_a11 : a11 ≠ a21 := New.ne n21 e14
  replace e14 := k21 _ _ e14
  have ne21_x : x ≠ a21 := New.ne n21 hx
  replace hx := k21 _ _ hx
  have ne21_L : L ≠ a21 := New.ne n21 hL
  replace hL := k21 _ _ hL
  refine @w_dr_done _ _ _ _ _ _ _ 0 (Value.ref a21) B21 (by kernel_rfl) ?_
  refine @w_dr_done _ _ _ _ _ _ _ 0 (Value.ref a21) B21 (by kernel_rfl) ?_
  refine @w_dr_pure _ _ _ _ _ _ ((Value.ref a21, [])) 0 B21 (by kernel_rfl) ?_
  have N21 : h21.Ns L _ := ⟨oL, es, ep, hL, rL⟩
  refine w_with_any <| w_args <| w_nameX <| w_locX X N21 (i := 1) rfl rfl <| w_args_nil ?_
  refine @w_dr_load _ _ _ _ _ _ 0 a21 _ B21 (by kernel_rfl) e21 ?_
  refine @w_dr_pure _ _ _ _ _ _ (Keeper.machine) 0 B21 (by kernel_rfl) ?_
  refine @w_dr_call _ _ _ _ _ _ 0 (Code.call (Value.ref a21) { pos := [v] }) B21 (by kernel_rfl) ?_
  refine WC_tree' ?_
  refine @w_dr_load _ _ _ _ _ _ 0 a21 _ B21 (by kernel_rfl) e21 ?_
  refine @w_dr_load _ _ _ _ _ _ 0 x _ B21 (by kernel_rfl) hx ?_
  refine @w_dr_again _ _ _ _ _ _ _ 1 (Code.builtin "Exception.__init__" { pos := [Value.ref x, v] }) B21 (by kernel_rfl) (by kernel_rfl) ?_
  refine WC_builtin' entry_exc_init ?_
  refine @w_dr_alloc _ _ _ _ _ _ 0 ({ cls := Value.type "tuple", data := Data.seq { toList := [v] } 0 }) B21 (by kernel_rfl) rfl fun a31 h31 n31 k31 e31 => ?_
  have B31 : Base _ h31 := Base.mono B21 k31
  have nb31 := Base.new B21 n31
  have ne31_a21 : a21 ≠ a31 := New.ne n31 e21
  replace e21 := k31 _ _ e21
  have ne31_a11 : a11 ≠ a31 := New.ne n31 e14
  replace e14 := k31 _ _ e14
  have ne31_x : x ≠ a31 := New.ne n31 hx
  replace hx := k31 _ _ hx
  have ne31_L : L ≠ a31 := New.ne n31 hL
  replace hL := k31 _ _ hL
  refine @w_dr_load _ _ _ _ _ _ 0 x _ B31 (by kernel_rfl) hx ?_
  refine @w_dr_load _ _ _ _ _ _ 0 x _ B31 (by kernel_rfl) hx ?_
  refine @w_dr_upd _ _ _ _ _ _ 0 x _ ({ cls := Value.ref 89, data := Data.fields { toList := [Value.ref a31, Value.none, Value.none, Value.none, Value.bool false, Value.none] } }) B31 (by kernel_rfl) hx (by kernel_rfl) rfl fun h32 kb32 e32 => ?_
  have B32 : Base _ h32 := Base.but B31 kb32 (by assumption)
  replace e31 := kb32 _ _ (by first | assumption | (apply Ne.symm; assumption)) e31
  replace e21 := kb32 _ _ (by first | assumption | (apply Ne.symm; assumption)) e21
  replace e14 := kb32 _ _ (by first | assumption | (apply Ne.symm; assumption)) e14
  replace hL := kb32 _ _ (by first | assumption | (apply Ne.symm; assumption)) hL
  refine @w_dr_done _ _ _ _ _ _ _ 0 (Value.none) B32 (by kernel_rfl) ?_
  refine @w_dr_pure _ _ _ _ _ _ (Value.none) 0 B32 (by kernel_rfl) ?_
  have K14 : Keep h3 h14 := Keep.butN (Keep.butN (Keep.butN k11 kb12 n11) kb13 n11) kb14 n11
  have K31 : Keep h h31 := Keep.trans (Keep.trans (Keep.trans k3 K14) k21) k31
  exact WA.ofW (w_nil (q _ _ (fun b o ne e => kb32 b o ne (K31 b o e)) (New.back n31 (Keep.trans (Keep.trans k3 K14) k21)) e32 e31))
end
end Mine
end
section
open PySem PySem.W PySem.Calls PyProof.Rows
set_option maxRecDepth 100000
set_option linter.all false
set_option maxHeartbeats 4000000
namespace Mine
section
variable {c : Cx} {h : Heap} {E : Value → Heap → Prop}
theorem ne89 (B : Base c.w h) {x : Addr} {ox : Obj} (hx : h.get? x = some ox) (hno : notCls ox = true) : ¬ ((Value.ref x == Value.ref 89) = true) := fun e => by
  have e1 : x = 89 := by simpa using e
  subst e1
  have := base_at (a := 89) (o := top.o_97 c.w.params) B (by kernel_rfl) (by decide) (by kernel_rfl)
  rw [hx] at this
  cases Option.some.inj this
  exact absurd hno (by show ¬ (false = true); exact Bool.false_ne_true)
theorem w_set89_name {x dx t1 : Addr} {i0 : Int} {u0 : Tok} {v0 v : Value} {Q : Unit → Heap → Prop} (B : Base c.w h) (hx : h.get? x = some { cls := .ref 89, dict := some dx, data := .fields #[.ref t1, .none, .none, .none, .bool false, .none] })
    (hd : ∃ n, h.get? dx = some (dictOf [⟨i0, .str "lineno" u0, v0⟩] n)) (nd : New (H1 c.w.params) dx) (q : ∀ h' i u, KeepBut dx h h' → (∃ n, h'.get? dx = some (dictOf [⟨i0, .str "lineno" u0, v0⟩, ⟨i, .str "name" u, v⟩] n)) → Q () h') : W c h (setAttr (.ref x) "name" v) Q E := by
  obtain ⟨n, hd⟩ := hd
  refine @w_dr_fresh _ _ _ _ _ _ 0 B (by kernel_rfl) fun tk61 => ?_
  refine @w_dr_load _ _ _ _ _ _ 0 x _ B (by kernel_rfl) hx ?_
  refine @w_dr_call _ _ _ _ _ _ 5 (Code.call (Value.builtin "object.__setattr__") { pos := [Value.ref x, Value.str (Str.ofString "name") tk61, v] }) B (by kernel_rfl) ?_
  refine WC_tree' ?_
  refine @w_dr_load _ _ _ _ _ _ 0 x _ B (by kernel_rfl) hx ?_
  refine @w_dr_again _ _ _ _ _ _ _ 1 (Code.builtin "object.__setattr__" { pos := [Value.ref x, Value.str (Str.ofString "name") tk61, v] }) B (by kernel_rfl) (by kernel_rfl) ?_
  refine WC_builtin' (Bi := Builtin.«object.__setattr__») (entryFor_of_tree (by kernel_rfl)) ?_
  refine @w_dr_load _ _ _ _ _ _ 0 x _ B (by kernel_rfl) hx ?_
  refine @w_dr_load _ _ _ _ _ _ 1 x _ B (by kernel_rfl) hx ?_
  refine @w_dr_load _ _ _ _ _ _ 5 x _ B (by kernel_rfl) hx ?_
  refine @w_dr_fresh _ _ _ _ _ _ 1 B (by kernel_rfl) fun tk62 => ?_
  refine @w_dr_load _ _ _ _ _ _ 0 dx _ B (by kernel_rfl) hd ?_
  refine @w_dr_upd _ _ _ _ _ _ 0 dx _ (Obj.putName "name" (PyData.keyHash c.w.params "name") (.str "name" tk62) v (dictOf [⟨i0, .str "lineno" u0, v0⟩] n)) B (by kernel_rfl) hd (by kernel_rfl) rfl fun h63 kb63 e63 => ?_
  have B63 : Base _ h63 := Base.but B kb63 nd
  refine @w_dr_load _ _ _ _ _ _ 0 dx _ B63 (by kernel_rfl) e63 ?_
  refine @w_dr_done _ _ _ _ _ _ _ 0 (Value.none) B63 (by kernel_rfl) ?_
  refine @w_dr_pure _ _ _ _ _ _ (PUnit.unit) 0 B63 (by kernel_rfl) ?_
  rw [putName_dict] at e63
  exact q _ _ _ kb63 ⟨_, e63⟩
theorem w_set89_filename {x dx t1 : Addr} {i0 i1 : Int} {u0 u1 : Tok} {v0 v1 v : Value} {Q : Unit → Heap → Prop} (B : Base c.w h) (hx : h.get? x = some { cls := .ref 89, dict := some dx, data := .fields #[.ref t1, .none, .none, .none, .bool false, .none] })
    (hd : ∃ n, h.get? dx = some (dictOf [⟨i0, .str "lineno" u0, v0⟩, ⟨i1, .str "name" u1, v1⟩] n)) (nd : New (H1 c.w.params) dx) (q : ∀ h' i u, KeepBut dx h h' → (∃ n, h'.get? dx = some (dictOf [⟨i0, .str "lineno" u0, v0⟩, ⟨i1, .str "name" u1, v1⟩, ⟨i, .str "filename" u, v⟩] n)) → Q () h') : W c h (setAttr (.ref x) "filename" v) Q E := by
  obtain ⟨n, hd⟩ := hd
  refine @w_dr_fresh _ _ _ _ _ _ 0 B (by kernel_rfl) fun tk61 => ?_
  refine @w_dr_load _ _ _ _ _ _ 0 x _ B (by kernel_rfl) hx ?_
  refine @w_dr_call _ _ _ _ _ _ 5 (Code.call (Value.builtin "object.__setattr__") { pos := [Value.ref x, Value.str (Str.ofString "filename") tk61, v] }) B (by kernel_rfl) ?_
  refine WC_tree' ?_
  refine @w_dr_load _ _ _ _ _ _ 0 x _ B (by kernel_rfl) hx ?_
  refine @w_dr_again _ _ _ _ _ _ _ 1 (Code.builtin "object.__setattr__" { pos := [Value.ref x, Value.str (Str.ofString "filename") tk61, v] }) B (by kernel_rfl) (by kernel_rfl) ?_
  refine WC_builtin' (Bi := Builtin.«object.__setattr__») (entryFor_of_tree (by kernel_rfl)) ?_
  refine @w_dr_load _ _ _ _ _ _ 0 x _ B (by kernel_rfl) hx ?_
  refine @w_dr_load _ _ _ _ _ _ 1 x _ B (by kernel_rfl) hx ?_
  refine @w_dr_load _ _ _ _ _ _ 5 x _ B (by kernel_rfl) hx ?_
  refine @w_dr_fresh _ _ _ _ _ _ 1 B (by kernel_rfl) fun tk62 => ?_
  refine @w_dr_load _ _ _ _ _ _ 0 dx _ B (by kernel_rfl) hd ?_
  refine @w_dr_upd _ _ _ _ _ _ 0 dx _ (Obj.putName "filename" (PyData.keyHash c.w.params "filename") (.str "filename" tk62) v (dictOf [⟨i0, .str "lineno" u0, v0⟩, ⟨i1, .str "name" u1, v1⟩] n)) B (by kernel_rfl) hd (by kernel_rfl) rfl fun h63 kb63 e63 => ?_
  have B63 : Base _ h63 := Base.but B kb63 nd
  refine @w_dr_load _ _ _ _ _ _ 0 dx _ B63 (by kernel_rfl) e63 ?_
  refine @w_dr_done _ _ _ _ _ _ _ 0 (Value.none) B63 (by kernel_rfl) ?_
  refine @w_dr_pure _ _ _ _ _ _ (PUnit.unit) 0 B63 (by kernel_rfl) ?_
  rw [putName_dict] at e63
  exact q _ _ _ kb63 ⟨_, e63⟩
theorem w_set89_source {x dx t1 : Addr} {i0 i1 i2 : Int} {u0 u1 u2 : Tok} {v0 v1 v2 v : Value} {Q : Unit → Heap → Prop} (B : Base c.w h) (hx : h.get? x = some { cls := .ref 89, dict := some dx, data := .fields #[.ref t1, .none, .none, .none, .bool false, .none] })
    (hd : ∃ n, h.get? dx = some (dictOf [⟨i0, .str "lineno" u0, v0⟩, ⟨i1, .str "name" u1, v1⟩, ⟨i2, .str "filename" u2, v2⟩] n)) (nd : New (H1 c.w.params) dx) (q : ∀ h' i u, KeepBut dx h h' → (∃ n, h'.get? dx = some (dictOf [⟨i0, .str "lineno" u0, v0⟩, ⟨i1, .str "name" u1, v1⟩, ⟨i2, .str "filename" u2, v2⟩, ⟨i, .str "source" u, v⟩] n)) → Q () h') : W c h (setAttr (.ref x) "source" v) Q E := by
  obtain ⟨n, hd⟩ := hd
  refine @w_dr_fresh _ _ _ _ _ _ 0 B (by kernel_rfl) fun tk61 => ?_
  refine @w_dr_load _ _ _ _ _ _ 0 x _ B (by kernel_rfl) hx ?_
  refine @w_dr_call _ _ _ _ _ _ 5 (Code.call (Value.builtin "object.__setattr__") { pos := [Value.ref x, Value.str (Str.ofString "source") tk61, v] }) B (by kernel_rfl) ?_
  refine WC_tree' ?_
  refine @w_dr_load _ _ _ _ _ _ 0 x _ B (by kernel_rfl) hx ?_
  refine @w_dr_again _ _ _ _ _ _ _ 1 (Code.builtin "object.__setattr__" { pos := [Value.ref x, Value.str (Str.ofString "source") tk61, v] }) B (by kernel_rfl) (by kernel_rfl) ?_
  refine WC_builtin' (Bi := Builtin.«object.__setattr__») (entryFor_of_tree (by kernel_rfl)) ?_
  refine @w_dr_load _ _ _ _ _ _ 0 x _ B (by kernel_rfl) hx ?_
  refine @w_dr_load _ _ _ _ _ _ 1 x _ B (by kernel_rfl) hx ?_
  refine @w_dr_load _ _ _ _ _ _ 5 x _ B (by kernel_rfl) hx ?_
  refine @w_dr_fresh _ _ _ _ _ _ 1 B (by kernel_rfl) fun tk62 => ?_
  refine @w_dr_load _ _ _ _ _ _ 0 dx _ B (by kernel_rfl) hd ?_
  refine @w_dr_upd _ _ _ _ _ _ 0 dx _ (Obj.putName "source" (PyData.keyHash c.w.params "source") (.str "source" tk62) v (dictOf [⟨i0, .str "lineno" u0, v0⟩, ⟨i1, .str "name" u1, v1⟩, ⟨i2, .str "filename" u2, v2⟩] n)) B (by kernel_rfl) hd (by kernel_rfl) rfl fun h63 kb63 e63 => ?_
  have B63 : Base _ h63 := Base.but B kb63 nd
  refine @w_dr_load _ _ _ _ _ _ 0 dx _ B63 (by kernel_rfl) e63 ?_
  refine @w_dr_done _ _ _ _ _ _ _ 0 (Value.none) B63 (by kernel_rfl) ?_
  refine @w_dr_pure _ _ _ _ _ _ (PUnit.unit) 0 B63 (by kernel_rfl) ?_
  rw [putName_dict] at e63
  exact q _ _ _ kb63 ⟨_, e63⟩
theorem w_set89_translated {x dx t1 : Addr} {i0 i1 i2 i3 : Int} {u0 u1 u2 u3 : Tok} {v0 v1 v2 v3 v : Value} {Q : Unit → Heap → Prop} (B : Base c.w h) (hx : h.get? x = some { cls := .ref 89, dict := some dx, data := .fields #[.ref t1, .none, .none, .none, .bool false, .none] })
    (hd : ∃ n, h.get? dx = some (dictOf [⟨i0, .str "lineno" u0, v0⟩, ⟨i1, .str "name" u1, v1⟩, ⟨i2, .str "filename" u2, v2⟩, ⟨i3, .str "source" u3, v3⟩] n)) (nd : New (H1 c.w.params) dx) (q : ∀ h' i u, KeepBut dx h h' → (∃ n, h'.get? dx = some (dictOf [⟨i0, .str "lineno" u0, v0⟩, ⟨i1, .str "name" u1, v1⟩, ⟨i2, .str "filename" u2, v2⟩, ⟨i3, .str "source" u3, v3⟩, ⟨i, .str "translated" u, v⟩] n)) → Q () h') : W c h (setAttr (.ref x) "translated" v) Q E := by
  obtain ⟨n, hd⟩ := hd
  refine @w_dr_fresh _ _ _ _ _ _ 0 B (by kernel_rfl) fun tk61 => ?_
  refine @w_dr_load _ _ _ _ _ _ 0 x _ B (by kernel_rfl) hx ?_
  refine @w_dr_call _ _ _ _ _ _ 5 (Code.call (Value.builtin "object.__setattr__") { pos := [Value.ref x, Value.str (Str.ofString "translated") tk61, v] }) B (by kernel_rfl) ?_
  refine WC_tree' ?_
  refine @w_dr_load _ _ _ _ _ _ 0 x _ B (by kernel_rfl) hx ?_
  refine @w_dr_again _ _ _ _ _ _ _ 1 (Code.builtin "object.__setattr__" { pos := [Value.ref x, Value.str (Str.ofString "translated") tk61, v] }) B (by kernel_rfl) (by kernel_rfl) ?_
  refine WC_builtin' (Bi := Builtin.«object.__setattr__») (entryFor_of_tree (by kernel_rfl)) ?_
  refine @w_dr_load _ _ _ _ _ _ 0 x _ B (by kernel_rfl) hx ?_
  refine @w_dr_load _ _ _ _ _ _ 1 x _ B (by kernel_rfl) hx ?_
  refine @w_dr_load _ _ _ _ _ _ 5 x _ B (by kernel_rfl) hx ?_
  refine @w_dr_fresh _ _ _ _ _ _ 1 B (by kernel_rfl) fun tk62 => ?_
  refine @w_dr_load _ _ _ _ _ _ 0 dx _ B (by kernel_rfl) hd ?_
  refine @w_dr_upd _ _ _ _ _ _ 0 dx _ (Obj.putName "translated" (PyData.keyHash c.w.params "translated") (.str "translated" tk62) v (dictOf [⟨i0, .str "lineno" u0, v0⟩, ⟨i1, .str "name" u1, v1⟩, ⟨i2, .str "filename" u2, v2⟩, ⟨i3, .str "source" u3, v3⟩] n)) B (by kernel_rfl) hd (by kernel_rfl) rfl fun h63 kb63 e63 => ?_
  have B63 : Base _ h63 := Base.but B kb63 nd
  refine @w_dr_load _ _ _ _ _ _ 0 dx _ B63 (by kernel_rfl) e63 ?_
  refine @w_dr_done _ _ _ _ _ _ _ 0 (Value.none) B63 (by kernel_rfl) ?_
  refine @w_dr_pure _ _ _ _ _ _ (PUnit.unit) 0 B63 (by kernel_rfl) ?_
  rw [putName_dict] at e63
  exact q _ _ _ kb63 ⟨_, e63⟩
/-- TemplateSyntaxError.__init__, its first statement -/
theorem wc_tse_init (B : Base c.w h) (D : c.A.depth + 1 < recursionLimit) (hp0 : c.prog = P0) {x t0 : Addr} {v l : Value} {R : Value → Heap → Prop} (hx : h.get? x = some { cls := .ref 89, data := .fields #[.ref t0, .none, .none, .none, .bool false, .none] }) (nx : New (H1 c.w.params) x)
   (q : ∀ h' dx t1, KeepBut x h h' → h'.get? x = some { cls := .ref 89, dict := some dx, data := .fields #[.ref t1, .none, .none, .none, .bool false, .none] } → h'.get? t1 = some { cls := .type "tuple", data := .seq #[v] 0 } →
     (∃ o, h'.get? dx = some o ∧ EntsO [("lineno", l), ("name", .none), ("filename", .none), ("source", .none), ("translated", .bool false)] o) → New h dx → dx ≠ x → New h t1 → R .none h') : WC c h (.call (.ref 86) ⟨[.ref x, v, l, .none, .none], []⟩) R E := by
  have X : FnOk nsT (fscope (top.o_94 c.w.params)) := FnOk.of (by kernel_rfl)
  have hne := ne89 B hx rfl
  refine wc_fnA "TemplateSyntaxError.__init__" ["self", "message", "lineno", "name", "filename"] [] 86 85 (top.o_94 c.w.params) (top.o_93 c.w.params) B (by omega) (by kernel_rfl) (by kernel_rfl) (by kernel_rfl) (by kernel_rfl) (by kernel_rfl) (by decide) (by kernel_rfl) (by kernel_rfl) (by kernel_rfl) (by kernel_rfl) (by kernel_rfl) ?_
  refine @w_dr_pure _ _ _ _ _ _ ([("self", .ref x), ("message", v), ("lineno", l), ("name", .none), ("filename", .none)]) 20 B (by kernel_rfl) ?_
  refine ⟨[.ref x, v, l, .none, .none], rfl, rfl, Keep.rfl' h, B, fun c' h3 L hc' k3 B3 F => ?_⟩
  subst hc'
  have neL : L ≠ x := fun e => absurd (Heap.lt_size hx) (Nat.not_lt.mpr (e ▸ F.above))
  replace hx := k3 _ _ hx
  obtain ⟨oL, es, ep, hL, rL⟩ := F.ns
  refine wa_cons <| wa_expr <| wa_method <| wa_super (self := .ref x) (oc := top.o_93 c.w.params) (of := top.o_94 c.w.params) (y := "self") (oD := top.o_97 c.w.params) (D := 89) (fd := fnO "TemplateSyntaxError.__init__" (top.o_94 c.w.params) 85) B3 hp0 (by kernel_rfl) (by kernel_rfl) (by kernel_rfl) (base_at B3 (by kernel_rfl) (by decide) (by kernel_rfl)) (by kernel_rfl) (by kernel_rfl) (base_at B3 (by kernel_rfl) (by decide) (by kernel_rfl)) rfl rfl (by kernel_rfl) (cc := 73) (by kernel_rfl) ⟨top.o_81 c.w.params, base_at B3 (by kernel_rfl) (by decide) (by kernel_rfl), rfl⟩ (base_at B3 (by kernel_rfl) (by decide) (by kernel_rfl)) rfl (by kernel_rfl) (w_locX X F.ns (i := 0) rfl rfl ⟨rfl, rfl⟩) ?_
  refine @w_dr_call _ _ _ _ _ _ 0 (Code.call (Value.type "super") { pos := [Value.ref 89, Value.ref x] }) B3 (by kernel_rfl) ?_
  refine WC_tree' ?_
  refine @w_dr_again _ _ _ _ _ _ _ 0 (Code.builtin "type.__call__" { pos := [Value.type "super", Value.ref 89, Value.ref x] }) B3 (by kernel_rfl) (by kernel_rfl) ?_
  refine WC_builtin' (Bi := Builtin.«type.__call__») (entryFor_of_tree (by kernel_rfl)) ?_
  refine @w_dr_call _ _ _ _ _ _ 1 (Code.call (Value.builtin "super.__new__") { pos := [Value.type "super", Value.ref 89, Value.ref x] }) B3 (by kernel_rfl) ?_
  refine WC_tree' ?_
  refine @w_dr_again _ _ _ _ _ _ _ 0 (Code.builtin "super.__new__" { pos := [Value.type "super", Value.ref 89, Value.ref x] }) B3 (by kernel_rfl) (by kernel_rfl) ?_
  refine WC_builtin' (Bi := Builtin.«super.__new__») (entryFor_of_tree (by kernel_rfl)) ?_
  refine @w_dr_alloc _ _ _ _ _ _ 0 ({ cls := Value.type "super", data := Data.fields { toList := [Value.none, Value.none, Value.none] } }) B3 (by kernel_rfl) rfl fun a11 h11 n11 k11 e11 => ?_
  have B11 : Base _ h11 := Base.mono B3 k11
  have nb11 := Base.new B3 n11
  have ne11_x : x ≠ a11 := New.ne n11 hx
  replace hx := k11 _ _ hx
  have ne11_L : L ≠ a11 := New.ne n11 hL
  replace hL := k11 _ _ hL
  refine @w_dr_done _ _ _ _ _ _ _ 0 (Value.ref a11) B11 (by kernel_rfl) ?_
  refine @w_dr_load _ _ _ _ _ _ 0 a11 _ B11 (by kernel_rfl) e11 ?_
  refine @w_dr_load _ _ _ _ _ _ 0 a11 _ B11 (by kernel_rfl) e11 ?_
  refine @w_dr_call _ _ _ _ _ _ 0 (Code.call (Value.builtin "super.__init__") { pos := [Value.ref a11, Value.ref 89, Value.ref x] }) B11 (by kernel_rfl) ?_
  refine WC_tree' ?_
  refine @w_dr_load _ _ _ _ _ _ 0 a11 _ B11 (by kernel_rfl) e11 ?_
  refine @w_dr_again _ _ _ _ _ _ _ 0 (Code.builtin "super.__init__" { pos := [Value.ref a11, Value.ref 89, Value.ref x] }) B11 (by kernel_rfl) (by kernel_rfl) ?_
  refine WC_builtin' (Bi := Builtin.«super.__init__») (entryFor_of_tree (by kernel_rfl)) ?_
  refine @w_dr_load _ _ _ _ _ _ 1 x _ B11 (by kernel_rfl) hx ?_
  refine @w_dr_load _ _ _ _ _ _ 0 x _ B11 (by kernel_rfl) hx ?_
  refine @w_dr_load _ _ _ _ _ _ 1 a11 _ B11 (by kernel_rfl) e11 ?_
  refine @w_dr_upd _ _ _ _ _ _ 0 a11 _ ({ cls := Value.type "super", data := Data.fields { toList := [Value.ref 89, Value.none, Value.none] } }) B11 (by kernel_rfl) e11 (by kernel_rfl) rfl fun h12 kb12 e12 => ?_
  have B12 : Base _ h12 := Base.but B11 kb12 (by assumption)
  replace hx := kb12 _ _ (by first | assumption | (apply Ne.symm; assumption)) hx
  replace hL := kb12 _ _ (by first | assumption | (apply Ne.symm; assumption)) hL
  refine @w_dr_load _ _ _ _ _ _ 0 a11 _ B12 (by kernel_rfl) e12 ?_
  refine @w_dr_upd _ _ _ _ _ _ 0 a11 _ ({ cls := Value.type "super", data := Data.fields { toList := [Value.ref 89, Value.ref x, Value.none] } }) B12 (by kernel_rfl) e12 (by kernel_rfl) rfl fun h13 kb13 e13 => ?_
  have B13 : Base _ h13 := Base.but B12 kb13 (by assumption)
  replace hx := kb13 _ _ (by first | assumption | (apply Ne.symm; assumption)) hx
  replace hL := kb13 _ _ (by first | assumption | (apply Ne.symm; assumption)) hL
  refine @w_dr_load _ _ _ _ _ _ 0 a11 _ B13 (by kernel_rfl) e13 ?_
  refine @w_dr_upd _ _ _ _ _ _ 0 a11 _ ({ cls := Value.type "super", data := Data.fields { toList := [Value.ref 89, Value.ref x, Value.ref 89] } }) B13 (by kernel_rfl) e13 (by kernel_rfl) rfl fun h14 kb14 e14 => ?_
  have B14 : Base _ h14 := Base.but B13 kb14 (by assumption)
  replace hx := kb14 _ _ (by first | assumption | (apply Ne.symm; assumption)) hx
  replace hL := kb14 _ _ (by first | assumption | (apply Ne.symm; assumption)) hL
  refine @w_dr_done _ _ _ _ _ _ _ 0 (Value.none) B14 (by kernel_rfl) ?_
  refine @w_dr_done _ _ _ _ _ _ _ 0 (Value.ref a11) B14 (by kernel_rfl) ?_
  refine @w_dr_pure _ _ _ _ _ _ (Value.ref a11) 0 B14 (by kernel_rfl) ?_
  refine @w_dr_load _ _ _ _ _ _ 0 a11 _ B14 (by kernel_rfl) e14 ?_
  refine @w_dr_fresh _ _ _ _ _ _ 0 B14 (by kernel_rfl) fun tk15 => ?_
  refine @w_dr_load _ _ _ _ _ _ 0 a11 _ B14 (by kernel_rfl) e14 ?_
  refine @w_dr_call _ _ _ _ _ _ 0 (Code.call (Value.builtin "super.__getattribute__") { pos := [Value.ref a11, Value.str (Str.ofString "__init__") tk15] }) B14 (by kernel_rfl) ?_
  refine WC_tree' ?_
  refine @w_dr_load _ _ _ _ _ _ 0 a11 _ B14 (by kernel_rfl) e14 ?_
  refine @w_dr_again _ _ _ _ _ _ _ 0 (Code.builtin "super.__getattribute__" { pos := [Value.ref a11, Value.str (Str.ofString "__init__") tk15] }) B14 (by kernel_rfl) (by kernel_rfl) ?_
  refine WC_builtin' (Bi := Builtin.«super.__getattribute__») (entryFor_of_tree (by kernel_rfl)) ?_
  refine @w_dr_load _ _ _ _ _ _ 0 a11 _ B14 (by kernel_rfl) e14 ?_
  refine @w_dr_load _ _ _ _ _ _ 0 a11 _ B14 (by kernel_rfl) e14 ?_
  refine @w_dr_load _ _ _ _ _ _ 0 a11 _ B14 (by kernel_rfl) e14 ?_
  refine @w_dr_call _ _ _ _ _ _ 5 (Code.call (Value.builtin "function.__get__") { pos := [Value.ref 55, if (Value.ref x == Value.ref 89) = true then Value.none else Value.ref x, Value.ref 89] }) B14 (by kernel_rfl) ?_
  rw [if_neg hne]
  refine WC_tree' ?_
  refine @w_dr_again _ _ _ _ _ _ _ 1 (Code.builtin "function.__get__" { pos := [Value.ref 55, Value.ref x, Value.ref 89] }) B14 (by kernel_rfl) (by kernel_rfl) ?_
  refine WC_builtin' (Bi := Builtin.«function.__get__») (entryFor_of_tree (by kernel_rfl)) ?_
  refine @w_dr_alloc _ _ _ _ _ _ 0 ({ cls := Value.type "method", data := Data.fields { toList := [Value.ref 55, Value.ref x] } }) B14 (by kernel_rfl) rfl fun a21 h21 n21 k21 e21 => ?_
  have B21 : Base _ h21 := Base.mono B14 k21
  have nb21 := Base.new B14 n21
  have ne21_a11 : a11 ≠ a21 := New.ne n21 e14
  replace e14 := k21 _ _ e14
  have ne21_x : x ≠ a21 := New.ne n21 hx
  replace hx := k21 _ _ hx
  have ne21_L : L ≠ a21 := New.ne n21 hL
  replace hL := k21 _ _ hL
  refine @w_dr_done _ _ _ _ _ _ _ 0 (Value.ref a21) B21 (by kernel_rfl) ?_
  refine @w_dr_done _ _ _ _ _ _ _ 0 (Value.ref a21) B21 (by kernel_rfl) ?_
  refine @w_dr_pure _ _ _ _ _ _ ((Value.ref a21, [])) 0 B21 (by kernel_rfl) ?_
  have N21 : h21.Ns L _ := ⟨oL, es, ep, hL, rL⟩
  refine w_with_any <| w_args <| w_nameX <| w_locX X N21 (i := 1) rfl rfl <| w_args_nil ?_
  refine @w_dr_load _ _ _ _ _ _ 0 a21 _ B21 (by kernel_rfl) e21 ?_
  refine @w_dr_pure _ _ _ _ _ _ (Keeper.boundFrame) 1 B21 (by kernel_rfl) ?_
  refine @w_dr_call _ _ _ _ _ _ 0 (Code.call (Value.ref a21) { pos := [v] }) B21 (by kernel_rfl) ?_
  refine WC_tree' ?_
  refine @w_dr_load _ _ _ _ _ _ 0 a21 _ B21 (by kernel_rfl) e21 ?_
  refine @w_dr_again _ _ _ _ _ _ _ 0 (Code.call (Value.ref 55) { pos := [Value.ref x, v] }) B21 (by kernel_rfl) (by kernel_rfl) ?_
  refine wc_terr_init B21 (by show c.A.depth + 1 < _; omega) hp0 hx nx fun h41 t1 kb41 nt hx4 et => ?_
  have net : x ≠ t1 := New.ne nt hx
  replace hx := hx4
  have B41 : Base _ h41 := Base.but B21 kb41 nx
  replace hL := kb41 _ _ neL hL
  refine @w_dr_pure _ _ _ _ _ _ (Value.none) 0 B41 (by kernel_rfl) ?_
  have N41 : h41.Ns L _ := ⟨oL, es, ep, hL, rL⟩
  refine wa_cons <| WA.ofW <| w_assign_attr <| w_nameX <| w_locX X N41 (i := 2) rfl rfl <| w_nameX <| w_locX X N41 (i := 0) rfl rfl ?_
  refine @w_dr_fresh _ _ _ _ _ _ 0 B41 (by kernel_rfl) fun tk51 => ?_
  refine @w_dr_load _ _ _ _ _ _ 0 x _ B41 (by kernel_rfl) hx ?_
  refine @w_dr_call _ _ _ _ _ _ 5 (Code.call (Value.builtin "object.__setattr__") { pos := [Value.ref x, Value.str (Str.ofString "lineno") tk51, l] }) B41 (by kernel_rfl) ?_
  refine WC_tree' ?_
  refine @w_dr_load _ _ _ _ _ _ 0 x _ B41 (by kernel_rfl) hx ?_
  refine @w_dr_again _ _ _ _ _ _ _ 1 (Code.builtin "object.__setattr__" { pos := [Value.ref x, Value.str (Str.ofString "lineno") tk51, l] }) B41 (by kernel_rfl) (by kernel_rfl) ?_
  refine WC_builtin' (Bi := Builtin.«object.__setattr__») (entryFor_of_tree (by kernel_rfl)) ?_
  refine @w_dr_load _ _ _ _ _ _ 0 x _ B41 (by kernel_rfl) hx ?_
  refine @w_dr_load _ _ _ _ _ _ 1 x _ B41 (by kernel_rfl) hx ?_
  refine @w_dr_load _ _ _ _ _ _ 5 x _ B41 (by kernel_rfl) hx ?_
  refine @w_dr_alloc _ _ _ _ _ _ 1 ({ cls := Value.type "dict", data := Data.dict { toList := [] } 0 }) B41 (by kernel_rfl) rfl fun a52 h52 n52 k52 e52 => ?_
  have B52 : Base _ h52 := Base.mono B41 k52
  have nb52 := Base.new B41 n52
  have ne52_x : x ≠ a52 := New.ne n52 hx
  replace hx := k52 _ _ hx
  have ne52_t1 : t1 ≠ a52 := New.ne n52 et
  replace et := k52 _ _ et
  have ne52_L : L ≠ a52 := New.ne n52 hL
  replace hL := k52 _ _ hL
  refine @w_dr_upd _ _ _ _ _ _ 0 x _ ({ cls := Value.ref 89, dict := some a52, data := Data.fields { toList := [Value.ref t1, Value.none, Value.none, Value.none, Value.bool false, Value.none] } }) B52 (by kernel_rfl) hx (by kernel_rfl) rfl fun h53 kb53 e53 => ?_
  have B53 : Base _ h53 := Base.but B52 kb53 (by assumption)
  replace e52 := kb53 _ _ (by first | assumption | (apply Ne.symm; assumption)) e52
  replace et := kb53 _ _ (by first | assumption | (apply Ne.symm; assumption)) et
  replace hL := kb53 _ _ (by first | assumption | (apply Ne.symm; assumption)) hL
  refine @w_dr_fresh _ _ _ _ _ _ 0 B53 (by kernel_rfl) fun tk54 => ?_
  refine @w_dr_load _ _ _ _ _ _ 0 a52 _ B53 (by kernel_rfl) e52 ?_
  refine @w_dr_upd _ _ _ _ _ _ 0 a52 _ (Obj.putName "lineno" (PyData.keyHash c.w.params "lineno") (.str "lineno" tk54) l (dictOf [] 0)) B53 (by kernel_rfl) e52 (by kernel_rfl) rfl fun h55 kb55 e55 => ?_
  have B55 : Base _ h55 := Base.but B53 kb55 (by assumption)
  replace e53 := kb55 _ _ (by first | assumption | (apply Ne.symm; assumption)) e53
  replace et := kb55 _ _ (by first | assumption | (apply Ne.symm; assumption)) et
  replace hL := kb55 _ _ (by first | assumption | (apply Ne.symm; assumption)) hL
  refine @w_dr_load _ _ _ _ _ _ 0 a52 _ B55 (by kernel_rfl) e55 ?_
  refine @w_dr_done _ _ _ _ _ _ _ 0 (Value.none) B55 (by kernel_rfl) ?_
  refine @w_dr_pure _ _ _ _ _ _ (PUnit.unit) 0 B55 (by kernel_rfl) ?_
  rw [putName_dict] at e55
  have hd : ∃ n, h55.get? a52 = some (dictOf [⟨PyData.keyHash c.w.params "lineno", .str "lineno" tk54, l⟩] n) := ⟨_, e55⟩
  have N55 : h55.Ns L _ := ⟨oL, es, ep, hL, rL⟩
  refine wa_cons <| WA.ofW <| w_assign_attr <| w_nameX <| w_locX X N55 (i := 3) rfl rfl <| w_nameX <| w_locX X N55 (i := 0) rfl rfl <| w_set89_name B55 e53 hd nb52 fun h61 _ _ kb61 hd => ?_
  have B61 : Base _ h61 := Base.but B55 kb61 nb52
  replace e53 := kb61 _ _ ne52_x e53
  replace et := kb61 _ _ ne52_t1 et
  replace hL := kb61 _ _ ne52_L hL
  have N61 : h61.Ns L _ := ⟨oL, es, ep, hL, rL⟩
  refine wa_cons <| WA.ofW <| w_assign_attr <| w_nameX <| w_locX X N61 (i := 4) rfl rfl <| w_nameX <| w_locX X N61 (i := 0) rfl rfl <| w_set89_filename B61 e53 hd nb52 fun h62 _ _ kb62 hd => ?_
  have B62 : Base _ h62 := Base.but B61 kb62 nb52
  replace e53 := kb62 _ _ ne52_x e53
  replace et := kb62 _ _ ne52_t1 et
  replace hL := kb62 _ _ ne52_L hL
  have N62 : h62.Ns L _ := ⟨oL, es, ep, hL, rL⟩
  refine wa_cons <| WA.ofW <| w_assign_attr <| w_none <| w_nameX <| w_locX X N62 (i := 0) rfl rfl <| w_set89_source B62 e53 hd nb52 fun h63 _ _ kb63 hd => ?_
  have B63 : Base _ h63 := Base.but B62 kb63 nb52
  replace e53 := kb63 _ _ ne52_x e53
  replace et := kb63 _ _ ne52_t1 et
  replace hL := kb63 _ _ ne52_L hL
  have N63 : h63.Ns L _ := ⟨oL, es, ep, hL, rL⟩
  refine wa_cons <| WA.ofW <| w_assign_attr <| w_bool <| w_nameX <| w_locX X N63 (i := 0) rfl rfl <| w_set89_translated B63 e53 hd nb52 fun h64 _ _ kb64 hd => ?_
  replace e53 := kb64 _ _ ne52_x e53
  replace et := kb64 _ _ ne52_t1 et
  have K14 : Keep h3 h14 := Keep.butN (Keep.butN (Keep.butN k11 kb12 n11) kb13 n11) kb14 n11
  have K21 : Keep h h21 := Keep.trans (Keep.trans k3 K14) k21
  have K41 : KeepBut x h h41 := fun b o ne e => kb41 b o ne (K21 b o e)
  have K53 : KeepBut x h h53 := fun b o ne e => kb53 b o ne (k52 b o (K41 b o ne e))
  have na : ∀ b o, b ≠ x → h.get? b = some o → b ≠ a52 := fun b o ne e => New.ne n52 (K41 b o ne e)
  refine WA.ofW (w_nil (q h64 a52 t1 (fun b o ne e => ?_) e53 et ?_ ?_ (fun e => ne52_x e.symm) (New.back nt K21)))
  · have := na b o ne e
    exact kb64 _ _ this (kb63 _ _ this (kb62 _ _ this (kb61 _ _ this (kb55 _ _ this (K53 b o ne e)))))
  · obtain ⟨n, hd⟩ := hd
    exact ⟨_, hd, _, n, rfl, .cons (.cons (.cons (.cons (.cons .nil))))⟩
  · cases z : h.get? a52 with
    | none => exact z
    | some o => exact absurd rfl (na a52 o (fun e => ne52_x e.symm) z)
end
end Mine
end
section
open PySem PySem.W PySem.Calls PyProof.Rows
set_option maxRecDepth 100000
set_option linter.all false
set_option maxHeartbeats 4000000
namespace Mine
section
variable {c : Cx} {h : Heap} {E : Value → Heap → Prop}
/-- an exception of the lexer, as it was made -/
def TseAt (h : Heap) (x dx t1 : Addr) (m l : Value) : Prop :=
  h.get? x = some { cls := .ref 89, dict := some dx, data := .fields #[.ref t1, .none, .none, .none, .bool false, .none] } ∧ h.get? t1 = some { cls := .type "tuple", data := .seq #[m] 0 } ∧
  (∃ o, h.get? dx = some o ∧ EntsO [("lineno", l), ("name", .none), ("filename", .none), ("source", .none), ("translated", .bool false)] o)
theorem wc_tse (B : Base c.w h) (D : c.A.depth + 2 < recursionLimit) (hp0 : c.prog = P0) {m l : Value} {R : Value → Heap → Prop}
   (q : ∀ h' x dx t1, Keep h h' → New h x → New h dx → New h t1 → x ≠ dx → TseAt h' x dx t1 m l → R (.ref x) h') : WC c h (.call (.ref 89) ⟨[m, l, .none, .none], []⟩) R E := by
  refine WC_tree' ?_
  refine @w_dr_again _ _ _ _ _ _ _ 2 (Code.call (Value.builtin "type.__call__") { pos := [Value.ref 89, m, l, Value.none, Value.none] }) B (by kernel_rfl) (by kernel_rfl) ?_
  refine WC_tree' ?_
  refine @w_dr_again _ _ _ _ _ _ _ 1 (Code.builtin "type.__call__" { pos := [Value.ref 89, m, l, Value.none, Value.none] }) B (by kernel_rfl) (by kernel_rfl) ?_
  refine WC_builtin' (Bi := Builtin.«type.__call__») (entryFor_of_tree (by kernel_rfl)) ?_
  refine @w_dr_call _ _ _ _ _ _ 3 (Code.call (Value.builtin "Exception.__new__") { pos := [Value.ref 89, m, l, Value.none, Value.none] }) B (by kernel_rfl) ?_
  refine WC_tree' ?_
  refine @w_dr_again _ _ _ _ _ _ _ 7 (Code.builtin "Exception.__new__" { pos := [Value.ref 89, m, l, Value.none, Value.none] }) B (by kernel_rfl) (by kernel_rfl) ?_
  refine WC_builtinS 0 B entry_exc_new (by kernel_rfl) fun p0 l0 => ?_
  refine @w_dr_alloc _ _ _ _ _ _ 9 ({ cls := Value.type "tuple", data := Data.seq { toList := [m, l, Value.none, Value.none] } 0 }) B (by kernel_rfl) rfl fun a1 h1 n1 k1 e1 => ?_
  have B1 : Base _ h1 := Base.mono B k1
  have nb1 := Base.new B n1
  refine @w_dr_alloc _ _ _ _ _ _ 0 ({ cls := Value.ref 89, data := Data.fields { toList := [Value.ref a1, Value.none, Value.none, Value.none, Value.bool false, Value.none] } }) B1 (by kernel_rfl) rfl fun a2 h2 n2 k2 e2 => ?_
  have B2 : Base _ h2 := Base.mono B1 k2
  have nb2 := Base.new B1 n2
  have ne2_a1 : a1 ≠ a2 := New.ne n2 e1
  replace e1 := k2 _ _ e1
  refine @w_dr_done _ _ _ _ _ _ _ 1 (Value.ref a2) B2 (by kernel_rfl) ?_
  refine @w_dr_load _ _ _ _ _ _ 0 a2 _ B2 (by kernel_rfl) e2 ?_
  refine @w_dr_load _ _ _ _ _ _ 1 a2 _ B2 (by kernel_rfl) e2 ?_
  refine @w_dr_call _ _ _ _ _ _ 4 (Code.call (Value.ref 86) { pos := [Value.ref a2, m, l, Value.none, Value.none] }) B2 (by kernel_rfl) ?_
  have D2 : (c.un (Code.builtin "type.__call__" { pos := [Value.ref 89, m, l, Value.none, Value.none] })).A.depth + 1 < recursionLimit := by
    show c.A.depth + 1 + 1 < _
    exact D
  refine wc_tse_init (c := c.un (Code.builtin "type.__call__" { pos := [Value.ref 89, m, l, Value.none, Value.none] })) B2 D2 hp0 e2 (Base.new B1 n2) fun h5 dx t1 kb5 hx ht hd nd nxd nt => ?_
  have B5 : Base _ h5 := Base.but B2 kb5 (Base.new B1 n2)
  refine @w_dr_done _ _ _ _ _ _ _ 0 (Value.ref a2) B5 (by kernel_rfl) ?_
  have K2 : Keep h h2 := Keep.trans k1 k2
  exact q h5 a2 dx t1 (Keep.butN K2 kb5 (New.back n2 k1)) (New.back n2 k1) (New.back nd K2) (New.back nt K2) nxd.symm ⟨hx, ht, hd⟩
end
end Mine
end
section
open PySem PySem.W PySem.Calls PyProof.Rows
set_option maxRecDepth 100000
set_option linter.all false
set_option maxHeartbeats 4000000
namespace Mine
def evHandled {α : Type} : Sem α → Bool | .handled own _ => !own | _ => false
def kHandled {α : Type} : Sem α → Option Value → Sem α | .handled _ k, v => k v | t, _ => t
theorem w_dr_handled {α : Type} {c : Cx} {h : Heap} {E : Value → Heap → Prop} {t : Sem α} {Q : α → Heap → Prop} (n : Nat) (B : Base c.w h) (e : evHandled (dr c n t) = true) (hh : c.A.handled = none) (q : W c h (kHandled (dr c n t) none) Q E) : W c h t Q E := w_dr n B (by
  generalize dr c n t = u at e q
  cases u <;> simp [evHandled] at e
  rename_i own k
  subst e
  refine fun tk => ?_
  show wpAny _ _ (handled >>= k) _ _ _
  exact wpAny_bind (wpAny_handled (by rw [hh]; exact q tk)))
end Mine
end
section
open PySem PySem.W PySem.Calls PyProof.Rows
set_option maxRecDepth 100000
set_option linter.all false
set_option maxHeartbeats 4000000
namespace Mine
section
variable {c : Cx} {h : Heap} {E : Value → Heap → Prop} {env : Env}
theorem w_raise_tse {x : Sem Value} {Q : Flow → Heap → Prop} (hh : c.A.handled = none) (y : W c h x (fun v h1 => Base c.w h1 ∧ ∃ e dx t1 m l, v = .ref e ∧ TseAt h1 e dx t1 m l ∧ E (.ref e) h1) E) : W c h (raiseStmt env (some x) none) Q E := by
  unfold raiseStmt
  refine W_bind (W_mono y (fun v h1 ⟨B1, e, dx, t1, m, l, hv, ht, q⟩ => ?_) fun _ _ y => y)
  subst hv
  obtain ⟨he, ht1, hd⟩ := ht
  refine @w_dr_load _ _ _ _ _ _ 0 e _ B1 (by kernel_rfl) he ?_
  refine @w_dr_load _ _ _ _ _ _ 0 e _ B1 (by kernel_rfl) he ?_
  refine @w_dr_load _ _ _ _ _ _ 1 e _ B1 (by kernel_rfl) he ?_
  refine @w_dr_load _ _ _ _ _ _ 0 e _ B1 (by kernel_rfl) he ?_
  refine @w_dr_load _ _ _ _ _ _ 1 e _ B1 (by kernel_rfl) he ?_
  refine w_dr_handled 0 B1 (by kernel_rfl) hh ?_
  refine w_dr_raise 0 (v := Value.ref e) B1 (by kernel_rfl) ?_
  exact q
end
end Mine
end
section
open PySem PySem.W PySem.Calls PyProof.Rows
set_option maxRecDepth 100000
set_option linter.all false
set_option maxHeartbeats 4000000
namespace Mine
section
variable {c : Cx} {h h₀ : Heap} {E : Value → Heap → Prop} {env : Env} {C : Cons} {G : GSpec} {n : Nat} {fs : List PySem.Frame} {I : Heap → Prop} {L : Addr} {vs : List (Option Value)} {ls : List (Addr × Cell)}
theorem w_raise {e : Expr} {pos : Pos} {Q : Flow → Heap → Prop} (hh : c.A.handled = none) (y : W c h (eval e env) (fun v h1 => Base c.w h1 ∧ ∃ x dx t1 m l, v = .ref x ∧ TseAt h1 x dx t1 m l ∧ E (.ref x) h1) E) : W c h (exec (.Raise (some e) none pos) env) Q E := by
  rw [arm_exec_Raise]
  refine W_bind (W_standAt ?_)
  exact w_raise_tse (x := do let v ← eval e env; standAt pos; pure v) hh (W_bind (W_mono y (fun v h1 q => W_bind (W_standAt (W_pure q))) fun _ _ y => y))
/-- raise TemplateSyntaxError(m, l, name, filename) -/
theorem w_raise_call {L b : Addr} {nm : Str} {sc : Scope} {cd : Value} {p cpos pos : Pos} {e : Expr} {rest : List Expr} {Q : Flow → Heap → Prop} (B : Base c.w h) (hh : c.A.handled = none) (D : c.A.depth + 2 < recursionLimit) (hp0 : c.prog = P0)
    (y : W c h (spliced (backTo cpos (starEach (e :: rest) (envOf nm sc L b cd)))) (fun vs h₁ => Base c.w h₁ ∧ ∃ m l, vs = [m, l, .none, .none] ∧ ∀ h' x dx t1, Keep h₁ h' → New h₁ x → New h₁ dx → New h₁ t1 → x ≠ dx → TseAt h' x dx t1 m l → E (.ref x) h') E)
    (hk : sc.kind = .function := by rfl) (hx : (envOf nm sc L b cd).kindOf "TemplateSyntaxError" = some .globalImplicit := by rfl)
    (he : starEach (e :: rest) (envOf nm sc L b cd) = (false, eval e (envOf nm sc L b cd)) :: starEach rest (envOf nm sc L b cd) := by rfl) (hplain : (backTo cpos (starEach rest (envOf nm sc L b cd))).any (·.1) = false := by rfl) :
    W c h (exec (.Raise (some (.Call (.Name "TemplateSyntaxError" p) (e :: rest) [] cpos)) none pos) (envOf nm sc L b cd)) Q E := by
  refine w_raise hh <| w_callK (a := 89) (by kernel_rfl) B (by kernel_rfl) (W_mono y (fun vs h₁ ⟨B1, m, l, hv, q⟩ => ⟨B1, ?_⟩) fun _ _ y => y) hk hx (by decide) he hplain
  subst hv
  exact W_call (wc_tse B1 D hp0 fun h' x dx t1 k n1 n2 n3 ne ht => ⟨B1.mono k, x, dx, t1, m, l, rfl, ht, q h' x dx t1 k n1 n2 n3 ne ht⟩)
/-- an operator that breaks the order of the braces -/
theorem op_err {it Bk : Addr} {y m : Str} {t t' u : Tok} {row : Nat} {bv : List Value} {stk : List Str} (jb : Nat) (M : GS C c.w h₀ n I L nsK vs ls h) (hu : (c.ov (FL c.w.params it L) fs).A.units + 1 < cLine) (hh : (c.ov (FL c.w.params it L) fs).A.handled = none) (D : (c.ov (FL c.w.params it L) fs).A.depth + 2 < recursionLimit) (hp0 : c.prog = P0)
    (hv : vs.length = 30) (h2 : vs[2]? = some (some .none)) (h3 : vs[3]? = some (some .none)) (h7 : vs[7]? = some (some (.int row u))) (h11 : vs[11]? = some (some (.ref Bk))) (h15 : vs[15]? = some (some (.str "operator" t))) (h27 : vs[27]? = some (some (.str y t')))
    (hB : (C.cells n ++ ls)[jb]? = some (Bk, .lst bv)) (hsv : StrVals bv stk) (hcl : ∀ d ∈ stk, d ∈ closers) (hbl : bv.length ≤ 100000) (hok : PyData.strOk y = true) (hn : nextStk stk y = .error m)
    (q : ∀ h1 h' x dx t1 tm bv' o, MS c.w h₀ C.X (fun h => C.Ic n h ∧ I h) L nsK (vs.set 28 o) ((C.cells n ++ ls).set jb (Bk, .lst bv')) h1 → Keep h1 h' → New h1 x → New h1 dx → New h1 t1 → x ≠ dx → TseAt h' x dx t1 (.str m tm) (.int row u) → SG c G n (FL c.w.params it L) (loopH (envT c.w.params L) (.ref x)) fs h') :
    SX c G n (FL c.w.params it L) fs (KT c it L) (loopH (envT c.w.params L)) (envT c.w.params L) ((elseB c.w.params).drop 1) h := by
  have X := okT c.w.params
  have hsl : bv.length ≤ sizeLine := Nat.le_trans hbl (by decide)
  have hz : (1000 : Nat) < sizeLine := by decide
  have vself : vs.set 28 (vs[28]'(by omega)) = vs := set_same _
  have hBl : (C.cells n ++ ls).set jb (Bk, .lst bv) = C.cells n ++ ls := by
    apply List.ext_getElem?
    intro j
    rw [List.getElem?_set]
    by_cases hj : jb = j
    · subst hj
      have := (List.getElem?_eq_some_iff.mp hB).1
      rw [if_pos rfl, if_pos this, hB]
    · rw [if_neg hj]
  unfold nextStk at hn
  split at hn
  · cases hn
  rename_i hd
  split at hn
  · rename_i e4
    have e1 : y ≠ "{" := fun e => by subst e; exact absurd hd (by decide)
    have e2 : y ≠ "(" := fun e => by subst e; exact absurd hd (by decide)
    have e3 : y ≠ "[" := fun e => by subst e; exact absurd hd (by decide)
    have ylen : y.length = 1 := closer_len e4
    refine sx_cons <| se_if_t <| w_tcmp <| w_loc X M.ns (i := 15) rfl h15 <| w_globS "operator" M.base (by kernel_rfl) fun t1 => w_eq_str <| w_tbool ⟨by decide +kernel, ?_⟩
    refine sx_cons <| se_if_f <| w_tcmp <| w_loc X M.ns (i := 27) rfl h27 <| w_str fun t2 => w_eq_str <| w_tbool ⟨decide_eq_false e1, ?_⟩
    refine sx_cons <| se_if_f <| w_tcmp <| w_loc X M.ns (i := 27) rfl h27 <| w_str fun t4 => w_eq_str <| w_tbool ⟨decide_eq_false e2, ?_⟩
    refine sx_cons <| se_if_f <| w_tcmp <| w_loc X M.ns (i := 27) rfl h27 <| w_str fun t5 => w_eq_str <| w_tbool ⟨decide_eq_false e3, ?_⟩
    refine sx_cons <| se_if_t <| w_tcmp <| w_loc X M.ns (i := 27) rfl h27 <| w_tuple <| w_args <| w_str fun t6 => w_args <| w_str fun t7 => w_args <| w_str fun t8 => w_args_nil ⟨rfl, fun a h1 k1 na ta => ?_⟩
    replace M := M.mono k1
    refine w_in_tuple (xs := closers) ta (.cons (.cons (.cons .nil))) (by decide +kernel) hok hu <| w_tbool ⟨decide_eq_true e4, ?_⟩
    split at hn
    · rename_i hg
      cases hn
      have hs0 : stk = [] := List.getLast?_eq_none_iff.mp hg
      subst hs0
      have hb0 : bv = [] := List.eq_nil_of_length_eq_zero (by rw [hsv.len]; rfl)
      refine sx_cons <| se_if_t <| w_tnot <| w_tval <| w_loc X M.ns (i := 11) rfl h11 <| w_tlist (M.get jb hB).isList (by rw [List.size_toArray]; omega) ⟨by rw [hb0]; rfl, ?_⟩
      have f1 : (Str.empty ++ ("unexpected '" : Str)).length ≤ 12 := by decide +kernel
      have f2 := app_le f1 (Nat.le_of_eq ylen)
      have f3 := app_le f2 (show (("'" : Str)).length ≤ 1 by decide +kernel)
      refine sx_W <| w_raise_call M.base hh D hp0 <| w_args <| w_joined <| WJ_cons <| w_str fun ta => ⟨_, _, rfl, by omega, WJ_cons <| w_fmt <| w_loc X M.ns (i := 27) rfl h27 <| w_fmt_str (by omega) fun tb => ⟨_, _, rfl, Nat.le_trans f2 (by omega), WJ_cons <| w_str fun tc => ⟨_, _, rfl, Nat.le_trans f3 (by omega), WJ_nil ⟨Nat.le_trans f3 (by omega), fun td => ?_⟩⟩⟩⟩
      refine w_args <| w_loc X M.ns (i := 7) rfl h7 <| w_args <| w_loc X M.ns (i := 2) rfl h2 <| w_args <| w_loc X M.ns (i := 3) rfl h3 <| w_args_nil ⟨M.base, _, _, rfl, fun h' x dx t1 k n1 n2 n3 ne ht => ?_⟩
      exact q h1 h' x dx t1 td bv (vs[28]'(by omega)) (by rw [vself, hBl]; exact M) k n1 n2 n3 ne ht
    · rename_i d hg
      split at hn
      · cases hn
      · rename_i hdy
        cases hn
        obtain ⟨s0, rfl⟩ := List.getLast?_eq_some_iff.mp hg
        obtain ⟨bv', td, rfl, hsv'⟩ := hsv.last
        have hdl := closer_len (hcl d (by simp))
        refine sx_cons <| se_if_f <| w_tnot <| w_tval <| w_loc X M.ns (i := 11) rfl h11 <| w_tlist (M.get jb hB).isList (by rw [List.size_toArray]; omega) ⟨by simp, ?_⟩
        refine sx_nil <| sx_done <| sx_W <| w_assign <| w_pop <| w_loc X M.ns (i := 11) rfl h11 ⟨Bk, bv', .str d td, rfl, M.get jb hB, by simp at hsl; omega, fun g2 l2 k2 => ?_⟩
        have M2 := M.set jb hB l2 k2
        refine w_store X M2.ns (i := 28) rfl (by simp [hv]) fun g3 N3 k3 => ?_
        have M3 := M2.store N3 k3
        refine sx_cons <| se_if_t <| w_tcmp <| w_loc X M3.ns (i := 28) rfl (set_get (by simp [hv])) <| w_loc X M3.ns (i := 27) rfl (by simpa using h27) <| w_ne_str <| w_tbool ⟨by simpa using hdy, ?_⟩
        have f1 : (Str.empty ++ ("unexpected '" : Str)).length ≤ 12 := by decide +kernel
        have f2 := app_le f1 (Nat.le_of_eq ylen)
        have f3 := app_le f2 (show (("', expected '" : Str)).length ≤ 13 by decide +kernel)
        have f4 := app_le f3 (Nat.le_of_eq hdl)
        have f5 := app_le f4 (show (("'" : Str)).length ≤ 1 by decide +kernel)
        refine sx_W <| w_raise_call M3.base hh D hp0 <| w_args <| w_joined <| WJ_cons <| w_str fun ta => ⟨_, _, rfl, by omega, WJ_cons <| w_fmt <| w_loc X M3.ns (i := 27) rfl (by simpa using h27) <| w_fmt_str (by omega) fun tb => ⟨_, _, rfl, Nat.le_trans f2 (by omega), WJ_cons <| w_str fun tc => ⟨_, _, rfl, Nat.le_trans f3 (by omega),
          WJ_cons <| w_fmt <| w_loc X M3.ns (i := 28) rfl (set_get (by simp [hv])) <| w_fmt_str (by omega) fun te => ⟨_, _, rfl, Nat.le_trans f4 (by omega), WJ_cons <| w_str fun tf => ⟨_, _, rfl, Nat.le_trans f5 (by omega), WJ_nil ⟨Nat.le_trans f5 (by omega), fun tg => ?_⟩⟩⟩⟩⟩⟩
        refine w_args <| w_loc X M3.ns (i := 7) rfl (by simpa using h7) <| w_args <| w_loc X M3.ns (i := 2) rfl (by simpa using h2) <| w_args <| w_loc X M3.ns (i := 3) rfl (by simpa using h3) <| w_args_nil ⟨M3.base, _, _, rfl, fun h' x dx t1 k n1 n2 n3 ne ht => ?_⟩
        exact q g3 h' x dx t1 tg bv' _ M3 k n1 n2 n3 ne ht
  · cases hn
end
end Mine
end
section
open PySem PySem.W PySem.Calls PyProof.Rows
set_option maxRecDepth 100000
set_option linter.all false
set_option maxHeartbeats 4000000
namespace Mine
section
variable {c : Cx} {h h₀ : Heap} {E : Value → Heap → Prop} {env : Env} {C : Cons} {G : GSpec} {n : Nat} {fs : List PySem.Frame} {I : Heap → Prop} {L : Addr} {vs : List (Option Value)} {ls : List (Addr × Cell)}
/-- a cell that is done with -/
theorem MS.lost {w : World} {h' : Heap} {X : List Addr} {ns : List Str} {a : Addr} {x : Cell} (M : MS w h₀ X I L ns vs (ls ++ [(a, x)]) h) (k : KeepBut a h h') : MS w h₀ X I L ns vs ls h' := by
  have ha : a ∈ L :: (ls ++ [(a, x)]).map (·.1) := by simp
  have hx := M.lst (a, x) (by simp)
  have nd := M.nd
  have M0 := M.drop
  have hn : a ∉ L :: ls.map (·.1) := by
    have : (L :: (ls ++ [(a, x)]).map (·.1)) = (L :: ls.map (·.1)) ++ [a] := by simp
    rw [this] at nd
    intro hm
    exact (List.nodup_append.mp nd).2.2 a hm a (by simp) rfl
  refine ⟨M.base.but k (M.nb _ ha), M.ns.extBut k (fun e => hn (by simp [e])), fun p hp => Cell.but (M0.lst p hp) (.of_cell hx k) k (fun e => hn (by rw [← e]; exact List.mem_cons_of_mem _ (List.mem_map_of_mem hp))), M0.nd, M.keepBut ha k, M0.new, M0.nb, M.st _ _ (.of_cell hx k) M.inv, M.st⟩
noncomputable abbrev BL (P : Params) (L : Addr) : Code := .block (sElse (forT P)) (envT P L)
/-- no rule is left: the end of the text, or a sign that is no token -/
theorem for_end {it R : Addr} {items : List Value} {x : Str} {t u ul ur : Tok} {p row : Nat} (hh : (c.ov (FL c.w.params it L) fs).A.handled = none) (hh2 : (c.ov (BL c.w.params L) fs).A.handled = none) (D : (c.ov (BL c.w.params L) fs).A.depth + 2 < recursionLimit) (hp0 : c.prog = P0)
    (M : GS C c.w h₀ n I L nsK vs (ls ++ [(it, .obj (IterO R items.length))]) h) (hl : Lst h R items)
    (h1 : vs[1]? = some (some (.str x t))) (h2 : vs[2]? = some (some .none)) (h3 : vs[3]? = some (some .none)) (h6 : vs[6]? = some (some (.int p u))) (h7 : vs[7]? = some (some (.int row ur))) (h10 : vs[10]? = some (some (.int x.length ul)))
    (hsz : 2 * x.length + 4000 < sizeLine) (hok : ∀ k ∈ x.cps.toList, k < 1114112)
    (q0 : x.length ≤ p → ∀ h', GS C c.w h₀ n I L nsK vs ls h' → SG c G n (BL c.w.params L) (.pure (.done (.ret .none))) fs h')
    (q1 : p < x.length → ∀ h1 h' x1 dx t1 tm, GS C c.w h₀ n I L nsK vs ls h1 → Keep h1 h' → New h1 x1 → New h1 dx → New h1 t1 → x1 ≠ dx → TseAt h' x1 dx t1 (.str (msgChar x p) tm) (.int row ur) → SG c G n (BL c.w.params L) (loopH (envT c.w.params L) (.ref x1)) fs h') :
    SG c G n (FL c.w.params it L) ((model c.prog c.w).den (FL c.w.params it L)) fs h := by
  have X := okT c.w.params
  rw [show GS C c.w h₀ n I L nsK vs (ls ++ [(it, .obj (IterO R items.length))]) h = MS c.w h₀ C.X (fun h => C.Ic n h ∧ I h) L nsK vs ((C.cells n ++ ls) ++ [(it, .obj (IterO R items.length))]) h by rw [List.append_assoc]] at M
  obtain ⟨o, ho, hoc, hod⟩ := M.getO (C.cells n ++ ls).length (by rw [List.getElem?_append_right (Nat.le_refl _), Nat.sub_self]; rfl)
  refine sg_forLoop (w_next_list (c := c.ov (FL c.w.params it L) fs) hh ⟨o, ho, hoc, hod⟩ hl.isList ?_)
  have hx' : items.toArray[items.length]? = none := by simp
  rw [hx']
  intro g1 kb
  replace M := M.lost kb
  refine sg_block ?_
  by_cases hp : x.length ≤ p
  · refine sx_cons <| se_if_t <| w_tcmp <| w_loc X M.ns (i := 6) rfl h6 <| w_loc X M.ns (i := 10) rfl h10 <| (fun tk => PyProof.Rows.ge_int ⟨g1, tk, rfl, w_tbool ⟨decide_eq_true (by omega), ?_⟩⟩)
    refine sx_W <| fun tk => wpAny_Return_none ⟨g1, tk, rfl, ?_⟩
    exact q0 hp g1 M
  · have hlt : p < x.length := by omega
    refine sx_cons <| se_if_f <| w_tcmp <| w_loc X M.ns (i := 6) rfl h6 <| w_loc X M.ns (i := 10) rfl h10 <| (fun tk => PyProof.Rows.ge_int ⟨g1, tk, rfl, w_tbool ⟨decide_eq_false (by omega), ?_⟩⟩)
    have hck : x.cps[p]? = some (x.cps[p]'hlt) := Array.getElem?_eq_getElem hlt
    have hckb : x.cps[p]'hlt < 1114112 := hok _ (Array.mem_toList_iff.mpr (Array.getElem_mem hlt))
    have e1 : (Str.empty ++ ("unexpected char " : Str)).length ≤ 16 := by decide +kernel
    have e2 := app_le e1 (repr_le hckb)
    have e3 := app_le e2 (show ((" at " : Str)).length ≤ 4 by decide +kernel)
    have e4 := app_le e3 (int_text_len_1921 (log_small (p := p) (by omega)))
    have hz : x.length ≤ sizeLine := by omega
    have h63 := len_lt63 hz
    refine sx_nil <| sx_done <| sx_W <| w_raise_call M.base hh2 D hp0 <| w_args <| w_joined <| WJ_cons <| w_str fun t5 => ⟨_, _, rfl, by omega, WJ_cons <| w_fmt_repr <| w_sub <| w_loc X M.ns (i := 1) rfl h1 <| w_loc X M.ns (i := 6) rfl h6 <|
      w_item_str (k := x.cps[p]'hlt) (by omega) (by omega) hck fun t6 => ⟨_, _, rfl, by have := repr_le hckb; exact Nat.le_trans this (by omega), fun t7 => ⟨_, _, rfl, Nat.le_trans e2 (by omega), WJ_cons <| w_str fun t8 => ⟨_, _, rfl, Nat.le_trans e3 (by omega), WJ_cons <| w_fmt <| w_loc X M.ns (i := 6) rfl h6 <|
      w_fmt_int (log_small (by omega)) fun t9 => ⟨_, _, rfl, Nat.le_trans e4 (by omega), WJ_nil ⟨Nat.le_trans e4 (by omega), fun t10 => ?_⟩⟩⟩⟩⟩⟩
    refine w_args <| w_loc X M.ns (i := 7) rfl h7 <| w_args <| w_loc X M.ns (i := 2) rfl h2 <| w_args <| w_loc X M.ns (i := 3) rfl h3 <| w_args_nil ⟨M.base, _, _, rfl, fun h' x1 dx t1 k n1 n2 n3 ne ht => ?_⟩
    have hm : msgChar x p = (((Str.empty ++ ("unexpected char " : Str)) ++ reprText (chr (x.cps[p]'hlt))) ++ (" at " : Str)) ++ (Str.ofString (toString (p : Int))) := by unfold msgChar; rw [hck]
    refine q1 hlt g1 h' x1 dx t1 t10 M k n1 n2 n3 ne ?_
    rw [hm]
    exact ht
end
end Mine
end
section
open PySem PySem.W PySem.Calls PyProof.Rows
set_option maxRecDepth 100000
set_option linter.all false
set_option maxHeartbeats 4000000
namespace Mine
/-- tokeniter's frame within the loop -/
structure FR (vs : List (Option Value)) (xl S R Bk : Addr) (x : Str) (p row : Nat) : Prop where
  len : vs.length = 30
  f0 : vs[0]? = some (some (.ref xl))
  f1 : ∃ t, vs[1]? = some (some (.str x t))
  f2 : vs[2]? = some (some .none)
  f3 : vs[3]? = some (some .none)
  f6 : ∃ u, vs[6]? = some (some (.int p u))
  f7 : ∃ u, vs[7]? = some (some (.int row u))
  f8 : vs[8]? = some (some (.ref S))
  f9 : vs[9]? = some (some (.ref R))
  f10 : ∃ u, vs[10]? = some (some (.int x.length u))
  f11 : vs[11]? = some (some (.ref Bk))
  f12 : ∃ u, vs[12]? = some (some (.int 0 u))
  f13 : ∃ b, vs[13]? = some (some (.bool b))
section
variable {vs : List (Option Value)} {xl S R Bk : Addr} {x : Str} {p row : Nat}
theorem gs_ne {l : List (Option Value)} {i j : Nat} {a : Option (Option Value)} {v : Option Value} (h : l[j]? = a) (ne : i ≠ j) : (l.set i v)[j]? = a := by rw [List.getElem?_set_ne ne]; exact h
theorem FR.hi (F : FR vs xl S R Bk x p row) {i : Nat} {v : Option Value} (hi : 14 ≤ i) : FR (vs.set i v) xl S R Bk x p row := by
  obtain ⟨a, b, ⟨t1, c⟩, d, e, ⟨t6, f⟩, ⟨t7, g⟩, k, l, ⟨t10, m⟩, n, ⟨t12, o⟩, ⟨t13, q⟩⟩ := F
  refine ⟨by simpa using a, ?_, ⟨t1, ?_⟩, ?_, ?_, ⟨t6, ?_⟩, ⟨t7, ?_⟩, ?_, ?_, ⟨t10, ?_⟩, ?_, ⟨t12, ?_⟩, ⟨t13, ?_⟩⟩ <;> (rw [List.getElem?_set_ne (by omega)]; assumption)
theorem FR.row' (F : FR vs xl S R Bk x p row) {r' : Nat} {u : Tok} : FR (vs.set 7 (some (.int r' u))) xl S R Bk x p r' := by
  obtain ⟨a, b, ⟨t1, c⟩, d, e, ⟨t6, f⟩, ⟨t7, g⟩, k, l, ⟨t10, m⟩, n, ⟨t12, o⟩, ⟨t13, q⟩⟩ := F
  refine ⟨by simpa using a, ?_, ⟨t1, ?_⟩, ?_, ?_, ⟨t6, ?_⟩, ⟨u, by simp [a]⟩, ?_, ?_, ⟨t10, ?_⟩, ?_, ⟨t12, ?_⟩, ⟨t13, ?_⟩⟩ <;> (rw [List.getElem?_set_ne (by omega)]; assumption)
theorem FR.pos' (F : FR vs xl S R Bk x p row) {p' : Nat} {u : Tok} : FR (vs.set 6 (some (.int p' u))) xl S R Bk x p' row := by
  obtain ⟨a, b, ⟨t1, c⟩, d, e, ⟨t6, f⟩, ⟨t7, g⟩, k, l, ⟨t10, m⟩, n, ⟨t12, o⟩, ⟨t13, q⟩⟩ := F
  refine ⟨by simpa using a, ?_, ⟨t1, ?_⟩, ?_, ?_, ⟨u, by simp [a]⟩, ⟨t7, ?_⟩, ?_, ?_, ⟨t10, ?_⟩, ?_, ⟨t12, ?_⟩, ⟨t13, ?_⟩⟩ <;> (rw [List.getElem?_set_ne (by omega)]; assumption)
theorem FR.st' (F : FR vs xl S R Bk x p row) {R' : Addr} : FR (vs.set 9 (some (.ref R'))) xl S R' Bk x p row := by
  obtain ⟨a, b, ⟨t1, c⟩, d, e, ⟨t6, f⟩, ⟨t7, g⟩, k, l, ⟨t10, m⟩, n, ⟨t12, o⟩, ⟨t13, q⟩⟩ := F
  refine ⟨by simpa using a, ?_, ⟨t1, ?_⟩, ?_, ?_, ⟨t6, ?_⟩, ⟨t7, ?_⟩, ?_, by simp [a], ⟨t10, ?_⟩, ?_, ⟨t12, ?_⟩, ⟨t13, ?_⟩⟩ <;> (rw [List.getElem?_set_ne (by omega)]; assumption)
theorem FR.ln' (F : FR vs xl S R Bk x p row) {b : Bool} : FR (vs.set 13 (some (.bool b))) xl S R Bk x p row := by
  obtain ⟨a, b, ⟨t1, c⟩, d, e, ⟨t6, f⟩, ⟨t7, g⟩, k, l, ⟨t10, m⟩, n, ⟨t12, o⟩, ⟨t13, q⟩⟩ := F
  refine ⟨by simpa using a, ?_, ⟨t1, ?_⟩, ?_, ?_, ⟨t6, ?_⟩, ⟨t7, ?_⟩, ?_, ?_, ⟨t10, ?_⟩, ?_, ⟨t12, ?_⟩, ⟨_, by simp [a]; rfl⟩⟩ <;> (rw [List.getElem?_set_ne (by omega)]; assumption)
theorem FR.ns' (F : FR vs xl S R Bk x p row) {u : Tok} : FR (vs.set 12 (some (.int 0 u))) xl S R Bk x p row := by
  obtain ⟨a, b, ⟨t1, c⟩, d, e, ⟨t6, f⟩, ⟨t7, g⟩, k, l, ⟨t10, m⟩, n, ⟨t12, o⟩, ⟨t13, q⟩⟩ := F
  refine ⟨by simpa using a, ?_, ⟨t1, ?_⟩, ?_, ?_, ⟨t6, ?_⟩, ⟨t7, ?_⟩, ?_, ?_, ⟨t10, ?_⟩, ?_, ⟨u, by simp [a]⟩, ⟨t13, ?_⟩⟩ <;> (rw [List.getElem?_set_ne (by omega)]; assumption)
end
section
variable {c : Cx} {h h₀ : Heap} {E : Value → Heap → Prop} {env : Env} {C : Cons} {G : GSpec} {n : Nat} {fs : List PySem.Frame} {I : Heap → Prop} {L : Addr} {vs : List (Option Value)} {ls : List (Addr × Cell)}
/-- one rule's turn up to its match -/
theorem turn {it R t pa xl S Bk : Addr} {i : Nat} {items sv bv : List Value} {b d : Value} {x : Str} {p row : Nat} {Fm : Prop} {Fh : Nat → Nat → List Value → Prop} (hh : (c.ov (FL c.w.params it L) fs).A.handled = none)
    (M : GS C c.w h₀ n I L nsK vs [(S, .lst sv), (Bk, .lst bv), (it, .obj (IterO R i))] h) (hI : ∀ h h', TupKeep h h' → I h → I h') (F : FR vs xl S R Bk x p row) (hl : Lst h R items) (hx : items[i]? = some (.ref t)) (ht : h.IsTuple t #[.ref pa, b, d])
    (T : ∀ h', Base c.w h' → Tries h' pa x p Fm Fh) (hp : p ≤ x.length) (hxl : x.length ≤ 1000)
    (q0 : Fm → ∀ h' vs', FR vs' xl S R Bk x p row → GS C c.w h₀ n I L nsK vs' [(S, .lst sv), (Bk, .lst bv), (it, .obj (IterO R (i + 1)))] h' → SG c G n (FL c.w.params it L) ((model c.prog c.w).den (FL c.w.params it L)) fs h')
    (q1 : ∀ st e sp a t h' vs', Fh st e sp → FR vs' xl S R Bk x p row → vs'[15]? = some (some b) → vs'[16]? = some (some d) → vs'[17]? = some (some (.ref a)) →
      GS C c.w h₀ n (fun h => I h ∧ h.IsTuple t (rawInt st :: rawInt e :: sp).toArray) L nsK vs' [(S, .lst sv), (Bk, .lst bv), (it, .obj (IterO R (i + 1))), (a, .obj (MatchO x t))] h' →
      SX c G n (FL c.w.params it L) fs (loopK (FL c.w.params it L)) (loopH (envT c.w.params L)) (envT c.w.params L) ((sBody (forT c.w.params)).drop 2) h') :
    SG c G n (FL c.w.params it L) ((model c.prog c.w).den (FL c.w.params it L)) fs h := by
  refine for_next (k := 4) hh M F.len rfl hl hx ht fun h1 M1 => ?_
  have F1 : FR (((vs.set 14 (some (.ref pa))).set 15 (some b)).set 16 (some d)) xl S R Bk x p row := ((F.hi (by omega)).hi (by omega)).hi (by omega)
  obtain ⟨t1, f1⟩ := F1.f1
  obtain ⟨u6, f6⟩ := F1.f6
  have hv := F.len
  have M1' : GS C c.w h₀ n I L nsK (((vs.set 14 (some (.ref pa))).set 15 (some b)).set 16 (some d)) [(S, .lst sv), (Bk, .lst bv), (it, .obj (IterO R (i + 1)))] h1 := M1
  refine rule_try M1' F1.len hI f1 f6 (by simp [hv]) (T h1 M1.base) hp hxl (fun fm h2 M2 => q0 fm h2 _ (F1.hi (by omega)) M2) (fun st e sp a t h2 fh M2 => q1 st e sp a t h2 _ fh (F1.hi (by omega)) (by simp [hv]) (by simp [hv]) (by simp [hv]) M2)
end
end Mine
end
section
open PySem PySem.W PySem.Calls PyProof.Rows
set_option maxRecDepth 100000
set_option linter.all false
set_option maxHeartbeats 4000000
namespace Mine
section
variable {c : Cx} {h h₀ : Heap} {E : Value → Heap → Prop} {env : Env} {C : Cons} {G : GSpec} {n : Nat} {fs : List PySem.Frame} {I : Heap → Prop} {L : Addr} {vs : List (Option Value)} {ls : List (Addr × Cell)}
abbrev IM (I : Heap → Prop) (t : Addr) (st e : Nat) (sp : List Value) : Heap → Prop := fun h => I h ∧ h.IsTuple t (rawInt st :: rawInt e :: sp).toArray
theorem IM.st {I : Heap → Prop} {t : Addr} {st e : Nat} {sp : List Value} (hI : ∀ h h', TupKeep h h' → I h → I h') : ∀ h h', TupKeep h h' → IM I t st e sp h → IM I t st e sp h' := fun h h' k i => ⟨hI _ _ k i.1, k _ _ i.2⟩
/-- a token without a command, not an operator -/
theorem plain_hit {it R a t xl S Bk : Addr} {i e : Nat} {sv bv sp : List Value} {x tok : Str} {p row : Nat} {tt : Tok}
    (M : GS C c.w h₀ (n + 1) (IM I t p e sp) L nsK vs [(S, .lst sv), (Bk, .lst bv), (it, .obj (IterO R i)), (a, .obj (MatchO x t))] h) (hI : ∀ h h', TupKeep h h' → I h → I h') (F : FR vs xl S R Bk x p row) (hu : (c.ov (FL c.w.params it L) fs).A.units + 1 < cLine)
    (h15 : vs[15]? = some (some (.str tok tt))) (h16 : vs[16]? = some (some .none)) (h17 : vs[17]? = some (some (.ref a))) (hbl : bv.length ≤ 100000) (hok : PyData.strOk tok = true) (hno : tok ∉ endNames) (hop : tok ≠ "operator") (hpe : p < e) (hex : e ≤ x.length) (hxl : x.length ≤ sizeLine)
    (hfs : splitAtGen fs = none) (hfg : fs.any Frame.guarded = false) (hY : ∀ v h', TokV h' v (row, tok, sl x p e) → C.at c.w h₀ (n + 1) h' → G.Yv n v h') (hSt : ∀ h' h'', G.St n h' h'' → C.step n h' h'')
    (q : ∀ h' vs', FR vs' xl S R Bk x e (row + nl (sl x p e)) → GS C c.w h₀ n (IM I t p e sp) L nsK vs' [(S, .lst sv), (Bk, .lst bv), (it, .obj (IterO R i)), (a, .obj (MatchO x t))] h' → SG c G n (FL c.w.params it L) (.pure (.done .next)) fs h') :
    SX c G (n + 1) (FL c.w.params it L) fs (loopK (FL c.w.params it L)) (loopH (envT c.w.params L)) (envT c.w.params L) ((sBody (forT c.w.params)).drop 2) h := by
  have tb : ∀ h, IM I t p e sp h → h.IsTuple t (rawInt p :: rawInt e :: sp).toArray := fun h i => i.2
  refine rule_bal 3 M hu F.f11 rfl h15 hbl hok (fun _ hm => absurd hm hno) fun _ h1 M1 => ?_
  refine str_head 5 M1 F.len h15 h17 rfl tb hxl fun h2 t2 M2 => ?_
  have F2 : FR (vs.set 27 (some (.str (sl x p e) t2))) xl S R Bk x p row := F.hi (by omega)
  have hv := F.len
  refine op_skip M2 (gs_ne h15 (by omega)) hop ?_
  obtain ⟨u7, f7⟩ := F2.f7
  refine str_tell M2 (IM.st hI) F2.len f7 (gs_ne h15 (by omega)) (set_get (by omega)) (sl_pos hpe (by omega)) (by rw [sl_len]; omega) hfs hfg hY hSt fun h3 u3 M3 => ?_
  have F3 := F2.row' (r' := row + nl (sl x p e)) (u := u3)
  obtain ⟨u6, f6⟩ := F3.f6
  refine tail_none 5 M3 F3.len f6 (gs_ne (gs_ne h16 (by omega)) (by omega)) (gs_ne (gs_ne h17 (by omega)) (by omega)) rfl tb (by omega) hxl fun h4 b1 u1 u2 M4 => ?_
  exact q h4 _ ((F3.ln'.hi (by omega)).pos') M4
/-- the end of the variable, outside of braces -/
theorem end_hit {it lr lv a t xl S Bk : Addr} {i e : Nat} {sp : List Value} {x : Str} {p row : Nat} {tt tc t0 : Tok} {sv : Value}
    (M : GS C c.w h₀ (n + 1) (IM I t p e sp) L nsK vs [(S, .lst [.str "root" t0, sv]), (Bk, .lst []), (it, .obj (IterO lv i)), (a, .obj (MatchO x t))] h) (hI : ∀ h h', TupKeep h h' → I h → I h') (F : FR vs xl S lv Bk x p row) (hu : (c.ov (FL c.w.params it L) fs).A.units + 1 < cLine)
    (KB : ∀ h, (∀ b o, b ∉ C.X → h₀.get? b = some o → h.get? b = some o) → LexR c.prog c.w h xl lr lv)
    (h15 : vs[15]? = some (some (.str "variable_end" tt))) (h16 : vs[16]? = some (some (.str "#pop" tc))) (h17 : vs[17]? = some (some (.ref a))) (hpe : p < e) (hex : e ≤ x.length) (hxl : x.length ≤ sizeLine)
    (hfs : splitAtGen fs = none) (hfg : fs.any Frame.guarded = false) (hY : ∀ v h', TokV h' v (row, "variable_end", sl x p e) → C.at c.w h₀ (n + 1) h' → G.Yv n v h') (hSt : ∀ h' h'', G.St n h' h'' → C.step n h' h'')
    (q : ∀ h' vs', FR vs' xl S lr Bk x e (row + nl (sl x p e)) → GS C c.w h₀ n (IM I t p e sp) L nsK vs' [(S, .lst [.str "root" t0]), (Bk, .lst []), (it, .obj (IterO lv i)), (a, .obj (MatchO x t))] h' → SG c G n (FL c.w.params it L) (.pure (.done .next)) fs h') :
    SX c G (n + 1) (FL c.w.params it L) fs (loopK (FL c.w.params it L)) (loopH (envT c.w.params L)) (envT c.w.params L) ((sBody (forT c.w.params)).drop 2) h := by
  have tb : ∀ h, IM I t p e sp h → h.IsTuple t (rawInt p :: rawInt e :: sp).toArray := fun h i => i.2
  refine rule_bal0 3 M F.f11 rfl ?_
  refine str_head 5 M F.len h15 h17 rfl tb hxl fun h2 t2 M2 => ?_
  have F2 : FR (vs.set 27 (some (.str (sl x p e) t2))) xl S lv Bk x p row := F.hi (by omega)
  have hv := F.len
  refine op_skip M2 (gs_ne h15 (by omega)) (by decide +kernel) ?_
  obtain ⟨u7, f7⟩ := F2.f7
  refine str_tell M2 (IM.st hI) F2.len f7 (gs_ne h15 (by omega)) (set_get (by omega)) (sl_pos hpe (by omega)) (by rw [sl_len]; omega) hfs hfg hY hSt fun h3 u3 M3 => ?_
  have F3 := F2.row' (r' := row + nl (sl x p e)) (u := u3)
  refine tail_pop (p := p) (lv := lv) 5 2 M3 F3.len F3.f0 F3.f8 (gs_ne (gs_ne h16 (by omega)) (by omega)) (gs_ne (gs_ne h17 (by omega)) (by omega)) KB rfl rfl tb hxl fun h4 b1 u1 u2 M4 => ?_
  exact q h4 _ (((F3.ln'.hi (by omega)).st').pos') M4
/-- the end of the variable within braces -/
theorem end_skip {it lv a t xl S Bk : Addr} {i e : Nat} {sp sv bv : List Value} {x : Str} {p row : Nat} {tt : Tok}
    (M : GS C c.w h₀ n (IM I t p e sp) L nsK vs [(S, .lst sv), (Bk, .lst bv), (it, .obj (IterO lv i)), (a, .obj (MatchO x t))] h) (F : FR vs xl S lv Bk x p row) (hu : (c.ov (FL c.w.params it L) fs).A.units + 1 < cLine)
    (h15 : vs[15]? = some (some (.str "variable_end" tt))) (hne : bv ≠ []) (hbl : bv.length ≤ 100000)
    (q : ∀ h', GS C c.w h₀ n (IM I t p e sp) L nsK vs [(S, .lst sv), (Bk, .lst bv), (it, .obj (IterO lv i))] h' → SG c G n (FL c.w.params it L) ((model c.prog c.w).den (FL c.w.params it L)) fs h') :
    SX c G n (FL c.w.params it L) fs (loopK (FL c.w.params it L)) (loopH (envT c.w.params L)) (envT c.w.params L) ((sBody (forT c.w.params)).drop 2) h := by
  refine rule_bal 3 M hu F.f11 rfl h15 hbl (by decide +kernel) (fun _ _ h1 M1 => ?_) fun hx => ?_
  · have M2 : MS c.w h₀ C.X (fun h => C.Ic n h ∧ IM I t p e sp h) L nsK vs ((C.cells n ++ [(S, .lst sv), (Bk, .lst bv), (it, .obj (IterO lv i))]) ++ [(a, .obj (MatchO x t))]) h1 := by
      rw [List.append_assoc]; exact M1
    exact q h1 M2.drop
  · rcases hx with hx | hx
    · exact absurd hx hne
    · exact absurd (by decide +kernel) hx
/-- an operator, the braces in order -/
theorem op_hit {it R a t xl S Bk : Addr} {i e : Nat} {sv bv sp : List Value} {stk stk' : List Str} {x : Str} {p row : Nat} {tt : Tok}
    (M : GS C c.w h₀ (n + 1) (IM I t p e sp) L nsK vs [(S, .lst sv), (Bk, .lst bv), (it, .obj (IterO R i)), (a, .obj (MatchO x t))] h) (hI : ∀ h h', TupKeep h h' → I h → I h') (F : FR vs xl S R Bk x p row) (hu : (c.ov (FL c.w.params it L) fs).A.units + 1 < cLine)
    (h15 : vs[15]? = some (some (.str "operator" tt))) (h16 : vs[16]? = some (some .none)) (h17 : vs[17]? = some (some (.ref a))) (hsv : StrVals bv stk) (hbl : bv.length ≤ 100000) (hoky : PyData.strOk (sl x p e) = true) (hn : nextStk stk (sl x p e) = .ok stk') (hpe : p < e) (hex : e ≤ x.length) (hxl : x.length ≤ sizeLine)
    (hfs : splitAtGen fs = none) (hfg : fs.any Frame.guarded = false) (hY : ∀ v h', TokV h' v (row, "operator", sl x p e) → C.at c.w h₀ (n + 1) h' → G.Yv n v h') (hSt : ∀ h' h'', G.St n h' h'' → C.step n h' h'')
    (q : ∀ h' vs' bv', StrVals bv' stk' → FR vs' xl S R Bk x e (row + nl (sl x p e)) → GS C c.w h₀ n (IM I t p e sp) L nsK vs' [(S, .lst sv), (Bk, .lst bv'), (it, .obj (IterO R i)), (a, .obj (MatchO x t))] h' → SG c G n (FL c.w.params it L) (.pure (.done .next)) fs h') :
    SX c G (n + 1) (FL c.w.params it L) fs (loopK (FL c.w.params it L)) (loopH (envT c.w.params L)) (envT c.w.params L) ((sBody (forT c.w.params)).drop 2) h := by
  have tb : ∀ h, IM I t p e sp h → h.IsTuple t (rawInt p :: rawInt e :: sp).toArray := fun h i => i.2
  refine rule_bal 3 M hu F.f11 rfl h15 hbl (by decide +kernel) (fun _ hm => absurd hm (by decide +kernel)) fun _ h1 M1 => ?_
  refine str_head 5 M1 F.len h15 h17 rfl tb hxl fun h2 t2 M2 => ?_
  have F2 : FR (vs.set 27 (some (.str (sl x p e) t2))) xl S R Bk x p row := F.hi (by omega)
  have hv := F.len
  refine op_ok 3 M2 hu F2.len F2.f11 (gs_ne h15 (by omega)) (set_get (by omega)) rfl hsv hbl hoky hn fun h2b bv' o hsv' M2b => ?_
  have M2c : GS C c.w h₀ (n + 1) (IM I t p e sp) L nsK ((vs.set 27 (some (.str (sl x p e) t2))).set 28 o) [(S, .lst sv), (Bk, .lst bv'), (it, .obj (IterO R i)), (a, .obj (MatchO x t))] h2b := M2b
  have F2c := F2.hi (i := 28) (v := o) (by omega)
  obtain ⟨u7, f7⟩ := F2c.f7
  refine str_tell M2c (IM.st hI) F2c.len f7 (gs_ne (gs_ne h15 (by omega)) (by omega)) (gs_ne (set_get (by omega)) (by omega)) (sl_pos hpe (by omega)) (by rw [sl_len]; omega) hfs hfg hY hSt fun h3 u3 M3 => ?_
  have F3 := F2c.row' (r' := row + nl (sl x p e)) (u := u3)
  obtain ⟨u6, f6⟩ := F3.f6
  refine tail_none 5 M3 F3.len f6 (gs_ne (gs_ne (gs_ne h16 (by omega)) (by omega)) (by omega)) (gs_ne (gs_ne (gs_ne h17 (by omega)) (by omega)) (by omega)) rfl tb (by omega) hxl fun h4 b1 u1 u2 M4 => ?_
  exact q h4 _ bv' hsv' ((F3.ln'.hi (by omega)).pos') M4
/-- an operator that breaks the order -/
theorem op_fail {it R a t xl S Bk : Addr} {i e : Nat} {sv bv sp : List Value} {stk : List Str} {x m : Str} {p row : Nat} {tt : Tok} (hh : (c.ov (FL c.w.params it L) fs).A.handled = none) (D : (c.ov (FL c.w.params it L) fs).A.depth + 2 < recursionLimit) (hp0 : c.prog = P0)
    (M : GS C c.w h₀ n (IM I t p e sp) L nsK vs [(S, .lst sv), (Bk, .lst bv), (it, .obj (IterO R i)), (a, .obj (MatchO x t))] h) (F : FR vs xl S R Bk x p row) (hu : (c.ov (FL c.w.params it L) fs).A.units + 1 < cLine)
    (h15 : vs[15]? = some (some (.str "operator" tt))) (h17 : vs[17]? = some (some (.ref a))) (hsv : StrVals bv stk) (hcl : ∀ d ∈ stk, d ∈ closers) (hbl : bv.length ≤ 100000) (hoky : PyData.strOk (sl x p e) = true) (hn : nextStk stk (sl x p e) = .error m) (hxl : x.length ≤ sizeLine)
    (q : ∀ h1 h' x1 dx t1 tm ur vs' bv', GS C c.w h₀ n (IM I t p e sp) L nsK vs' [(S, .lst sv), (Bk, .lst bv'), (it, .obj (IterO R i)), (a, .obj (MatchO x t))] h1 → Keep h1 h' → New h1 x1 → New h1 dx → New h1 t1 → x1 ≠ dx → TseAt h' x1 dx t1 (.str m tm) (.int row ur) → SG c G n (FL c.w.params it L) (loopH (envT c.w.params L) (.ref x1)) fs h') :
    SX c G n (FL c.w.params it L) fs (loopK (FL c.w.params it L)) (loopH (envT c.w.params L)) (envT c.w.params L) ((sBody (forT c.w.params)).drop 2) h := by
  have tb : ∀ h, IM I t p e sp h → h.IsTuple t (rawInt p :: rawInt e :: sp).toArray := fun h i => i.2
  refine rule_bal 3 M hu F.f11 rfl h15 hbl (by decide +kernel) (fun _ hm => absurd hm (by decide +kernel)) fun _ h1 M1 => ?_
  refine str_head 5 M1 F.len h15 h17 rfl tb hxl fun h2 t2 M2 => ?_
  have F2 : FR (vs.set 27 (some (.str (sl x p e) t2))) xl S R Bk x p row := F.hi (by omega)
  have hv := F.len
  obtain ⟨u7, f7⟩ := F2.f7
  exact op_err 3 M2 hu hh D hp0 F2.len F2.f2 F2.f3 f7 F2.f11 (gs_ne h15 (by omega)) (set_get (by omega)) rfl hsv hcl hbl hoky hn fun g1 h' x1 dx t1 tm bv' o Mo k n1 n2 n3 ne ht => q g1 h' x1 dx t1 tm _ _ bv' Mo k n1 n2 n3 ne ht
end
end Mine
end
section
open PySem PySem.W PySem.Calls PyProof.Rows
set_option maxRecDepth 100000
set_option linter.all false
set_option maxHeartbeats 4000000
namespace Mine
open Rx
theorem run_cnt {x sg : Str} {f : Nat → Bool} (hx : Alph x) (hf : ∀ k ∈ sig, (f k = true ↔ k ∈ sg.cps.toList)) : ∀ (d p : Nat), x.length - p = d → p ≤ x.length → runEnd x sg p = p + Rx.cnt f (x.cps.toList.drop p) := by
  intro d
  induction d with
  | zero =>
    intro p hd hp
    have : p = x.length := by omega
    subst this
    rw [List.drop_eq_nil_of_le (by rw [len_list]; exact Nat.le_refl _)]
    rw [runEnd_out (Nat.le_refl _)]
    rfl
  | succ d ih =>
    intro p hd hp
    have hlt : p < x.length := by omega
    have hc : x.cps[p]? = some (x.cps[p]'hlt) := Array.getElem?_eq_getElem hlt
    have hl : x.cps.toList.drop p = x.cps[p]'hlt :: x.cps.toList.drop (p + 1) := by
      rw [List.drop_eq_getElem_cons (by rw [len_list]; exact hlt)]
      rfl
    have hm : x.cps[p]'hlt ∈ sig := hx _ (Array.mem_toList_iff.mpr (Array.getElem_mem hlt))
    rw [hl]
    unfold Rx.cnt
    by_cases hk : x.cps[p]'hlt ∈ sg.cps.toList
    · rw [if_pos ((hf _ hm).mpr hk), ← runEnd_step hc hk, ih (p + 1) (by omega) (by omega)]
      omega
    · rw [if_neg (fun e => hk ((hf _ hm).mp e)), runEnd_stop hc hk]
      omega
theorem run_sp {x : Str} (hx : Alph x) {p : Nat} (hp : p ≤ x.length) : runEnd x " \n" p = p + Rx.cnt isSp (x.cps.toList.drop p) := run_cnt hx (by decide +kernel) _ p rfl hp
theorem run_dg {x : Str} (hx : Alph x) {p : Nat} (hp : p ≤ x.length) : runEnd x "01" p = p + Rx.cnt isDg (x.cps.toList.drop p) := run_cnt hx (by decide +kernel) _ p rfl hp
theorem run_wd {x : Str} (hx : Alph x) {p : Nat} (hp : p ≤ x.length) : runEnd x "az01" p = p + Rx.cnt isWd (x.cps.toList.drop p) := run_cnt hx (by decide +kernel) _ p rfl hp
theorem run_0 {x : Str} (hx : Alph x) {p : Nat} (hp : p ≤ x.length) : runEnd x "0" p = p + Rx.cnt (· == 48) (x.cps.toList.drop p) := run_cnt hx (by decide +kernel) _ p rfl hp
end Mine
end
section
open PySem PySem.W PySem.Calls PyProof.Rows
set_option maxRecDepth 100000
set_option linter.all false
set_option maxHeartbeats 4000000
namespace Mine
open Rx
section
variable {w : World} {h : Heap}
theorem pat_ws (B : Base w h) : PatAt h 96 (cWs w.params) 0 := ⟨top.o_104 w.params, top.o_103 w.params, _, _, _, 95, base_at B (by kernel_rfl) (by decide) (by kernel_rfl), rfl, rfl, rfl, by kernel_rfl, by kernel_rfl, rfl, base_at B (by kernel_rfl) (by decide) (by kernel_rfl), rfl, by kernel_rfl⟩
theorem pat_name (B : Base w h) : PatAt h 101 (cName w.params) 0 := ⟨top.o_111 w.params, top.o_110 w.params, _, _, _, 100, base_at B (by kernel_rfl) (by decide) (by kernel_rfl), rfl, rfl, rfl, by kernel_rfl, by kernel_rfl, rfl, base_at B (by kernel_rfl) (by decide) (by kernel_rfl), rfl, by kernel_rfl⟩
theorem pat_str (B : Base w h) : PatAt h 106 (cStr w.params) 3 := ⟨top.o_116 w.params, top.o_115 w.params, _, _, _, 105, base_at B (by kernel_rfl) (by decide) (by kernel_rfl), rfl, rfl, rfl, by kernel_rfl, by kernel_rfl, rfl, base_at B (by kernel_rfl) (by decide) (by kernel_rfl), rfl, by kernel_rfl⟩
theorem pat_int (B : Base w h) : PatAt h 111 (cInt w.params) 6 := ⟨top.o_123 w.params, top.o_122 w.params, _, _, _, 110, base_at B (by kernel_rfl) (by decide) (by kernel_rfl), rfl, rfl, rfl, by kernel_rfl, by kernel_rfl, rfl, base_at B (by kernel_rfl) (by decide) (by kernel_rfl), rfl, by kernel_rfl⟩
theorem pat_float (B : Base w h) : PatAt h 116 (cFloat w.params) 6 := ⟨top.o_130 w.params, top.o_129 w.params, _, _, _, 115, base_at B (by kernel_rfl) (by decide) (by kernel_rfl), rfl, rfl, rfl, by kernel_rfl, by kernel_rfl, rfl, base_at B (by kernel_rfl) (by decide) (by kernel_rfl), rfl, by kernel_rfl⟩
theorem pat_op (B : Base w h) : PatAt h 125 (cOp w.params) 1 := ⟨top.o_152 w.params, top.o_151 w.params, _, _, _, 124, base_at B (by kernel_rfl) (by decide) (by kernel_rfl), rfl, rfl, rfl, by kernel_rfl, by kernel_rfl, rfl, base_at B (by kernel_rfl) (by decide) (by kernel_rfl), rfl, by kernel_rfl⟩
theorem pat_root (B : Base w h) : PatAt h 130 (cRoot w.params) 9 := ⟨top.o_159 w.params, top.o_158 w.params, _, _, _, 129, base_at B (by kernel_rfl) (by decide) (by kernel_rfl), rfl, rfl, rfl, by kernel_rfl, by kernel_rfl, rfl, base_at B (by kernel_rfl) (by decide) (by kernel_rfl), rfl, by kernel_rfl⟩
theorem pat_data (B : Base w h) : PatAt h 135 (cData w.params) 0 := ⟨top.o_164 w.params, top.o_163 w.params, _, _, _, 134, base_at B (by kernel_rfl) (by decide) (by kernel_rfl), rfl, rfl, rfl, by kernel_rfl, by kernel_rfl, rfl, base_at B (by kernel_rfl) (by decide) (by kernel_rfl), rfl, by kernel_rfl⟩
theorem pat_var (B : Base w h) : PatAt h 165 (cVar w.params) 0 := ⟨top.o_198 w.params, top.o_197 w.params, _, _, _, 164, base_at B (by kernel_rfl) (by decide) (by kernel_rfl), rfl, rfl, rfl, by kernel_rfl, by kernel_rfl, rfl, base_at B (by kernel_rfl) (by decide) (by kernel_rfl), rfl, by kernel_rfl⟩
end
end Mine
end
section
open PySem PySem.W PySem.Calls PyProof.Rows PySem.Sre
set_option maxRecDepth 100000
set_option linter.all false
set_option maxHeartbeats 4000000
namespace Mine
namespace Rx
/-- which of the written alternatives fits -/
noncomputable def opAlt (code : Array Nat) : Nat → Nat → Nat → Option Nat → Option Nat
  | 0, _, _, _ => none
  | f + 1, a, c1, c2 =>
    if code.getD a 0 = 0 then none
    else if code.getD (a + 2) 0 = c1 ∧ code.getD (a + 3) 0 = 15 then some 1
    else if code.getD (a + 2) 0 = c1 ∧ code.getD (a + 3) 0 = 16 ∧ some (code.getD (a + 4) 0) = c2 then some 2
    else opAlt code f (a + code.getD a 0) c1 c2
/-- the alternatives are of the two shapes -/
noncomputable def opOk (code : Array Nat) (T : Nat) : Nat → Nat → Bool
  | 0, _ => false
  | f + 1, a => code.getD a 0 == 0 || (code.getD (a + 1) 0 == 16 && decide (a + 7 < code.size) && opOk code T f (a + code.getD a 0) &&
    ((code.getD (a + 3) 0 == 15 && a + 4 + code.getD (a + 4) 0 == T) || (code.getD (a + 3) 0 == 16 && code.getD (a + 5) 0 == 15 && a + 6 + code.getD (a + 6) 0 == T)))
theorem lit_look {code : Array Nat} {a : Nat} (h1 : code.getD a 0 = 16) (h2 : a < code.size) : (oneOp (code.getD a 0) && decide (a < code.size) && (a + itemWidth code a == a + 2)) = true := by
  have : itemWidth code a = 2 := by unfold itemWidth; rw [h1]; rfl
  rw [this, h1]
  simpa using ⟨rfl, h2⟩
theorem e_alts {code : Array Nat} {x : Str} {p c1 T : Nat} {li : Int} {P : M → Prop} (hc : x.cps[p]? = some c1) (hT : (code.getD T 0 == 17 && decide (T < code.size) && (code.getD (T + 1) 0 == 1) && (T + 2 == T + 2) && decide (1 < 2)) = true) (hS : (code.getD (T + 2) 0 == 1 && decide (T + 2 < code.size)) = true) :
    ∀ (f a : Nat), opOk code T f a = true → code.getD a 0 ≠ 0 → (∀ n, opAlt code f a c1 x.cps[p + 1]? = some n → ∀ m, Hit 1 p (p + n) m → P m) → (opAlt code f a c1 x.cps[p + 1]? = none → ∀ m, Miss m → P m) →
      EP (kx code x p) 2 P (20 * f + 2000) (a + 1) p true [some p] #[] none [fBranch a p true (kq [some p] li false)] none
  | 0, a, ho, _, _, _ => by cases ho
  | f + 1, a, ho, ha, q1, q2 => by
    refine EP.le (B := 20 * f + 2020) (by omega) ?_
    unfold opOk at ho
    simp only [Bool.or_eq_true, Bool.and_eq_true, beq_iff_eq, decide_eq_true_eq] at ho
    rcases ho with ho | ⟨⟨⟨h1, h2⟩, h3⟩, h4⟩
    · exact absurd ho ha
    have fin : ∀ n, opAlt code (f + 1) a c1 x.cps[p + 1]? = some n → EP (kx code x p) 2 P (20 * f + 2015) T (p + n) true [some p] #[] none [fBranch a p true (kq [some p] li false)] none := fun n hn =>
      e_mark (i := 1) (t := T + 2) hT (e_success hS rfl fun m a b c d e f => q1 n hn m (Hit.of a b c e f (show p ≤ p + n ∧ True from ⟨by omega, trivial⟩)))
    have rest : opAlt code (f + 1) a c1 x.cps[p + 1]? = opAlt code f (a + code.getD a 0) c1 x.cps[p + 1]? → ∀ pc pos, EP (kx code x p) 2 P (20 * f + 2010) pc pos true [some p] #[] none [fBranch a p true (kq [some p] li false)] (some false) := fun e pc pos => by
      by_cases hz : code.getD (a + code.getD a 0) 0 = 0
      · refine e_next_end (by show (code.getD (a + code.getD a 0) 0 == 0) = true; rw [hz]; rfl) (by omega) (by simp) rfl (.inl rfl) (e_miss (q2 ?_))
        rw [e]
        cases f with
        | zero => rfl
        | succ f => unfold opAlt; rw [if_pos hz]
      · refine e_next (b := a + code.getD a 0) (t := a + code.getD a 0 + 1) (by show ((a + code.getD a 0 == a + code.getD a 0) && (code.getD (a + code.getD a 0) 0 != 0) && _) = true; simpa using hz) (by omega) (by simp) rfl (.inl rfl) ?_
        exact EP.le (B := 20 * f + 2000) (by omega) <| e_alts hc hT hS f _ h3 hz (fun n hn => q1 n (e.trans hn)) fun hn => q2 (e.trans hn)
    by_cases hw : code.getD (a + 2) 0 = c1
    · refine e_lit (t := a + 1 + 2) c1 (lit_look h1 (by omega)) (by show (code.getD (a + 1) 0 == 16 && code.getD (a + 1 + 1) 0 == c1) = true; rw [h1, show a + 1 + 1 = a + 2 from rfl, hw]; simp) hc ?_
      rcases h4 with ⟨h5, h6⟩ | ⟨⟨h5, h6⟩, h7⟩
      · refine e_jump (t := T) (by show (code.getD (a + 3) 0 == 15 && decide (a + 3 < code.size) && (a + 3 + 1 + code.getD (a + 3 + 1) 0 == T)) = true; rw [h5]; simp only [beq_self_eq_true, Bool.true_and, Bool.and_eq_true, decide_eq_true_eq, beq_iff_eq]; exact ⟨by omega, h6⟩) ?_
        exact EP.le (B := 20 * f + 2015) (by omega) <| fin 1 (by unfold opAlt; rw [if_neg ha, if_pos ⟨hw, h5⟩])
      · by_cases c2 : x.cps[p + 1]? = some (code.getD (a + 4) 0)
        · refine e_lit (pos := p + 1) (t := a + 3 + 2) (code.getD (a + 4) 0) (lit_look h5 (by omega)) (by show (code.getD (a + 3) 0 == 16 && code.getD (a + 3 + 1) 0 == code.getD (a + 4) 0) = true; rw [h5]; simp) c2 ?_
          refine e_jump (t := T) (by show (code.getD (a + 5) 0 == 15 && decide (a + 5 < code.size) && (a + 5 + 1 + code.getD (a + 5 + 1) 0 == T)) = true; rw [h6]; simp only [beq_self_eq_true, Bool.true_and, Bool.and_eq_true, decide_eq_true_eq, beq_iff_eq]; exact ⟨by omega, h7⟩) ?_
          exact EP.le (B := 20 * f + 2015) (by omega) <| fin 2 (by unfold opAlt; rw [if_neg ha, if_neg (by rw [h5]; omega), if_pos ⟨hw, h5, c2.symm⟩])
        · refine e_lit_no (pos := p + 1) (code.getD (a + 4) 0) (by show (code.getD (a + 3) 0 == 16 && code.getD (a + 3 + 1) 0 == code.getD (a + 4) 0 && decide (a + 3 < code.size)) = true; rw [h5]; simp; omega) c2 (EP.le (B := 20 * f + 2010) (by omega) (rest ?_ _ _))
          conv => lhs; unfold opAlt
          rw [if_neg ha, if_neg (by rw [h5]; omega), if_neg (fun h => c2 h.2.2.symm)]
    · refine e_lit_no (code.getD (a + 2) 0) (by show (code.getD (a + 1) 0 == 16 && code.getD (a + 1 + 1) 0 == code.getD (a + 2) 0 && decide (a + 1 < code.size)) = true; rw [h1]; simp; omega) (fun e => hw (by rw [hc] at e; exact (Option.some.inj e).symm)) (EP.le (B := 20 * f + 2010) (by omega) (rest ?_ _ _))
      conv => lhs; unfold opAlt
      rw [if_neg ha, if_neg (fun h => hw h.1), if_neg (fun h => hw h.1)]
/-- the operator at two signs -/
def opLen (c1 : Nat) (c2 : Option Nat) : Option Nat :=
  if (c1, c2) ∈ [(47, some 47), (42, some 42), (61, some 61), (33, some 61), (62, some 61), (60, some 61)] then some 2
  else if c1 ∈ [43, 45, 47, 42, 37, 126, 91, 93, 40, 41, 123, 125, 62, 60, 61, 46, 58, 124, 44, 59] then some 1 else none
theorem op_tab (P : Params) : (sig.all fun c1 => opAlt (cOp P) 40 18 c1 none == opLen c1 none && sig.all fun c2 => opAlt (cOp P) 40 18 c1 (some c2) == opLen c1 (some c2)) = true := by kernel_rfl
theorem mat_op {P' : Params} {x : Str} {p c1 : Nat} {P : M → Prop} (hx : Alph x) (hc : x.cps[p]? = some c1)
    (q1 : ∀ n, opLen c1 x.cps[p + 1]? = some n → ∀ m, Hit 1 p (p + n) m → P m) (q2 : opLen c1 x.cps[p + 1]? = none → ∀ m, Miss m → P m) : Mat (cOp P') 1 x p P := by
  have hp := (at_get hc).1
  have hm : ∀ q c, x.cps[q]? = some c → c ∈ sig := fun q c h => hx c (by
    obtain ⟨h', rfl⟩ := Array.getElem?_eq_some_iff.mp h
    exact Array.mem_toList_iff.mpr (Array.getElem_mem h'))
  have ht := List.all_eq_true.mp (op_tab P') c1 (hm p c1 hc)
  rw [Bool.and_eq_true, beq_iff_eq, List.all_eq_true] at ht
  have e : opAlt (cOp P') 40 18 c1 x.cps[p + 1]? = opLen c1 x.cps[p + 1]? := by
    cases h : x.cps[p + 1]? with
    | none => exact ht.1
    | some c2 => exact beq_iff_eq.mp (ht.2 c2 (hm _ _ h))
  refine mat_start 15 1 (by kernel_rfl) (by omega) (fun hr => ?_) fun hr => by omega
  refine e_mark (i := 0) (t := 17) (by kernel_rfl) ?_
  refine e_branch (a := 18) (t := 19) (by kernel_rfl) (by omega) rfl fun li => ?_
  exact EP.le (B := 20 * 40 + 2000) (by decide) <| e_alts (T := 161) hc (by kernel_rfl) (by kernel_rfl) 40 18 (by kernel_rfl) (Nat.ne_of_beq_eq_false (by kernel_rfl)) (fun n hn => q1 n (e.symm.trans hn)) fun hn => q2 (e.symm.trans hn)
end Rx
end Mine
end
section
open PySem PySem.W PySem.Calls PyProof.Rows
set_option maxRecDepth 100000
set_option linter.all false
set_option maxHeartbeats 4000000
namespace Mine
open Rx
section
variable {w : World} {h : Heap} {x : Str} {p k : Nat}
theorem cnt_pos {f : Nat → Bool} (hc : x.cps[p]? = some k) : 0 < Rx.cnt f (x.cps.toList.drop p) ↔ f k = true := by
  rw [drop_at hc]
  unfold Rx.cnt
  cases f k <;> simp
theorem cnt_one {f : Nat → Bool} (hc : x.cps[p]? = some k) (hk : f k = true) : Rx.cnt f (x.cps.toList.drop p) = Rx.cnt f (x.cps.toList.drop (p + 1)) + 1 := by
  rw [drop_at hc]
  conv => lhs; unfold Rx.cnt
  rw [if_pos hk]
theorem t_ws (B : Base w h) (hx : Alph x) (hl : x.length ≤ 1000) (hc : x.cps[p]? = some k) : Tries h 96 x p (isSp k = false) (fun st e _ => st = p ∧ isSp k = true ∧ e = runEnd x " \n" p) := by
  have hp := Nat.le_of_lt (at_get hc).1
  refine ⟨_, _, pat_ws B, by decide, mat_ws hx hl hp (fun q m hm => .inr ⟨_, _, hm, rfl, (cnt_pos hc).mp q, (run_sp hx hp).symm⟩) fun q m hm => .inl ⟨hm, ?_⟩⟩
  cases e : isSp k with
  | false => rfl
  | true => exact absurd ((cnt_pos hc).mpr e) (by omega)
theorem t_name (B : Base w h) (hx : Alph x) (hl : x.length ≤ 1000) (hc : x.cps[p]? = some k) : Tries h 101 x p (isWd k = false) (fun st e _ => st = p ∧ isWd k = true ∧ e = runEnd x "az01" p) := by
  have hp := Nat.le_of_lt (at_get hc).1
  refine ⟨_, _, pat_name B, by decide, mat_name hx hl hp (fun q m hm => .inr ⟨_, _, hm, rfl, (cnt_pos hc).mp q, (run_wd hx hp).symm⟩) fun q m hm => .inl ⟨hm, ?_⟩⟩
  cases e : isWd k with
  | false => rfl
  | true => exact absurd ((cnt_pos hc).mpr e) (by omega)
theorem t_data (B : Base w h) (hx : Alph x) (hl : x.length ≤ 1000) (hc : x.cps[p]? = some k) : Tries h 135 x p False (fun st e _ => st = p ∧ e = x.length) := by
  have hp := Nat.le_of_lt (at_get hc).1
  have hall : ∀ l : List Nat, Rx.cnt (fun _ => true) l = l.length := fun l => by
    induction l with
    | nil => rfl
    | cons a l ih => unfold Rx.cnt; rw [if_pos rfl, ih]; rfl
  have hlen : p + Rx.cnt (fun _ => true) (x.cps.toList.drop p) = x.length := by
    rw [hall, List.length_drop, len_list]; omega
  exact ⟨_, _, pat_data B, by decide, mat_data hx hl hp (fun q m hm => .inr ⟨_, _, hm, rfl, hlen⟩) fun q m hm => absurd ((cnt_pos (f := fun _ => true) hc).mpr rfl) (by omega)⟩
theorem t_int (B : Base w h) (hx : Alph x) (hl : x.length ≤ 1000) (hc : x.cps[p]? = some k) : Tries h 111 x p (isDg k = false) (fun st e _ => st = p ∧ ((k = 49 ∧ e = runEnd x "01" p) ∨ (k = 48 ∧ e = runEnd x "0" p))) := by
  have hp := Nat.le_of_lt (at_get hc).1
  refine ⟨_, _, pat_int B, by decide, mat_int hx hl hp (fun q m hm => .inr ⟨_, _, hm, rfl, .inl ?_⟩) (fun q m hm => .inr ⟨_, _, hm, rfl, .inr ?_⟩) fun q1 q2 m hm => .inl ⟨hm, ?_⟩⟩
  · rw [hc] at q
    cases q
    refine ⟨rfl, ?_⟩
    rw [run_dg hx hp, cnt_one hc rfl]
    omega
  · rw [hc] at q
    cases q
    refine ⟨rfl, ?_⟩
    rw [run_0 hx hp, cnt_one hc rfl]
    omega
  · rw [hc] at q1 q2
    have h1 : k ≠ 49 := fun e => q1 (by rw [e])
    have h2 : k ≠ 48 := fun e => q2 (by rw [e])
    unfold isDg
    simp [h1, h2]
/-- a fraction begins here -/
noncomputable def fracAt (x : Str) (p : Nat) : Prop := (p = 0 ∨ x.cps[p - 1]? ≠ some 46) ∧ p < runEnd x "01" p ∧ x.cps[runEnd x "01" p]? = some 46 ∧ runEnd x "01" p + 1 < runEnd x "01" (runEnd x "01" p + 1)
theorem t_float (B : Base w h) (hx : Alph x) (hl : x.length ≤ 1000) (hp : p ≤ x.length) : Tries h 116 x p (¬ fracAt x p) (fun st e _ => st = p ∧ fracAt x p ∧ e = runEnd x "01" (runEnd x "01" p + 1)) := by
  have e1 := run_dg hx hp
  have hle := runEnd_le (x := x) (sg := "01") hp
  have e2 : ∀ (q : runEnd x "01" p < x.length), runEnd x "01" (runEnd x "01" p + 1) = runEnd x "01" p + 1 + Rx.cnt isDg (x.cps.toList.drop (runEnd x "01" p + 1)) := fun q => run_dg hx q
  refine ⟨_, _, pat_float B, by decide, mat_float hx hl hp rfl rfl (fun a b c d r hr => .inr ⟨_, _, hr, rfl, ?_, ?_⟩) fun q r hr => .inl ⟨hr, fun f => q ?_⟩⟩
  · rw [← e1] at c
    have := (at_get c).1
    refine ⟨a, by omega, c, ?_⟩
    rw [e2 this]
    rw [← e1] at d
    omega
  · rw [← e1] at c ⊢
    rw [e2 (at_get c).1]
  · obtain ⟨a, b, c, d⟩ := f
    have := (at_get c).1
    rw [e2 this] at d
    rw [← e1]
    exact ⟨a, by omega, c, by omega⟩
theorem t_str (B : Base w h) (hx : Alph x) (hl : x.length ≤ 1000) (hp : p ≤ x.length) {q : Nat} (hq : q = p + 1 + Rx.cnt notQ (x.cps.toList.drop (p + 1))) : Tries h 106 x p (¬ (x.cps[p]? = some 39 ∧ x.cps[q]? = some 39)) (fun st e _ => st = p ∧ x.cps[p]? = some 39 ∧ x.cps[q]? = some 39 ∧ e = q + 1) := by
  subst hq
  exact ⟨_, _, pat_str B, by decide, mat_str hx hl hp (fun a b m hm => .inr ⟨_, _, hm, rfl, a, b, rfl⟩) fun a m hm => .inl ⟨hm, a⟩⟩
theorem t_op (B : Base w h) (hx : Alph x) (hc : x.cps[p]? = some k) : Tries h 125 x p (opLen k x.cps[p + 1]? = none) (fun st e _ => st = p ∧ ∃ n, opLen k x.cps[p + 1]? = some n ∧ e = p + n) :=
  ⟨_, _, pat_op B, by decide, mat_op hx hc (fun n a m hm => .inr ⟨_, _, hm, rfl, n, a, rfl⟩) fun a m hm => .inl ⟨hm, a⟩⟩
theorem t_var (B : Base w h) (hx : Alph x) (hl : x.length ≤ 1000) (hp : p ≤ x.length) : Tries h 165 x p (¬ (x.cps[p]? = some 45 ∧ x.cps[p + 1]? = some 125 ∧ x.cps[p + 2]? = some 125) ∧ ¬ (x.cps[p]? = some 125 ∧ x.cps[p + 1]? = some 125))
    (fun st e _ => st = p ∧ ((x.cps[p]? = some 45 ∧ x.cps[p + 1]? = some 125 ∧ x.cps[p + 2]? = some 125 ∧ e = runEnd x " \n" (p + 3)) ∨ (x.cps[p]? = some 125 ∧ x.cps[p + 1]? = some 125 ∧ e = p + 2))) :=
  ⟨_, _, pat_var B, by decide, mat_var hx hl hp (fun a b c m hm => .inr ⟨_, _, hm, rfl, .inl ⟨a, b, c, (run_sp hx (by have := (at_get c).1; omega)).symm⟩⟩) (fun a b m hm => .inr ⟨_, _, hm, rfl, .inr ⟨a, b, rfl⟩⟩) fun a b m hm => .inl ⟨hm, a, b⟩⟩
end
end Mine
end
section
open PySem PySem.W PySem.Calls PyProof.Rows
set_option maxRecDepth 100000
set_option linter.all false
set_option maxHeartbeats 4000000
namespace Mine
open Rx
section
variable {x : Str} {p k : Nat}
theorem spc_iff (k : Nat) : k ∈ ((" \n" : Str)).cps.toList ↔ isSp k = true := by
  have : ((" \n" : Str)).cps.toList = [32, 10] := by decide +kernel
  rw [this]
  unfold isSp
  simp
  exact Or.comm
theorem az_iff (k : Nat) : k ∈ (("az" : Str)).cps.toList ↔ k = 97 ∨ k = 122 := by
  have : (("az" : Str)).cps.toList = [97, 122] := by decide +kernel
  rw [this]
  simp
theorem dg_iff (k : Nat) : k ∈ (("01" : Str)).cps.toList ↔ k = 48 ∨ k = 49 := by
  have : (("01" : Str)).cps.toList = [48, 49] := by decide +kernel
  rw [this]
  simp
theorem piece_ws (hc : x.cps[p]? = some k) (hs : isSp k = true) : pieceOf x p = some (("whitespace" : Str), sl x p (runEnd x " \n" p)) := by
  unfold pieceOf
  rw [hc]
  simp only
  rw [if_pos ((spc_iff k).mpr hs)]
theorem dg_run (hc : x.cps[p]? = some k) : (sl x p (runEnd x "01" p)).length ≠ 0 ↔ (k = 48 ∨ k = 49) := by
  have hlt := (at_get hc).1
  rw [sl_len]
  constructor
  · intro h
    by_cases hk : k ∈ (("01" : Str)).cps.toList
    · exact (dg_iff k).mp hk
    · rw [runEnd_stop hc hk] at h
      exact absurd (by omega) h
  · intro h
    have := run_pos hc ((dg_iff k).mpr h)
    have := runEnd_le (x := x) (sg := "01") (Nat.le_of_lt hlt)
    omega
theorem piece_name (hc : x.cps[p]? = some k) (hs : k = 97 ∨ k = 122) : pieceOf x p = some (("name" : Str), sl x p (runEnd x "az01" p)) := by
  unfold pieceOf
  rw [hc]
  simp only
  rw [if_neg (fun h => by rw [spc_iff] at h; rcases hs with rfl | rfl <;> cases h), if_neg (fun h => by rw [dg_run hc] at h; omega), if_pos ((az_iff k).mpr hs)]
theorem str_iff {a b : Str} : a = b ↔ a.cps.toList = b.cps.toList := by
  constructor
  · rintro rfl; rfl
  · intro h
    obtain ⟨a⟩ := a
    obtain ⟨b⟩ := b
    have : a = b := Array.toList_inj.mp h
    rw [this]
theorem one_iff {i c : Nat} : sl x i (i + 1) = chr c ↔ x.cps[i]? = some c := by
  rw [str_iff, sl_list, show i + 1 - i = 1 by omega]
  cases h : x.cps[i]? with
  | none =>
    have : x.length ≤ i := by
      by_cases hl : i < x.length
      · rw [Array.getElem?_eq_getElem hl] at h; cases h
      · omega
    rw [List.drop_eq_nil_of_le (by rw [len_list]; exact this)]
    constructor <;> intro e
    · cases e
    · cases e
  | some a =>
    rw [drop_at h]
    show [a] = [c] ↔ _
    constructor <;> intro e <;> cases e <;> rfl
theorem two_iff {i c d : Nat} : sl x i (i + 2) = ⟨#[c, d]⟩ ↔ (x.cps[i]? = some c ∧ x.cps[i + 1]? = some d) := by
  rw [str_iff, sl_list, show i + 2 - i = 2 by omega]
  cases h : x.cps[i]? with
  | none =>
    have : x.length ≤ i := by
      by_cases hl : i < x.length
      · rw [Array.getElem?_eq_getElem hl] at h; cases h
      · omega
    rw [List.drop_eq_nil_of_le (by rw [len_list]; exact this)]
    constructor <;> intro e
    · cases e
    · cases e.1
  | some a =>
    rw [drop_at h]
    cases h2 : x.cps[i + 1]? with
    | none =>
      have : x.length ≤ i + 1 := by
        by_cases hl : i + 1 < x.length
        · rw [Array.getElem?_eq_getElem hl] at h2; cases h2
        · omega
      rw [List.drop_eq_nil_of_le (by rw [len_list]; exact this)]
      constructor <;> intro e
      · cases e
      · cases e.2
    | some b =>
      rw [drop_at h2]
      show [a, b] = [c, d] ↔ _
      constructor
      · intro e; cases e; exact ⟨rfl, rfl⟩
      · rintro ⟨e1, e2⟩; cases e1; cases e2; rfl
theorem sl_join {i j k : Nat} (h1 : i ≤ j) (h2 : j ≤ k) : sl x i j ++ sl x j k = sl x i k := by
  rw [str_iff]
  have : (sl x i j ++ sl x j k).cps.toList = (sl x i j).cps.toList ++ (sl x j k).cps.toList := by
    show ((sl x i j).cps ++ (sl x j k).cps).toList = _
    rw [Array.toList_append]
  rw [this, sl_list, sl_list, sl_list]
  have e : (x.cps.toList.drop i).take (k - i) = (x.cps.toList.drop i).take (j - i) ++ ((x.cps.toList.drop i).drop (j - i)).take (k - j) := by
    rw [← List.take_add]
    congr 1
    omega
  rw [e, List.drop_drop, show i + (j - i) = j by omega]
theorem frac_iff : (sl x (runEnd x "01" p) (runEnd x "01" p + 1) = "." ∧ (sl x (runEnd x "01" p + 1) (runEnd x "01" (runEnd x "01" p + 1))).length ≠ 0 ∧ (p = 0 ∨ ∀ q, x.cps[p - 1]? = some q → chr q ≠ ".")) ∧ p < runEnd x "01" p ↔ fracAt x p := by
  have hd : (("." : Str)) = chr 46 := by decide +kernel
  rw [hd, one_iff, sl_len]
  unfold fracAt
  have h3 : (∀ q, x.cps[p - 1]? = some q → chr q ≠ chr 46) ↔ x.cps[p - 1]? ≠ some 46 := by
    constructor
    · intro h e; exact h 46 e rfl
    · intro h q e hq
      have : q = 46 := by
        have := str_iff.mp hq
        simpa [chr] using this
      subst this
      exact h e
  rw [h3]
  constructor
  · rintro ⟨⟨a, b, c⟩, d⟩
    exact ⟨c, d, a, by omega⟩
  · rintro ⟨a, b, c, d⟩
    have hlt := (at_get c).1
    have hle := runEnd_le (x := x) (sg := "01") (i := runEnd x "01" p + 1) (by omega)
    exact ⟨⟨c, by omega, a⟩, b⟩
theorem piece_float (hc : x.cps[p]? = some k) (hk : k = 48 ∨ k = 49) (hf : fracAt x p) : pieceOf x p = some (("float" : Str), sl x p (runEnd x "01" (runEnd x "01" p + 1))) := by
  have h := frac_iff.mpr hf
  unfold pieceOf
  rw [hc]
  simp only
  rw [if_neg (fun h => by rw [spc_iff] at h; rcases hk with rfl | rfl <;> cases h), if_pos ((dg_run hc).mpr hk), if_pos h.1]
  have hle := runEnd_ge x "01" (runEnd x "01" p + 1)
  have h2 := runEnd_ge x "01" p
  rw [← h.1.1, sl_join h2 (Nat.le_succ _), sl_join (by omega) hle]
theorem piece_int1 (hc : x.cps[p]? = some 49) (hf : ¬ fracAt x p) : pieceOf x p = some (("integer" : Str), sl x p (runEnd x "01" p)) := by
  have hrun := run_pos hc ((dg_iff 49).mpr (.inr rfl))
  unfold pieceOf
  rw [hc]
  simp only
  rw [if_neg (fun h => by rw [spc_iff] at h; cases h), if_pos ((dg_run hc).mpr (.inr rfl)), if_neg (fun h => hf (frac_iff.mp ⟨h, hrun⟩)), if_pos (by decide +kernel)]
theorem piece_int0 (hc : x.cps[p]? = some 48) (hf : ¬ fracAt x p) : pieceOf x p = some (("integer" : Str), sl x p (runEnd x "0" p)) := by
  have hrun := run_pos hc ((dg_iff 48).mpr (.inl rfl))
  unfold pieceOf
  rw [hc]
  simp only
  rw [if_neg (fun h => by rw [spc_iff] at h; cases h), if_pos ((dg_run hc).mpr (.inl rfl)), if_neg (fun h => hf (frac_iff.mp ⟨h, hrun⟩)), if_neg (by decide +kernel)]
end
end Mine
end
section
open PySem PySem.W PySem.Calls PyProof.Rows
set_option maxRecDepth 100000
set_option linter.all false
set_option maxHeartbeats 4000000
namespace Mine
open Rx
section
variable {x : Str} {p k : Nat}
theorem opLen_two {n : Nat} {c2 : Option Nat} (h : opLen k c2 = some n) : (n = 2 ∧ (k, c2) ∈ [(47, some 47), (42, some 42), (61, some 61), (33, some 61), (62, some 61), (60, some 61)]) ∨ (n = 1 ∧ (k, c2) ∉ [(47, some 47), (42, some 42), (61, some 61), (33, some 61), (62, some 61), (60, some 61)] ∧ k ∈ [43, 45, 47, 42, 37, 126, 91, 93, 40, 41, 123, 125, 62, 60, 61, 46, 58, 124, 44, 59]) := by
  unfold opLen at h
  split at h
  · cases h; rename_i e; exact .inl ⟨rfl, e⟩
  · split at h
    · rename_i e1 e2
      cases h; exact .inr ⟨rfl, e1, e2⟩
    · cases h
theorem pairs_iff (hc : x.cps[p]? = some k) : sl x p (p + 2) ∈ pairs ↔ (k, x.cps[p + 1]?) ∈ [(47, some 47), (42, some 42), (61, some 61), (33, some 61), (62, some 61), (60, some 61)] := by
  have e : pairs = [(⟨#[47, 47]⟩ : Str), ⟨#[42, 42]⟩, ⟨#[61, 61]⟩, ⟨#[33, 61]⟩, ⟨#[62, 61]⟩, ⟨#[60, 61]⟩] := by decide +kernel
  rw [e]
  simp only [List.mem_cons, List.not_mem_nil, or_false, two_iff, hc, Option.some.injEq, Prod.mk.injEq]
theorem signs_iff (hk : k ∈ sig) : k ∈ signs1.cps.toList ↔ k ∈ [43, 45, 47, 42, 37, 126, 91, 93, 40, 41, 123, 125, 62, 60, 61, 46, 58, 124, 44, 59] := by
  have : ∀ k ∈ sig, (decide (k ∈ signs1.cps.toList) == decide (k ∈ [43, 45, 47, 42, 37, 126, 91, 93, 40, 41, 123, 125, 62, 60, 61, 46, 58, 124, 44, 59])) = true := by decide +kernel
  have h := beq_iff_eq.mp (this k hk)
  exact decide_eq_decide.mp h
theorem piece_rest (hx : Alph x) (hc : x.cps[p]? = some k) (h1 : isSp k = false) (h2 : isWd k = false) (h3 : k ≠ 39) :
    (∀ n, opLen k x.cps[p + 1]? = some n → pieceOf x p = some (("operator" : Str), sl x p (p + n))) ∧ (opLen k x.cps[p + 1]? = none → pieceOf x p = none) := by
  have hm := mem_sig hx hc
  have hw : k ≠ 48 ∧ k ≠ 49 ∧ k ≠ 97 ∧ k ≠ 122 := by
    unfold isWd at h2
    simp at h2
    omega
  have head : pieceOf x p = if sl x p (p + 2) ∈ pairs then some (("operator" : Str), sl x p (p + 2)) else if k ∈ signs1.cps.toList then some (("operator" : Str), chr k) else none := by
    unfold pieceOf
    rw [hc]
    simp only
    rw [if_neg (fun h => by rw [spc_iff, h1] at h; cases h), if_neg (fun h => by rw [dg_run hc] at h; omega), if_neg (fun h => by rw [az_iff] at h; omega), if_neg (fun h => by
      have e : (("'" : Str)) = chr 39 := by decide +kernel
      rw [e, str_iff] at h
      exact h3 (by simpa [chr] using h))]
  have hone : sl x p (p + 1) = chr k := one_iff.mpr hc
  rw [head]
  constructor
  · intro n hn
    rcases opLen_two hn with ⟨rfl, h⟩ | ⟨rfl, h, h'⟩
    · rw [if_pos ((pairs_iff hc).mpr h)]
    · rw [if_neg (fun e => h ((pairs_iff hc).mp e)), if_pos ((signs_iff hm).mpr h'), hone]
  · intro hn
    unfold opLen at hn
    split at hn
    · cases hn
    · split at hn
      · cases hn
      · rename_i e1 e2
        rw [if_neg (fun e => e1 ((pairs_iff hc).mp e)), if_neg (fun e => e2 ((signs_iff hm).mp e))]
theorem cnt_stop {f : Nat → Bool} : ∀ (l : List Nat) {c : Nat}, l[Rx.cnt f l]? = some c → f c = false
  | [], c, h => by cases h
  | a :: l, c, h => by
    unfold Rx.cnt at h
    cases hf : f a with
    | true =>
      rw [hf, if_pos rfl, List.getElem?_cons_succ] at h
      exact cnt_stop l h
    | false =>
      rw [hf] at h
      simp at h
      subst h
      exact hf
theorem cnt_in {f : Nat → Bool} : ∀ (l : List Nat) {j c : Nat}, j < Rx.cnt f l → l[j]? = some c → f c = true
  | [], j, c, h, e => by cases e
  | a :: l, j, c, h, e => by
    unfold Rx.cnt at h
    cases hf : f a with
    | true =>
      cases j with
      | zero => simp at e; subst e; exact hf
      | succ j =>
        rw [hf, if_pos rfl] at h
        rw [List.getElem?_cons_succ] at e
        exact cnt_in l (by omega) e
    | false =>
      rw [hf] at h
      simp at h
theorem find_quote {q : Nat} (hp : p + 1 ≤ x.length) (hq : q = p + 1 + Rx.cnt notQ (x.cps.toList.drop (p + 1))) :
    (x.cps[q]? = some 39 → Txt.find3 x "'" (p + 1 : Nat) = (q : Int)) ∧ (x.cps[q]? ≠ some 39 → Txt.find3 x "'" (p + 1 : Nat) = -1) := by
  have hfr : fromIndex x.length ((p + 1 : Nat) : Int) = p + 1 := by unfold fromIndex; omega
  have hq39 : (("'" : Str)) = ⟨#[39]⟩ := by decide +kernel
  have before : ∀ v, p + 1 ≤ v → v < q → x.cps.getD v 0 ≠ 39 := fun v h1 h2 e => by
    have hlt : v < x.length := by
      have := cnt_le notQ (x.cps.toList.drop (p + 1))
      rw [List.length_drop, len_list] at this
      omega
    have hv : x.cps[v]? = some (x.cps[v]'hlt) := Array.getElem?_eq_getElem hlt
    have e' : x.cps[v]'hlt = 39 := by
      rw [← e, Array.getD_eq_getD_getElem?, hv]; rfl
    have := cnt_in (f := notQ) (x.cps.toList.drop (p + 1)) (j := v - (p + 1)) (c := 39) (by omega) (by
      rw [List.getElem?_drop, show p + 1 + (v - (p + 1)) = v by omega, Array.getElem?_toList, hv, e'])
    cases this
  have at_q : ∀ c, x.cps[q]? = some c → c = 39 := fun c h => by
    have := cnt_stop (f := notQ) (x.cps.toList.drop (p + 1)) (c := c) (by rw [List.getElem?_drop, ← hq, Array.getElem?_toList, h])
    unfold notQ at this
    simpa using this
  rw [hq39]
  rcases StrLaws.find3_spec x 39 ((p + 1 : Nat) : Int) with ⟨h0, hn⟩ | ⟨v, h0, hlo, hv, hg, hn⟩
  · rw [hfr] at hn
    refine ⟨fun h => ?_, fun _ => h0⟩
    have hlt := (at_get h).1
    exact absurd (at_get h).2 (hn q (by omega) hlt)
  · rw [hfr] at hlo hn
    have hvq : q = v := by
      by_cases h1 : v < q
      · exact absurd hg (before v hlo h1)
      · by_cases h2 : q < v
        · have hlt : q < x.length := by omega
          have hqc : x.cps[q]? = some (x.cps[q]'hlt) := Array.getElem?_eq_getElem hlt
          have := at_q _ hqc
          have h3 : x.cps.getD q 0 = 39 := by rw [Array.getD_eq_getD_getElem?, hqc]; exact this
          exact absurd h3 (hn q (by omega) h2)
        · omega
    refine ⟨fun _ => by rw [h0, hvq], fun h => ?_⟩
    have : x.cps[v]? = some 39 := by
      rw [Array.getElem?_eq_getElem hv]
      rw [Array.getD_eq_getD_getElem?, Array.getElem?_eq_getElem hv] at hg
      exact congrArg some hg
    exact absurd (hvq ▸ this) h
theorem piece_str {q : Nat} (hc : x.cps[p]? = some 39) (hq : q = p + 1 + Rx.cnt notQ (x.cps.toList.drop (p + 1))) :
    (x.cps[q]? = some 39 → pieceOf x p = some (("string" : Str), sl x p (q + 1))) ∧ (x.cps[q]? ≠ some 39 → pieceOf x p = none) := by
  have hlt := (at_get hc).1
  obtain ⟨f1, f2⟩ := find_quote (x := x) (p := p) (by omega) hq
  have head : pieceOf x p = if 0 < Txt.find3 x "'" (p + 1 : Nat) then some (("string" : Str), sl x p ((Txt.find3 x "'" (p + 1 : Nat)).toNat + 1)) else none := by
    unfold pieceOf
    rw [hc]
    simp only
    rw [if_neg (fun h => by rw [spc_iff] at h; cases h), if_neg (fun h => by rw [dg_run hc] at h; omega), if_neg (fun h => by rw [az_iff] at h; omega), if_pos (by decide +kernel)]
  rw [head]
  constructor
  · intro h
    rw [f1 h, if_pos (by omega)]
    rfl
  · intro h
    rw [f2 h, if_neg (by decide)]
end
end Mine
end
section
open PySem PySem.W PySem.Calls PyProof.Rows
set_option maxRecDepth 100000
set_option linter.all false
set_option maxHeartbeats 4000000
namespace Mine
open Rx
theorem Rx.Ends.mono {m : Sre.M} {P P' : Sre.M → Prop} {B : Nat} (q : Rx.Ends B m P) (h : ∀ m, P m → P' m) : Rx.Ends B m P' := by
  obtain ⟨n, a, b, c⟩ := q
  exact ⟨n, a, b, h _ c⟩
theorem Tries.miss {h : Heap} {pa : Addr} {x : Str} {p : Nat} {Fm : Prop} {Fh : Nat → Nat → List Value → Prop} (t : Tries h pa x p Fm Fh) (hf : ∀ st e sp, ¬ Fh st e sp) : Tries h pa x p True (fun _ _ _ => False) := by
  obtain ⟨code, groups, a, b, m⟩ := t
  refine ⟨code, groups, a, b, Rx.Ends.mono m fun m hm => ?_⟩
  rcases hm with ⟨h1, h2⟩ | ⟨st, e, h1, h2⟩
  · exact .inl ⟨h1, trivial⟩
  · exact absurd h2 (hf _ _ _)
theorem Tries.hit {h : Heap} {pa : Addr} {x : Str} {p : Nat} {Fm : Prop} {Fh Fh' : Nat → Nat → List Value → Prop} (t : Tries h pa x p Fm Fh) (hm : ¬ Fm) (hf : ∀ st e sp, Fh st e sp → Fh' st e sp) : Tries h pa x p False Fh' := by
  obtain ⟨code, groups, a, b, m⟩ := t
  refine ⟨code, groups, a, b, Rx.Ends.mono m fun m hq => ?_⟩
  rcases hq with ⟨h1, h2⟩ | ⟨st, e, h1, h2⟩
  · exact absurd h2 hm
  · exact .inr ⟨st, e, h1, hf _ _ _ h2⟩
theorem RulesAt.get {h : Heap} : ∀ {vs rs} (r : RulesAt h vs rs) {i : Nat} {pa : Nat} {tok : Str} {cmd : Option Str}, rs[i]? = some (pa, tok, cmd) → ∃ t, vs[i]? = some (.ref t) ∧ RuleAt h t pa tok cmd
  | _, _, .nil, i, pa, tok, cmd, e => by cases i <;> cases e
  | _, _, .cons a r, 0, pa, tok, cmd, e => by cases e; exact ⟨_, rfl, a⟩
  | _, _, .cons a r, i + 1, pa, tok, cmd, e => by
    rw [List.getElem?_cons_succ] at e ⊢
    exact r.get e
section
variable {c : Cx} {h h₀ : Heap} {E : Value → Heap → Prop} {env : Env} {C : Cons} {G : GSpec} {n : Nat} {fs : List PySem.Frame} {I : Heap → Prop} {L : Addr} {vs : List (Option Value)} {ls : List (Addr × Cell)}
/-- a rule within the variable misses -/
theorem skip {it lv xl S Bk : Addr} {j pa : Nat} {tok : Str} {cmd : Option Str} {vvs sv bv : List Value} {x : Str} {p row : Nat} (hh : (c.ov (FL c.w.params it L) fs).A.handled = none)
    (KV : ∀ h, (∀ b o, b ∉ C.X → h₀.get? b = some o → h.get? b = some o) → Lst h lv vvs ∧ RulesAt h vvs varRules)
    (M : GS C c.w h₀ n I L nsK vs [(S, .lst sv), (Bk, .lst bv), (it, .obj (IterO lv j))] h) (hI : ∀ h h', TupKeep h h' → I h → I h') (F : FR vs xl S lv Bk x p row) (hr : varRules[j]? = some (pa, tok, cmd)) (T : ∀ h', Base c.w h' → Tries h' pa x p True (fun _ _ _ => False)) (hp : p ≤ x.length) (hxl : x.length ≤ 1000)
    (q : ∀ h' vs', FR vs' xl S lv Bk x p row → GS C c.w h₀ n I L nsK vs' [(S, .lst sv), (Bk, .lst bv), (it, .obj (IterO lv (j + 1)))] h' → SG c G n (FL c.w.params it L) ((model c.prog c.w).den (FL c.w.params it L)) fs h') :
    SG c G n (FL c.w.params it L) ((model c.prog c.w).den (FL c.w.params it L)) fs h := by
  obtain ⟨hl, R⟩ := KV h M.keep
  obtain ⟨t, ht, u, w, tt, hw⟩ := R.get hr
  exact turn hh M hI F hl ht tt T hp hxl (fun _ h' vs' F' M' => q h' vs' F' M') fun st e sp a t h' vs' f => f.elim
/-- a rule within the variable hits -/
theorem hit {it lv xl S Bk : Addr} {j pa : Nat} {tok : Str} {cmd : Option Str} {vvs sv bv : List Value} {x : Str} {p row : Nat} {Fh : Nat → Nat → List Value → Prop} (hh : (c.ov (FL c.w.params it L) fs).A.handled = none)
    (KV : ∀ h, (∀ b o, b ∉ C.X → h₀.get? b = some o → h.get? b = some o) → Lst h lv vvs ∧ RulesAt h vvs varRules)
    (M : GS C c.w h₀ n I L nsK vs [(S, .lst sv), (Bk, .lst bv), (it, .obj (IterO lv j))] h) (hI : ∀ h h', TupKeep h h' → I h → I h') (F : FR vs xl S lv Bk x p row) (hr : varRules[j]? = some (pa, tok, cmd)) (T : ∀ h', Base c.w h' → Tries h' pa x p False Fh) (hp : p ≤ x.length) (hxl : x.length ≤ 1000)
    (q : ∀ st e sp a t h' vs' u w, Fh st e sp → FR vs' xl S lv Bk x p row → vs'[15]? = some (some (.str tok u)) → vs'[16]? = some (some w) → (match cmd with | none => w = .none | some y => ∃ v, w = .str y v) → vs'[17]? = some (some (.ref a)) →
      GS C c.w h₀ n (IM I t st e sp) L nsK vs' [(S, .lst sv), (Bk, .lst bv), (it, .obj (IterO lv (j + 1))), (a, .obj (MatchO x t))] h' →
      SX c G n (FL c.w.params it L) fs (loopK (FL c.w.params it L)) (loopH (envT c.w.params L)) (envT c.w.params L) ((sBody (forT c.w.params)).drop 2) h') :
    SG c G n (FL c.w.params it L) ((model c.prog c.w).den (FL c.w.params it L)) fs h := by
  obtain ⟨hl, R⟩ := KV h M.keep
  obtain ⟨t, ht, u, w, tt, hw⟩ := R.get hr
  exact turn hh M hI F hl ht tt T hp hxl (fun f => f.elim) fun st e sp a t h' vs' f F' h15 h16 h17 M' => q st e sp a t h' vs' u w f F' h15 h16 hw h17 M'
end
end Mine
end
section
open PySem PySem.W PySem.Calls PyProof.Rows
set_option maxRecDepth 100000
set_option linter.all false
set_option maxHeartbeats 4000000
namespace Mine
open Rx
section
variable {w : World} {h : Heap} {x : Str} {p : Nat}
theorem mat_end {code : Array Nat} {groups : Nat} (pc0 least : Nat) (h : (code.getD 0 0 == 14 && code.getD 3 0 == least && (1 + code.getD 1 0 == pc0)) = true) (hl : 0 < least) {P : Prop} (hP : P) : Mat code groups x x.length (fun m => (Miss m ∧ P) ∨ (∃ st e, Hit groups st e m ∧ False)) :=
  mat_start pc0 least h (Nat.le_refl _) (fun hr => by omega) fun _ m hm => .inl ⟨hm, hP⟩
/-- at the end of the text nothing is met -/
theorem end_miss (B : Base w h) (hx : x.length ≤ p) (hp : p ≤ x.length) {pa : Nat} {tok : Str} {cmd : Option Str} (hr : (pa, tok, cmd) ∈ varRules) : Tries h pa x p True (fun _ _ _ => False) := by
  have : p = x.length := by omega
  subst this
  simp only [varRules, List.mem_cons, Prod.mk.injEq, List.not_mem_nil, or_false] at hr
  rcases hr with ⟨rfl, -, -⟩ | ⟨rfl, -, -⟩ | ⟨rfl, -, -⟩ | ⟨rfl, -, -⟩ | ⟨rfl, -, -⟩ | ⟨rfl, -, -⟩ | ⟨rfl, -, -⟩
  · exact ⟨_, _, pat_var B, by decide, mat_end 10 2 (by kernel_rfl) (by decide) trivial⟩
  · exact ⟨_, _, pat_ws B, by decide, mat_end 5 1 (by kernel_rfl) (by decide) trivial⟩
  · exact ⟨_, _, pat_float B, by decide, mat_end 5 3 (by kernel_rfl) (by decide) trivial⟩
  · exact ⟨_, _, pat_int B, by decide, mat_end 5 1 (by kernel_rfl) (by decide) trivial⟩
  · exact ⟨_, _, pat_name B, by decide, mat_end 5 1 (by kernel_rfl) (by decide) trivial⟩
  · exact ⟨_, _, pat_str B, by decide, mat_end 10 2 (by kernel_rfl) (by decide) trivial⟩
  · exact ⟨_, _, pat_op B, by decide, mat_end 15 1 (by kernel_rfl) (by decide) trivial⟩
end
end Mine
end
section
open PySem PySem.W PySem.Calls PyProof.Rows
set_option maxRecDepth 100000
set_option linter.all false
set_option maxHeartbeats 4000000
namespace Mine
open Rx
section
variable {c : Cx} {h h₀ : Heap} {E : Value → Heap → Prop} {env : Env} {C : Cons} {G : GSpec} {n : Nat} {fs : List PySem.Frame} {I : Heap → Prop} {L : Addr} {vs : List (Option Value)} {ls : List (Addr × Cell)}
/-- the rules from j on to j + d miss -/
theorem skips {it lv xl S Bk : Addr} {vvs sv bv : List Value} {x : Str} {p row : Nat} (hh : (c.ov (FL c.w.params it L) fs).A.handled = none)
    (KV : ∀ h, (∀ b o, b ∉ C.X → h₀.get? b = some o → h.get? b = some o) → Lst h lv vvs ∧ RulesAt h vvs varRules) (hI : ∀ h h', TupKeep h h' → I h → I h') (hp : p ≤ x.length) (hxl : x.length ≤ 1000) :
    ∀ (d j : Nat) {h : Heap} {vs : List (Option Value)}, j + d ≤ 7 → (∀ i r, j ≤ i → i < j + d → varRules[i]? = some r → ∀ h', Base c.w h' → Tries h' r.1 x p True (fun _ _ _ => False)) →
      GS C c.w h₀ n I L nsK vs [(S, .lst sv), (Bk, .lst bv), (it, .obj (IterO lv j))] h → FR vs xl S lv Bk x p row →
      (∀ h' vs', FR vs' xl S lv Bk x p row → GS C c.w h₀ n I L nsK vs' [(S, .lst sv), (Bk, .lst bv), (it, .obj (IterO lv (j + d)))] h' → SG c G n (FL c.w.params it L) ((model c.prog c.w).den (FL c.w.params it L)) fs h') →
      SG c G n (FL c.w.params it L) ((model c.prog c.w).den (FL c.w.params it L)) fs h := by
  intro d
  induction d with
  | zero => intro j h vs hj ht M F q; exact q h vs F M
  | succ d ih =>
    intro j h vs hj ht M F q
    have hlt : j < varRules.length := by show j < 7; omega
    have hr : varRules[j]? = some (varRules[j]'hlt) := List.getElem?_eq_getElem hlt
    refine skip (tok := (varRules[j]'hlt).2.1) (cmd := (varRules[j]'hlt).2.2) hh KV M hI F hr (ht j _ (Nat.le_refl _) (by omega) hr) hp hxl fun h' vs' F' M' => ?_
    refine ih (j + 1) (by omega) (fun i r h1 h2 h3 => ht i r (by omega) (by omega) h3) M' F' fun h'' vs'' F'' M'' => q h'' vs'' F'' ?_
    rw [show j + 1 + d = j + (d + 1) by omega] at M''
    exact M''
end
end Mine
end
section
open PySem PySem.W PySem.Calls PyProof.Rows
set_option maxRecDepth 100000
set_option linter.all false
set_option maxHeartbeats 4000000
namespace Mine
open Rx
theorem RulesAt.len {h : Heap} : ∀ {vs rs}, RulesAt h vs rs → vs.length = rs.length
  | _, _, .nil => rfl
  | _, _, .cons a r => by rw [List.length_cons, List.length_cons, r.len]
section
variable {c : Cx} {h h₀ : Heap} {E : Value → Heap → Prop} {env : Env} {C : Cons} {G : GSpec} {n : Nat} {fs : List PySem.Frame} {I : Heap → Prop} {L : Addr} {vs : List (Option Value)} {ls : List (Addr × Cell)}
/-- no rule of the variable is left -/
theorem var_end {it lv xl S Bk : Addr} {vvs sv bv : List Value} {x : Str} {p row : Nat} (hh : (c.ov (FL c.w.params it L) fs).A.handled = none) (hh2 : (c.ov (BL c.w.params L) fs).A.handled = none) (D : (c.ov (BL c.w.params L) fs).A.depth + 2 < recursionLimit) (hp0 : c.prog = P0)
    (KV : ∀ h, (∀ b o, b ∉ C.X → h₀.get? b = some o → h.get? b = some o) → Lst h lv vvs ∧ RulesAt h vvs varRules)
    (M : GS C c.w h₀ n I L nsK vs [(S, .lst sv), (Bk, .lst bv), (it, .obj (IterO lv 7))] h) (F : FR vs xl S lv Bk x p row) (hsz : 2 * x.length + 4000 < sizeLine) (hok : ∀ k ∈ x.cps.toList, k < 1114112)
    (q0 : x.length ≤ p → ∀ h', GS C c.w h₀ n I L nsK vs [(S, .lst sv), (Bk, .lst bv)] h' → SG c G n (BL c.w.params L) (.pure (.done (.ret .none))) fs h')
    (q1 : p < x.length → ∀ h1 h' x1 dx t1 tm ur, GS C c.w h₀ n I L nsK vs [(S, .lst sv), (Bk, .lst bv)] h1 → Keep h1 h' → New h1 x1 → New h1 dx → New h1 t1 → x1 ≠ dx → TseAt h' x1 dx t1 (.str (msgChar x p) tm) (.int row ur) → SG c G n (BL c.w.params L) (loopH (envT c.w.params L) (.ref x1)) fs h') :
    SG c G n (FL c.w.params it L) ((model c.prog c.w).den (FL c.w.params it L)) fs h := by
  obtain ⟨hl, R⟩ := KV h M.keep
  have h7 : vvs.length = 7 := R.len
  obtain ⟨t1, f1⟩ := F.f1
  obtain ⟨u6, f6⟩ := F.f6
  obtain ⟨u7, f7⟩ := F.f7
  obtain ⟨u10, f10⟩ := F.f10
  exact for_end (ls := [(S, .lst sv), (Bk, .lst bv)]) (items := vvs) hh hh2 D hp0 (by rw [h7]; exact M) hl f1 F.f2 F.f3 f6 f7 f10 hsz hok q0 fun a h1 h' x1 dx t1 tm M' k n1 n2 n3 ne ht => q1 a h1 h' x1 dx t1 tm _ M' k n1 n2 n3 ne ht
end
end Mine
end
section
open PySem PySem.W PySem.Calls PyProof.Rows
set_option maxRecDepth 100000
set_option linter.all false
set_option maxHeartbeats 4000000
namespace Mine
open Rx
section
variable {c : Cx} {h h₀ : Heap} {E : Value → Heap → Prop} {env : Env} {C : Cons} {G : GSpec} {n : Nat} {fs : List PySem.Frame} {I : Heap → Prop} {L : Addr} {vs : List (Option Value)} {ls : List (Addr × Cell)}
theorem var_tok {it lv xl S Bk : Addr} {vvs sv bv : List Value} {x : Str} {p row k : Nat} (hh : (c.ov (FL c.w.params it L) fs).A.handled = none)
    (KV : ∀ h, (∀ b o, b ∉ C.X → h₀.get? b = some o → h.get? b = some o) → Lst h lv vvs ∧ RulesAt h vvs varRules) (hI : ∀ h h', TupKeep h h' → I h → I h') (hx : Alph x) (hxl : x.length ≤ 1000) (hc : x.cps[p]? = some k)
    (M : GS C c.w h₀ n I L nsK vs [(S, .lst sv), (Bk, .lst bv), (it, .obj (IterO lv 1))] h) (F : FR vs xl S lv Bk x p row)
    (qn : pieceOf x p = none → ∀ h' vs', FR vs' xl S lv Bk x p row → GS C c.w h₀ n I L nsK vs' [(S, .lst sv), (Bk, .lst bv), (it, .obj (IterO lv 7))] h' → SG c G n (FL c.w.params it L) ((model c.prog c.w).den (FL c.w.params it L)) fs h')
    (qt : ∀ kd e j a t sp h' vs' u, pieceOf x p = some (kd, sl x p e) → p < e → e ≤ x.length → FR vs' xl S lv Bk x p row → vs'[15]? = some (some (.str kd u)) → vs'[16]? = some (some .none) → vs'[17]? = some (some (.ref a)) →
      GS C c.w h₀ n (IM I t p e sp) L nsK vs' [(S, .lst sv), (Bk, .lst bv), (it, .obj (IterO lv j)), (a, .obj (MatchO x t))] h' →
      SX c G n (FL c.w.params it L) fs (loopK (FL c.w.params it L)) (loopH (envT c.w.params L)) (envT c.w.params L) ((sBody (forT c.w.params)).drop 2) h') :
    SG c G n (FL c.w.params it L) ((model c.prog c.w).den (FL c.w.params it L)) fs h := by
  have hlt := (at_get hc).1
  have hp := Nat.le_of_lt hlt
  -- whitespace
  cases hs : isSp k with
  | true =>
    refine hit (j := 1) hh KV M hI F rfl (fun h' B => (t_ws B hx hxl hc).hit (by rw [hs]; simp) fun st e sp f => f) hp hxl ?_
    rintro st e sp a t h' vs' u w ⟨rfl, -, rfl⟩ F' h15 h16 hw h17 M'
    cases hw
    exact qt _ _ _ _ _ _ _ _ _ (piece_ws hc hs) (run_pos hc ((spc_iff k).mpr hs)) (runEnd_le hp) F' h15 h16 h17 M'
  | false =>
  refine skip (j := 1) hh KV M hI F rfl (fun h' B => (t_ws B hx hxl hc).miss fun st e sp f => by rw [hs] at f; exact absurd f.2.1 (by simp)) hp hxl fun h1 vs1 F1 M1 => ?_
  by_cases hd : k = 48 ∨ k = 49
  · by_cases hf : fracAt x p
    · refine hit (j := 2) hh KV M1 hI F1 rfl (fun h' B => (t_float B hx hxl hp).hit (fun q => q hf) fun st e sp f => f) hp hxl ?_
      rintro st e sp a t h' vs' u w ⟨rfl, -, rfl⟩ F' h15 h16 hw h17 M'
      cases hw
      have h3 := hf.2.1
      have h4 := hf.2.2.2
      have h5 := (at_get hf.2.2.1).1
      exact qt _ _ _ _ _ _ _ _ _ (piece_float hc hd hf) (by omega) (runEnd_le (by omega)) F' h15 h16 h17 M'
    · refine skip (j := 2) hh KV M1 hI F1 rfl (fun h' B => (t_float B hx hxl hp).miss fun st e sp f => hf f.2.1) hp hxl fun h2 vs2 F2 M2 => ?_
      have hk : isDg k = true := by rcases hd with rfl | rfl <;> rfl
      refine hit (j := 3) hh KV M2 hI F2 rfl (fun h' B => (t_int B hx hxl hc).hit (by rw [hk]; simp) fun st e sp f => f) hp hxl ?_
      rintro st e sp a t h' vs' u w ⟨rfl, hq⟩ F' h15 h16 hw h17 M'
      cases hw
      rcases hq with ⟨rfl, rfl⟩ | ⟨rfl, rfl⟩
      · exact qt _ _ _ _ _ _ _ _ _ (piece_int1 hc hf) (run_pos hc ((dg_iff 49).mpr (.inr rfl))) (runEnd_le hp) F' h15 h16 h17 M'
      · exact qt _ _ _ _ _ _ _ _ _ (piece_int0 hc hf) (run_pos hc (by decide +kernel)) (runEnd_le hp) F' h15 h16 h17 M'
  have hk : isDg k = false := by unfold isDg; simp; omega
  have hnf : ¬ fracAt x p := fun f => by
    have h3 := f.2.1
    rw [runEnd_stop hc (fun e => hd ((dg_iff k).mp e))] at h3
    omega
  refine skip (j := 2) hh KV M1 hI F1 rfl (fun h' B => (t_float B hx hxl hp).miss fun st e sp f => hnf f.2.1) hp hxl fun h2 vs2 F2 M2 => ?_
  refine skip (j := 3) hh KV M2 hI F2 rfl (fun h' B => (t_int B hx hxl hc).miss fun st e sp f => hd (by rcases f.2 with ⟨e, -⟩ | ⟨e, -⟩ <;> omega)) hp hxl fun h3 vs3 F3 M3 => ?_
  by_cases ha : k = 97 ∨ k = 122
  · have hw : isWd k = true := by rcases ha with rfl | rfl <;> rfl
    refine hit (j := 4) hh KV M3 hI F3 rfl (fun h' B => (t_name B hx hxl hc).hit (by rw [hw]; simp) fun st e sp f => f) hp hxl ?_
    rintro st e sp a t h' vs' u w ⟨rfl, -, rfl⟩ F' h15 h16 hw h17 M'
    cases hw
    have hm : k ∈ (("az01" : Str)).cps.toList := by rcases ha with rfl | rfl <;> decide +kernel
    exact qt _ _ _ _ _ _ _ _ _ (piece_name hc ha) (run_pos hc hm) (runEnd_le hp) F' h15 h16 h17 M'
  have hw : isWd k = false := by unfold isWd; simp; omega
  refine skip (j := 4) hh KV M3 hI F3 rfl (fun h' B => (t_name B hx hxl hc).miss fun st e sp f => by rw [hw] at f; exact absurd f.2.1 (by simp)) hp hxl fun h4 vs4 F4 M4 => ?_
  generalize hq : p + 1 + Rx.cnt notQ (x.cps.toList.drop (p + 1)) = q
  by_cases h39 : k = 39
  · subst h39
    obtain ⟨s1, s2⟩ := piece_str hc hq.symm
    by_cases hz : x.cps[q]? = some 39
    · refine hit (j := 5) hh KV M4 hI F4 rfl (fun h' B => (t_str B hx hxl hp hq.symm).hit (fun n => n ⟨hc, hz⟩) fun st e sp f => f) hp hxl ?_
      rintro st e sp a t h' vs' u w ⟨rfl, -, -, rfl⟩ F' h15 h16 hw h17 M'
      cases hw
      have := (at_get hz).1
      exact qt _ _ _ _ _ _ _ _ _ (s1 hz) (by omega) (by omega) F' h15 h16 h17 M'
    · refine skip (j := 5) hh KV M4 hI F4 rfl (fun h' B => (t_str B hx hxl hp hq.symm).miss fun st e sp f => hz f.2.2.1) hp hxl fun h5 vs5 F5 M5 => ?_
      refine skip (j := 6) hh KV M5 hI F5 rfl (fun h' B => (t_op B hx hc).miss fun st e sp f => by obtain ⟨-, m, f, -⟩ := f; unfold opLen at f; simp at f) hp hxl fun h6 vs6 F6 M6 => qn (s2 hz) h6 vs6 F6 M6
  refine skip (j := 5) hh KV M4 hI F4 rfl (fun h' B => (t_str B hx hxl hp hq.symm).miss fun st e sp f => by rw [hc] at f; exact h39 (Option.some.inj f.2.1)) hp hxl fun h5 vs5 F5 M5 => ?_
  obtain ⟨r1, r2⟩ := piece_rest hx hc hs hw h39
  cases ho : opLen k x.cps[p + 1]? with
  | none => exact skip (j := 6) hh KV M5 hI F5 rfl (fun h' B => (t_op B hx hc).miss fun st e sp f => by obtain ⟨-, m, f, -⟩ := f; rw [ho] at f; cases f) hp hxl fun h6 vs6 F6 M6 => qn (r2 ho) h6 vs6 F6 M6
  | some m =>
    refine hit (j := 6) hh KV M5 hI F5 rfl (fun h' B => (t_op B hx hc).hit (by rw [ho]; simp) fun st e sp f => f) hp hxl ?_
    rintro st e sp a t h' vs' u w ⟨rfl, m', hm', rfl⟩ F' h15 h16 hw h17 M'
    cases hw
    have hb : 0 < m' ∧ st + m' ≤ x.length := by
      rcases opLen_two hm' with ⟨rfl, hl⟩ | ⟨rfl, -, -⟩
      · refine ⟨by omega, ?_⟩
        cases h2 : x.cps[st + 1]? with
        | none => rw [h2] at hl; simp at hl
        | some c2 => have := (at_get h2).1; omega
      · omega
    exact qt _ _ _ _ _ _ _ _ _ (r1 m' hm') (by omega) hb.2 F' h15 h16 h17 M'
end
end Mine
end
section
open PySem PySem.W PySem.Calls PyProof.Rows
set_option maxRecDepth 100000
set_option linter.all false
set_option maxHeartbeats 4000000
namespace Mine
open Rx
/-- the variable's end stands here and reaches to e -/
noncomputable def closesTo (x : Str) (p e : Nat) : Prop := (x.cps[p]? = some 45 ∧ x.cps[p + 1]? = some 125 ∧ x.cps[p + 2]? = some 125 ∧ e = runEnd x " \n" (p + 3)) ∨ (x.cps[p]? = some 125 ∧ x.cps[p + 1]? = some 125 ∧ e = p + 2)
theorem closes_lt {x : Str} {p e : Nat} (h : closesTo x p e) : p < e ∧ e ≤ x.length := by
  rcases h with ⟨-, -, h, rfl⟩ | ⟨-, h, rfl⟩
  · have h1 := (at_get h).1
    have h2 := runEnd_ge x " \n" (p + 3)
    exact ⟨by omega, runEnd_le (by omega)⟩
  · have := (at_get h).1
    omega
section
variable {c : Cx} {h h₀ : Heap} {E : Value → Heap → Prop} {env : Env} {C : Cons} {G : GSpec} {n : Nat} {fs : List PySem.Frame} {I : Heap → Prop} {L : Addr} {vs : List (Option Value)} {ls : List (Addr × Cell)}
theorem var_first {it lv xl S Bk : Addr} {vvs sv bv : List Value} {x : Str} {p row : Nat} (hh : (c.ov (FL c.w.params it L) fs).A.handled = none)
    (KV : ∀ h, (∀ b o, b ∉ C.X → h₀.get? b = some o → h.get? b = some o) → Lst h lv vvs ∧ RulesAt h vvs varRules) (hI : ∀ h h', TupKeep h h' → I h → I h') (hx : Alph x) (hxl : x.length ≤ 1000) (hp : p ≤ x.length)
    (M : GS C c.w h₀ n I L nsK vs [(S, .lst sv), (Bk, .lst bv), (it, .obj (IterO lv 0))] h) (F : FR vs xl S lv Bk x p row)
    (qs : (∀ e, ¬ closesTo x p e) → ∀ h' vs', FR vs' xl S lv Bk x p row → GS C c.w h₀ n I L nsK vs' [(S, .lst sv), (Bk, .lst bv), (it, .obj (IterO lv 1))] h' → SG c G n (FL c.w.params it L) ((model c.prog c.w).den (FL c.w.params it L)) fs h')
    (qe : ∀ e a t sp h' vs' u v, closesTo x p e → FR vs' xl S lv Bk x p row → vs'[15]? = some (some (.str "variable_end" u)) → vs'[16]? = some (some (.str "#pop" v)) → vs'[17]? = some (some (.ref a)) →
      GS C c.w h₀ n (IM I t p e sp) L nsK vs' [(S, .lst sv), (Bk, .lst bv), (it, .obj (IterO lv 1)), (a, .obj (MatchO x t))] h' →
      SX c G n (FL c.w.params it L) fs (loopK (FL c.w.params it L)) (loopH (envT c.w.params L)) (envT c.w.params L) ((sBody (forT c.w.params)).drop 2) h') :
    SG c G n (FL c.w.params it L) ((model c.prog c.w).den (FL c.w.params it L)) fs h := by
  by_cases hz : ∃ e, closesTo x p e
  · refine hit (j := 0) hh KV M hI F rfl (fun h' B => (t_var B hx hxl hp).hit (fun q => ?_) fun st e sp f => f) hp hxl ?_
    · obtain ⟨e, ⟨a1, a2, a3, -⟩ | ⟨a1, a2, -⟩⟩ := hz
      · exact q.1 ⟨a1, a2, a3⟩
      · exact q.2 ⟨a1, a2⟩
    · rintro st e sp a t h' vs' u w ⟨rfl, hq⟩ F' h15 h16 ⟨v, rfl⟩ h17 M'
      exact qe e a t sp h' vs' u v hq F' h15 h16 h17 M'
  · refine skip (j := 0) hh KV M hI F rfl (fun h' B => (t_var B hx hxl hp).miss fun st e sp f => hz ⟨e, f.2⟩) hp hxl fun h1 vs1 F1 M1 => qs (fun e he => hz ⟨e, he⟩) h1 vs1 F1 M1
end
end Mine
end
section
open PySem PySem.W PySem.Calls PyProof.Rows
set_option maxRecDepth 100000
set_option linter.all false
set_option maxHeartbeats 4000000
namespace Mine
open Rx
theorem three_iff {x : Str} {i a b d : Nat} : sl x i (i + 3) = ⟨#[a, b, d]⟩ ↔ (x.cps[i]? = some a ∧ x.cps[i + 1]? = some b ∧ x.cps[i + 2]? = some d) := by
  have hj : sl x i (i + 3) = sl x i (i + 1) ++ sl x (i + 1) (i + 1 + 2) := by rw [sl_join (by omega) (by omega)]
  rw [show i + 2 = i + 1 + 1 by omega, ← two_iff (x := x) (i := i + 1), ← one_iff (x := x) (i := i)]
  constructor
  · intro e
    have hc : ∀ k, x.cps[i + k]? = (sl x i (i + 3)).cps.toList[k]? ∨ 3 ≤ k := fun k => by
      by_cases h : 3 ≤ k
      · exact .inr h
      · left
        rw [sl_list, List.getElem?_take, if_pos (by omega), List.getElem?_drop, Array.getElem?_toList]
    rw [e] at hc
    have h0 := (hc 0).resolve_right (by omega)
    have h1 := (hc 1).resolve_right (by omega)
    have h2 := (hc 2).resolve_right (by omega)
    exact ⟨one_iff.mpr (by simpa using h0), two_iff.mpr ⟨by simpa using h1, by simpa using h2⟩⟩
  · rintro ⟨e1, e2⟩
    rw [hj, e1, e2]
    rfl
/-- the variable's end, as the law says it -/
theorem stepV_leave {x : Str} {p row e : Nat} (h : closesTo x p e) : stepV x p row [] = ([((row, ("variable_end" : Str), sl x p e) : Tk)], .leave e (row + nl (sl x p e))) := by
  have e3 : (("-}}" : Str)) = ⟨#[45, 125, 125]⟩ := by decide +kernel
  have e2 : (("}}" : Str)) = ⟨#[125, 125]⟩ := by decide +kernel
  unfold stepV
  rcases h with ⟨a, b, d, rfl⟩ | ⟨a, b, rfl⟩
  · have h3 : sl x p (p + 3) = "-}}" := by rw [e3]; exact three_iff.mpr ⟨a, b, d⟩
    rw [if_neg (fun q => by rw [e2, two_iff, a] at q; exact absurd q.2.1 (by simp)), if_pos ⟨rfl, h3⟩]
    have hg := runEnd_ge x " \n" (p + 3)
    have hj : ("-}}" : Str) ++ sl x (p + 3) (runEnd x " \n" (p + 3)) = sl x p (runEnd x " \n" (p + 3)) := by rw [← h3, sl_join (by omega) hg]
    have hlen : p + (sl x p (runEnd x " \n" (p + 3))).length = runEnd x " \n" (p + 3) := by
      have h1 := (at_get d).1
      have h2 := runEnd_le (x := x) (sg := " \n") (i := p + 3) (by omega)
      rw [sl_len]; omega
    rw [hj, hlen]
  · have h2 : sl x p (p + 2) = "}}" := by rw [e2]; exact two_iff.mpr ⟨a, b⟩
    rw [if_pos ⟨rfl, h2⟩, h2]
    have : nl "}}" = 0 := by decide +kernel
    rw [this]
    rfl
/-- else the law looks for a piece -/
theorem stepV_tok {x : Str} {p row : Nat} {stk : List Str} (h : stk ≠ [] ∨ ∀ e, ¬ closesTo x p e) : stepV x p row stk = (match pieceOf x p with
    | none => ([], .fault (msgChar x p) row)
    | some (k, y) => match nextStk stk y with
      | .error m => ([], .fault m row)
      | .ok stk' => ([((row, k, y) : Tk)], .go (p + y.length) (row + nl y) stk')) := by
  have e3 : (("-}}" : Str)) = ⟨#[45, 125, 125]⟩ := by decide +kernel
  have e2 : (("}}" : Str)) = ⟨#[125, 125]⟩ := by decide +kernel
  unfold stepV
  rw [if_neg (fun q => by
    rcases h with h | h
    · exact h q.1
    · rw [e2, two_iff] at q; exact h _ (.inr ⟨q.2.1, q.2.2, rfl⟩)), if_neg (fun q => by
    rcases h with h | h
    · exact h q.1
    · rw [e3, three_iff] at q; exact h _ (.inl ⟨q.2.1, q.2.2.1, q.2.2.2, rfl⟩))]
  all_goals (
    cases pieceOf x p with
    | none => rfl
    | some ky =>
      obtain ⟨k, y⟩ := ky
      dsimp only
      cases nextStk stk y <;> rfl)
end Mine
end
section
open PySem PySem.W PySem.Calls PyProof.Rows
set_option maxRecDepth 100000
set_option linter.all false
set_option maxHeartbeats 4000000
namespace Mine
noncomputable abbrev FC (P : Params) (L : Addr) : Code := .func (fbody (top.o_480 P)) (envT P L)
/-- the frames around the while -/
noncomputable abbrev fsW (P : Params) (L : Addr) (p0 : Pos) : List PySem.Frame := [frL (FC P L) p0 (envT P L) (nextK [] (envT P L) funcK (funcH (envT P L))) (funcH (envT P L))]
/-- the frames around the for -/
noncomputable abbrev fsF (P : Params) (L : Addr) (p0 p1 : Pos) : List PySem.Frame := frL (WL P L) p1 (envT P L) (nextK [] (envT P L) (loopK (WL P L)) (loopH (envT P L))) (loopH (envT P L)) :: fsW P L p0
theorem fsF_gen (P : Params) (L : Addr) (p0 p1 : Pos) : splitAtGen (fsF P L p0 p1) = none := rfl
theorem fsF_grd (P : Params) (L : Addr) (p0 p1 : Pos) : (fsF P L p0 p1).any Frame.guarded = false := rfl
theorem fsF_hh {c : Cx} {P : Params} {L it : Addr} {p0 p1 : Pos} (h : c.A.handled = none) : (c.ov (FL P it L) (fsF P L p0 p1)).A.handled = none := h
theorem fsF_hh2 {c : Cx} {P : Params} {L : Addr} {p0 p1 : Pos} (h : c.A.handled = none) : (c.ov (BL P L) (fsF P L p0 p1)).A.handled = none := h
end Mine
end
section
open PySem PySem.W PySem.Calls PyProof.Rows
set_option maxRecDepth 100000
set_option linter.all false
set_option maxHeartbeats 4000000
namespace Mine
def genObj (g : Nat) (nm qn : Value) : Obj := { cls := .type "generator", data := .fields #[.int g 0, nm, qn] }
abbrev Cx.wg (c : Cx) (g : Array GenState) : Cx := { c with g := g }
/-- the generator is made -/
theorem gen_call {c : Cx} {h : Heap} (B : Base c.w h) (D : c.A.depth < recursionLimit) {v0 v1 v2 v3 v4 : Value} {R : Result → Shared → Prop}
    (q : ∀ h₁ L nm qn tk, Fm h L nsK (([v0, v1, v2, v3, v4] : List Value).map some ++ ([("lines" : Str), "pos", "lineno", "stack", "statetokens", "source_length", "balancing_stack", "newlines_stripped", "line_starting", "regex", "tokens", "new_state", "m", "groups", "text", "strip_sign", "stripped", "l_pos", "idx", "token", "key", "value", "data", "expected_op", "pos2"] : List Str).map fun _ => none) h₁ →
      R (.ok (.ret (.ref h₁.objs.size))) ((c.wg (c.g.push (.fresh (FC c.w.params L)))).st (h₁.push (genObj c.g.size nm qn)) tk)) : ∀ tk, codeAny (model c.prog c.w) c.A (.call (.ref 429) ⟨[v0, v1, v2, v3, v4], []⟩) R (c.st h tk) := fun tk => by
  have X := okT c.w.params
  have hdata : (top.o_480 c.w.params).data = .func (fnOf (fname (top.o_480 c.w.params)) "Lexer.tokeniter" (fparams (top.o_480 c.w.params)) (fbody (top.o_480 c.w.params)) (fscope (top.o_480 c.w.params)) (fdef (top.o_480 c.w.params)) (fkwd (top.o_480 c.w.params)) (fdoc (top.o_480 c.w.params)) (fmod (top.o_480 c.w.params)) (fann (top.o_480 c.w.params)) (.ref 428) (fct (top.o_480 c.w.params))) := by kernel_rfl
  have hbind : rd0 (lookB c.w.params) (bindArgs (fnOf (fname (top.o_480 c.w.params)) "Lexer.tokeniter" (fparams (top.o_480 c.w.params)) (fbody (top.o_480 c.w.params)) (fscope (top.o_480 c.w.params)) (fdef (top.o_480 c.w.params)) (fkwd (top.o_480 c.w.params)) (fdoc (top.o_480 c.w.params)) (fmod (top.o_480 c.w.params)) (fann (top.o_480 c.w.params)) (.ref 428) (fct (top.o_480 c.w.params))) ⟨[v0, v1, v2, v3, v4], []⟩) = some (([("self" : Str), "source", "name", "filename", "state"] : List Str).zip [v0, v1, v2, v3, v4]) := by kernel_rfl
  have hcell : cellFree (fscope (top.o_480 c.w.params)) = true := by kernel_rfl
  refine codeAny_call_generator (s := c.st h tk) D (base_at B (by kernel_rfl) (by decide) (by kernel_rfl)) hdata (by kernel_rfl) (by kernel_rfl) rfl (cr_of (top.o_479 c.w.params) B (by kernel_rfl) (by decide) (by kernel_rfl) (by kernel_rfl)) ?_
  refine fun Γ p hΓ => ?_
  refine rd0_wp (s := c.st h tk) (lookB_ok (w := c.w) B) ?_ hbind
  refine wpAny_newFunctionEnv (cellFree.of hcell) (fun y hy => X.loc y.1 (List.mem_append_left _ (List.of_mem_zip hy).1)) (fun h₁ hn hs => ?_) X.kind
  have hk : Keep h h₁ := fun b o e => hs.extBut b o (Nat.ne_of_lt (Heap.lt_size e)) (Heap.get?_push_of_some _ e)
  rw [frm_binds X.nd rfl] at hn
  exact ⟨base_lim (B.mono hk), q h₁ h.objs.size _ _ _ ⟨hn, hk, Nat.le_refl _⟩⟩
end Mine
end
section
open PySem PySem.W PySem.Calls PyProof.Rows
set_option maxRecDepth 100000
set_option linter.all false
set_option maxHeartbeats 4000000
namespace Mine
/-- the parts of _law_told -/
def tBody : Stmt → List Stmt | .Try b _ _ _ _ => b | _ => []
def tHand : Stmt → List ExceptHandler | .Try _ h _ _ _ => h | _ => []
def sIter : Stmt → Expr | .For _ i _ _ _ => i | _ => .Constant .none 0 { line := 0, col := 0, endLine := 0, endCol := 0 }
noncomputable def toldB (P : Params) : List Stmt := fbody (top.o_605 P)
noncomputable def tryT (P : Params) : Stmt := hdS ((toldB P).drop 1)
noncomputable def forL (P : Params) : Stmt := hdS (tBody (tryT P))
abbrev nsU : List Str := ([("lexer" : Str), "source", "begun"] : List Str) ++ [("told" : Str), "token", "error"]
noncomputable abbrev envL (P : Params) (Lc : Addr) : Env := envOf "_law_told" (fscope (top.o_605 P)) Lc 544 (.ref 543)
theorem okL (P : Params) : FnOk nsU (fscope (top.o_605 P)) := FnOk.of (by kernel_rfl)
abbrev vsU (xl : Addr) (x0 : Str) (t : Tok) (b : Value) (T : Addr) (tv : Option Value) : List (Option Value) := [some (.ref xl), some (.str x0 t), some b, some (.ref T), tv, none]
section
variable {c : Cx} {h : Heap} {E : Value → Shared → Prop}
/-- the generator is asked for -/
theorem told_iter (B : Base c.w h) (D : c.A.depth < recursionLimit) {Lc xl dx T : Addr} {x0 : Str} {t : Tok} {b : Value} {kvs : List (Str × Value)} {tv : Option Value} {Q : Value → Shared → Prop} (N : h.Ns Lc (frm nsU (vsU xl x0 t b T tv)))
    (hx : h.get? xl = some (instObj 432 dx)) (hd : ∃ o, h.get? dx = some o ∧ EntsO kvs o) (hk : kvs.lookup ("tokeniter" : Str) = none)
    (q : ∀ h₁ L nm qn tk, Fm h L nsK (([.ref xl, .str x0 t, .none, .none, b] : List Value).map some ++ ([("lines" : Str), "pos", "lineno", "stack", "statetokens", "source_length", "balancing_stack", "newlines_stripped", "line_starting", "regex", "tokens", "new_state", "m", "groups", "text", "strip_sign", "stripped", "l_pos", "idx", "token", "key", "value", "data", "expected_op", "pos2"] : List Str).map fun _ => none) h₁ →
      Q (.ref h₁.objs.size) ((c.wg (c.g.push (.fresh (FC c.w.params L)))).st (h₁.push (genObj c.g.size nm qn)) tk)) : ∀ tk, wpAny (model c.prog c.w) c.A (eval (sIter (forL c.w.params)) (envL c.w.params Lc)) Q E (c.st h tk) := fun tk => by
  have X := okL c.w.params
  obtain ⟨od, hd1, es, n, rfl, en⟩ := hd
  have K := KF_in B
  have I := inst_at hx hd1
  refine methodCall_KW (wpAny_mono (w_loc (c := c) (E := fun _ _ => False) (Q := fun v h' => v = .ref xl ∧ h' = h) X N (i := 0) rfl rfl ⟨rfl, rfl⟩ tk) (fun ov s' ⟨h', tk', e, hv, hh⟩ => ?_) fun _ _ ⟨_, _, _, f⟩ => f.elim)
  subst e hv hh
  have hl : getL ("tokeniter" : Str) es = some none := by rw [en.look, hk]
  refine method_fn (s := c.st h' tk') K I (by kernel_rfl) (by kernel_rfl) (f := 429) (by kernel_rfl) (by kernel_rfl) (by show (lookIn _ (dictOf es n)).map _ = _; rw [lookIn_dict, hl]; rfl) ?_
  refine callWith_K (h₀ := h') K (by kernel_rfl) (wpAny_mono ((w_args (Q := fun vs g => vs = [.str x0 t, .none, .none, b] ∧ g = h') <| w_loc (c := c) (E := fun _ _ => False) X N (i := 1) rfl rfl <| w_args <| w_none <| w_args <| w_none <| w_args <| w_loc X N (i := 2) rfl rfl <| w_args_nil ⟨rfl, rfl⟩) tk') (fun vs s' ⟨g, tk2, e, hv, hh⟩ => ?_) fun _ _ ⟨_, _, _, f⟩ => f.elim)
  subst e hv hh
  exact ⟨K, wpAny_call (gen_call (c := c) B D (R := fun r s' => match r with | .ok (.ret v) => Q v s' | .ok _ => False | .error e => E e s') (fun h₁ L nm qn tk F => q h₁ L nm qn tk F) tk2)⟩
end
end Mine
end
section
open PySem PySem.W PySem.Calls PyProof.Rows
set_option maxRecDepth 100000
set_option linter.all false
set_option maxHeartbeats 4000000
namespace Mine
section
variable {c : Cx} {h h₀ : Heap} {C : Cons} {G : GSpec} {n : Nat} {I : Heap → Prop} {L : Addr} {vs : List (Option Value)} {ls : List (Addr × Cell)}
/-- the head of the while: the rules of the state are taken up -/
theorem while_for {R : Addr} {items : List Value} {p0 : Pos} (M : GS C c.w h₀ n I L nsK vs ls h) (h9 : vs[9]? = some (some (.ref R))) (hl : Lst h R items)
    (q : ∀ p1 it h', GS C c.w h₀ n I L nsK vs (ls ++ [(it, .obj (IterO R 0))]) h' → SG c G n (FL c.w.params it L) ((model c.prog c.w).den (FL c.w.params it L)) (fsF c.w.params L p0 p1) h') :
    SG c G n (WL c.w.params L) ((model c.prog c.w).den (WL c.w.params L)) (fsW c.w.params L p0) h := by
  have X := okT c.w.params
  refine sg_whileLoop <| w_tval <| w_bool <| w_tbool ?_
  rw [if_pos rfl]
  refine sx_cons <| se_for <| w_loc X M.ns (i := 9) rfl h9 <| w_iter_list hl.isList fun it h1 nit k1 hit p1 => ?_
  obtain ⟨o, e1, e2, e3⟩ := hit
  have M1 := MS.addO M nit (M.fresh nit) k1 (P := IterO R 0) ⟨o, e1, e2, e3⟩ IterO.nt
  rw [List.append_assoc] at M1
  exact q p1 it h1 M1
/-- a turn that ends: on to the next -/
theorem for_done {it : Addr} {p0 p1 : Pos} (q : SG c G n (WL c.w.params L) ((model c.prog c.w).den (WL c.w.params L)) (fsW c.w.params L p0) h) :
    SG c G n (FL c.w.params it L) (.pure (.done .next)) (fsF c.w.params L p0 p1) h := by
  refine sg_ret ?_
  exact sx_done (sx_nil (sg_again rfl q))
end
end Mine
end
section
open PySem PySem.W PySem.Calls PyProof.Rows
set_option maxRecDepth 100000
set_option linter.all false
set_option maxHeartbeats 4000000
namespace Mine
section
variable {c : Cx} {h h₀ : Heap} {C : Cons} {G : GSpec} {n : Nat} {I : Heap → Prop} {L : Addr} {vs : List (Option Value)} {ls : List (Addr × Cell)}
/-- an exception goes out of the generator, from a rule's turn -/
theorem out_for {it x dx t1 : Addr} {m l : Value} {p0 p1 : Pos} {outer : List Env} (hfr : c.A.frames = some outer) (hbk : Base c.w C.K) (hdk : ∀ b, New h₀ b → New C.K b) (M : GS C c.w h₀ n I L nsK vs ls h) (hO : ∀ h', C.at c.w h₀ n h' → h'.FunFrames (H1 c.w.params) outer)
    {h' : Heap} (k : Keep h h') (nx : New h x) (ht : TseAt h' x dx t1 m l)
    (q : ∀ h2, Fly c.w C.K outer x dx (.ref 89) (.ref t1) .none h2 → Up (envT c.w.params L :: outer) C.K h' h2 → G.Rh n (.error (.ref x)) h2) : SG c G n (FL c.w.params it L) (loopH (envT c.w.params L) (.ref x)) (fsF c.w.params L p0 p1) h' := by
  have X := okT c.w.params
  have M' := M.mono k
  obtain ⟨e1, e2, e3⟩ := ht
  have hl : h'.FunFrames (H1 c.w.params) (envT c.w.params L :: outer) := Heap.FunFrames.cons (by rw [show (envT c.w.params L).scope.kind = _ from X.kind]; simp) rfl M'.ns (M'.nb L (by simp)) (hO h' M'.cons)
  refine sg_out_first (outer := outer) M'.base (by unfold Around.over; dsimp only; rw [hfr]; rfl) hl rfl e1 hbk (fun b hb => hdk b (M.fresh (hb.back k))) (hdk _ (M.fresh nx)) fun h2 f2 u2 => ?_
  refine sg_out (outer := outer) rfl f2 fun h3 f3 u3 => ?_
  refine sg_out_func (outer := outer) rfl f3 fun h4 f4 u4 => ?_
  exact q h4 f4 ((u2.trans u3).trans u4)
end
end Mine
end
section
open PySem PySem.W PySem.Calls PyProof.Rows
set_option maxRecDepth 100000
set_option linter.all false
set_option maxHeartbeats 4000000
namespace Mine
theorem sl_head {x : Str} {p e c : Nat} (h : sl x p e = chr c) : x.cps[p]? = some c := by
  have h2 : (sl x p e).cps.toList = [c] := by rw [h]; rfl
  rw [sl_list] at h2
  have h3 : ((x.cps.toList.drop p).take (e - p))[0]? = some c := by rw [h2]; rfl
  rw [List.getElem?_take] at h3
  split at h3
  · rw [List.getElem?_drop, Array.getElem?_toList] at h3
    exact h3
  · cases h3
theorem piece_op {x kd y : Str} {p c : Nat} (h : pieceOf x p = some (kd, y)) (hy : y = chr c) (hc : c ∈ [123, 125, 40, 41, 91, 93]) : kd = "operator" := by
  have hl : y.length = 1 := by rw [hy]; rfl
  unfold pieceOf at h
  split at h
  · cases h
  rename_i k hk
  have head : ∀ e, y = sl x p e → k = c := fun e he => by
    have := sl_head (he.symm.trans hy)
    rw [hk] at this
    exact Option.some.inj this
  have nope : ∀ {sg : Str}, k ∈ sg.cps.toList → (∀ d ∈ sg.cps.toList, d ∉ [123, 125, 40, 41, 91, 93]) → k = c → False := fun a b e => b _ a (e ▸ hc)
  split at h
  · rename_i h1
    cases h
    exact (nope h1 (by decide +kernel) (head _ rfl)).elim
  · split at h
    · rename_i h2
      split at h
      · cases h
        rw [strLen_append, strLen_append] at hl
        have : (("." : Str)).length = 1 := rfl
        omega
      · have hd := (dg_run hk).mp h2
        have : k = c := by
          cases h
          split at hy
          · exact head _ (by rw [if_pos (by assumption)])
          · exact head _ (by rw [if_neg (by assumption)])
        subst this
        rcases hd with rfl | rfl <;> simp at hc
    · split at h
      · rename_i h4
        cases h
        exact (nope h4 (by decide +kernel) (head _ rfl)).elim
      · split at h
        · rename_i h5
          split at h
          · cases h
            have e := head _ rfl
            have : chr k = chr 39 := h5
            have h6 : k = 39 := by simpa [chr] using this
            subst h6
            subst e
            simp at hc
          · cases h
        · split at h
          · cases h; rfl
          · split at h
            · cases h; rfl
            · cases h
/-- the signs awaited are changed by operators alone -/
theorem next_plain {x kd y : Str} {p : Nat} {stk : List Str} (h : pieceOf x p = some (kd, y)) (hk : kd ≠ "operator") : nextStk stk y = .ok stk := by
  have no : ∀ c ∈ [123, 125, 40, 41, 91, 93], y ≠ chr c := fun c hc e => hk (piece_op h e hc)
  have n1 : y ≠ "{" := no 123 (by simp)
  have n2 : y ≠ "(" := no 40 (by simp)
  have n3 : y ≠ "[" := no 91 (by simp)
  have n4 : y ∉ closers := fun m => by
    simp only [closers, List.mem_cons, List.not_mem_nil, or_false] at m
    rcases m with m | m | m
    · exact no 125 (by simp) m
    · exact no 41 (by simp) m
    · exact no 93 (by simp) m
  unfold nextStk dueOf
  rw [if_neg n1, if_neg n2, if_neg n3]
  dsimp only
  rw [if_neg n4]
theorem next_len {y : Str} {stk stk' : List Str} (h : nextStk stk y = .ok stk') (hcl : ∀ d ∈ stk, d ∈ closers) : stk'.length ≤ stk.length + 1 ∧ ∀ d ∈ stk', d ∈ closers := by
  unfold nextStk at h
  split at h
  · rename_i d hd
    cases h
    refine ⟨by simp, fun e he => ?_⟩
    rcases List.mem_append.mp he with he | he
    · exact hcl e he
    · rw [List.mem_singleton.mp he]; exact due_closer hd
  · split at h
    · split at h
      · cases h
      · split at h
        · cases h
          refine ⟨by rw [List.length_dropLast]; omega, fun e he => hcl e (List.dropLast_subset _ he)⟩
        · cases h
    · cases h
      exact ⟨by omega, hcl⟩
theorem piece_kind {x kd y : Str} {p : Nat} (h : pieceOf x p = some (kd, y)) : kd ∈ (["whitespace", "float", "integer", "name", "string", "operator"] : List Str) := by
  unfold pieceOf at h
  repeat' split at h
  all_goals first | (cases h; done) | (cases h; simp)
end Mine
end
section
open PySem PySem.W PySem.Calls PyProof.Rows
set_option maxRecDepth 100000
set_option linter.all false
set_option maxHeartbeats 4000000
namespace Mine
/-- what the walk of tokeniter stands on -/
structure Walk (c : Cx) (h₀ : Heap) (C : Cons) (G : GSpec) (L : Addr) (x : Str) (all : List Tk) (r : Option (Str × Nat)) (outer : List Env) (xl lr lv : Addr) (vvs : List Value) : Prop where
  hh : c.A.handled = none
  D : c.A.depth + 6 < recursionLimit
  U : c.A.units + 40 < cLine
  p0 : c.prog = P0
  bk : Base c.w C.K
  dk : ∀ b, New h₀ b → New C.K b
  fr : c.A.frames = some outer
  hO : ∀ n h', C.at c.w h₀ n h' → h'.FunFrames (H1 c.w.params) outer
  hY : ∀ n v h' tk, all[all.length - (n + 1)]? = some tk → n < all.length → TokV h' v tk → C.at c.w h₀ (n + 1) h' → G.Yv n v h'
  hS : ∀ n h' h'', G.St n h' h'' → C.step n h' h''
  ok : r = none → ∀ h', C.at c.w h₀ 0 h' → G.Rh 0 (.ok (.ret .none)) h'
  err : ∀ m row, r = some (m, row) → ∀ h1 h' h2 y dx t1 tm ur, C.at c.w h₀ 0 h1 → (∃ o, h1.get? L = some o) → Keep h1 h' → New h1 y → New h1 dx → New h1 t1 → y ≠ dx → TseAt h' y dx t1 (.str m tm) (.int row ur) →
    Fly c.w C.K outer y dx (.ref 89) (.ref t1) .none h2 → Up (envT c.w.params L :: outer) C.K h' h2 → G.Rh 0 (.error (.ref y)) h2
  KV : ∀ h, (∀ b o, b ∉ C.X → h₀.get? b = some o → h.get? b = some o) → Lst h lv vvs ∧ RulesAt h vvs varRules
  KB : ∀ h, (∀ b o, b ∉ C.X → h₀.get? b = some o → h.get? b = some o) → LexR c.prog c.w h xl lr lv
  hx : Alph x
  hl : x.length ≤ 1000
section
variable {c : Cx} {h h₀ : Heap} {C : Cons} {G : GSpec} {n : Nat} {I : Heap → Prop} {L : Addr} {vs : List (Option Value)} {ls l1 l2 : List (Addr × Cell)} {x : Str} {all : List Tk} {r : Option (Str × Nat)} {outer : List Env} {xl lr lv : Addr} {vvs : List Value}
theorem MS.has {w : World} {X : List Addr} {ns : List Str} (M : MS w h₀ X I L ns vs ls h) : ∃ o, h.get? L = some o := by
  obtain ⟨o, _, _, e, _⟩ := M.ns
  exact ⟨o, e⟩
theorem MS.cut {w : World} {ns : List Str} (M : GS C w h₀ n I L ns vs (l1 ++ l2) h) : GS C w h₀ n (fun _ => True) L ns vs l1 h := by
  have M2 : MS w h₀ C.X (fun h => C.Ic n h ∧ I h) L ns vs ((C.cells n ++ l1) ++ l2) h := by rw [List.append_assoc]; exact M
  exact M2.drop.know (I' := fun h => C.Ic n h ∧ True) ⟨M2.inv.1, trivial⟩ (fun h h' k i => ⟨C.st n h h' k i.1, trivial⟩)
theorem fsF_frames {P : Params} {p0 p1 : Pos} : frameCount ((fsF P L p0 p1).map Frame.where_) ≤ 2 ∧ unitsOf ((fsF P L p0 p1).map Frame.where_) ≤ 12 := by
  have h1 : frameCount ((fsF P L p0 p1).map Frame.where_) = (WL P L).weight + (FC P L).weight := by
    unfold fsF fsW frL
    simp [frameCount, Frame.where_]
  have h2 : unitsOf ((fsF P L p0 p1).map Frame.where_) = 3 * (WL P L).frames + 3*(FC P L).frames := by
    unfold fsF fsW frL
    simp [unitsOf, Frame.where_, Code.cUnits]
  have h3 : (WL P L).weight ≤ 1 := by first | exact Nat.zero_le _ | exact Nat.le_refl _
  have h4 : (FC P L).weight ≤ 1 := by first | exact Nat.zero_le _ | exact Nat.le_refl _
  have h5 : (WL P L).frames ≤ 2 := by first | exact Nat.zero_le _ | exact Nat.le_refl _ | exact Nat.le_succ _
  have h6 : (FC P L).frames ≤ 2 := by first | exact Nat.zero_le _ | exact Nat.le_refl _ | exact Nat.le_succ _
  omega
theorem dF {it : Addr} {P : Params} {p0 p1 : Pos} : (c.ov (FL P it L) (fsF P L p0 p1)).A.depth ≤ c.A.depth + 3 := by
  show c.A.depth + frameCount ((fsF P L p0 p1).map Frame.where_) + (FL P it L).weight ≤ _
  have h1 : (FL P it L).weight = 0 := rfl
  have h2 := (fsF_frames (L := L) (P := P) (p0 := p0) (p1 := p1)).1
  omega
theorem dB {P : Params} {p0 p1 : Pos} : (c.ov (BL P L) (fsF P L p0 p1)).A.depth ≤ c.A.depth + 3 := by
  show c.A.depth + frameCount ((fsF P L p0 p1).map Frame.where_) + (BL P L).weight ≤ _
  have h1 : (BL P L).weight = 0 := rfl
  have h2 := (fsF_frames (L := L) (P := P) (p0 := p0) (p1 := p1)).1
  omega
theorem uF {it : Addr} {P : Params} {p0 p1 : Pos} : (c.ov (FL P it L) (fsF P L p0 p1)).A.units ≤ c.A.units + 20 := by
  show c.A.units + unitsOf ((fsF P L p0 p1).map Frame.where_) + (FL P it L).cUnits ≤ _
  have h1 : (FL P it L).cUnits = 0 := rfl
  have h2 := (fsF_frames (L := L) (P := P) (p0 := p0) (p1 := p1)).2
  omega
/-- the same from the loop's else -/
theorem out_blk {y dx t1 : Addr} {m l : Value} {p0 p1 : Pos} (hfr : c.A.frames = some outer) (hbk : Base c.w C.K) (hdk : ∀ b, New h₀ b → New C.K b) (M : GS C c.w h₀ n I L nsK vs ls h) (hO : ∀ h', C.at c.w h₀ n h' → h'.FunFrames (H1 c.w.params) outer)
    {h' : Heap} (k : Keep h h') (nx : New h y) (ht : TseAt h' y dx t1 m l)
    (q : ∀ h2, Fly c.w C.K outer y dx (.ref 89) (.ref t1) .none h2 → Up (envT c.w.params L :: outer) C.K h' h2 → G.Rh n (.error (.ref y)) h2) : SG c G n (BL c.w.params L) (loopH (envT c.w.params L) (.ref y)) (fsF c.w.params L p0 p1) h' := by
  have X := okT c.w.params
  have M' := M.mono k
  obtain ⟨e1, e2, e3⟩ := ht
  have hl : h'.FunFrames (H1 c.w.params) (envT c.w.params L :: outer) := Heap.FunFrames.cons (by rw [show (envT c.w.params L).scope.kind = _ from X.kind]; simp) rfl M'.ns (M'.nb L (by simp)) (hO h' M'.cons)
  refine sg_out_first (outer := outer) M'.base (by unfold Around.over; dsimp only; rw [hfr]; rfl) hl rfl e1 hbk (fun b hb => hdk b (M.fresh (hb.back k))) (hdk _ (M.fresh nx)) fun h2 f2 u2 => ?_
  refine sg_out (outer := outer) rfl f2 fun h3 f3 u3 => ?_
  refine sg_out_func (outer := outer) rfl f3 fun h4 f4 u4 => ?_
  exact q h4 f4 ((u2.trans u3).trans u4)
/-- what comes after a token told -/
noncomputable abbrev Next (c : Cx) (h₀ : Heap) (C : Cons) (G : GSpec) (L : Addr) (x : Str) (all : List Tk) (r : Option (Str × Nat)) (xl lr lv S Bk : Addr) (p0 : Pos) (k : Nat) : Prop :=
  ∀ m p row stk rem sv bv vs h, rem.length < k → RunF x m p row stk rem r → (∃ done, done ++ rem = all) → p ≤ x.length → stk.length ≤ p → StrVals bv stk → (∀ d ∈ stk, d ∈ closers) → FR vs xl S (if m = true then lv else lr) Bk x p row →
    (if m = true then ∃ t0 t1, sv = [.str "root" t0, .str "variable_begin" t1] else stk = [] ∧ ∃ t0, sv = [.str "root" t0]) → GS C c.w h₀ rem.length (fun _ => True) L nsK vs [(S, .lst sv), (Bk, .lst bv)] h →
    SG c G rem.length (WL c.w.params L) ((model c.prog c.w).den (WL c.w.params L)) (fsW c.w.params L p0) h
theorem at_done {α : Type} {done rem : List α} {t : α} : (done ++ t :: rem)[(done ++ t :: rem).length - (rem.length + 1)]? = some t := by
  have : (done ++ t :: rem).length - (rem.length + 1) = done.length := by simp
  rw [this]; simp
theorem tok_part (Wk : Walk c h₀ C G L x all r outer xl lr lv vvs) {it S Bk : Addr} {p0 p1 : Pos} {sv bv : List Value} {p row : Nat} {stk : List Str} {rem done : List Tk} (hI : ∀ h h', TupKeep h h' → I h → I h') (R : RunF x true p row stk rem r) (hlt : p < x.length) (hst : stk ≠ [] ∨ ∀ e, ¬ closesTo x p e) (hall : done ++ rem = all)
    (M : GS C c.w h₀ rem.length I L nsK vs [(S, .lst sv), (Bk, .lst bv), (it, .obj (IterO lv 1))] h) (F : FR vs xl S lv Bk x p row) (hsv : StrVals bv stk) (hcl : ∀ d ∈ stk, d ∈ closers) (hdep : stk.length ≤ p) (hst2 : ∃ t0 t1, sv = [.str "root" t0, .str "variable_begin" t1])
    (next : Next c h₀ C G L x all r xl lr lv S Bk p0 rem.length) :
    SG c G rem.length (FL c.w.params it L) ((model c.prog c.w).den (FL c.w.params it L)) (fsF c.w.params L p0 p1) h := by
  have hz : (10000 : Nat) < sizeLine := by decide
  have hxl := Wk.hl
  have hck : x.cps[p]? = some (x.cps[p]'hlt) := Array.getElem?_eq_getElem hlt
  have hbl : bv.length ≤ 100000 := by rw [hsv.len]; omega
  have hh := fsF_hh (it := it) (P := c.w.params) (L := L) (p0 := p0) (p1 := p1) Wk.hh
  have hh2 := fsF_hh2 (P := c.w.params) (L := L) (p0 := p0) (p1 := p1) Wk.hh
  have D1 := dF (c := c) (L := L) (it := it) (P := c.w.params) (p0 := p0) (p1 := p1)
  have D2 := dB (c := c) (L := L) (P := c.w.params) (p0 := p0) (p1 := p1)
  have U1 := uF (c := c) (L := L) (it := it) (P := c.w.params) (p0 := p0) (p1 := p1)
  have D := Wk.D
  have U := Wk.U
  have spl := R.split hlt
  rw [stepV_tok hst] at spl
  refine var_tok hh Wk.KV hI Wk.hx hxl hck M F (fun hn h1 vs1 F1 M1 => ?_) (fun kd e j a t sp h1 vs1 u hpc hpe hex F1 h15 h16 h17 M1 => ?_)
  · rw [hn] at spl
    obtain ⟨rfl, rfl⟩ := spl
    refine var_end hh hh2 (by omega) Wk.p0 Wk.KV M1 F1 (by omega) Wk.hx.lt (fun hle => absurd hle (by omega)) fun _ h2 h3 x1 dx t1 tm ur M2 k n1 n2 n3 ne ht => ?_
    exact out_blk Wk.fr Wk.bk Wk.dk M2 (Wk.hO _) k n1 ht fun h4 f4 u4 => Wk.err _ _ rfl h2 h3 h4 x1 dx t1 tm ur M2.cons M2.has k n1 n2 n3 ne ht f4 u4
  · rw [hpc] at spl
    dsimp only at spl
    have hoky := ok_sl Wk.hx.lt p e
    have hlen : p + (sl x p e).length = e := by rw [sl_len]; omega
    cases hn : nextStk stk (sl x p e) with
    | error m =>
      rw [hn] at spl
      obtain ⟨rfl, rfl⟩ := spl
      have hkd : kd = "operator" := Classical.byContradiction fun hk => by
        have := next_plain (stk := stk) hpc hk
        rw [hn] at this
        cases this
      subst hkd
      refine op_fail hh (by omega) Wk.p0 M1 F1 (by omega) h15 h17 hsv hcl hbl hoky hn (by omega) fun h2 h3 x1 dx t1 tm ur vs2 bv2 M2 k n1 n2 n3 ne ht => ?_
      exact out_for Wk.fr Wk.bk Wk.dk M2 (Wk.hO _) k n1 ht fun h4 f4 u4 => Wk.err _ _ rfl h2 h3 h4 x1 dx t1 tm ur M2.cons M2.has k n1 n2 n3 ne ht f4 u4
    | ok stk' =>
      rw [hn] at spl
      obtain ⟨tk, rem', e1, rfl, R'⟩ := spl
      cases e1
      rw [hlen] at R'
      obtain ⟨hl1, hcl'⟩ := next_len hn hcl
      have hY : ∀ v h', TokV h' v ((row, kd, sl x p e) : Tk) → C.at c.w h₀ (rem'.length + 1) h' → G.Yv rem'.length v h' := fun v h' tv ca => Wk.hY _ v h' _ (by rw [← hall]; exact at_done) (by rw [← hall]; simp; omega) tv ca
      have hall' : ∃ done, done ++ rem' = all := ⟨done ++ [((row, kd, sl x p e) : Tk)], by rw [← hall]; simp⟩
      by_cases hkd : kd = "operator"
      · subst hkd
        refine op_hit M1 hI F1 (by omega) h15 h16 h17 hsv hbl hoky hn hpe hex (by omega) (fsF_gen _ _ _ _) (fsF_grd _ _ _ _) hY (Wk.hS _) fun h2 vs2 bv2 hsv2 F2 M2 => for_done ?_
        exact next true e _ stk' rem' sv bv2 vs2 h2 (by simp) R' hall' hex (by omega) hsv2 hcl' (by simpa using F2) (by simpa using hst2) (MS.cut (l1 := [(S, .lst sv), (Bk, .lst bv2)]) M2)
      · have hs2 : stk' = stk := by
          have := next_plain (stk := stk) hpc hkd
          rw [hn] at this
          cases this; rfl
        subst hs2
        have hm := piece_kind hpc
        have hke : kd ∉ endNames := fun h => by
          simp only [endNames, List.mem_cons, List.not_mem_nil, or_false] at h hm
          rcases h with rfl | rfl | rfl <;> exact absurd hm (by decide +kernel)
        have hko : PyData.strOk kd = true := by
          simp only [List.mem_cons, List.not_mem_nil, or_false] at hm
          rcases hm with rfl | rfl | rfl | rfl | rfl | rfl <;> decide +kernel
        refine plain_hit M1 hI F1 (by omega) h15 h16 h17 hbl hko hke hkd hpe hex (by omega) (fsF_gen _ _ _ _) (fsF_grd _ _ _ _) hY (Wk.hS _) fun h2 vs2 F2 M2 => for_done ?_
        exact next true e _ stk' rem' sv bv vs2 h2 (by simp) R' hall' hex (by omega) hsv hcl (by simpa using F2) (by simpa using hst2) (MS.cut (l1 := [(S, .lst sv), (Bk, .lst bv)]) M2)
/-- a turn of the while within the variable -/
theorem var_turn (Wk : Walk c h₀ C G L x all r outer xl lr lv vvs) {S Bk : Addr} {p0 : Pos} {sv bv : List Value} {p row : Nat} {stk : List Str} {rem done : List Tk} (R : RunF x true p row stk rem r) (hp : p ≤ x.length) (hall : done ++ rem = all)
    (M : GS C c.w h₀ rem.length (fun _ => True) L nsK vs [(S, .lst sv), (Bk, .lst bv)] h) (F : FR vs xl S lv Bk x p row) (hsv : StrVals bv stk) (hcl : ∀ d ∈ stk, d ∈ closers) (hdep : stk.length ≤ p) (hst2 : ∃ t0 t1, sv = [.str "root" t0, .str "variable_begin" t1])
    (next : Next c h₀ C G L x all r xl lr lv S Bk p0 rem.length) :
    SG c G rem.length (WL c.w.params L) ((model c.prog c.w).den (WL c.w.params L)) (fsW c.w.params L p0) h := by
  have hz : (10000 : Nat) < sizeLine := by decide
  have hxl := Wk.hl
  have hbl : bv.length ≤ 100000 := by rw [hsv.len]; omega
  refine while_for M F.f9 (Wk.KV h M.keep).1 fun p1 it h1 M1 => ?_
  have hh := fsF_hh (it := it) (P := c.w.params) (L := L) (p0 := p0) (p1 := p1) Wk.hh
  have hh2 := fsF_hh2 (P := c.w.params) (L := L) (p0 := p0) (p1 := p1) Wk.hh
  have D1 := dF (c := c) (L := L) (it := it) (P := c.w.params) (p0 := p0) (p1 := p1)
  have D2 := dB (c := c) (L := L) (P := c.w.params) (p0 := p0) (p1 := p1)
  have U1 := uF (c := c) (L := L) (it := it) (P := c.w.params) (p0 := p0) (p1 := p1)
  have D := Wk.D
  have U := Wk.U
  have hI : ∀ h h' : Heap, TupKeep h h' → (fun _ : Heap => True) h → (fun _ : Heap => True) h' := fun _ _ _ _ => trivial
  by_cases hlt : p < x.length
  · refine var_first hh Wk.KV hI Wk.hx hxl hp M1 F (fun hno h2 vs2 F2 M2 => tok_part Wk hI R hlt (.inr hno) hall M2 F2 hsv hcl hdep hst2 next) (fun e a t sp h2 vs2 u v hclo F2 h15 h16 h17 M2 => ?_)
    obtain ⟨hpe, hex⟩ := closes_lt hclo
    by_cases hs : stk = []
    · subst hs
      have hb0 : bv = [] := List.eq_nil_of_length_eq_zero (by rw [hsv.len]; rfl)
      subst hb0
      have spl := R.split hlt
      rw [stepV_leave hclo] at spl
      obtain ⟨tk, rem', e1, rfl, R'⟩ := spl
      cases e1
      obtain ⟨t0, t1, rfl⟩ := hst2
      have hY : ∀ v h', TokV h' v ((row, "variable_end", sl x p e) : Tk) → C.at c.w h₀ (rem'.length + 1) h' → G.Yv rem'.length v h' := fun v h' tv ca => Wk.hY _ v h' _ (by rw [← hall]; exact at_done) (by rw [← hall]; simp; omega) tv ca
      have hall' : ∃ done, done ++ rem' = all := ⟨done ++ [((row, "variable_end", sl x p e) : Tk)], by rw [← hall]; simp⟩
      refine end_hit M2 hI F2 (by omega) Wk.KB h15 h16 h17 hpe hex (by omega) (fsF_gen _ _ _ _) (fsF_grd _ _ _ _) hY (Wk.hS _) fun h3 vs3 F3 M3 => for_done ?_
      exact next false e _ [] rem' [.str "root" t0] [] vs3 h3 (by simp) R' hall' hex (by simp) .nil (by simp) (by simpa using F3) (by simp) (MS.cut (l1 := [(S, .lst [.str "root" t0]), (Bk, .lst [])]) M3)
    · have hbn : bv ≠ [] := fun e => hs (List.eq_nil_of_length_eq_zero (by rw [← hsv.len, e]; rfl))
      refine end_skip M2 F2 (by omega) h15 hbn hbl fun h3 M3 => ?_
      exact tok_part Wk (IM.st hI) R hlt (.inl hs) hall M3 F2 hsv hcl hdep hst2 next
  · have hr : rem = [] ∧ r = none := by
      cases R <;> first | exact ⟨rfl, rfl⟩ | omega
    obtain ⟨rfl, rfl⟩ := hr
    refine skips hh Wk.KV hI hp hxl 7 0 (by omega) (fun i rr h1 h2 h3 h' B => end_miss (pa := rr.1) (tok := rr.2.1) (cmd := rr.2.2) B (by omega) hp (List.mem_of_getElem? h3)) M1 F fun h2 vs2 F2 M2 => ?_
    refine var_end hh hh2 (by omega) Wk.p0 Wk.KV M2 F2 (by omega) Wk.hx.lt (fun _ h3 M3 => ?_) fun hle => absurd hle hlt
    refine sg_ret (sg_ret ?_)
    exact sg_end (r := .ok (.ret .none)) (Wk.ok rfl _ M3.cons)
end
end Mine
end
section
open PySem PySem.Calls PyProof.Rows
set_option maxRecDepth 100000
set_option linter.all false
namespace Mine
open PySem.Builtin.Str PySem.StrLaws
/-- how many lines end in a text: by counting -/
theorem occ_count_go (y : Str) : ∀ (d i : Nat) (f : Array Nat) (fr : Nat), y.length + 1 - i = d → i ≤ y.length + 1 → fr ≤ i → f.size ≤ i →
    (forIn (List.range' i d) (f, fr) (occBody y ⟨#[10]⟩ y.length (y.length + 1))).run.fst.size = f.size + (y.cps.toList.drop i).count 10 := by
  intro d
  induction d with
  | zero =>
    intro i f fr hd hi _ _
    rw [List.drop_eq_nil_of_le (by rw [len_list]; omega)]
    rfl
  | succ d ih =>
    intro i f fr hd hi hfr hf
    rw [List.range'_succ, List.forIn_cons]
    unfold occBody
    have e1 : (⟨#[10]⟩ : Str).length = 1 := rfl
    by_cases hc : y.cps.toList[i]? = some 10
    · have hs := (subAt_one y 10 i).mpr hc
      have hlt : i < y.cps.toList.length := (List.getElem?_eq_some_iff.mp hc).1
      rw [len_list] at hlt
      rw [if_pos ⟨⟨⟨by show f.size < _; omega, hfr⟩, hs.1⟩, hs.2⟩]
      have := ih (i + 1) (f.push i) (i + (⟨#[10]⟩ : Str).length) (by omega) (by omega) (by rw [e1]; omega) (by simp; omega)
      show (forIn (List.range' (i + 1) d) (f.push i, i + (⟨#[10]⟩ : Str).length) (occBody y ⟨#[10]⟩ y.length (y.length + 1))).run.fst.size = _
      rw [this, List.drop_eq_getElem_cons (i := i) (by rw [len_list]; exact hlt)]
      have hg : y.cps.toList[i]'(by rw [len_list]; exact hlt) = 10 := (List.getElem?_eq_some_iff.mp hc).2
      rw [hg, List.count_cons_self, Array.size_push]
      omega
    · rw [if_neg (fun q => hc ((subAt_one y 10 i).mp ⟨q.1.2, q.2⟩))]
      have := ih (i + 1) f fr (by omega) (by omega) (by omega) (by omega)
      show (forIn (List.range' (i + 1) d) (f, fr) (occBody y ⟨#[10]⟩ y.length (y.length + 1))).run.fst.size = _
      rw [this]
      by_cases hlt : i < y.cps.toList.length
      · rw [List.drop_eq_getElem_cons hlt, List.count_cons_of_ne]
        intro e
        exact hc (by rw [List.getElem?_eq_getElem hlt, e])
      · rw [List.drop_eq_nil_of_le (by omega), List.drop_eq_nil_of_le (by omega)]
theorem occ_count (y : Str) : (occurrences y ⟨#[10]⟩ 0 y.length (y.length + 1)).length = y.cps.toList.count 10 := by
  rw [occ_eq, Array.length_toList]
  have := occ_count_go y (y.length + 1) 0 #[] 0 (by omega) (by omega) (Nat.le_refl _) (Nat.le_refl _)
  rw [show y.length + 1 - 0 = y.length + 1 by omega, this]
  simp
/-- where two signs stand -/
theorem at_two {x : Str} {a b i : Nat} : (i + (⟨#[a, b]⟩ : Str).length ≤ x.length ∧ subAt x ⟨#[a, b]⟩ i = true) ↔ (x.cps[i]? = some a ∧ x.cps[i + 1]? = some b) := by
  rw [subAt_eq, beq_iff_eq]
  show (i + 2 ≤ x.length ∧ (x.cps.toList.drop i).take 2 = [a, b]) ↔ _
  rw [← Array.getElem?_toList, ← Array.getElem?_toList, show x.cps.toList[i]? = (x.cps.toList.drop i)[0]? by rw [List.getElem?_drop]; rfl, show x.cps.toList[i + 1]? = (x.cps.toList.drop i)[1]? by rw [List.getElem?_drop]]
  have hl : (x.cps.toList.drop i).length = x.length - i := by rw [List.length_drop, len_list]
  cases h : x.cps.toList.drop i with
  | nil => simp
  | cons u l =>
    cases l with
    | nil => simp
    | cons v l =>
      rw [h] at hl
      simp at hl ⊢
      omega
theorem find2_none {x : Str} {a b p : Nat} (hp : p ≤ x.length) (h : ∀ j, p ≤ j → ¬ (x.cps[j]? = some a ∧ x.cps[j + 1]? = some b)) : Txt.find3 x ⟨#[a, b]⟩ (p : Int) < 0 := by
  have hf : fromIndex x.length (p : Int) = p := by unfold fromIndex; rw [if_neg (by omega)]; omega
  unfold Txt.find3
  rw [hf]
  rcases occ_head_from x ⟨#[a, b]⟩ p 1 (Nat.le_refl 1) with ⟨h0, _⟩ | ⟨k, r, h0, hlo, hk, _⟩
  · rw [h0]; decide
  · exact absurd (at_two.mp hk) (h k hlo)
theorem find2_some {x : Str} {a b p s : Nat} (hp : p ≤ x.length) (hs : p ≤ s) (ho : x.cps[s]? = some a ∧ x.cps[s + 1]? = some b) (h : ∀ j, p ≤ j → j < s → ¬ (x.cps[j]? = some a ∧ x.cps[j + 1]? = some b)) : Txt.find3 x ⟨#[a, b]⟩ (p : Int) = (s : Nat) := by
  have hf : fromIndex x.length (p : Int) = p := by unfold fromIndex; rw [if_neg (by omega)]; omega
  unfold Txt.find3
  rw [hf]
  rcases occ_head_from x ⟨#[a, b]⟩ p 1 (Nat.le_refl 1) with ⟨h0, hn⟩ | ⟨k, r, h0, hlo, hk, hn⟩
  · exact absurd (at_two.mpr ho) (hn s hs)
  · rw [h0]
    have : k = s := by
      rcases Nat.lt_trichotomy k s with hlt | he | hgt
      · exact absurd (at_two.mp hk) (h k hlo hlt)
      · exact he
      · exact absurd (at_two.mpr ho) (hn s hs hgt)
    rw [this]
/-- a text without its last spaces is its beginning -/
theorem rstrip_sl (t : Str) : Txt.rstrip t = sl t 0 (Txt.rstrip t).length := by
  unfold Txt.rstrip Txt.stripBy
  split
  · apply str_ext
    rw [sl_list, Nat.sub_zero, List.drop_zero, List.take_of_length_le (by rw [len_list]; exact Nat.le_refl _)]
  · apply str_ext
    unfold stripped
    have e0 : stripLo Unicode.isSpace false t = 0 := rfl
    rw [e0]
    generalize stripHi Unicode.isSpace true t 0 = k
    rw [sl_list]
    have : (strSub t 0 k).length = ((t.cps.toList.drop 0).take (k - 0)).length := by rw [← strSub_toList, len_list]
    rw [this, strSub_toList]
    simp
theorem count_split (t : Str) (k : Nat) : (sl t 0 k).cps.toList.count 10 + (sl t k t.length).cps.toList.count 10 = t.cps.toList.count 10 := by
  rw [sl_list, sl_list, ← List.count_append]
  congr 1
  rw [Nat.sub_zero, List.drop_zero, List.take_of_length_le (l := t.cps.toList.drop k) (by rw [List.length_drop, len_list]; exact Nat.le_refl _), List.take_append_drop]
end Mine
end
section
open PySem PySem.W PySem.Calls PyProof.Rows PySem.Builtin.Re
set_option maxRecDepth 100000
set_option linter.all false
set_option maxHeartbeats 4000000
namespace Mine
open Rx
def rootSp (p s e : Nat) : List Value := [rawInt p, rawInt s, rawInt (-1), rawInt (-1), rawInt (-1), rawInt (-1), rawInt s, rawInt e, rawInt (s + 2 : Nat), rawInt e, rawInt (-1), rawInt (-1), rawInt (-1), rawInt (-1), rawInt (-1), rawInt (-1), rawInt (-1), rawInt (-1)]
section
variable {w : World} {h : Heap} {x : Str} {p k : Nat}
theorem root_marks {p s e : Nat} {m : Sre.M} (hm : m.marks.toList.take 10 = rootMarks p s e) : ∀ i, i < 10 → m.marks.getD i none = (rootMarks p s e).getD i none := fun i hi => by
  rw [← hm, List.getD_eq_getElem?_getD, List.getElem?_take, if_pos hi, Array.getElem?_toList, Array.getD_eq_getD_getElem?]
theorem root_spans {p s e : Nat} {m : Sre.M} (hm : m.marks.toList.take 10 = rootMarks p s e) (hl : m.lastmark = 9) : spansOf 9 m = rootSp p s e := by
  have g := root_marks hm
  have hr : List.range 9 = [0, 1, 2, 3, 4, 5, 6, 7, 8] := by decide
  unfold spansOf
  rw [hr]
  simp only [List.flatMap_cons, List.flatMap_nil, hl]
  rw [if_pos (by decide), if_pos (by decide), if_pos (by decide), if_pos (by decide), if_pos (by decide), if_neg (by decide), if_neg (by decide), if_neg (by decide), if_neg (by decide)]
  rw [g (2 * 0) (by decide), g (2 * 0 + 1) (by decide), g (2 * 1) (by decide), g (2 * 1 + 1) (by decide), g (2 * 2) (by decide), g (2 * 2 + 1) (by decide), g (2 * 3) (by decide), g (2 * 3 + 1) (by decide), g (2 * 4) (by decide), g (2 * 4 + 1) (by decide)]
  rfl
theorem root_ok {p s e : Nat} {m : Sre.M} (hps : p ≤ s) (he : s + 2 ≤ e) (hm : m.marks.toList.take 10 = rootMarks p s e) (hl : m.lastmark = 9) : okSpans 9 m = true := by
  have g := root_marks hm
  unfold okSpans
  rw [Bool.not_eq_true', List.any_eq_false]
  intro i hi
  have hi9 := List.mem_range.mp hi
  rw [hl]
  by_cases h5 : i < 5
  · rw [g (2 * i) (by omega), g (2 * i + 1) (by omega)]
    have : i = 0 ∨ i = 1 ∨ i = 2 ∨ i = 3 ∨ i = 4 := by omega
    rcases this with rfl | rfl | rfl | rfl | rfl
    · simp [rootMarks]; omega
    · simp [rootMarks]
    · simp [rootMarks]
    · simp [rootMarks]; omega
    · simp [rootMarks]; omega
  · split
    · simp; omega
    · simp
theorem signLen_le (x : Str) (s : Nat) : signLen x s ≤ 1 := by unfold signLen; split <;> omega
theorem t_root (B : Base w h) (hx : Alph x) (hl : x.length ≤ 1000) (hp : p ≤ x.length) : Tries h 130 x p (∀ j, p ≤ j → ¬ opens x j) (fun st e sp => st = p ∧ ∃ s, p ≤ s ∧ opens x s ∧ (∀ j, p ≤ j → j < s → ¬ opens x j) ∧ e = s + 2 + signLen x s ∧ sp = rootSp p s e) := by
  refine ⟨_, _, pat_root B, by decide, mat_root hx hl hp (fun s hs ho hn m hm => .inr ⟨p, s + 2 + signLen x s, ?_, rfl, s, hs, ho, hn, rfl, ?_⟩) fun hn m hm => .inl ⟨hm, hn⟩⟩
  · obtain ⟨a, b, d, e, f, g⟩ := hm
    exact ⟨a, b, d, root_ok hs (by omega) f g⟩
  · obtain ⟨a, b, d, e, f, g⟩ := hm
    exact root_spans f g
/-- the groups of the outer rule -/
theorem root_groups {p s e : Nat} (x : Str) : ((List.range 9).map fun g => grp x ((rootSp p s e).map reRawOf).toArray g) = [some (sl x p s), none, none, some (sl x s e), some (sl x (s + 2) e), none, none, none, none] := by
  have hr : List.range 9 = [0, 1, 2, 3, 4, 5, 6, 7, 8] := by decide
  rw [hr]
  have hn : ∀ n : Nat, ¬ ((n : Int) < 0) := fun n => by omega
  have he : ((rootSp p s e).map reRawOf).toArray = #[(p : Int), (s : Int), -1, -1, -1, -1, (s : Int), (e : Int), ((s + 2 : Nat) : Int), (e : Int), -1, -1, -1, -1, -1, -1, -1, -1] := by simp [rootSp, reRawOf, rawInt]
  rw [he]
  simp only [List.map_cons, List.map_nil, grp]
  simp [hn]
  exact ⟨by omega, by rw [show ((s : Int) + 2).toNat = s + 2 by omega]⟩
theorem optvals9 {vs : List Value} {a b d : Str} (h : OptVals vs [some a, none, none, some b, some d, none, none, none, none]) : ∃ t1 t2 t3, vs = [.str a t1, .none, .none, .str b t2, .str d t3, .none, .none, .none, .none] := by
  cases h with | some h => cases h with | none h => cases h with | none h => cases h with | some h => cases h with | some h => cases h with | none h => cases h with | none h => cases h with | none h => cases h with | none h =>
    cases h
    exact ⟨_, _, _, rfl⟩
theorem opens_str : (("{{" : Str)) = ⟨#[123, 123]⟩ := by decide +kernel
theorem find_root (hp : p ≤ x.length) {s : Nat} (hs : p ≤ s) (ho : opens x s) (hn : ∀ j, p ≤ j → j < s → ¬ opens x j) : Txt.find3 x "{{" (p : Int) = (s : Nat) := by
  rw [opens_str]; exact find2_some hp hs ho hn
theorem find_root0 (hp : p ≤ x.length) (hn : ∀ j, p ≤ j → ¬ opens x j) : Txt.find3 x "{{" (p : Int) < 0 := by
  rw [opens_str]; exact find2_none hp hn
/-- the sign behind the opening, in the pattern's words -/
theorem sign_eq (x : Str) (s : Nat) : signOf x s = sl x (s + 2) (s + 2 + signLen x s) := by
  have e1 : (("-" : Str)) = chr 45 := by decide +kernel
  have e2 : (("+" : Str)) = chr 43 := by decide +kernel
  unfold signOf signLen
  rw [e1, e2]
  by_cases h : sl x (s + 2) (s + 3) = chr 45 ∨ sl x (s + 2) (s + 3) = chr 43
  · have h2 : x.cps[s + 2]? = some 45 ∨ x.cps[s + 2]? = some 43 := by
      rcases h with h | h
      · exact .inl (one_iff.mp h)
      · exact .inr (one_iff.mp h)
    rw [if_pos h, if_pos h2]
  · have h2 : ¬ (x.cps[s + 2]? = some 45 ∨ x.cps[s + 2]? = some 43) := fun q => h (by
      rcases q with q | q
      · exact .inl (one_iff.mpr q)
      · exact .inr (one_iff.mpr q))
    rw [if_neg h, if_neg h2]
    apply str_ext
    rw [sl_list, show s + 2 + 0 - (s + 2) = 0 by omega, List.take_zero]
    decide +kernel
theorem signOf_len (x : Str) {s : Nat} (ho : opens x s) : (signOf x s).length = signLen x s := by
  rw [sign_eq, sl_len]
  have := (at_get ho.2).1
  unfold signLen
  split
  · rename_i h
    have : s + 2 < x.length := by rcases h with h | h <;> exact (at_get h).1
    omega
  · omega
theorem begin_eq {s : Nat} (ho : opens x s) : ("{{" : Str) ++ signOf x s = sl x s (s + 2 + signLen x s) := by
  have : sl x s (s + 2) = "{{" := by rw [opens_str]; exact two_iff.mpr ho
  rw [sign_eq, ← this, sl_join (by omega) (by omega)]
theorem nl_count (y : Str) : nl y = y.cps.toList.count 10 := by
  unfold nl
  exact occ_count y
theorem nl_split (t : Str) (k : Nat) : nl (sl t 0 k) + nl (sl t k t.length) = nl t := by
  rw [nl_count, nl_count, nl_count]; exact count_split t k
theorem nl_rstrip (t : Str) : nl (Txt.rstrip t) + nl (sl t (Txt.rstrip t).length t.length) = nl t := by
  have := nl_split t (Txt.rstrip t).length
  rw [← rstrip_sl] at this
  exact this
/-- nothing of the opening ends a line -/
theorem nl_begin (hx : Alph x) {s : Nat} (ho : opens x s) : nl (sl x s (s + 2 + signLen x s)) = 0 := by
  have e1 : (("-" : Str)) = chr 45 := by decide +kernel
  have e2 : (("+" : Str)) = chr 43 := by decide +kernel
  rw [← begin_eq ho]
  unfold signOf
  split
  · rename_i h
    rcases h with h | h <;> rw [h] <;> decide +kernel
  · decide +kernel
theorem sign_cases (x : Str) (s : Nat) : signOf x s = "-" ∨ signOf x s = "+" ∨ signOf x s = "" := by
  unfold signOf
  split
  · rename_i h
    rcases h with h | h
    · exact .inl h
    · exact .inr (.inl h)
  · exact .inr (.inr rfl)
end
end Mine
end
section
open PySem PySem.Calls PyProof.Rows
set_option maxRecDepth 100000
set_option linter.all false
set_option maxHeartbeats 4000000
namespace Mine
section
variable {c : Cx} {h : Heap} {E : Value → Heap → Prop} {α : Type}
abbrev TupA (h : Heap) (T : Addr) (vs : List Value) : Prop := h.get? T = some { cls := .type "tuple", data := .seq vs.toArray }
theorem w_enum_next {e it src : Addr} {i : Nat} {items : List Value} {x old : Value} {kd : Bool} {Q : Option Value → Heap → Prop} (he : IsEnum h e it i old) (I : It h it src i items kd) (hx : items[i]? = some x) (n1 : it ≠ e) (n2 : src ≠ e)
    (q : ∀ h' a tk, (∀ b o, b ≠ e → b ≠ it → h.get? b = some o → h'.get? b = some o) → New h a → TupA h' a [.int i tk, x] → IsEnumOut h' e it ((i + 1 : Nat) : Int) x a → It h' it src (i + 1) items kd → Q (some (.ref a)) h') : W c h (pyNext (.ref e)) Q E := by
  refine w_pynext (w_nextslot he rfl F.slot_enumerate_next F.entry_enumerate_next (F.args_enumerate_next_1 _) ?_)
  show W _ h (field (.ref e) 2 >>= _) _ _
  refine W_bind (w_field (x := .ref it) he rfl rfl ?_)
  refine W_bind (I.next hx fun h1 k1 I1 => ?_)
  have he1 : IsEnum h1 e it i old := k1 _ _ n1.symm he
  show W _ h1 (field (.ref e) 3 >>= _) _ _
  refine W_bind (w_field (x := rawInt i) he1 rfl rfl ?_)
  show W _ h1 (field (.ref e) 4 >>= _) _ _
  refine W_bind (w_field (x := .none) he1 rfl rfl ?_)
  show W _ h1 (mkInt i >>= _) _ _
  refine W_bind (w_mkint fun tk => ?_)
  show W _ h1 (setField (.ref e) 3 (rawInt ((i : Int) + 1)) >>= _) _ _
  refine W_bind (w_setfield he1 (by simp) fun h2 k2 he2 => ?_)
  replace he2 : IsEnum h2 e it ((i + 1 : Nat) : Int) old := he2
  show W _ h2 (setField (.ref e) 4 .none >>= _) _ _
  refine W_bind (w_setfield he2 (by simp) fun h3 k3 he3 => ?_)
  replace he3 : IsEnum h3 e it ((i + 1 : Nat) : Int) old := he3
  show W _ h3 (newTuple [.int i tk, x] >>= _) _ _
  refine W_bind (w_newtuple rfl fun h4 a k4 na ta => ?_)
  have he4 : IsEnum h4 e it ((i + 1 : Nat) : Int) old := k4 _ _ he3
  show W _ h4 (Builtin.SmallTypes.ownedTupleIsFree (.ref e) >>= _) _ _
  unfold Builtin.SmallTypes.ownedTupleIsFree
  refine W_bind (W_bind (w_field (x := .none) he4 rfl rfl (W_pure ?_)))
  simp only [if_true]
  refine W_bind (w_rule ?_)
  refine W_bind (w_field (x := old) he4 rfl rfl ?_)
  refine W_bind (w_setfield he4 (by simp) fun h5 k5 he5 => ?_)
  replace he5 : IsEnum h5 e it ((i + 1 : Nat) : Int) x := he5
  show W _ h5 (Builtin.SmallTypes.ownedTupleHandOut (.ref e) (.ref a) >>= _) _ _
  unfold Builtin.SmallTypes.ownedTupleHandOut
  refine W_bind (W_bind (w_setfield he5 (by simp) fun h6 k6 he6 => ?_))
  replace he6 : IsEnumOut h6 e it ((i + 1 : Nat) : Int) x a := he6
  refine w_setfield he6 (by simp) fun h7 k7 he7 => ?_
  replace he7 : IsEnumOut h7 e it ((i + 1 : Nat) : Int) x a := he7
  refine W_bind (w_letgo (W_pure ⟨_, rfl, ?_⟩))
  have hae : a ≠ e := fun y => New.ne na he3 y.symm
  refine q h7 a tk (fun b o b1 b2 eb => k7 _ _ b1 (k6 _ _ b1 (k5 _ _ b1 (k4 _ _ (k3 _ _ b1 (k2 _ _ b1 (k1 _ _ b2 eb))))))) ?_ ?_ he7 ?_
  · unfold New at na ⊢
    cases eb : h.get? a with
    | none => rfl
    | some o =>
      by_cases hai : a = it
      · subst hai
        obtain ⟨o', e'⟩ := I1.at
        rw [k3 _ _ hae (k2 _ _ hae e')] at na
        cases na
      · rw [k3 _ _ hae (k2 _ _ hae (k1 _ _ hai eb))] at na
        cases na
  · exact k7 _ _ hae (k6 _ _ hae (k5 _ _ hae ta))
  · exact (((((I1.but k2 n1 n2).but k3 n1 n2).keep k4).but k5 n1 n2).but k6 n1 n2).but k7 n1 n2
theorem w_enum_go {elts : List Expr} {x1 : Nat} {pos : Pos} {e it a : Addr} {i : Int} {item : Value} {Q : Unit → Heap → Prop} (he : IsEnumOut h e it i item a) (q : ∀ h', KeepBut e h h' → IsEnum h' e it i item → Q () h') :
    W c h (letOwnedTupleGo (.Tuple elts x1 pos) (.ref e) (.ref a)) Q E := fun tk => wpAny_letOwnedTupleGo_enum (s := c.st h tk) he fun h' he' s => ⟨h', tk, rfl, q h' s.extBut he'⟩
theorem w_updateSeq2 {T : Addr} {a b x : Value} {k : Nat} {Q : Unit → Heap → Prop} (hT : TupA h T [a, b]) (q : ∀ h', KeepBut T h h' → TupA h' T ((([a, b] : List Value).set k x)) → Q () h') : W c h (updateSeq T (·.setIfInBounds k x)) Q E := fun tk =>
  wpAny_updateSeq_pair (s := c.st h tk) (k := k) (x := x) hT fun h' e s => ⟨h', tk, rfl, q h' s.extBut (by
    rw [TupA, e]
    simp)⟩
theorem w_zip_next {z TI TO i1 i2 l1 l2 : Addr} {k1 k2 : Nat} {xs ys : List Value} {x y a b : Value} {kd1 kd2 : Bool} {Q : Option Value → Heap → Prop} (D : ZipApart z TI TO i1 i2 l1 l2)
    (hz : IsZip h z TI TO .none) (hTI : TupA h TI [.ref i1, .ref i2]) (hTO : TupA h TO [a, b]) (h1 : It h i1 l1 k1 xs kd1) (h2 : It h i2 l2 k2 ys kd2) (hx : xs[k1]? = some x) (hy : ys[k2]? = some y)
    (q : ∀ h' t, (∀ c o, c ≠ z → c ≠ TO → c ≠ i1 → c ≠ i2 → h.get? c = some o → h'.get? c = some o) → New h t → TupA h' t [x, y] → IsZip h' z TI TO (rawInt t) → TupA h' TI [.ref i1, .ref i2] → TupA h' TO [x, y] → It h' i1 l1 (k1 + 1) xs kd1 → It h' i2 l2 (k2 + 1) ys kd2 → Q (some (.ref t)) h') :
    W c h (pyNext (.ref z)) Q E := by
  refine w_pynext (w_nextslot hz rfl F.slot_zip_next F.entry_zip_next (F.args_zip_next_1 _) ?_)
  show W _ h (field (.ref z) 2 >>= _) _ _
  refine W_bind (w_field (x := .bool false) hz rfl rfl ?_)
  show W _ h (field (.ref z) 3 >>= _) _ _
  refine W_bind (w_field (x := .ref TI) hz rfl rfl ?_)
  refine W_bind (w_seqitems hTI rfl ?_)
  show W _ h (Builtin.SmallTypes.ownedTupleIsFree (.ref z) >>= _) _ _
  unfold Builtin.SmallTypes.ownedTupleIsFree
  refine W_bind (W_bind (w_field (x := .none) hz rfl rfl (W_pure ?_)))
  simp only [if_true]
  refine W_bind (w_rule ?_)
  refine W_bind (w_field (x := .ref TO) hz rfl rfl ?_)
  refine W_bind (w_setfield hz (by simp) fun g1 m1 hz1 => ?_)
  replace hz1 : IsZip g1 z TI TO .ellipsis := hz1
  refine W_bind ?_
  simp only [List.zipIdx_cons, List.zipIdx_nil, List.forIn_cons, List.forIn_nil]
  refine W_bind (W_bind (w_onraise ?_))
  show W _ _ (Builtin.SmallTypes.nextOf (.ref i1) >>= _) _ _
  have j1 := h1.but m1 D.i1z D.l1z
  have j2 := h2.but m1 D.i2z D.l2z
  refine W_bind (j1.next hx fun g2 m2 j1 => W_pure ?_)
  replace j2 := j2.but m2 D.i12.symm D.l2i1
  have t2 : TupA g2 TO [a, b] := m2 _ _ D.TOi1 (m1 _ _ D.TOz hTO)
  refine W_bind (w_seqitems t2 rfl ?_)
  refine W_bind (w_updateSeq2 t2 fun g3 m3 t3 => ?_)
  replace t3 : TupA g3 TO [x, b] := t3
  replace j1 := j1.but m3 D.TOi1.symm D.l1TO
  replace j2 := j2.but m3 D.TOi2.symm D.l2TO
  refine W_bind (w_letgo (W_pure ?_))
  refine W_bind (W_bind (w_onraise ?_))
  show W _ _ (Builtin.SmallTypes.nextOf (.ref i2) >>= _) _ _
  refine W_bind (j2.next hy fun g4 m4 j2 => W_pure ?_)
  replace j1 := j1.but m4 D.i12 D.l1i2
  have t4 : TupA g4 TO [x, b] := m4 _ _ D.TOi2 t3
  refine W_bind (w_seqitems t4 rfl ?_)
  refine W_bind (w_updateSeq2 t4 fun g5 m5 t5 => ?_)
  replace t5 : TupA g5 TO [x, y] := t5
  replace j1 := j1.but m5 D.TOi1.symm D.l1TO
  replace j2 := j2.but m5 D.TOi2.symm D.l2TO
  refine W_bind (w_letgo (W_pure (W_pure ?_)))
  refine W_bind (w_seqitems t5 rfl ?_)
  refine W_bind (w_newtuple rfl fun g6 t m6 nt tt => ?_)
  have hz6 : IsZip g6 z TI TO .ellipsis := m6 _ _ (m5 _ _ D.TOz.symm (m4 _ _ D.i2z.symm (m3 _ _ D.TOz.symm (m2 _ _ D.i1z.symm hz1))))
  show W _ _ (Builtin.SmallTypes.ownedTupleHandOut (.ref z) (.ref t) >>= _) _ _
  unfold Builtin.SmallTypes.ownedTupleHandOut
  refine W_bind (W_bind (w_setfield hz6 (by simp) fun g7 m7 hz7 => ?_))
  replace hz7 : IsZip g7 z TI TO (rawInt t) := hz7
  refine w_setfield hz7 (by simp) fun g8 m8 hz8 => ?_
  replace hz8 : IsZip g8 z TI TO (rawInt t) := hz8
  have up : ∀ c o, c ≠ z → c ≠ TO → c ≠ i1 → c ≠ i2 → h.get? c = some o → g5.get? c = some o := fun c o c1 c2 c3 c4 e => m5 _ _ c2 (m4 _ _ c4 (m3 _ _ c2 (m2 _ _ c3 (m1 _ _ c1 e))))
  have up8 : ∀ c o, c ≠ z → g6.get? c = some o → g8.get? c = some o := fun c o c1 e => m8 _ _ c1 (m7 _ _ c1 e)
  have hz5 := m5 _ _ D.TOz.symm (m4 _ _ D.i2z.symm (m3 _ _ D.TOz.symm (m2 _ _ D.i1z.symm hz1)))
  have htz : t ≠ z := fun y => New.ne nt hz5 y.symm
  refine W_pure ⟨_, rfl, q g8 t (fun c o c1 c2 c3 c4 e => up8 c o c1 (m6 _ _ (up c o c1 c2 c3 c4 e))) ?_ (up8 _ _ htz tt) hz8 ?_ (up8 _ _ D.TOz (m6 _ _ t5)) (((j1.keep m6).but m7 D.i1z D.l1z).but m8 D.i1z D.l1z) (((j2.keep m6).but m7 D.i2z D.l2z).but m8 D.i2z D.l2z)⟩
  · unfold New at nt ⊢
    cases eb : h.get? t with
    | none => rfl
    | some o =>
      have n1 : t ≠ TO := fun y => by subst y; rw [t5] at nt; cases nt
      have n2 : t ≠ i1 := fun y => by subst y; obtain ⟨o', e'⟩ := j1.at; rw [e'] at nt; cases nt
      have n3 : t ≠ i2 := fun y => by subst y; obtain ⟨o', e'⟩ := j2.at; rw [e'] at nt; cases nt
      rw [up t o htz n1 n2 n3 eb] at nt
      cases nt
  · exact up8 _ _ D.TIz (m6 _ _ (up _ _ D.TIz D.TITO D.TIi1 D.TIi2 hTI))
theorem w_zip_go {elts : List Expr} {x1 : Nat} {pos : Pos} {z TI TO T : Addr} {Q : Unit → Heap → Prop} (hz : IsZip h z TI TO (rawInt T)) (q : ∀ h', KeepBut z h h' → IsZip h' z TI TO .none → Q () h') :
    W c h (letOwnedTupleGo (.Tuple elts x1 pos) (.ref z) (.ref T)) Q E := fun tk => wpAny_letOwnedTupleGo_zip (s := c.st h tk) hz fun h' he' s => ⟨h', tk, rfl, q h' s.extBut he'⟩
end
end Mine
end
section
open PySem PySem.W PySem.Calls PyProof.Rows
set_option maxRecDepth 100000
set_option linter.all false
set_option maxHeartbeats 4000000
namespace Mine
section
variable {c : Cx} {h : Heap} {E : Value → Heap → Prop} {env : Env}
/-- what a slice of a tuple picks -/
def tupPick (items : List Value) (a k : Nat) : List Value := (List.range (Builtin.Slice.slicePlaces (Builtin.Slice.sliceAdjust (some (a : Int)) none (k : Int) (items.length : Int)).1 (Builtin.Slice.sliceAdjust (some (a : Int)) none (k : Int) (items.length : Int)).2 (k : Int))).filterMap fun (j : Nat) => items.toArray[((Builtin.Slice.sliceAdjust (some (a : Int)) none (k : Int) (items.length : Int)).1 + (j : Int) * (k : Int)).toNat]?
theorem w_item_step {t sl : Addr} {items res : List Value} {a k : Nat} {u1 : Tok} {vst : Value} {Q : Value → Heap → Prop} (ht : h.IsTuple t items.toArray) (hs : h.IsSliceOf sl (.int a u1) .none vst) (hst : (vst = .none ∧ k = 1) ∨ ∃ u2, vst = .int k u2) (hk : k ≠ 0) (h1 : (Builtin.Slice.sliceAdjust (some (a : Int)) none (k : Int) (items.length : Int)).1 ≠ 0)
    (hr : tupPick items a k = res) (hn : Nat.ble res.length 64 = true) (q : ∀ h' b, Keep h h' → New h b → TupA h' b res → Q (.ref b) h') : W c h (getItem (.ref t) (.ref sl)) Q E := fun tk => by
  obtain ⟨os, hos, hcs, hds⟩ := id hs
  have ht' : IsTup (c.st h tk).heap t items.toArray := ht
  have hTs : (c.st h tk).TypeIs (.ref sl) "slice" := ⟨os, hos, hcs⟩
  unfold getItem
  try with_reducible refine wpAny_holding ?_
  first | refine wpAny_bind (wpAny_pure ?_) | skip
  refine wpAny_bind (wpAny_sequenceKey ht'.typeIs (by decide) ?_)
  refine wpAny_bind (wpAny_callSpecial?_slot (name := Str.ofString "__getitem__") ht'.typeIs slot_tuple_getitem
    (wpAny_call_entry slot_tuple_getitem ht'.typeIs entry_tuple_getitem ?_ (args_tuple_getitem _ _)))
  show wpAny _ _ (Builtin.Tuple.tupleItemsOf (.ref t) >>= _) _ _ _
  refine wpAny_bind (tupleItemsOf_ ht' ?_)
  refine wpAny_bind (wpAny_typeOf hTs ?_)
  rw [if_pos (by decide)]
  refine wpAny_bind ?_
  unfold Builtin.Slice.sliceApplied Builtin.Slice.sliceFields
  refine wpAny_bind (wpAny_bind (wpAny_field hos hds (x := .int a u1) rfl (wpAny_bind (wpAny_field hos hds (x := .none) rfl (wpAny_bind (wpAny_field hos hds (x := vst) rfl (wpAny_pure ?_)))))))
  have step : ∀ {Q : Option Int → Shared → Prop} {E : Value → Shared → Prop}, (∀ o : Option Int, o.getD 1 = (k : Int) → Q o (c.st h tk)) → wpAny (model c.prog c.w) c.in1.A (Builtin.Slice.slicePartIndex vst) Q E (c.st h tk) := fun q => by
    rcases hst with ⟨rfl, rfl⟩ | ⟨u2, rfl⟩
    · exact slicePart_none (q _ rfl)
    · exact slicePart_int (q _ rfl)
  refine wpAny_bind (step fun o ho => ?_)
  simp only [ho]
  have hk0 : ¬ (((k : Int) == 0) = true) := by simp; omega
  rw [if_neg hk0]
  refine wpAny_bind (slicePart_int (wpAny_bind (slicePart_none (wpAny_bind (wpAny_pure ?_)))))
  show wpAny _ _ (match Builtin.Slice.sliceAdjust (some (a : Int)) none (k : Int) (items.toArray.size : Int) with | (lo, hi) => pure (lo, (k : Int), Builtin.Slice.slicePlaces lo hi (k : Int))) _ _ _
  have hsz : (items.toArray.size : Int) = items.length := by simp
  rw [hsz]
  unfold tupPick at hr
  generalize hadj : Builtin.Slice.sliceAdjust (some (a : Int)) none (k : Int) (items.length : Int) = adj at hr h1
  obtain ⟨lo, hi⟩ := adj
  refine wpAny_pure ?_
  dsimp only at hr h1 ⊢
  have hno : ¬ ((lo == 0 && (k : Int) == 1 && (Builtin.Slice.slicePlaces lo hi (k : Int)) == items.toArray.size) = true) := by
    have : (lo == 0) = false := by rw [beq_eq_false_iff_ne]; exact h1
    rw [this]; simp
  rw [if_neg hno, hr]
  have fin : ∀ {P : Value → Shared → Prop} {E : Value → Shared → Prop}, (∀ b s', (∃ h' tk', s' = c.st h' tk' ∧ Q (.ref b) h') → P (.ref b) s') → wpAny (model c.prog c.w) c.in1.A (Builtin.Tuple.tupleExact res.toArray) P E (c.st h tk) := fun p => by
    refine wpAny_newObj_type (p _ _ ⟨_, tk, rfl, q _ _ (Keep.push _ _) (New.of_le (Nat.le_refl _)) (Heap.get?_push_size _ rfl)⟩) ?_
    show res.toArray.size ≤ sizeLine
    rw [List.size_toArray]
    exact Nat.le_trans (Nat.le_of_ble_eq_true hn) (by decide)
  first
    | exact wpAny_bind (fin fun b s' y => wpAny_pure ⟨_, rfl, wpAny_pure y⟩)
    | exact wpAny_bind (fin fun b s' y => wpAny_bind (wpAny_pure (wpAny_pure ⟨_, rfl, wpAny_pure y⟩)))
    | exact wpAny_bind (wpAny_bind (fin fun b s' y => wpAny_pure (wpAny_pure ⟨_, rfl, wpAny_pure y⟩)))
    | exact wpAny_bind (wpAny_bind (fin fun b s' y => wpAny_pure ⟨_, rfl, wpAny_pure y⟩))
/-- a tuple's [a::k] -/
theorem w_tup_step' {value : Expr} {a k k1 k2 : Nat} {p1 p2 p pos : Pos} {Q : Value → Heap → Prop} (hk : k ≠ 0)
    (x : W c h (eval value env) (fun o h1 => ∃ t items res, o = .ref t ∧ h1.IsTuple t items.toArray ∧ tupPick items a k = res ∧ Nat.ble res.length 64 = true ∧ (Builtin.Slice.sliceAdjust (some (a : Int)) none (k : Int) (items.length : Int)).1 ≠ 0 ∧ ∀ h' b, Keep h1 h' → New h1 b → TupA h' b res → Q (.ref b) h') E) :
    W c h (eval (.Subscript value (.Slice (some (.Constant (.int a) k1 p1)) none (some (.Constant (.int k) k2 p2)) p) pos) env) Q E := by
  refine w_subT (T := "tuple") slot_tuple_getitem.lookup (fun _ _ => ⟨_, rfl⟩) (W_mono x (fun o h1' z => ?_) fun _ _ y => y)
  obtain ⟨t, items, res, rfl, ht, hr, hn, h1, q⟩ := z
  refine w_slc (w_part (w_int fun t1 => w_part0 (w_part (w_int fun t2 h2 sl k2 n2 hs => ?_))))
  have ht2 : h2.IsTuple t items.toArray := ht.at (k2 t)
  exact ⟨fun tk => ht2.typeIs (s := c.st h2 tk), w_item_step ht2 hs (.inr ⟨_, rfl⟩) hk h1 hr hn fun h3 b k3 n3 tb => q h3 b (Keep.trans k2 k3) (n3.back k2) tb⟩
theorem w_tup_step {value : Expr} {a k k1 k2 : Nat} {p1 p2 p pos : Pos} {items res : List Value} {Q : Value → Heap → Prop} (hr : tupPick items a k = res) (hn : Nat.ble res.length 64 = true) (hk : k ≠ 0) (h1 : (Builtin.Slice.sliceAdjust (some (a : Int)) none (k : Int) (items.length : Int)).1 ≠ 0)
    (x : W c h (eval value env) (fun o h1 => ∃ t, o = .ref t ∧ h1.IsTuple t items.toArray ∧ ∀ h' b, Keep h1 h' → New h1 b → TupA h' b res → Q (.ref b) h') E) :
    W c h (eval (.Subscript value (.Slice (some (.Constant (.int a) k1 p1)) none (some (.Constant (.int k) k2 p2)) p) pos) env) Q E :=
  w_tup_step' hk (W_mono x (fun o h' ⟨t, e, ht, q⟩ => ⟨t, items, res, e, ht, hr, hn, h1, q⟩) fun _ _ y => y)
/-- a tuple's [a:] -/
theorem w_tup_from {value : Expr} {a k1 : Nat} {p1 p pos : Pos} {items res : List Value} {Q : Value → Heap → Prop} (hr : tupPick items a 1 = res) (hn : Nat.ble res.length 64 = true) (h1 : (Builtin.Slice.sliceAdjust (some (a : Int)) none 1 (items.length : Int)).1 ≠ 0)
    (x : W c h (eval value env) (fun o h1 => ∃ t, o = .ref t ∧ h1.IsTuple t items.toArray ∧ ∀ h' b, Keep h1 h' → New h1 b → TupA h' b res → Q (.ref b) h') E) :
    W c h (eval (.Subscript value (.Slice (some (.Constant (.int a) k1 p1)) none none p) pos) env) Q E := by
  refine w_subT (T := "tuple") slot_tuple_getitem.lookup (fun _ _ => ⟨_, rfl⟩) (W_mono x (fun o h1' z => ?_) fun _ _ y => y)
  obtain ⟨t, rfl, ht, q⟩ := z
  refine w_slc (w_part (w_int fun t1 => w_part0 (w_part0 fun h2 sl k2 n2 hs => ?_)))
  have ht2 : h2.IsTuple t items.toArray := ht.at (k2 t)
  exact ⟨fun tk => ht2.typeIs (s := c.st h2 tk), w_item_step (k := 1) ht2 hs (.inl ⟨rfl, rfl⟩) (by decide) h1 hr hn fun h3 b k3 n3 tb => q h3 b (Keep.trans k2 k3) (n3.back k2) tb⟩
/-- a list's [a::k] -/
theorem w_lst_step {value : Expr} {a k k1 k2 : Nat} {p1 p2 p pos : Pos} {items res : List Value} {Q : Value → Heap → Prop} (hr : slicePick items.toArray (some (a : Int)) none (some (k : Int)) = res.toArray) (hn : Nat.ble items.length 64 = true) (hk : k ≠ 0)
    (x : W c h (eval value env) (fun o h1 => ∃ t, o = .ref t ∧ h1.IsList t items.toArray ∧ ∀ h' b, Keep h1 h' → New h1 b → Lst h' b res → Q (.ref b) h') E) :
    W c h (eval (.Subscript value (.Slice (some (.Constant (.int a) k1 p1)) none (some (.Constant (.int k) k2 p2)) p) pos) env) Q E := by
  refine w_subT (T := "list") list_getitem_lookup (fun _ _ => ⟨_, rfl⟩) (W_mono x (fun o h1' z => ?_) fun _ _ y => y)
  obtain ⟨t, rfl, ht, q⟩ := z
  refine w_slc (w_part (w_int fun t1 => w_part0 (w_part (w_int fun t2 h2 sl k2 n2 hs => ?_))))
  have ht2 : h2.IsList t items.toArray := ht.at (k2 t)
  refine ⟨fun tk => ht2.typeIs (s := c.st h2 tk), fun tk => wpAny_getItem_list_slice (s := c.st h2 tk) ht2 hs (.int _ _) .none (.int _ _) (by simp; omega) ?_ ?_⟩
  · rw [hr]
    exact ⟨_, _, rfl, q _ _ (Keep.trans k2 (Keep.push _ _)) (New.back (New.of_le (Nat.le_refl _)) k2) ⟨0, Heap.get?_push_size _ rfl⟩⟩
  · rw [List.size_toArray]
    exact Nat.le_trans (Nat.le_of_ble_eq_true hn) (by decide)
/-- what stands in a starred tuple -/
theorem w_args_star {e : Expr} {p : Pos} {rest : List Expr} {pos : Pos} {items : List Value} {Q : List Value → Heap → Prop} (hn : Nat.ble items.length 64 = true)
    (x : W c h (eval e env) (fun v h1 => ∃ t, v = .ref t ∧ h1.IsTuple t items.toArray ∧ ∀ h', Keep h1 h' → W c h' (spliced (backTo pos (starEach rest env))) (fun vs h2 => Q (items ++ vs) h2) E) E)
    (he : starEach (.Starred e p :: rest) env = (true, eval e env) :: starEach rest env := by rfl) : W c h (spliced (backTo pos (starEach (.Starred e p :: rest) env))) Q E := fun tk => by
  refine items_star (wpAny_mono (x tk) (fun v s' ⟨h', tk', e, q⟩ => ?_) fun _ _ y => y) he
  subst e
  obtain ⟨t, rfl, ht, q⟩ := q
  obtain ⟨o, ho, hc, n, hd⟩ := id ht
  unfold StarOf notIterableAtAll
  refine wpAny_bind (wpAny_specialOf (Heap.IsTuple.typeIs (s := c.st h' tk') ht) PySem.F.slot_tuple_iter.lookup (wpAny_pure ⟨rfl, ?_⟩))
  refine wpAny_collect_seq t (.inr rfl) ho hc hd (fun h'' k => ?_) ?_
  · refine wpAny_mono (q h'' k tk') (fun vs s' ⟨h3, tk3, e3, q3⟩ => ⟨h3, tk3, e3, ?_⟩) fun _ _ y => y
    simpa using q3
  · rw [List.size_toArray]
    exact Nat.le_trans (Nat.le_of_ble_eq_true hn) (by decide)
end
end Mine
end
section
open PySem PySem.W PySem.Calls PyProof.Rows
set_option maxRecDepth 100000
set_option linter.all false
set_option maxHeartbeats 4000000
namespace Mine
section
variable {c : Cx} {h : Heap} {E : Value → Heap → Prop} {env : Env} {α : Type}
/-- a builtin class called -/
theorem w_newtype {T newId : String} {Bn : Builtin} {args : List Value} {Q : Value → Heap → Prop} (ft : TypeCalled T newId "object.__init__") (hne : (some newId != some "object.__new__") = true) (hct : checkTypeCall T ⟨args, []⟩ = pure ()) (hcn : checkBuiltinCall newId ⟨.type T :: args, []⟩ = pure ())
    (hok : ∀ obj, argsOk "object.__init__" ⟨obj :: args, []⟩) (entryN : entryFor table newId = some Bn)
    (x : W c.in1.in1 h (Bn ⟨.type T :: args, []⟩) (fun fin h' => ∃ a o, fin = .done (.ret (.ref a)) ∧ h'.get? a = some o ∧ o.cls = .type T ∧ Q (.ref a) h') E) : W c h (call (.type T) args) Q E := fun tk => by
  refine callType_newIn (s := c.st h tk) ft hne hct hcn hok entryN (S := fun A R s => wpAny (model c.prog c.w) A.in1 (Bn ⟨.type T :: args, []⟩) (fun fin s' => ∃ v, fin = .done (.ret v) ∧ R (.ok (.ret v)) s') (fun e s' => R (.error e) s') s) (.of_wp fun A R s h => h) ?_
  refine wpAny_mono (x tk) (fun fin s' ⟨h', tk', e, a, o, ef, ho, hc, q⟩ => ⟨_, ef, ?_⟩) (fun e s' ⟨h', tk', es, q⟩ => ?_)
  · subst e
    exact ⟨⟨o, ho, hc⟩, h', tk', rfl, q⟩
  · exact ⟨h', tk', es, q⟩
theorem w_newobj {T : String} {vs : List Value} {Q : Value → Heap → Prop} (hsz : Nat.ble vs.length 64 = true) (q : ∀ h' a, Keep h h' → New h a → h'.get? a = some { cls := .type T, data := .fields vs.toArray } → Q (.ref a) h') : W c h (Builtin.SmallTypes.newRecord (.type T) vs) Q E := by
  show W c h (newObj (.type T) (.fields vs.toArray)) Q E
  refine fun tk => wpAny_newObj_type (s := c.st h tk) ⟨_, tk, rfl, q _ _ (Keep.push _ _) (New.of_le (Nat.le_refl _)) (Heap.get?_push_size _ rfl)⟩ ?_
  first | trivial | exact Nat.le_trans (by rw [List.size_toArray]; exact Nat.le_of_ble_eq_true hsz) (by decide) | (unfold sizeOk; simp)
theorem w_iter_tup {t : Addr} {items : List Value} {Q : Value → Heap → Prop} (ht : h.IsTuple t items.toArray) (q : ∀ h' it, Keep h h' → New h it → It h' it t 0 items true → Q (.ref it) h') : W c h (pyIter (.ref t)) Q E := fun tk =>
  wpAny_pyIter_tuple (s := c.st h tk) ht ⟨_, tk, rfl, q _ _ (Keep.push _ _) (New.of_le (Nat.le_refl _)) (.tup (Heap.get?_push_size _ rfl) (by
    obtain ⟨o, e, _, n, d⟩ := ht
    exact ⟨o, n, Heap.get?_push_of_some _ e, d⟩))⟩
theorem w_iter_lst {t : Addr} {items : List Value} {Q : Value → Heap → Prop} (ht : h.IsList t items.toArray) (q : ∀ h' it, Keep h h' → New h it → It h' it t 0 items false → Q (.ref it) h') : W c h (pyIter (.ref t)) Q E := fun tk =>
  wpAny_pyIter_list (s := c.st h tk) ht ⟨_, tk, rfl, q _ _ (Keep.push _ _) (New.of_le (Nat.le_refl _)) (.lst (Heap.get?_push_size _ rfl) (ht.push _))⟩
/-- a kind of tuple of the module, walked -/
theorem w_iter_ols {O : Addr} {v0 v1 : Value} {k : Nat} {sl : Array (Option Value)} {dd : Option Addr} {Q : Value → Heap → Prop} (B : Base c.w h) (ho : h.get? O = some { cls := .ref 376, dict := dd, data := .seq #[v0, v1] k, slots := sl })
    (q : ∀ h' it, Keep h h' → New h it → It h' it O 0 [v0, v1] true → Q (.ref it) h') : W c h (pyIter (.ref O)) Q E := by
  have spec : ∀ {Q : Option Value → Heap → Prop} {E : Value → Heap → Prop}, Q (some (.builtin "tuple.__iter__")) h → W c h (specialOf (.ref O) "__iter__") Q E := fun q => by
    refine @w_dr_load _ _ _ _ _ _ 0 O _ B (by kernel_rfl) ho ?_
    refine @w_dr_pure _ _ _ _ _ _ (some (Value.builtin "tuple.__iter__")) 3 B (by kernel_rfl) ?_
    exact q
  unfold pyIter
  refine W_bind (spec ?_)
  show W c h (callSpecialIfBoundUnlessNone? (.ref O) "__iter__" _ >>= _) Q E
  refine W_bind ?_
  unfold callSpecialIfBoundUnlessNone? bindSpecialIfBound?
  refine W_holding (W_bind (W_bind (spec ?_)))
  simp only [slot_tuple_iter.bind]
  have fin : ∀ {refuse : Sem Value} {P : Option Value → Heap → Prop}, (∀ h' it, Keep h h' → New h it → It h' it O 0 [v0, v1] true → P (some (.ref it)) h') → W c h (if (Value.builtin "tuple.__iter__" == Value.none) = true then (refuse >>= fun v => pure (some v)) else (call (.builtin "tuple.__iter__") [.ref O] >>= fun v => pure (some v))) P E := fun p => by
    rw [if_neg (by simp)]
    refine W_bind ?_
    refine @w_dr_call _ _ _ _ _ _ 0 (Code.call (Value.builtin "tuple.__iter__") { pos := [Value.ref O] }) B (by kernel_rfl) ?_
    refine WC_tree' ?_
    refine @w_dr_load _ _ _ _ _ _ 0 O _ B (by kernel_rfl) ho ?_
    refine @w_dr_again _ _ _ _ _ _ _ 1 (Code.builtin "tuple.__iter__" { pos := [Value.ref O] }) B (by kernel_rfl) (by kernel_rfl) ?_
    refine WC_builtin' (Bi := Builtin.«tuple.__iter__») (entryFor_of_tree (by kernel_rfl)) ?_
    refine @w_dr_alloc _ _ _ _ _ _ 0 ({ cls := Value.type "tuple_iterator", data := Data.fields { toList := [Value.ref O, Value.int (Int.ofNat 0) 0] } }) B (by kernel_rfl) rfl fun a0 h0 n0 k0 e0 => ?_
    have B0 : Base _ h0 := Base.mono B k0
    refine @w_dr_done _ _ _ _ _ _ _ 0 (Value.ref a0) B0 (by kernel_rfl) ?_
    refine @w_dr_pure _ _ _ _ _ _ (Value.ref a0) 0 B0 (by kernel_rfl) ?_
    exact W_pure (p _ _ k0 n0 (.tup e0 ⟨_, _, k0 _ _ ho, rfl⟩))
  have last : ∀ h' it, Keep h h' → New h it → It h' it O 0 [v0, v1] true → W c h' (specialOf (.ref it) "__next__" >>= fun o => match o with
      | none => do rule "iter.non-iterator"; raiseError "TypeError" s!"iter() returned non-iterator of type '{← typeNameOf (.ref it)}'"
      | some _ => pure (Value.ref it)) Q E := fun h' it k n I => by
    cases I with
    | tup e s => exact fun tk => wpAny_bind (wpAny_specialOf (T := "tuple_iterator") (s := c.st h' tk) ⟨_, e, rfl⟩ F.slot_tuple_iterator_next.lookup (wpAny_pure ⟨h', tk, rfl, q h' it k n (.tup e s)⟩))
  refine fun tk => wpAny_bind (wpAny_askSetting (wpAny_ite ?_))
  split
  · exact wpAny_bind (wpAny_pure (wpAny_pure ⟨h, tk, rfl, fin (fun h' it k n I => last h' it k n I)⟩))
  · exact wpAny_tryCatch (wpAny_bind (wpAny_pure (wpAny_pure ⟨h, tk, rfl, fin (fun h' it k n I => last h' it k n I)⟩)))
/-- enumerate over it -/
theorem w_enum_ols {O : Addr} {v0 v1 : Value} {k : Nat} {sl : Array (Option Value)} {dd : Option Addr} {Q : Value → Heap → Prop} (B : Base c.w h) (ho : h.get? O = some { cls := .ref 376, dict := dd, data := .seq #[v0, v1] k, slots := sl })
    (q : ∀ h' e it, Keep h h' → New h e → New h it → it ≠ e → IsEnum h' e it 0 .none → It h' it O 0 [v0, v1] true → Q (.ref e) h') : W c h (call (.type "enumerate") [.ref O]) Q E := by
  refine w_newtype F.called_enumerate (by decide) (F.typeCall_enumerate_1 _) (F.newCall_enumerate_1 _) (fun obj => by first | exact F.args_object_init_2 obj _ | (unfold argsOk; rw [signature?_of (id := "object.__init__") (n := ['_', '_', 't', 'i', 'n', 'i', '_', '_']) (o := ['t', 'c', 'e', 'j', 'b', 'o']) (by kernel_rfl) F.owner_object]; kernel_rfl)) F.entry_enumerate_new ?_
  unfold Builtin.«enumerate.__new__»
  refine W_bind (W_eq (t' := pure (Value.type "enumerate", [Value.ref O])) (by
    unfold Builtin.SmallTypes.newClass
    have hsub := sub_enumerate
    dsimp only
    rw [hsub]
    rfl) (W_pure ?_))
  dsimp only
  refine W_bind ?_
  show W _ h (if (Value.type "enumerate" == Value.type "enumerate") = true then Builtin.SmallTypes.calledThroughType (Value.type "enumerate") else pure false) _ _
  rw [if_pos (by simp)]
  unfold Builtin.SmallTypes.calledThroughType
  refine W_bind (w_stackAny fun l => W_pure ?_)
  have tail : ∀ {P : Fin → Heap → Prop} {c2 : Cx}, c2.w = c.w → (∀ a h', (∃ o, h'.get? a = some o ∧ o.cls = .type "enumerate") → Q (.ref a) h' → P (.done (.ret (.ref a))) h') → W c2 h (do ret (← Builtin.SmallTypes.newRecord (.type "enumerate") (Builtin.SmallTypes.ownedTupleFields ++ [← pyIter (.ref O), rawInt 0, .none, .none]))) P E := fun hw p => by
    refine W_bind (w_iter_ols (hw ▸ B) ho fun h1 it k1 n1 I1 => ?_)
    refine W_bind (w_newobj rfl fun h2 a k2 n2 e2 => ?_)
    obtain ⟨oi, ei⟩ := I1.at
    exact W_pure (p _ _ ⟨_, e2, rfl⟩ (q h2 a it (Keep.trans k1 k2) (n2.back k1) n1 (New.ne n2 ei) e2 (I1.keep k2)))
  split
  · rename_i c' _ _ _ _ _
    cases (c' == Value.type "enumerate")
    · exact tail rfl fun a h' ⟨o, e, hc⟩ q => ⟨a, o, rfl, e, hc, q⟩
    · exact tail rfl fun a h' ⟨o, e, hc⟩ q => ⟨a, o, rfl, e, hc, q⟩
  · exact tail rfl fun a h' ⟨o, e, hc⟩ q => ⟨a, o, rfl, e, hc, q⟩
/-- zip of two -/
theorem w_zip2 {l1 l2 : Addr} {xs ys : List Value} (kd : Bool) {Q : Value → Heap → Prop} (h1 : h.IsTuple l1 xs.toArray) (h2 : if kd = true then h.IsTuple l2 ys.toArray else h.IsList l2 ys.toArray)
    (q : ∀ h' z TI TO i1 i2, Keep h h' → New h z → New h TI → New h TO → New h i1 → New h i2 → ZipApart z TI TO i1 i2 l1 l2 → IsZip h' z TI TO .none → TupA h' TI [.ref i1, .ref i2] → TupA h' TO [.none, .none] → It h' i1 l1 0 xs true → It h' i2 l2 0 ys kd → Q (.ref z) h') : W c h (call (.type "zip") [.ref l1, .ref l2]) Q E := by
  refine w_newtype F.called_zip (by decide) (F.typeCall_zip_2 _ _) (F.newCall_zip_2 _ _) (fun obj => F.args_object_init_3 obj _ _) F.entry_zip_new ?_
  unfold Builtin.«zip.__new__»
  refine W_bind (W_eq (t' := pure (Value.type "zip", [Value.ref l1, Value.ref l2])) (by
    unfold Builtin.SmallTypes.newClass
    have hsub := sub_zip
    dsimp only
    rw [hsub]
    rfl) (W_pure ?_))
  have it2 : ∀ {c2 : Cx} {P : Value → Heap → Prop} {g}, Keep h g → (∀ h' it, Keep g h' → New g it → It h' it l2 0 ys kd → P (.ref it) h') → W c2 g (pyIter (.ref l2)) P E := fun k p => by
    cases kd with
    | true => exact w_iter_tup (TupKeep.of_keep k _ _ h2) p
    | false => exact w_iter_lst (by obtain ⟨o, e, r⟩ := h2; exact ⟨o, k _ _ e, r⟩) p
  show W _ h (Builtin.SmallTypes.iterAll [Value.ref l1, Value.ref l2] >>= fun its => _) _ _
  refine W_bind ?_
  unfold Builtin.SmallTypes.iterAll
  simp only [List.forIn_cons, List.forIn_nil]
  refine W_bind (W_bind (W_bind (W_holding (w_iter_tup h1 fun g1 i1 k1 n1 I1 => W_pure (W_bind (W_bind (W_holding (it2 k1 fun g2 i2 k2 n2 I2 => W_pure (W_pure (W_pure ?_))))))))))
  refine W_bind (w_newtuple rfl fun g3 TI k3 n3 e3 => ?_)
  refine W_bind (w_newtuple rfl fun g4 TO k4 n4 e4 => ?_)
  refine W_bind (w_newobj rfl fun g5 z k5 n5 e5 => ?_)
  replace e3 : TupA g3 TI [.ref i1, .ref i2] := e3
  replace e4 : TupA g4 TO [.none, .none] := e4
  replace e5 : IsZip g5 z TI TO .none := e5
  obtain ⟨oi1, ei1⟩ := I1.at
  obtain ⟨oi2, ei2⟩ := I2.at
  obtain ⟨o1, hl1, _⟩ := id h1
  have hl2 : ∃ o, h.get? l2 = some o := by
    cases kd with
    | true => obtain ⟨o, e, _⟩ := h2; exact ⟨o, e⟩
    | false => obtain ⟨o, e, _⟩ := h2; exact ⟨o, e⟩
  obtain ⟨o2, hl2⟩ := hl2
  have K2 := Keep.trans k1 k2
  have K3 := Keep.trans K2 k3
  have K4 := Keep.trans K3 k4
  have N2 := n2.back k1
  have N3 := n3.back K2
  have N4 := n4.back K3
  have N5 := n5.back K4
  refine W_pure ⟨z, _, rfl, e5, rfl, q g5 z TI TO i1 i2 (Keep.trans K4 k5) N5 N3 N4 n1 N2 ?_ e5 (k5 _ _ (k4 _ _ e3)) (k5 _ _ e4) (((I1.keep k2).keep k3).keep (Keep.trans k4 k5)) ((I2.keep k3).keep (Keep.trans k4 k5))⟩
  exact ⟨New.ne n5 (k4 _ _ e3), New.ne n5 e4, New.ne n5 (k4 _ _ (k3 _ _ (k2 _ _ ei1))), New.ne n5 (k4 _ _ (k3 _ _ ei2)), New.ne n4 e3, (New.ne n3 (k2 _ _ ei1)).symm, (New.ne n3 ei2).symm, (New.ne n4 (k3 _ _ (k2 _ _ ei1))).symm, (New.ne n4 (k3 _ _ ei2)).symm, New.ne n2 ei1,
    New.ne N5 hl1, New.ne N4 hl1, New.ne n1 hl1, New.ne N2 hl1, New.ne N5 hl2, New.ne N4 hl2, New.ne n1 hl2, New.ne N2 hl2⟩
end
end Mine
end
section
open PySem PySem.W PySem.Calls PyProof.Rows
set_option maxRecDepth 100000
set_option linter.all false
set_option maxHeartbeats 4000000
namespace Mine
abbrev somes (vs : List Value) : List Value := vs.filter fun v => !(v == .none)
theorem somes_take {vs : List Value} {i : Nat} {v : Value} (h : vs[i]? = some v) : somes (vs.take (i + 1)) = somes (vs.take i) ++ (if (!(v == .none)) = true then [v] else []) := by
  rw [List.take_add_one, h]
  unfold somes
  rw [List.filter_append]
  congr 1
  cases hv : (!(v == Value.none)) <;> simp [List.filter, hv]
section
variable {c : Cx} {h : Heap} {E : Value → Heap → Prop} {env : Env}
theorem comp_run {x : Str} {p1 p2 p3 p4 p5 pos : Pos} {k : Nat} {iter : Expr} {scope : Scope} {items : List Value} {ce : Env} {it t D cl : Addr} {hb : Heap} {R : Result → Shared → Prop}
    (hk1 : ce.scope.kind = .function) (hk2 : ce.kindOf x = some .local) (hloc : ce.locals = cl) (hp : (ce.scope.kind == .class || (ce.scope.kind == .module && ce.locals != ce.globals)) = false) (hdbg : (x == ("__debug__" : Str)) = false) (hh : c.A.handled = none)
    (n1 : New hb it) (n2 : New hb D) (n3 : New hb cl) (d1 : it ≠ D) (d2 : it ≠ cl) (d3 : D ≠ cl) (t1 : t ≠ it) (t2 : t ≠ D) (t3 : t ≠ cl) (hl : items.length ≤ 64)
    (K : Keep hb h) (e : h.IsTupleIter it t 0) (l : h.IsList D ([] : List Value).toArray) (ht : h.IsTuple t items.toArray) (N : ∃ m, h.Ns cl m)
    (q : ∀ h' tk', Keep hb h' → h'.IsList D (somes items).toArray → (∃ m, h'.Ns cl m) → R (.ok .next) (c.st h' tk')) (tk : Nat) :
    codeAny (model c.prog c.w) c.A (.compStart (.ListComp (.Name x p1) [⟨.Name x p2, iter, [.Compare (.Name x p3) [.IsNot] [.Constant .none k p4] p5], 0⟩] scope pos) 0 (.ref it) (.ref D) ce) R (c.st h tk) := by
  have loop : codeAny (model c.prog c.w) c.A (.compLoop (.ListComp (.Name x p1) [⟨.Name x p2, iter, [.Compare (.Name x p3) [.IsNot] [.Constant .none k p4] p5], 0⟩] scope pos) 0 (.ref it) (.ref D) ce) R (c.st h tk) := by
    refine codeAny_compLoop_tests (fun n s => ∃ g tk i, s = c.st g tk ∧ n = items.length + 1 - i ∧ i ≤ items.length ∧ Keep hb g ∧ g.IsTupleIter it t i ∧ g.IsList D (somes (items.take i)).toArray ∧ g.IsTuple t items.toArray ∧ ∃ m, g.Ns cl m) ?_ (items.length + 1) ⟨h, tk, 0, rfl, by omega, by omega, K, e, l, ht, N⟩
    rintro n s ⟨g, tk, i, rfl, rfl, hi, K, e, l, ht, m, N⟩
    cases hv : items[i]? with
    | none =>
      have hi2 : i = items.length := by
        have := List.getElem?_eq_none_iff.mp hv
        omega
      refine wpAny_pyNext_tuple_end (s := c.st g tk) hh e ht (by simpa using hv) fun g' s' => ?_
      subst hi2
      rw [List.take_length] at l
      exact q g' tk (fun b o eb => s' b o (n1.ne (by exact eb)) (K b o eb)) (l.extBut s' d1.symm) ⟨m, N.extBut s' (Ne.symm d2)⟩
    | some v =>
      have hlt : i < items.length := (List.getElem?_eq_some_iff.mp hv).1
      refine wpAny_pyNext_tuple_item (s := c.st g tk) e ht (x := v) (by simpa using hv) fun g1 e1 s1 => ?_
      have b1 : KeepBut it g g1 := s1.extBut
      show wpAny _ _ (do standAt p2; bindName ce x v) _ _ _
      refine wpAny_bind (wpAny_standAt ?_)
      refine wpAny_bindName (wpAny_storeName_local (m := m) hk2 (hloc ▸ (N.extBut b1 (Ne.symm d2))) (fun g2 N2 s2 => ?_) hp)
      have b2 : KeepBut cl g1 g2 := by rw [← hloc]; exact s2.extBut
      have ev : W { c with A := c.A } g2 (eval (.Name x p3) ce) (fun a h' => a = v ∧ h' = g2) (fun _ _ => False) := fun tk => wpAny_Name (wpAny_loadName_local (s := c.st g2 tk) hk1 hk2 N2 (if_pos rfl) ⟨g2, tk, rfl, rfl, rfl⟩) hdbg
      have kb : ∀ b o, hb.get? b = some o → g2.get? b = some o := fun b o eb => b2 b o (n3.ne eb) (b1 b o (n1.ne eb) (K b o eb))
      have l2 := (l.extBut b1 d1.symm).extBut b2 d3
      have ht2 : g2.IsTuple t items.toArray := by obtain ⟨o, e, r⟩ := ht; exact ⟨o, b2 _ _ t3 (b1 _ _ t1 e), r⟩
      have e2 : g2.IsTupleIter it t (i + 1) := by obtain ⟨o, e, r⟩ := e1; exact ⟨o, b2 _ _ d2 e, r⟩
      have Nn : ∃ m, g2.Ns cl m := ⟨_, by rw [← hloc]; exact N2⟩
      have hst := somes_take hv
      refine wpAny_tests_one ?_
      have test : W c g2 (isTrue (.Compare (.Name x p3) [.IsNot] [.Constant .none k p4] p5) ce (eval (.Compare (.Name x p3) [.IsNot] [.Constant .none k p4] p5) ce)) (fun b h' => b = (!(v == Value.none)) ∧ h' = g2) (fun _ _ => False) :=
        w_tcmp <| W_mono ev (fun a h' ⟨ea, eh⟩ => by subst ea eh; exact w_none <| fun tk => isNot_none ⟨h', tk, rfl, w_tbool ⟨rfl, rfl⟩⟩) fun _ _ f => f.elim
      refine wpAny_mono (test (tk + 1)) (fun b s3 ⟨g3, tk3, e3, hb3, eg3⟩ => ?_) fun _ _ ⟨_, _, _, f⟩ => f.elim
      subst e3 eg3
      cases hvn : (!(v == Value.none)) with
      | false =>
        rw [hvn] at hb3 hst
        subst hb3
        simp only [Bool.false_eq_true, if_false, List.append_nil] at hst ⊢
        exact ⟨items.length + 1 - (i + 1), by omega, g3, tk3, i + 1, rfl, rfl, hlt, kb, e2, hst ▸ l2, ht2, Nn⟩
      | true =>
        rw [hvn] at hb3 hst
        subst hb3
        simp only [if_true] at hst ⊢
        have ev1 : W c g3 (eval (.Name x p1) ce) (fun a h' => a = v ∧ h' = g3) (fun _ _ => False) := fun tk => wpAny_Name (wpAny_loadName_local (s := c.st g3 tk) hk1 hk2 N2 (if_pos rfl) ⟨g3, tk, rfl, rfl, rfl⟩) hdbg
        refine wpAny_mono (ev1 tk3) (fun a s4 ⟨g4, tk4, e4, ha, eg4⟩ => ?_) fun _ _ ⟨_, _, _, f⟩ => f.elim
        subst e4 eg4 ha
        have lz : (somes (items.take i)).toArray.size ≤ sizeLine := by
          rw [List.size_toArray]
          have h1 : (somes (items.take i)).length ≤ (items.take i).length := List.length_filter_le _ _
          have h2 : (items.take i).length ≤ items.length := by rw [List.length_take]; omega
          have h3 : (64 : Nat) ≤ sizeLine := by decide
          omega
        refine wpAny_list_append (s := c.st g4 tk4) l2 (fun g5 l5 s5 => ?_) lz
        have b5 : KeepBut D g4 g5 := s5.extBut
        have t5 : t ≠ D := t2
        refine ⟨items.length + 1 - (i + 1), by omega, g5, tk4, i + 1, rfl, rfl, hlt, fun b o eb => b5 b o (n2.ne eb) (kb b o eb), ?_, ?_, ?_, ?_⟩
        · obtain ⟨o, e, r⟩ := e2; exact ⟨o, b5 _ _ d1 e, r⟩
        · rw [hst]
          have : (somes (items.take i) ++ [a]).toArray = (somes (items.take i)).toArray.push a := by simp
          rw [this]; exact l5
        · obtain ⟨o, e, r⟩ := ht2; exact ⟨o, b5 _ _ t5 e, r⟩
        · obtain ⟨m', N'⟩ := Nn; exact ⟨m', N'.extBut b5 (Ne.symm d3)⟩
  refine codeAny_compStart_list loop ?_
  exact wpAny_pyIter_tupleiter e loop
/-- [x for x in a tuple if x is not None] -/
theorem w_comp_some {x : Str} {p1 p2 p3 p4 p5 pos : Pos} {k : Nat} {iter : Expr} {scope : Scope} {items : List Value} {Q : Value → Heap → Prop}
    (hfree : ∀ y ∈ scope.names, y.2 ≠ .free) (hcell : ∀ y ∈ scope.names, y.2 ≠ .cell) (hkind : scope.kind = .function) (hnames : ∀ y ∈ scope.names, y.2 = .local → scope.names.lookup y.1 = some .local) (hx : scope.names.lookup x = some .local) (hdbg : (x == ("__debug__" : Str)) = false)
    (hh : c.A.handled = none)
    (y : W c h (eval iter env) (fun v h1 => ∃ t, v = .ref t ∧ h1.IsTuple t items.toArray ∧ items.length ≤ 64 ∧ ∀ h' b, Keep h1 h' → New h1 b → h'.IsList b (somes items).toArray → Q (.ref b) h') E)
    (hs : ∀ x, foldedSetIterable iter env x = pure x := by intro _; rfl) :
    W c h (eval (.ListComp (.Name x p1) [⟨.Name x p2, iter, [.Compare (.Name x p3) [.IsNot] [.Constant .none k p4] p5], 0⟩] scope pos) env) Q E := fun tk => by
  refine wpAny_ListComp hfree hkind hnames (wpAny_mono (y tk) (fun v s1 ⟨h1, tk1, e1, t, ev, ht, hl, q⟩ => ?_) fun _ _ y => y) hs
  subst e1 ev
  refine wpAny_pyIter_tuple ht ?_
  generalize hit : h1.objs.size = it
  have hn0 : New h1 it := by rw [← hit]; exact New.of_le (Nat.le_refl _)
  have e2 : (h1.push { cls := .type "tuple_iterator", data := .fields #[.ref t, .int 0 0] }).IsTupleIter it t 0 := by rw [← hit]; exact ⟨_, Heap.get?_push_size _ rfl, rfl, rfl⟩
  have k2 : Keep h1 (h1.push { cls := .type "tuple_iterator", data := .fields #[.ref t, .int 0 0] }) := Keep.push _ _
  show wpAny _ _ (newList []) _ _ (c.st (h1.push { cls := .type "tuple_iterator", data := .fields #[.ref t, .int 0 0] }) tk1)
  generalize h1.push { cls := .type "tuple_iterator", data := .fields #[.ref t, .int 0 0] } = h2 at e2 k2 ⊢
  refine wpAny_newObj_type (s := c.st h2 tk1) ?_ (by show (0 : Nat) ≤ _; exact Nat.zero_le _)
  generalize hD : h2.objs.size = D
  have nD : New h2 D := by rw [← hD]; exact New.of_le (Nat.le_refl _)
  have k3 : Keep h2 (h2.push { cls := .type "list", data := .seq ([] : List Value).toArray }) := Keep.push _ _
  have l3 : Lst (h2.push { cls := .type "list", data := .seq ([] : List Value).toArray }) D [] := by rw [← hD]; exact ⟨0, Heap.get?_push_size _ rfl⟩
  show wpAny _ _ _ _ _ (c.st (h2.push { cls := .type "list", data := .seq ([] : List Value).toArray }) tk1)
  generalize h2.push { cls := .type "list", data := .seq ([] : List Value).toArray } = h3 at k3 l3 ⊢
  refine wpAny_newFunctionEnv (s := c.st h3 tk1) hcell (by simp) (fun h4 N4 s4 => ?_) hkind
  show codeAny _ _ _ _ (c.st h4 (tk1 + 0))
  replace N4 : h4.Ns h3.objs.size _ := N4
  generalize hcl : h3.objs.size = cl at N4
  have ncl : New h3 cl := by rw [← hcl]; exact New.of_le (Nat.le_refl _)
  have k4 : Keep h3 h4 := fun b o e => by
    have hb : b ≠ cl := (ncl.ne e)
    have := s4.extBut b o (by show b ≠ h3.objs.size; rw [hcl]; exact hb) (Heap.get?_push_of_some _ e)
    exact this
  have K14 : Keep h1 h4 := Keep.trans k2 (Keep.trans k3 k4)
  obtain ⟨oi, ei, _⟩ := id e2
  obtain ⟨nl, el⟩ := id l3
  have nit : it ≠ D := nD.ne ei
  have nit2 : it ≠ cl := ncl.ne (k3 _ _ ei)
  have nD2 : D ≠ cl := ncl.ne el
  obtain ⟨ot, hot, _⟩ := id ht
  have nt1 : t ≠ it := hn0.ne hot
  have nt2 : t ≠ D := (nD.ne (k2 _ _ hot))
  have nt3 : t ≠ cl := (ncl.ne (k3 _ _ (k2 _ _ hot)))
  have e4 : h4.IsTupleIter it t 0 := by obtain ⟨o, e, r⟩ := e2; exact ⟨o, k4 _ _ (k3 _ _ e), r⟩
  have l4 : h4.IsList D ([] : List Value).toArray := (l3.keep k4).isList
  have NDb : New h1 D := nD.back k2
  have Nclb : New h1 cl := ncl.back (Keep.trans k2 k3)
  have t4 : h4.IsTuple t items.toArray := by obtain ⟨o, e, r⟩ := ht; exact ⟨o, K14 _ _ e, r⟩
  refine comp_run (hb := h1) (cl := cl) ?_ ?_ ?_ ?_ hdbg hh hn0 NDb Nclb nit nit2 nD2 nt1 nt2 nt3 hl K14 e4 l4 t4 ⟨_, N4⟩ (fun h5 tk5 K5 l5 N5 => ?_) _
  · exact hkind
  · exact hx
  · rfl
  · show (scope.kind == .class || (scope.kind == .module && _)) = false
    rw [hkind]; rfl
  obtain ⟨m, N5⟩ := N5
  refine ⟨m, N5, fun h6 s6 => ⟨h6, tk5, rfl, ?_⟩⟩
  have b6 : KeepBut cl h5 h6 := s6.extBut
  exact q h6 D (fun b o e => b6 b o (Nclb.ne e) (K5 b o e)) NDb (l5.extBut b6 nD2)
end
end Mine
end
section
open PySem PySem.W PySem.Calls PyProof.Rows
set_option maxRecDepth 100000
set_option linter.all false
set_option maxHeartbeats 4000000
namespace Mine
section
variable {c : Cx} {h : Heap} {E : Value → Heap → Prop} {env : Env}
theorem w_tupnext_end {it src : Addr} {i : Nat} {o : Obj} {items : Array Value} {n : Nat} {Q : Value → Heap → Prop} (hh : c.A.handled = none) (e : h.get? it = some { cls := .type "tuple_iterator", data := .fields #[.ref src, .int i 0] }) (ho : h.get? src = some o) (hd : o.data = .seq items n) (hx : items[i]? = none)
    (q : ∀ h' x, KeepBut it h h' → (∃ o, h'.get? x = some o ∧ o.cls = .type "StopIteration") → E (.ref x) h') : W c h (Builtin.SmallTypes.nextOf (.ref it)) Q E := by
  refine w_nextof (w_nextslot e rfl F.slot_tuple_iterator_next F.entry_tuple_iterator_next (F.args_tuple_iterator_next_1 _) ?_)
  show W _ h (field (.ref it) 0 >>= _) _ _
  refine W_bind (w_field (x := .ref src) e rfl rfl ?_)
  show W _ h (if (Value.ref src == Value.none) = true then _ else _) _ _
  rw [if_neg (by simp)]
  show W _ h (field (.ref it) 1 >>= _) _ _
  refine W_bind (w_field (x := .int i 0) e rfl rfl ?_)
  show W _ h (seqItems? (.ref src) >>= _) _ _
  refine W_bind (w_seqitems ho hd ?_)
  simp only [Int.toNat_natCast, hx]
  refine W_bind (w_rule (W_bind (w_setfield e (by simp) fun h1 k1 _ => ?_)))
  exact w_stop (c := c.in1) hh fun h' x k2 y => q h' x (fun b o n eb => k2 _ _ (k1 _ _ n eb)) y
theorem w_enum_end {e it src : Addr} {i : Nat} {old : Value} {o : Obj} {items : Array Value} {n : Nat} {Q : Option Value → Heap → Prop} (hh : c.A.handled = none) (he : IsEnum h e it i old) (hi : h.get? it = some { cls := .type "tuple_iterator", data := .fields #[.ref src, .int i 0] }) (ho : h.get? src = some o) (hd : o.data = .seq items n) (hx : items[i]? = none)
    (q : ∀ h', KeepBut it h h' → Q none h') : W c h (pyNext (.ref e)) Q E := by
  unfold pyNext
  have step : W c h (callSpecial? (.ref e) "__next__") (fun _ _ => False) (fun x h' => KeepBut it h h' ∧ ∃ a, x = .ref a ∧ (∃ o, h'.get? a = some o ∧ o.cls = .type "StopIteration")) := by
    refine W_mono (w_nextslot (Q := fun _ _ => False) he rfl F.slot_enumerate_next F.entry_enumerate_next (F.args_enumerate_next_1 _) ?_) (fun _ _ ⟨_, _, f⟩ => f) fun _ _ y => y
    show W _ h (field (.ref e) 2 >>= _) _ _
    refine W_bind (w_field (x := .ref it) he rfl rfl ?_)
    exact W_bind (w_tupnext_end hh hi ho hd hx fun h' x k hx => ⟨k, x, rfl, hx⟩)
  refine W_bind (fun tk => wpAny_attempt (wpAny_mono (step tk) (fun _ _ ⟨_, _, _, f⟩ => f.elim) fun x s' ⟨h', tk', es, k, a, ea, o, eo, hc⟩ => ?_))
  subst es ea
  refine ⟨h', tk', rfl, fun tk => ?_⟩
  exact wpAny_bind (wpAny_isInstance (T := "StopIteration") (b := true) (s := c.st h' tk) ⟨o, eo, hc⟩ isSubtype_stop (wpAny_pure ⟨h', tk, rfl, q h' k⟩))
end
end Mine
end
section
open PySem PySem.W PySem.Calls PyProof.Rows PySem.Builtin.Re
set_option maxRecDepth 100000
set_option linter.all false
set_option maxHeartbeats 4000000
namespace Mine
/-- the frame while lines wait to be counted -/
def FK (vs : List (Option Value)) (xl S R Bk : Addr) (x : Str) (p row k : Nat) : Prop := FR (vs.set 12 (some (.int 0 0))) xl S R Bk x p row ∧ ∃ u, vs[12]? = some (some (.int k u))
section
variable {vs : List (Option Value)} {xl S R Bk : Addr} {x : Str} {p row k : Nat}
theorem FK.len (F : FK vs xl S R Bk x p row k) : vs.length = 30 := by have := F.1.len; simpa using this
theorem FK.hi (F : FK vs xl S R Bk x p row k) {i : Nat} {v : Option Value} (hi : 14 ≤ i) : FK (vs.set i v) xl S R Bk x p row k := by
  refine ⟨?_, by rw [List.getElem?_set_ne (by omega)]; exact F.2⟩
  rw [List.set_comm _ _ (by omega)]
  exact F.1.hi hi
theorem FK.row' (F : FK vs xl S R Bk x p row k) {r' : Nat} {u : Tok} : FK (vs.set 7 (some (.int r' u))) xl S R Bk x p r' k := by
  refine ⟨?_, by rw [List.getElem?_set_ne (by omega)]; exact F.2⟩
  rw [List.set_comm _ _ (by omega)]
  exact F.1.row'
theorem FK.cnt (F : FK vs xl S R Bk x p row k) {k' : Nat} {u : Tok} : FK (vs.set 12 (some (.int k' u))) xl S R Bk x p row k' := by
  refine ⟨by rw [List.set_set]; exact F.1, u, ?_⟩
  have := F.len
  simp [this]
theorem FK.done (F : FK vs xl S R Bk x p row k) {u : Tok} : FR (vs.set 12 (some (.int 0 u))) xl S R Bk x p row := by
  have := F.1.ns' (u := u)
  rwa [List.set_set] at this
theorem FR.fk (F : FR vs xl S R Bk x p row) : FK vs xl S R Bk x p row 0 := ⟨F.ns', F.f12⟩
theorem FK.at {j : Nat} {o : Option (Option Value)} (hj : 12 ≠ j) (h : (vs.set 12 (some (.int 0 0)))[j]? = o) : vs[j]? = o := by rwa [List.getElem?_set_ne hj] at h
end
/-- a tuple or a list -/
def Seq (h : Heap) (a : Addr) (vs : List Value) : Prop := h.IsTuple a vs.toArray ∨ h.IsList a vs.toArray
theorem Seq.keep {h h' : Heap} {a : Addr} {vs : List Value} (x : Seq h a vs) (k : Keep h h') : Seq h' a vs := by
  rcases x with ⟨o, e, r⟩ | ⟨o, e, r⟩
  · exact .inl ⟨o, k _ _ e, r⟩
  · exact .inr ⟨o, k _ _ e, r⟩
noncomputable def grpB (P : Params) : List Stmt := sBody (hdS ((sBody (forT P)).drop 3))
section
variable {c : Cx} {h h₀ : Heap} {E : Value → Heap → Prop} {env : Env} {C : Cons} {G : GSpec} {n : Nat} {fs : List PySem.Frame} {I : Heap → Prop} {L : Addr} {vs : List (Option Value)} {ls : List (Addr × Cell)}
theorem w_with_type {pos : Pos} {T : String} {e : Expr} {rest : List Expr} {Q : Value → Heap → Prop} (x : W c h (spliced (backTo pos (starEach (e :: rest) env))) (fun vs h₁ => W c h₁ (call (.type T) vs) Q E) E)
    (he : starEach (e :: rest) env = (false, eval e env) :: starEach rest env := by rfl) (hplain : (backTo pos (starEach (e :: rest) env)).any (·.1) = false := by rfl) :
    W c h (callWith pos (.type T) [] (backTo pos (starEach (e :: rest) env)) []) Q E := fun tk => by
  refine PySem.callWith_type hplain ?_
  rw [he] at x ⊢
  refine PySem.Calls.evalArgs_plain (wpAny_mono (x tk) (fun vs s' ⟨h', tk', e, q⟩ => ?_) fun _ _ y => y)
  subst e
  exact q tk'
theorem w_item_list {value slice : Expr} {a : Addr} {l : List Value} {i : Nat} {u : Tok} {x : Value} {Q : Value → Heap → Prop} (ht : h.IsList a l.toArray) (hl : l.length ≤ sizeLine) (hx : l[i]? = some x) (q : Q x h)
    (hs : subscripted slice false (.ref a) (.int i u) = operate [.ref a, .int i u] (getItem (.ref a) (.int i u)) := by with_unfolding_all rfl) :
    W c h (subscriptTail value slice (.ref a) (.int i u)) Q E := fun tk => by
  have hn : i < l.length := (List.getElem?_eq_some_iff.mp hx).1
  have h63 : sizeLine < 2 ^ 63 := by decide
  exact tail_any (s := c.st h tk) (T := "list") ht.typeIs slot_list_getitem.lookup (wpAny_getItem_list (s := c.st h tk) (k := (i : Int)) (x := x) ht (by omega) (by omega) (by simpa using hx) ⟨h, tk, rfl, q⟩) hs
end
end Mine
end
section
open PySem PySem.W PySem.Calls PyProof.Rows PySem.Builtin.Re
set_option maxRecDepth 100000
set_option linter.all false
set_option maxHeartbeats 4000000
namespace Mine
open Rx
section
variable {c : Cx} {h h₀ : Heap} {E : Value → Heap → Prop} {env : Env} {C : Cons} {G : GSpec} {n : Nat} {fs : List PySem.Frame} {I : Heap → Prop} {L : Addr} {vs : List (Option Value)} {ls : List (Addr × Cell)}
abbrev items9 (a b d : Str) (t1 t2 t3 : Tok) : List Value := [.str a t1, .none, .none, .str b t2, .str d t3, .none, .none, .none, .none]
theorem pick22 {a b d : Str} {t1 t2 t3 : Tok} : tupPick (items9 a b d t1 t2 t3) 2 2 = [.none, .str d t3, .none, .none] := by kernel_rfl
theorem pick12 {a b d : Str} {t1 t2 t3 : Tok} : tupPick (items9 a b d t1 t2 t3) 1 2 = [.none, .str b t2, .none, .none] := by kernel_rfl
theorem pick1 {a b d : Str} {t1 t2 t3 : Tok} : tupPick (items9 a b d t1 t2 t3) 1 1 = [.none, .none, .str b t2, .str d t3, .none, .none, .none, .none] := by kernel_rfl
theorem adj9 {a k : Nat} {x y d : Str} {t1 t2 t3 : Tok} (h : (Builtin.Slice.sliceAdjust (some (a : Int)) none (k : Int) 9).1 ≠ 0) : (Builtin.Slice.sliceAdjust (some (a : Int)) none (k : Int) ((items9 x y d t1 t2 t3).length : Int)).1 ≠ 0 := by
  have : (items9 x y d t1 t2 t3).length = 9 := rfl
  rw [this]; exact h
theorem somes4 {d : Str} {t3 : Tok} : somes [.none, .str d t3, .none, .none] = [.str d t3] := by simp [somes]
/-- the head of the outer rule's turn: its groups -/
theorem root_head {it R a t xl S Bk O : Addr} {i s e : Nat} {sv : List Value} {x : Str} {p row : Nat} {t1 t2 : Tok} (hh : (c.ov (FL c.w.params it L) fs).A.handled = none)
    (M : GS C c.w h₀ n (IM I t p e (rootSp p s e)) L nsK vs [(S, .lst sv), (Bk, .lst []), (it, .obj (IterO R i)), (a, .obj (MatchO x t))] h) (hI : ∀ h h', TupKeep h h' → I h → I h') (F : FR vs xl S R Bk x p row)
    (KO : ∀ h : Heap, (∀ b o, b ∉ C.X → h₀.get? b = some o → h.get? b = some o) → ∃ o, h.get? O = some o ∧ OlsO [.str "data" t1, .str "#bygroup" t2] o)
    (KB : ∀ h : Heap, (∀ b o, b ∉ C.X → h₀.get? b = some o → h.get? b = some o) → ∃ dx kvs b, h.get? xl = some (instObj 432 dx) ∧ (∃ o, h.get? dx = some o ∧ EntsO kvs o) ∧ kvs.lookup ("lstrip_blocks" : Str) = some (.bool b))
    (h15 : vs[15]? = some (some (.ref O))) (h17 : vs[17]? = some (some (.ref a))) (hxl : x.length ≤ 1000) (he : e = s + 2 + signLen x s) (ho : opens x s)
    (q : ∀ h' vs' lg g2 k u1 u2 u3 (J : Heap → Prop), FK vs' xl S R Bk x p row k → vs'[15]? = vs[15]? → vs'[16]? = vs[16]? → vs'[17]? = vs[17]? → vs'[18]? = some (some (.ref g2)) → nl (keptOf x p s) + k = nl (sl x p s) → (∀ h h', TupKeep h h' → J h → J h') → (∀ h, J h → IM I t p e (rootSp p s e) h) →
      (∀ h, J h → (∀ p ∈ lg, p.2.at h p.1) → Seq h g2 (items9 (keptOf x p s) (sl x s e) (sl x (s + 2) e) u1 u2 u3)) → (lg.length ≤ 1) →
      GS C c.w h₀ n J L nsK vs' ([(S, .lst sv), (Bk, .lst []), (it, .obj (IterO R i)), (a, .obj (MatchO x t))] ++ lg) h' → SX c G n (FL c.w.params it L) fs (KT c it L) (loopH (envT c.w.params L)) (envT c.w.params L) ((grpB c.w.params).drop 2) h') :
    SX c G n (FL c.w.params it L) fs (loopK (FL c.w.params it L)) (loopH (envT c.w.params L)) (envT c.w.params L) ((sBody (forT c.w.params)).drop 2) h := by
  have X := okT c.w.params
  have tb : ∀ h, IM I t p e (rootSp p s e) h → h.IsTuple t (rawInt p :: rawInt e :: rootSp p s e).toArray := fun h i => i.2
  have hz : (10000 : Nat) < sizeLine := by decide
  refine rule_bal0 3 M F.f11 rfl ?_
  obtain ⟨o, ho1, hoc, k, hod⟩ := KO h M.keep
  obtain ⟨oc, od, odt, osl⟩ := o
  cases hoc
  cases hod
  refine sx_cons <| se_if_t <| w_tval <| w_callN <| w_blt (base_g M.base) (base_b M.base) (v := .builtin "isinstance") (by kernel_rfl) (by kernel_rfl) <| w_with_bi <| w_args <| w_loc X M.ns (i := 15) rfl h15 <| w_args <|
    w_blt (base_g M.base) (base_b M.base) (v := .type "tuple") (by kernel_rfl) (by kernel_rfl) <| w_args_nil <| w_isi_olsT M.base ho1 <| w_tbool ⟨rfl, ?_⟩
  -- the groups
  have A := M.match 5 rfl tb
  have hv := F.len
  refine sx_W <| w_assign <| w_regroups <| w_loc X M.ns (i := 17) rfl h17 ⟨a, x, p, e, _, rfl, A, by omega, by show (18 : Nat) ≤ _; decide, fun g1 h1 gv k1 n1 tg og => ?_⟩
  have og' : OptVals gv [some (sl x p s), none, none, some (sl x s e), some (sl x (s + 2) e), none, none, none, none] := by
    rw [← root_groups (p := p) (s := s) (e := e) x]
    have h9 : (rootSp p s e).length / 2 = 9 := by simp [rootSp]
    rw [h9] at og
    exact og
  obtain ⟨u1, u2, u3, rfl⟩ := optvals9 og'
  replace M := (M.mono k1).know (I' := fun h => C.Ic n h ∧ IM I t p e (rootSp p s e) h ∧ h.IsTuple g1 (items9 (sl x p s) (sl x s e) (sl x (s + 2) e) u1 u2 u3).toArray) ⟨(M.mono k1).inv.1, (M.mono k1).inv.2, tg⟩ (fun h h' k i => ⟨C.st n h h' k i.1, IM.st hI h h' k i.2.1, k _ _ i.2.2⟩)
  refine w_store X M.ns (i := 18) rfl (by simp [hv]) fun h2 N2 k2 => ?_
  replace M := M.store N2 k2
  replace F := F.hi (i := 18) (v := some (.ref g1)) (by omega)
  have hv := F.len
  have ho2 := KO h2 M.keep
  obtain ⟨o, ho1, hoc, k, hod⟩ := ho2
  obtain ⟨oc, od, odt, osl⟩ := o
  cases hoc
  cases hod
  refine sx_cons <| se_if_t <| w_tval <| w_callN <| w_blt (base_g M.base) (base_b M.base) (v := .builtin "isinstance") (by kernel_rfl) (by kernel_rfl) <| w_with_bi <| w_args <| w_loc X M.ns (i := 15) rfl (gs_ne h15 (by omega)) <| w_args <|
    w_glob (base_g M.base) (show mg0 c.w.params "OptionalLStrip" = some (.ref 376) by kernel_rfl) <| w_args_nil <| w_isi_ols M.base ho1 <| w_tbool ⟨rfl, ?_⟩
  -- the text
  refine sx_W <| w_assign <| w_sub <| w_loc X M.ns (i := 18) rfl (set_get (by omega)) <| w_int fun tk => w_item_tuple M.inv.2.2 (by decide) (by decide) (x := .str (sl x p s) u1) rfl <| w_store X M.ns (i := 19) rfl (by simp [hv]) fun h3 N3 k3 => ?_
  replace M := M.store N3 k3
  replace F := F.hi (i := 19) (v := some (.str (sl x p s) u1)) (by omega)
  have hv := F.len
  -- the sign
  refine sx_W <| w_assign <| w_sub <| w_comp_some (by decide +kernel) (by decide +kernel) (by rfl) (by decide +kernel) (by rfl) (by decide +kernel) hh <| w_tup_step (a := 2) (k := 2) pick22 rfl (by decide) (adj9 (by decide)) <| w_loc X M.ns (i := 18) rfl (gs_ne (set_get (by omega)) (by omega)) ⟨g1, rfl, M.inv.2.2, fun h4 b4 k4 n4 t4 => ⟨b4, rfl, ⟨_, t4, rfl, 0, rfl⟩, Nat.le_of_ble_eq_true rfl, fun h5 b5 k5 n5 t5 => ?_⟩⟩
  rw [somes4] at t5
  replace M := (M.mono k4).mono k5
  refine w_int fun tk => w_item_list (i := 0) t5 (by show (1 : Nat) ≤ _; omega) (x := .str (sl x (s + 2) e) u3) rfl <| w_store X M.ns (i := 20) rfl (by simp [hv]) fun h6 N6 k6 => ?_
  replace M := M.store N6 k6
  replace F := F.hi (i := 20) (v := some (.str (sl x (s + 2) e) u3)) (by omega)
  have hv := F.len
  have hsg : sl x (s + 2) e = signOf x s := by rw [sign_eq, he]
  have hg18 : (((vs.set 18 (some (.ref g1))).set 19 (some (Value.str (sl x p s) u1))).set 20 (some (Value.str (sl x (s + 2) e) u3)))[18]? = some (some (.ref g1)) := gs_ne (gs_ne (set_get (by simp at hv; omega)) (by omega)) (by omega)
  have hg19 : (((vs.set 18 (some (.ref g1))).set 19 (some (Value.str (sl x p s) u1))).set 20 (some (Value.str (sl x (s + 2) e) u3)))[19]? = some (some (Value.str (sl x p s) u1)) := gs_ne (set_get (by simp at hv ⊢; omega)) (by omega)
  have hg20 : (((vs.set 18 (some (.ref g1))).set 19 (some (Value.str (sl x p s) u1))).set 20 (some (Value.str (sl x (s + 2) e) u3)))[20]? = some (some (Value.str (sl x (s + 2) e) u3)) := set_get (by simp at hv ⊢; omega)
  have hsz : (sl x p s).length ≤ sizeLine := by rw [sl_len]; omega
  by_cases hm : signOf x s = "-"
  · -- the spaces ahead go
    refine sx_cons <| se_if_t <| w_tcmp <| w_loc X M.ns (i := 20) rfl hg20 <| w_str fun t5 => w_eq_str <| w_tbool ⟨by rw [hsg, hm]; decide +kernel, ?_⟩
    refine sx_W <| w_assign <| w_rstrip <| w_loc X M.ns (i := 19) rfl hg19 ⟨_, _, rfl, hsz, fun t6 => w_store X M.ns (i := 21) rfl (by simp [hv]) fun h7 N7 k7 => ?_⟩
    replace M := M.store N7 k7
    replace F := F.hi (i := 21) (v := some (.str (Txt.rstrip (sl x p s)) t6)) (by omega)
    have hv := F.len
    have hg18' := gs_ne (v := some (Value.str (Txt.rstrip (sl x p s)) t6)) hg18 (show 21 ≠ 18 by omega)
    have hg19' := gs_ne (v := some (Value.str (Txt.rstrip (sl x p s)) t6)) hg19 (show 21 ≠ 19 by omega)
    have hg21 : ((((vs.set 18 (some (.ref g1))).set 19 (some (Value.str (sl x p s) u1))).set 20 (some (Value.str (sl x (s + 2) e) u3))).set 21 (some (Value.str (Txt.rstrip (sl x p s)) t6)))[21]? = some (some (Value.str (Txt.rstrip (sl x p s)) t6)) := set_get (by simp at hv ⊢; omega)
    have hrl := len_rstrip (sl x p s)
    have h63 := len_lt63 hsz
    refine sx_W <| w_assign <| w_count <| w_sl_sn (Txt.rstrip (sl x p s)).length <| w_loc X M.ns (i := 19) rfl hg19' <| w_callN <| w_blt (base_g M.base) (base_b M.base) (b_len _).1 (b_len _).2 <| w_with_bi <| w_args <| w_loc X M.ns (i := 21) rfl hg21 <| w_args_nil <| w_len (by omega) fun t7 =>
      ⟨_, _, _, rfl, rfl, hsz, fun h8 t8 k8 => ⟨_, _, rfl, w_str fun t9 => ⟨_, _, rfl, fun t10 => ?_⟩⟩⟩
    replace M := M.mono k8
    rw [count_nl]
    refine w_store X M.ns (i := 12) rfl (by simp [hv]) fun h9 N9 k9 => ?_
    replace M := M.store N9 k9
    have F2 := F.fk.cnt (k' := nl (sl (sl x p s) (Txt.rstrip (sl x p s)).length (sl x p s).length)) (u := t10)
    have hg18'' := gs_ne (v := some (Value.int (nl (sl (sl x p s) (Txt.rstrip (sl x p s)).length (sl x p s).length) : Nat) t10)) hg18' (show 12 ≠ 18 by omega)
    have hg21' := gs_ne (v := some (Value.int (nl (sl (sl x p s) (Txt.rstrip (sl x p s)).length (sl x p s).length) : Nat) t10)) hg21 (show 12 ≠ 21 by omega)
    refine sx_W <| w_assign <| w_list <| w_args <| w_loc X M.ns (i := 21) rfl hg21' <| w_args_star rfl <| w_tup_from (a := 1) pick1 rfl (adj9 (k := 1) (by decide)) <| w_loc X M.ns (i := 18) rfl hg18'' ⟨g1, rfl, M.inv.2.2, fun h10 b10 k10 n10 t10' => ⟨b10, rfl, ⟨_, t10', rfl, 0, rfl⟩, fun h11 k11 => w_args_nil ⟨rfl, fun g2 h12 k12 n12 l12 => ?_⟩⟩⟩
    replace M := (M.mono k10).mono k11
    replace M := MS.add M n12 (M.fresh n12) k12 l12
    rw [List.append_assoc] at M
    refine w_store X M.ns (i := 18) rfl (by simp [hv]) fun h13 N13 k13 => ?_
    replace M := M.store N13 k13
    have hkept : keptOf x p s = Txt.rstrip (sl x p s) := by unfold keptOf; rw [if_pos hm]
    refine sx_nil <| sx_done <| sx_nil <| sx_done <| q h13 _ [(g2, .lst (items9 (Txt.rstrip (sl x p s)) (sl x s e) (sl x (s + 2) e) t6 u2 u3))] g2 _ t6 u2 u3 (IM I t p e (rootSp p s e)) (F2.hi (i := 18) (v := some (.ref g2)) (by omega)) (by simp) (by simp) (by simp) (set_get (by simp [hv])) (by rw [hkept]; exact nl_rstrip _) (IM.st hI) (fun _ j => j) (fun h _ hl => ?_) (Nat.le_refl _) (M.know (I' := fun h => C.Ic n h ∧ IM I t p e (rootSp p s e) h) ⟨M.inv.1, M.inv.2.1⟩ (fun h h' k i => ⟨C.st n h h' k i.1, IM.st hI h h' k i.2⟩))
    rw [hkept]
    exact .inr (Lst.isList (hl (g2, .lst (items9 (Txt.rstrip (sl x p s)) (sl x s e) (sl x (s + 2) e) t6 u2 u3)) List.mem_cons_self))
  · have hkept : keptOf x p s = sl x p s := by unfold keptOf; rw [if_neg hm]
    refine sx_cons <| se_if_f <| w_tcmp <| w_loc X M.ns (i := 20) rfl hg20 <| w_str fun t5 => w_eq_str <| w_tbool ⟨decide_eq_false (by rw [hsg]; exact hm), ?_⟩
    have fin : SX c G n (FL c.w.params it L) fs (KT c it L) (loopH (envT c.w.params L)) (envT c.w.params L) ((grpB c.w.params).drop 2) h6 := by
      refine q h6 _ [] g1 0 u1 u2 u3 (fun h => IM I t p e (rootSp p s e) h ∧ h.IsTuple g1 (items9 (sl x p s) (sl x s e) (sl x (s + 2) e) u1 u2 u3).toArray) F.fk (by simp) (by simp) (by simp) hg18 (by rw [hkept]; rfl) (fun h h' k i => ⟨IM.st hI h h' k i.1, k _ _ i.2⟩) (fun _ j => j.1) (fun h j _ => ?_) (by simp) M
      rw [hkept]
      exact .inl j.2
    obtain ⟨dx, kvs, lb, kx, ⟨od2, hod2, en⟩, hlb⟩ := KB h6 M.keep
    have F0 := F.f0
    have hlen9 : (items9 (sl x p s) (sl x s e) (sl x (s + 2) e) u1 u2 u3).length = 9 := rfl
    have hbg : (sl x s e).length ≠ 0 := by
      rw [he, ← begin_eq ho, strLen_append]
      have : (("{{" : Str)).length = 2 := rfl
      omega
    have hbz : (sl x s e).length ≤ sizeLine := by rw [sl_len]; omega
    have hb63 := len_lt63 hbz
    refine sx_cons <| se_if_f <| w_tboolop <| w_and <| w_tcmp <| w_loc X M.ns (i := 20) rfl hg20 <| w_str fun t6 => w_ne_str <| w_tbool ?_
    by_cases hp2 : sl x (s + 2) e = "+"
    · have e1 : (!decide (sl x (s + 2) e = Str.ofString "+")) = false := by rw [hp2]; decide +kernel
      rw [e1, if_neg Bool.false_ne_true]
      exact ⟨rfl, sx_nil <| sx_done <| sx_nil <| sx_done <| sx_nil <| sx_done fin⟩
    · have e1 : (!decide (sl x (s + 2) e = Str.ofString "+")) = true := by rw [decide_eq_false hp2]; rfl
      rw [e1, if_pos rfl]
      refine w_and <| w_tval <| w_attr (by rfl) (by intros; rfl) <| w_loc X M.ns (i := 0) rfl F0 <| w_getattr M.base kx ⟨od2, hod2, en⟩ (by kernel_rfl) (by kernel_rfl) (by kernel_rfl) hlb rfl <| w_tbool ?_
      cases lb with
      | false =>
        rw [if_neg Bool.false_ne_true]
        exact ⟨rfl, sx_nil <| sx_done <| sx_nil <| sx_done <| sx_nil <| sx_done fin⟩
      | true =>
        rw [if_pos rfl]
        refine w_and <| w_tnot <| w_tboolop <| w_and <| w_tcmp <| w_callN <| w_blt (base_g M.base) (base_b M.base) (b_len _).1 (b_len _).2 <| w_with_bi <| w_args <| w_loc X M.ns (i := 18) rfl hg18 <| w_args_nil <| w_len_tuple M.inv.2.2 (by rw [hlen9]; omega) fun t7 => w_int fun t8 => w_gt_int <| w_tbool ?_
        rw [hlen9, decide_eq_true (by decide), if_pos rfl]
        refine w_and <| w_tval <| w_sub <| w_loc X M.ns (i := 18) rfl hg18 <| w_int fun tk => w_item_tuple M.inv.2.2 (by decide) (by decide) (x := .str (sl x s e) u2) rfl <| w_tstr (by omega) ?_
        have e2 : (((sl x s e).length : Int) != 0) = true := by simp; omega
        rw [e2, if_pos rfl]
        refine w_and_nil ?_
        exact ⟨rfl, sx_nil <| sx_done <| sx_nil <| sx_done <| sx_nil <| sx_done fin⟩
end
end Mine
end
section
open PySem PySem.W PySem.Calls PyProof.Rows PySem.Builtin.Re
set_option maxRecDepth 100000
set_option linter.all false
set_option maxHeartbeats 4000000
namespace Mine
open Rx
/-- several cells change at once -/
theorem MS.upd {w : World} {h₀ h h' : Heap} {X : List Addr} {I : Heap → Prop} {L : Addr} {ns : List Str} {vs : List (Option Value)} {ls ls' : List (Addr × Cell)} (M : MS w h₀ X I L ns vs ls h) (A : List Addr) (hA : ∀ a ∈ A, a ∈ ls.map (·.1)) (hmap : ls'.map (·.1) = ls.map (·.1))
    (hc : ∀ p ∈ ls', (p.1 ∈ A ∧ p.2.at h' p.1) ∨ (p ∈ ls ∧ p.1 ∉ A)) (k : ∀ b o, b ∉ A → h.get? b = some o → h'.get? b = some o) : MS w h₀ X I L ns vs ls' h' := by
  have hL : L ∉ A := fun hm => (List.nodup_cons.mp M.nd).1 (hA L hm)
  have tk : TupKeep h h' := fun b items ⟨o, e, cc, d⟩ => ⟨o, k b o (fun hm => by
    obtain ⟨p, hp, rfl⟩ := List.mem_map.mp (hA b hm)
    obtain ⟨o', e', ne⟩ := Cell.get (M.lst p hp)
    rw [e'] at e; cases e; obtain ⟨m, d⟩ := d; exact ne cc _ _ d) e, cc, d⟩
  refine ⟨fun b o e => k b o (fun hm => ?_) (M.base b o e), ?_, fun p hp => ?_, by rw [hmap]; exact M.nd, fun b o hb e => ?_, by rw [hmap]; exact M.new, by rw [hmap]; exact M.nb, M.st _ _ tk M.inv, M.st⟩
  · exact New.ne (M.nb b (List.mem_cons_of_mem _ (hA b hm))) e rfl
  · obtain ⟨o, es, ep, e, r⟩ := M.ns
    exact ⟨o, es, ep, k _ _ hL e, r⟩
  · rcases hc p hp with ⟨_, q⟩ | ⟨hm, hn⟩
    · exact q
    · have := M.lst p hm
      obtain ⟨a, x⟩ := p
      cases x with
      | lst vs => obtain ⟨n, e⟩ := this; exact ⟨n, k _ _ hn e⟩
      | obj P => obtain ⟨⟨o, e, q⟩, f⟩ := this; exact ⟨⟨o, k _ _ hn e, q⟩, f⟩
      | objH P => obtain ⟨⟨o, e, q⟩, f, g⟩ := this; exact ⟨⟨o, k _ _ hn e, g _ _ _ tk q⟩, f, g⟩
  · refine k b o (fun hm => ?_) (M.keep b o hb e)
    rcases M.new b (List.mem_cons_of_mem _ (hA b hm)) with hx | hn
    · exact hb hx
    · exact New.ne hn e rfl
/-- the iterators of the loop over a rule's tokens -/
def EitO (O : Addr) (i : Nat) (o : Obj) : Prop := o = { cls := .type "tuple_iterator", data := .fields #[.ref O, .int i 0] }
def EnO (eit : Addr) (i : Nat) (f0 : Value) (o : Obj) : Prop := ∃ old, o = { cls := .type "enumerate", dict := none, data := .fields #[f0, .bool false, .ref eit, rawInt i, .none, old], slots := #[] }
def ZpO (TI TO : Addr) (f0 : Value) (o : Obj) : Prop := o = { cls := .type "zip", dict := none, data := .fields #[f0, .bool false, .bool false, .ref TI, .ref TO], slots := #[] }
theorem EitO.nt {O : Addr} {i : Nat} : ∀ o, EitO O i o → o.cls ≠ .type "tuple" := fun o e => by rw [e]; simp
theorem EnO.nt {O : Addr} {i : Nat} {f0 : Value} : ∀ o, EnO O i f0 o → o.cls ≠ .type "tuple" := fun o ⟨_, e⟩ => by rw [e]; simp
theorem ZpO.nt {a b : Addr} {f0 : Value} : ∀ o, ZpO a b f0 o → o.cls ≠ .type "tuple" := fun o e => by rw [e]; simp
noncomputable def forE (P : Params) : Stmt := hdS ((grpB P).drop 2)
noncomputable abbrev FE (P : Params) (e L : Addr) : Code := .forLoop (sTest (forE P)) (.ref e) (sBody (forE P)) (sElse (forE P)) (envT P L)
noncomputable def forZ (P : Params) : Stmt := hdS (sBody (hdS (sElse (hdS (sBody (forE P))))))
noncomputable abbrev FZ (P : Params) (z L : Addr) : Code := .forLoop (sTest (forZ P)) (.ref z) (sBody (forZ P)) (sElse (forZ P)) (envT P L)
/-- the frames around the loop over the tokens -/
noncomputable abbrev fsE (P : Params) (c : Cx) (it L : Addr) (p0 p1 p2 : Pos) : List PySem.Frame := frL (FL P it L) p2 (envT P L) (nextK [] (envT P L) (KT c it L) (loopH (envT P L))) (loopH (envT P L)) :: fsF P L p0 p1
section
variable {c : Cx} {h h₀ : Heap} {E : Value → Heap → Prop} {env : Env} {C : Cons} {G : GSpec} {n : Nat} {fs : List PySem.Frame} {I : Heap → Prop} {L : Addr} {vs : List (Option Value)} {ls : List (Addr × Cell)}
theorem w_iter_enum {e it : Addr} {i : Int} {old : Value} {Q : Value → Heap → Prop} (he : IsEnum h e it i old) (q : Q (.ref e) h) : W c h (pyIter (.ref e)) Q E := fun tk => wpAny_pyIter_enum (s := c.st h tk) he ⟨h, tk, rfl, q⟩
theorem w_iter_zip {z TI TO : Addr} {f0 : Value} {Q : Value → Heap → Prop} (he : IsZip h z TI TO f0) (q : Q (.ref z) h) : W c h (pyIter (.ref z)) Q E := fun tk => wpAny_pyIter_zip (s := c.st h tk) he ⟨h, tk, rfl, q⟩
theorem w_item_seq {value slice : Expr} {a : Addr} {l : List Value} {i : Nat} {u : Tok} {x : Value} {Q : Value → Heap → Prop} (ht : Seq h a l) (hl : Nat.ble l.length 64 = true) (hx : l[i]? = some x) (q : Q x h)
    (hs : subscripted slice false (.ref a) (.int i u) = operate [.ref a, .int i u] (getItem (.ref a) (.int i u)) := by with_unfolding_all rfl) :
    W c h (subscriptTail value slice (.ref a) (.int i u)) Q E := by
  have hl' := Nat.le_of_ble_eq_true hl
  have hn : i < l.length := (List.getElem?_eq_some_iff.mp hx).1
  rcases ht with ht | ht
  · exact w_item_tuple ht (by omega) (by omega) (by simpa using hx) q hs
  · exact w_item_list ht (Nat.le_trans hl' (by decide)) hx q hs
/-- the next of the tokens is taken -/
theorem enum_next {c2 : Cx} {e eit O : Addr} {ls : List (Addr × Cell)} {i : Nat} {items : List Value} {v : Value} {R : Option Value → Heap → Prop} {E : Value → Heap → Prop} (M : GS C c.w h₀ n I L nsK vs (ls ++ [(eit, .obj (ItO true O i)), (e, .obj (EnO eit i .none))]) h)
    (hO : ∃ o m, h.get? O = some o ∧ o.data = .seq items.toArray m ∧ O ≠ e) (hx : items[i]? = some v)
    (q : ∀ h' a tk, (∀ b o, b ≠ e → b ≠ eit → h.get? b = some o → h'.get? b = some o) → h'.IsTuple a #[.int i tk, v] → GS C c.w h₀ n I L nsK vs (ls ++ [(eit, .obj (ItO true O (i + 1))), (e, .obj (EnO eit (i + 1) (rawInt a)))]) h' → R (some (.ref a)) h') : W c2 h (pyNext (.ref e)) R E := by
  obtain ⟨⟨o1, e1, q1⟩, _⟩ := M.lst (eit, Cell.obj (ItO true O i)) (by simp)
  obtain ⟨⟨o2, e2, old, q2⟩, _⟩ := M.lst (e, Cell.obj (EnO eit i .none)) (by simp)
  cases q1
  cases q2
  obtain ⟨o, m, ho, hd, hOe⟩ := hO
  have nd := (List.nodup_cons.mp M.nd).2
  have hne : eit ≠ e := by
    intro hh
    subst hh
    rw [← List.append_assoc, List.map_append] at nd
    have := (List.nodup_append.mp nd).2.1
    simp at this
  refine w_enum_next e2 (.tup e1 ⟨o, m, ho, hd⟩) hx hne hOe fun h1 a tk k1 na ta en1 it1 => ?_
  refine q h1 a tk k1 ⟨_, ta, rfl, 0, rfl⟩ (M.upd [eit, e] (fun b hb => ?_) (by simp) (fun p hp => ?_) fun b o hb eb => k1 b o (fun x => hb (by simp [x])) (fun x => hb (by simp [x])) eb)
  · simp only [List.mem_cons, List.not_mem_nil, or_false] at hb
    rcases hb with rfl | rfl <;> simp
  · rw [← List.append_assoc] at hp
    rcases List.mem_append.mp hp with hp | hp
    · refine .inr ⟨by rw [← List.append_assoc]; exact List.mem_append_left _ hp, fun hb => ?_⟩
      rw [← List.append_assoc, List.map_append] at nd
      have dj := (List.nodup_append.mp nd).2.2 p.1 (List.mem_map_of_mem hp)
      simp only [List.mem_cons, List.not_mem_nil, or_false] at hb
      rcases hb with hb | hb
      · exact dj eit (by simp) hb
      · exact dj e (by simp) hb
    · simp only [List.mem_cons, List.not_mem_nil, or_false] at hp
      rcases hp with rfl | rfl
      · exact .inl ⟨by simp, it1.obj, ItO.nt⟩
      · exact .inl ⟨by simp, ⟨_, en1, _, rfl⟩, EnO.nt⟩
theorem MS.last {w : World} {ns : List Str} {X : List Addr} {a : Addr} {x y : Cell} {h' : Heap} (M : MS w h₀ X I L ns vs (ls ++ [(a, x)]) h) (l : y.at h' a) (k : KeepBut a h h') : MS w h₀ X I L ns vs (ls ++ [(a, y)]) h' := by
  have := M.setC ls.length (a := a) (its := x) (its' := y) (by simp) l k
  simpa using this
theorem enum_go {c2 : Cx} {e eit O a : Addr} {ls : List (Addr × Cell)} {i : Nat} {items : List Value} {v : Value} {elts : List Expr} {x1 : Nat} {pos : Pos} {Q : Unit → Heap → Prop} {E : Value → Heap → Prop} (M : GS C c.w h₀ n I L nsK vs (ls ++ [(eit, .obj (ItO true O i)), (e, .obj (EnO eit i (rawInt a)))]) h)
    (q : ∀ h', KeepBut e h h' → GS C c.w h₀ n I L nsK vs (ls ++ [(eit, .obj (ItO true O i)), (e, .obj (EnO eit i .none))]) h' → Q () h') : W c2 h (letOwnedTupleGo (.Tuple elts x1 pos) (.ref e) (.ref a)) Q E := by
  obtain ⟨⟨o2, e2, old, q2⟩, _⟩ := M.lst (e, Cell.obj (EnO eit i (rawInt a))) (by simp)
  cases q2
  refine w_enum_go e2 fun h1 k1 e1 => ?_
  have M2 : MS c.w h₀ C.X (fun h => C.Ic n h ∧ I h) L nsK vs ((C.cells n ++ ls ++ [(eit, .obj (ItO true O i))]) ++ [(e, .obj (EnO eit i (rawInt a)))]) h := by simpa using M
  have := M2.last (y := .obj (EnO eit i .none)) ⟨⟨_, e1, old, rfl⟩, EnO.nt⟩ k1
  exact q h1 k1 (by simpa using this)
end
end Mine
end
section
open PySem PySem.W PySem.Calls PyProof.Rows PySem.Builtin.Re
set_option maxRecDepth 100000
set_option linter.all false
set_option maxHeartbeats 4000000
namespace Mine
open Rx
theorem emptyN : Str.ofString "data" ∈ (["whitespace", "data", "comment", "linecomment"] : List Str) := by decide +kernel
section
variable {c : Cx} {h h₀ : Heap} {E : Value → Heap → Prop} {env : Env} {C : Cons} {G : GSpec} {n : Nat} {fs : List PySem.Frame} {I : Heap → Prop} {L : Addr} {vs : List (Option Value)} {ls : List (Addr × Cell)}
/-- what is the same in a frame -/
def Same4 (vs vs' : List (Option Value)) : Prop := ∀ j, 15 ≤ j → j ≤ 18 → vs'[j]? = vs[j]?
theorem Same4.refl : Same4 vs vs := fun _ _ _ => rfl
theorem Same4.set {vs' : List (Option Value)} (s : Same4 vs vs') {i : Nat} {v : Option Value} (hi : i < 15 ∨ 18 < i) : Same4 vs (vs'.set i v) := fun j h1 h2 => by rw [List.getElem?_set_ne (by omega)]; exact s j h1 h2
theorem gie_tuple {w : World} (B : Base w h) : h.IsTuple 178 (seqOf (top.o_214 w.params)).toArray := isTup_of (by kernel_rfl) (base_at (a := 178) B (by kernel_rfl) (by decide) (by kernel_rfl))
theorem gie_strs (P : Params) : StrVals (seqOf (top.o_214 P)) ["whitespace", "data", "comment", "linecomment"] := StrVals.of (by kernel_rfl)
theorem grn_tuple {w : World} (B : Base w h) : h.IsTuple 176 (seqOf (top.o_212 w.params)).toArray := isTup_of (by kernel_rfl) (base_at (a := 176) B (by kernel_rfl) (by decide) (by kernel_rfl))
theorem grn_strs (P : Params) : StrVals (seqOf (top.o_212 P)) ["raw_begin", "variable_begin", "comment_begin", "block_begin"] := StrVals.of (by kernel_rfl)
theorem fsE_gen (P : Params) (c : Cx) (it L : Addr) (p0 p1 p2 : Pos) : splitAtGen (fsE P c it L p0 p1 p2) = none := rfl
theorem fsE_grd (P : Params) (c : Cx) (it L : Addr) (p0 p1 p2 : Pos) : (fsE P c it L p0 p1 p2).any Frame.guarded = false := rfl
theorem fsE_units {P : Params} {it e : Addr} {p0 p1 p2 : Pos} : (c.ov (FE P e L) (fsE P c it L p0 p1 p2)).A.units ≤ c.A.units + 20 := by
  show c.A.units + unitsOf ((fsE P c it L p0 p1 p2).map Frame.where_) + (FE P e L).cUnits ≤ _
  have h1 : (FE P e L).cUnits = 0 := rfl
  have h3 : unitsOf ((fsE P c it L p0 p1 p2).map Frame.where_) = 3 * (FL P it L).frames + unitsOf ((fsF P L p0 p1).map Frame.where_) := by
    unfold fsE frL
    simp [unitsOf, Frame.where_, Code.cUnits]
  have h4 : (FL P it L).frames ≤ 2 := by first | exact Nat.zero_le _ | exact Nat.le_refl _ | exact Nat.le_succ _
  have h2 := (fsF_frames (L := L) (P := P) (p0 := p0) (p1 := p1)).2
  omega
noncomputable def dataB (P : Params) : List Stmt := sElse (hdS (sElse (hdS (sBody (forE P)))))
/-- the lines are counted -/
theorem data_tail {code : Code} {K : Flow → Sem Fin} {H : Value → Sem Fin} {xl S R Bk : Addr} {kept x : Str} {u1 : Tok} {p row k : Nat} (M : GS C c.w h₀ n I L nsK vs ls h) (F : FK vs xl S R Bk x p row k) (h27 : vs[27]? = some (some (.str kept u1)))
    (q : ∀ h' vs', FK vs' xl S R Bk x p (row + nl kept + k) 0 → Same4 vs vs' → GS C c.w h₀ n I L nsK vs' ls h' → SG c G n code (K .next) fs h') : SX c G n code fs K H (envT c.w.params L) ((dataB c.w.params).drop 2) h := by
  have X := okT c.w.params
  have hv := F.len
  obtain ⟨u7, f7⟩ := F.1.f7
  replace f7 := FK.at (by omega) f7
  obtain ⟨u12, f12⟩ := F.2
  refine sx_W <| w_aug <| w_locN X M.ns (i := 7) rfl f7 <| w_binop <| w_count <| w_loc X M.ns (i := 27) rfl h27 ⟨_, _, rfl, w_str fun t9 => ⟨_, _, rfl, fun t10 => w_loc X M.ns (i := 12) rfl f12 <| w_add_int fun t11 => w_iadd fun t12 => ?_⟩⟩
  rw [count_nl]
  have e : ((row : Int) + ((nl kept : Int) + (k : Int))) = ((row + nl kept + k : Nat) : Int) := by omega
  rw [e]
  refine w_store X M.ns (i := 7) rfl (by simp [hv]) fun h2 N2 k2 => ?_
  have M2 := M.store N2 k2
  refine sx_W <| w_assign <| w_int fun t13 => w_store X M2.ns (i := 12) rfl (by simp [hv]) fun h3 N3 k3 => ?_
  have M3 := M2.store N3 k3
  exact sx_nil (q h3 _ ((F.row' (r' := row + nl kept + k) (u := t12)).cnt (k' := 0) (u := t13)) ((Same4.refl.set (by omega)).set (by omega)) M3)
theorem tok_data {it e eit O g2 xl S R Bk : Addr} {p0 p1 p2 : Pos} {kept bg sg x : Str} {u1 u2 u3 t1 t2 : Tok} {p row k : Nat} (hh : c.A.handled = none) (U : c.A.units + 40 < cLine)
    (M : GS C c.w h₀ ((if kept.length ≠ 0 then 1 else 0) + n) I L nsK vs (ls ++ [(eit, .obj (ItO true O 0)), (e, .obj (EnO eit 0 .none))]) h) (hI : ∀ h h', TupKeep h h' → I h → I h') (F : FK vs xl S R Bk x p row k) (h18 : vs[18]? = some (some (.ref g2))) (hk : kept.length ≤ sizeLine)
    (KO : ∀ h : Heap, (∀ b o, b ∉ C.X → h₀.get? b = some o → h.get? b = some o) → ∃ o, h.get? O = some o ∧ OlsO [.str "data" t1, .str "#bygroup" t2] o)
    (hG : ∀ h, I h → (∀ p ∈ ls, p.2.at h p.1) → Seq h g2 (items9 kept bg sg u1 u2 u3))
    (hY : kept.length ≠ 0 → ∀ v h', TokV h' v (row, "data", kept) → C.at c.w h₀ (n + 1) h' → G.Yv n v h') (hSt : ∀ n h' h'', G.St n h' h'' → C.step n h' h'')
    (q : ∀ h' vs', FK vs' xl S R Bk x p (row + nl kept + k) 0 → Same4 vs vs' → GS C c.w h₀ n I L nsK vs' (ls ++ [(eit, .obj (ItO true O 1)), (e, .obj (EnO eit 1 .none))]) h' → SG c G n (FE c.w.params e L) ((model c.prog c.w).den (FE c.w.params e L)) (fsE c.w.params c it L p0 p1 p2) h') :
    SG c G ((if kept.length ≠ 0 then 1 else 0) + n) (FE c.w.params e L) ((model c.prog c.w).den (FE c.w.params e L)) (fsE c.w.params c it L p0 p1 p2) h := by
  have X := okT c.w.params
  have hv := F.len
  have hOf : ∀ {n : Nat} {vs : List (Option Value)} {i j : Nat} {f0 : Value} {h : Heap}, GS C c.w h₀ n I L nsK vs (ls ++ [(eit, .obj (ItO true O i)), (e, .obj (EnO eit j f0))]) h → ∃ o m, h.get? O = some o ∧ o.data = .seq ([.str "data" t1, .str "#bygroup" t2] : List Value).toArray m ∧ O ≠ e := @fun n vs i j f0 h M => by
    obtain ⟨o, e1, e2, m, e3⟩ := KO _ M.keep
    refine ⟨o, m, e1, e3, fun x => ?_⟩
    subst x
    obtain ⟨⟨o2, e4, old, q2⟩, _⟩ := M.lst (O, Cell.obj (EnO eit j f0)) (by simp)
    rw [e1] at e4
    cases e4
    rw [q2] at e2
    cases e2
  have seq : ∀ {n : Nat} {vs : List (Option Value)} {i j : Nat} {f0 : Value} {h : Heap}, GS C c.w h₀ n I L nsK vs (ls ++ [(eit, .obj (ItO true O i)), (e, .obj (EnO eit j f0))]) h → Seq h g2 (items9 kept bg sg u1 u2 u3) := fun M => hG _ M.inv.2 fun p hp => M.lst p (by simp [hp])
  refine sg_forLoop (enum_next (c2 := c.ov (FE c.w.params e L) (fsE c.w.params c it L p0 p1 p2)) M (hOf M) rfl fun h1 a tk k1 ta M1 => ?_)
  refine enum_go (O := O) (items := []) (v := .none) M1 fun h2 kb2 M2 => ?_
  have ta2 : h2.IsTuple a #[.int (0 : Nat) tk, .str "data" t1] := by
    obtain ⟨⟨o2, e4, old, q2⟩, _⟩ := M1.lst (e, Cell.obj (EnO eit (0 + 1) (rawInt a))) (by simp)
    obtain ⟨o, e1, r⟩ := ta
    refine ⟨o, kb2 _ _ (fun x => ?_) e1, r⟩
    subst x
    rw [e1] at e4
    cases e4
    rw [q2] at r
    exact absurd r.1 (by simp)
  refine w_assign_tup (c := c.ov (FE c.w.params e L) (fsE c.w.params c it L p0 p1 p2)) hh ta2 rfl fun h3 k3 => ?_
  replace M2 := M2.mono k3
  refine w_order <| w_store X M2.ns (i := 23) rfl (by simp [hv]) fun h4 N4 k4 => ?_
  have M4 := M2.store N4 k4
  refine w_order <| w_store X M4.ns (i := 24) rfl (by simp [hv]) fun h5 N5 k5 => w_order_nil ?_
  have M5 := M4.store N5 k5
  have hv5 : ((vs.set 23 (some (Value.int (0 : Nat) tk))).set 24 (some (.str "data" t1))).length = 30 := by simp [hv]
  have F5 : FK ((vs.set 23 (some (Value.int (0 : Nat) tk))).set 24 (some (.str "data" t1))) xl S R Bk x p row k := (F.hi (by omega)).hi (by omega)
  have S5 : Same4 vs ((vs.set 23 (some (Value.int (0 : Nat) tk))).set 24 (some (.str "data" t1))) := (Same4.refl.set (by omega)).set (by omega)
  have g23 : ((vs.set 23 (some (Value.int (0 : Nat) tk))).set 24 (some (.str "data" t1)))[23]? = some (some (Value.int (0 : Nat) tk)) := gs_ne (set_get (by omega)) (by omega)
  have g24 : ((vs.set 23 (some (Value.int (0 : Nat) tk))).set 24 (some (.str "data" t1)))[24]? = some (some (.str "data" t1)) := set_get (by simp; omega)
  have g18 := (S5 18 (by omega) (by omega)).trans h18
  generalize ((vs.set 23 (some (Value.int (0 : Nat) tk))).set 24 (some (.str "data" t1))) = v5 at M5 hv5 F5 S5 g23 g24 g18
  refine sx_cons <| se_if_f <| w_tval <| w_callN <| w_blt (base_g M5.base) (base_b M5.base) (v := .builtin "isinstance") (by kernel_rfl) (by kernel_rfl) <| w_with_bi <| w_args <| w_loc X M5.ns (i := 24) rfl g24 <| w_args <|
    w_glob (base_g M5.base) (show mg0 c.w.params "Failure" = some (.ref 216) by kernel_rfl) <| w_args_nil <| w_isi_strF M5.base <| w_tbool ⟨rfl, ?_⟩
  refine sx_cons <| se_if_f <| w_tcmp <| w_loc X M5.ns (i := 24) rfl g24 <| w_str fun t5 => w_eq_str <| w_tbool ⟨by decide +kernel, ?_⟩
  refine sx_W <| w_assign <| w_sub <| w_loc X M5.ns (i := 18) rfl g18 <| w_loc X M5.ns (i := 23) rfl g23 <| w_item_seq (seq M5) rfl (x := .str kept u1) rfl <| w_store X M5.ns (i := 27) rfl (by simp [hv5]) fun h6 N6 k6 => ?_
  have M6 := M5.store N6 k6
  have F6 : FK (v5.set 27 (some (.str kept u1))) xl S R Bk x p row k := F5.hi (by omega)
  have S6 : Same4 vs (v5.set 27 (some (.str kept u1))) := S5.set (by omega)
  have g27 : (v5.set 27 (some (.str kept u1)))[27]? = some (some (.str kept u1)) := set_get (by omega)
  replace g24 := gs_ne (v := some (.str kept u1)) g24 (show 27 ≠ 24 by omega)
  generalize (v5.set 27 (some (.str kept u1))) = v6 at M6 F6 S6 g27 g24
  have hv6 := F6.len
  have h63 := len_lt63 hk
  obtain ⟨u7, f7⟩ := F6.1.f7
  replace f7 := FK.at (by omega) f7
  have hU : (c.ov (FE c.w.params e L) (fsE c.w.params c it L p0 p1 p2)).A.units + 1 < cLine := by
    have := fsE_units (c := c) (L := L) (P := c.w.params) (it := it) (e := e) (p0 := p0) (p1 := p1) (p2 := p2)
    omega
  by_cases hk0 : kept.length ≠ 0
  · rw [if_pos hk0, Nat.add_comm] at M6 ⊢
    have e1 : ((kept.length : Int) != 0) = true := by simp; omega
    refine sx_cons <| se_if_t <| w_tboolop <| w_or <| w_tval <| w_loc X M6.ns (i := 27) rfl g27 <| w_tstr (by omega) ?_
    rw [e1, if_pos rfl]
    refine ⟨rfl, sx_cons <| se_yield (fsE_gen _ _ _ _ _ _ _) (fsE_grd _ _ _ _ _ _ _) <| w_tuple <| w_args <| w_loc X M6.ns (i := 7) rfl f7 <| w_args <| w_loc X M6.ns (i := 24) rfl g24 <| w_args <| w_loc X M6.ns (i := 27) rfl g27 <| w_args_nil ⟨rfl, fun b h7 k7 nb tb => ?_⟩⟩
    replace M6 := M6.mono k7
    refine ⟨hY hk0 _ _ (.mk tb) M6.cons, fun h8 hst => ?_⟩
    have M8 := M6.step hI (hSt _ _ _ hst)
    refine sx_done <| sx_nil <| sx_done <| data_tail M8 F6 g27 fun h9 vs9 F9 S9 M9 => ?_
    refine sx_done <| sx_nil <| sx_done <| sx_nil <| sg_again rfl ?_
    exact q h9 vs9 F9 (fun j h1 h2 => (S9 j h1 h2).trans (S6 j h1 h2)) M9
  · rw [if_neg hk0, Nat.zero_add] at M6 ⊢
    have e1 : ((kept.length : Int) != 0) = false := by simp; omega
    refine sx_cons <| se_if_f <| w_tboolop <| w_or <| w_tval <| w_loc X M6.ns (i := 27) rfl g27 <| w_tstr (by omega) ?_
    rw [e1, if_neg Bool.false_ne_true]
    refine w_or <| w_tcmp <| w_loc X M6.ns (i := 24) rfl g24 <| w_glob (base_g M6.base) (show mg0 c.w.params "ignore_if_empty" = some (.ref 178) by kernel_rfl) <|
      w_notin_tuple (gie_tuple M6.base) (gie_strs _) (by decide +kernel) (by decide +kernel) hU <| w_tbool ?_
    have e2 : (!decide (("data" : Str) ∈ (["whitespace", "data", "comment", "linecomment"] : List Str))) = false := by decide +kernel
    rw [e2, if_neg Bool.false_ne_true]
    refine w_or_nil ⟨rfl, sx_nil <| sx_done <| data_tail M6 F6 g27 fun h9 vs9 F9 S9 M9 => ?_⟩
    refine sx_done <| sx_nil <| sx_done <| sx_nil <| sg_again rfl ?_
    exact q h9 vs9 F9 (fun j h1 h2 => (S9 j h1 h2).trans (S6 j h1 h2)) M9
end
end Mine
end
section
open PySem PySem.W PySem.Calls PyProof.Rows PySem.Builtin.Re
set_option maxRecDepth 100000
set_option linter.all false
set_option maxHeartbeats 4000000
namespace Mine
open Rx
theorem lpick12 {a b d : Str} {t1 t2 t3 : Tok} : slicePick (items9 a b d t1 t2 t3).toArray (some ((1 : Nat) : Int)) none (some ((2 : Nat) : Int)) = ([.none, .str b t2, .none, .none] : List Value).toArray := by kernel_rfl
theorem strvals4 {vs : List Value} {a b d e : Str} (h : StrVals vs [a, b, d, e]) : ∃ t1 t2 t3 t4, vs = [.str a t1, .str b t2, .str d t3, .str e t4] := by
  cases h with | cons h => cases h with | cons h => cases h with | cons h => cases h with | cons h =>
    cases h
    exact ⟨_, _, _, _, rfl⟩
noncomputable abbrev fsZ (P : Params) (c : Cx) (it e L : Addr) (p0 p1 p2 p3 : Pos) (K : Flow → Sem Fin) : List PySem.Frame := frL (FE P e L) p3 (envT P L) K (loopH (envT P L)) :: fsE P c it L p0 p1 p2
section
variable {c : Cx} {h h₀ : Heap} {E : Value → Heap → Prop} {env : Env} {C : Cons} {G : GSpec} {n : Nat} {fs : List PySem.Frame} {I : Heap → Prop} {L : Addr} {vs : List (Option Value)} {ls : List (Addr × Cell)}
/-- the walk along two at once, up to the opening's own name -/
theorem zip_walk {fs : List PySem.Frame} {z TI TO i1 i2 l2 : Addr} {kd : Bool} {bg : Str} {u2 : Tok} {Fz : Code} {body orelse : List Stmt} {pa pb pt pc pd pe pf : Pos} {x1 k1 : Nat}
    (hh : (c.ov Fz fs).A.handled = none) (M : GS C c.w h₀ n I L nsK vs ls h) (hv : vs.length = 30) {h2 : Heap} (k12 : Keep h h2) (nz : New h z) (nTI : New h TI) (nTO : New h TO) (n1 : New h i1) (n2 : New h i2) (D : ZipApart z TI TO i1 i2 176 l2)
    (hz : IsZip h2 z TI TO .none) (hTI : TupA h2 TI [.ref i1, .ref i2]) (hTO : TupA h2 TO [.none, .none]) (it1 : It h2 i1 176 0 (seqOf (top.o_212 c.w.params)) true) (it2 : It h2 i2 l2 0 [.none, .str bg u2, .none, .none] kd)
    (hcode : Fz = .forLoop (.Tuple [.Name "key" pa, .Name "value" pb] x1 pt) (.ref z) (.If (.Compare (.Name "value" pc) [.IsNot] [.Constant .none k1 pd] pe) body [] pf :: []) orelse (envT c.w.params L))
    (q : ∀ h' t5, GS C c.w h₀ n I L nsK (((vs.set 25 (some (.str "variable_begin" t5))).set 26 (some (.str bg u2)))) ls h' → SX c G n Fz fs (nextK [] (envT c.w.params L) (loopK Fz) (loopH (envT c.w.params L))) (loopH (envT c.w.params L)) (envT c.w.params L) body h') :
    SG c G n Fz ((model c.prog c.w).den Fz) fs h2 := by
  have X := okT c.w.params
  obtain ⟨t1, t2, t3, t4, hn⟩ := strvals4 (grn_strs c.w.params)
  rw [hn] at it1
  subst hcode
  have zL : ∀ {b}, New h b → b ≠ L := fun nb x => by
    subst x
    obtain ⟨o, _, _, e, _⟩ := M.ns
    exact New.ne nb e rfl
  -- first turn: the name of raw parts, which did not match
  refine sg_forLoop (w_zip_next D hz hTI hTO it1 it2 rfl rfl fun h3 t k3 nt tt hz3 hTI3 hTO3 i13 i23 => ?_)
  have K13 : Keep h h3 := fun b o e => k3 b o (nz.ne e) (nTO.ne e) (n1.ne e) (n2.ne e) (k12 b o e)
  refine w_zip_go hz3 fun h4 kb4 hz4 => ?_
  have ntz : t ≠ z := (New.ne nt hz).symm
  have tt4 : TupA h4 t [.str "raw_begin" t1, .none] := kb4 _ _ ntz tt
  have hTI4 : TupA h4 TI [.ref i1, .ref i2] := kb4 _ _ D.TIz hTI3
  have hTO4 : TupA h4 TO [.str "raw_begin" t1, .none] := kb4 _ _ D.TOz hTO3
  have i14 := i13.but kb4 D.i1z D.l1z
  have i24 := i23.but kb4 D.i2z D.l2z
  have K14 : Keep h h4 := fun b o e => kb4 b o (nz.ne e) (K13 b o e)
  refine w_assign_tup (items := #[.str "raw_begin" t1, .none]) hh ⟨_, tt4, rfl, 0, rfl⟩ rfl fun h5 k5 => ?_
  have M5 := M.mono (Keep.trans K14 k5)
  refine w_order <| w_store X M5.ns (i := 25) rfl (by simp [hv]) fun h6 N6 k6 => ?_
  have M6 := M5.store N6 k6
  refine w_order <| w_store X M6.ns (i := 26) rfl (by simp [hv]) fun h7 N7 k7 => w_order_nil ?_
  have M7 := M6.store N7 k7
  have up47 : ∀ b o, b ≠ L → h4.get? b = some o → h7.get? b = some o := fun b o hb e => k7 _ _ hb (k6 _ _ hb (k5 _ _ e))
  have g26 : ((vs.set 25 (some (Value.str "raw_begin" t1))).set 26 (some .none))[26]? = some (some .none) := set_get (by simp; omega)
  refine sx_cons <| se_if_f <| w_tcmp <| w_loc X M7.ns (i := 26) rfl g26 <| w_none <| w_isnot_none <| w_tbool ⟨rfl, ?_⟩
  refine sx_nil <| sx_done <| sx_nil <| sg_again rfl ?_
  -- second turn
  have hz7 : IsZip h7 z TI TO .none := up47 _ _ (zL nz) hz4
  have hTI7 : TupA h7 TI [.ref i1, .ref i2] := up47 _ _ (zL nTI) hTI4
  have hTO7 : TupA h7 TO [.str "raw_begin" t1, .none] := up47 _ _ (zL nTO) hTO4
  have b47 : KeepBut L h4 h7 := fun b o hb e => up47 b o hb e
  have lL : l2 ≠ L := fun x => by
    subst x
    obtain ⟨o, es, ep, e, d, _⟩ := (M.mono k12).ns
    cases it2 with
    | tup _ s => obtain ⟨o', n, e', d'⟩ := s; rw [e] at e'; cases e'; rw [d] at d'; cases d'
    | lst _ s => obtain ⟨o', e', _, n, d'⟩ := s; rw [e] at e'; cases e'; rw [d] at d'; cases d'
  have nL : (176 : Addr) ≠ L := by
    obtain ⟨o, e, _⟩ := grn_tuple (h := H1 c.w.params) (w := c.w) (fun b o e => e)
    exact New.ne (M.nb L (by simp)) e
  have i17 := i14.but b47 (zL n1) nL
  have i27 := i24.but b47 (zL n2) lL
  refine sg_forLoop (w_zip_next D hz7 hTI7 hTO7 i17 i27 rfl rfl fun h8 t' k8 nt8 tt8 hz8 hTI8 hTO8 i18 i28 => ?_)
  refine w_zip_go hz8 fun h9 kb9 hz9 => ?_
  have ntz8 : t' ≠ z := (New.ne nt8 hz7).symm
  have tt9 : TupA h9 t' [.str "variable_begin" t2, .str bg u2] := kb9 _ _ ntz8 tt8
  have kb19 : KeepBut L h h9 := fun b o hb e => kb9 b o (nz.ne e) (k8 b o (nz.ne e) (nTO.ne e) (n1.ne e) (n2.ne e) (up47 b o hb (K14 b o e)))
  have N9 : h9.Ns L (frm nsK ((vs.set 25 (some (Value.str "raw_begin" t1))).set 26 (some .none))) := by
    obtain ⟨o, es, ep, e, r⟩ := M7.ns
    exact ⟨o, es, ep, kb9 _ _ (zL nz).symm (k8 _ _ (zL nz).symm (zL nTO).symm (zL n1).symm (zL n2).symm e), r⟩
  have M9 := M.store N9 kb19
  refine w_assign_tup (items := #[.str "variable_begin" t2, .str bg u2]) hh ⟨_, tt9, rfl, 0, rfl⟩ rfl fun h10 k10 => ?_
  replace M9 := M9.mono k10
  refine w_order <| w_store X M9.ns (i := 25) rfl (by simp [hv]) fun h11 N11 k11 => ?_
  replace M9 := M9.store N11 k11
  refine w_order <| w_store X M9.ns (i := 26) rfl (by simp [hv]) fun h12 N12 k12 => w_order_nil ?_
  replace M9 := M9.store N12 k12
  have vse : ((((vs.set 25 (some (Value.str "raw_begin" t1))).set 26 (some .none)).set 25 (some (.str "variable_begin" t2))).set 26 (some (.str bg u2))) = ((vs.set 25 (some (.str "variable_begin" t2))).set 26 (some (.str bg u2))) := by
    rw [List.set_comm _ _ (show 26 ≠ 25 by omega), List.set_set, List.set_set]
  rw [vse] at M9
  have g26' : ((vs.set 25 (some (Value.str "variable_begin" t2))).set 26 (some (.str bg u2)))[26]? = some (some (.str bg u2)) := set_get (by simp; omega)
  refine sx_cons <| se_if_t <| w_tcmp <| w_loc X M9.ns (i := 26) rfl g26' <| w_none <| w_isnot_none <| w_tbool ⟨rfl, ?_⟩
  exact q h12 t2 M9
theorem w_nameStr {x : Str} {p : Pos} {t : Addr} {its : List Value} {Q : Value → Heap → Prop} (X : FnOk nsK (fscope (top.o_480 c.w.params))) (N : h.Ns L (frm nsK vs)) (i : Nat) (hx : nsK[i]? = some x) (hv : vs[i]? = some (some (.ref t))) (q : Q (.ref t) h) : W c h (eval (.Name x p) (envT c.w.params L)) Q E := w_loc X N (i := i) hx hv q
/-- a rule's second token: the opening itself -/
theorem tok_group {it e eit O g2 xl S R Bk : Addr} {p0 p1 p2 : Pos} {kept bg sg x : Str} {u1 u2 u3 t1 t2 : Tok} {p row : Nat} (hh : c.A.handled = none) (U : c.A.units + 40 < cLine)
    (M : GS C c.w h₀ (n + 1) I L nsK vs (ls ++ [(eit, .obj (ItO true O 1)), (e, .obj (EnO eit 1 .none))]) h) (hI : ∀ h h', TupKeep h h' → I h → I h') (F : FK vs xl S R Bk x p row 0) (h18 : vs[18]? = some (some (.ref g2)))
    (KO : ∀ h : Heap, (∀ b o, b ∉ C.X → h₀.get? b = some o → h.get? b = some o) → ∃ o, h.get? O = some o ∧ OlsO [.str "data" t1, .str "#bygroup" t2] o)
    (hG : ∀ h, I h → (∀ p ∈ ls, p.2.at h p.1) → Seq h g2 (items9 kept bg sg u1 u2 u3)) (hnl : nl bg = 0)
    (hY : ∀ v h', TokV h' v (row, "variable_begin", bg) → C.at c.w h₀ (n + 1) h' → G.Yv n v h') (hSt : ∀ n h' h'', G.St n h' h'' → C.step n h' h'')
    (q : ∀ h' vs', FK vs' xl S R Bk x p row 0 → Same4 vs vs' → GS C c.w h₀ n I L nsK vs' (ls ++ [(eit, .obj (ItO true O 2)), (e, .obj (EnO eit 2 .none))]) h' → SG c G n (FE c.w.params e L) ((model c.prog c.w).den (FE c.w.params e L)) (fsE c.w.params c it L p0 p1 p2) h') :
    SG c G (n + 1) (FE c.w.params e L) ((model c.prog c.w).den (FE c.w.params e L)) (fsE c.w.params c it L p0 p1 p2) h := by
  have X := okT c.w.params
  have hv := F.len
  have hOf : ∀ {n : Nat} {vs : List (Option Value)} {i j : Nat} {f0 : Value} {h : Heap}, GS C c.w h₀ n I L nsK vs (ls ++ [(eit, .obj (ItO true O i)), (e, .obj (EnO eit j f0))]) h → ∃ o m, h.get? O = some o ∧ o.data = .seq ([.str "data" t1, .str "#bygroup" t2] : List Value).toArray m ∧ O ≠ e := @fun n vs i j f0 h M => by
    obtain ⟨o, e1, e2, m, e3⟩ := KO _ M.keep
    refine ⟨o, m, e1, e3, fun x => ?_⟩
    subst x
    obtain ⟨⟨o2, e4, old, q2⟩, _⟩ := M.lst (O, Cell.obj (EnO eit j f0)) (by simp)
    rw [e1] at e4
    cases e4
    rw [q2] at e2
    cases e2
  have seq : ∀ {n : Nat} {vs : List (Option Value)} {i j : Nat} {f0 : Value} {h : Heap}, GS C c.w h₀ n I L nsK vs (ls ++ [(eit, .obj (ItO true O i)), (e, .obj (EnO eit j f0))]) h → Seq h g2 (items9 kept bg sg u1 u2 u3) := fun M => hG _ M.inv.2 fun p hp => M.lst p (by simp [hp])
  refine sg_forLoop (enum_next (c2 := c.ov (FE c.w.params e L) (fsE c.w.params c it L p0 p1 p2)) M (hOf M) rfl fun h1 a tk k1 ta M1 => ?_)
  refine enum_go (O := O) (items := []) (v := .none) M1 fun h2 kb2 M2 => ?_
  have ta2 : h2.IsTuple a #[.int (1 : Nat) tk, .str "#bygroup" t2] := by
    obtain ⟨⟨o2, e4, old, q2⟩, _⟩ := M1.lst (e, Cell.obj (EnO eit (1 + 1) (rawInt a))) (by simp)
    obtain ⟨o, e1, r⟩ := ta
    refine ⟨o, kb2 _ _ (fun x => ?_) e1, r⟩
    subst x
    rw [e1] at e4
    cases e4
    rw [q2] at r
    exact absurd r.1 (by simp)
  refine w_assign_tup (c := c.ov (FE c.w.params e L) (fsE c.w.params c it L p0 p1 p2)) hh ta2 rfl fun h3 k3 => ?_
  replace M2 := M2.mono k3
  refine w_order <| w_store X M2.ns (i := 23) rfl (by simp [hv]) fun h4 N4 k4 => ?_
  have M4 := M2.store N4 k4
  refine w_order <| w_store X M4.ns (i := 24) rfl (by simp [hv]) fun h5 N5 k5 => w_order_nil ?_
  have M5 := M4.store N5 k5
  have hv5 : ((vs.set 23 (some (Value.int (1 : Nat) tk))).set 24 (some (.str "#bygroup" t2))).length = 30 := by simp [hv]
  have F5 : FK ((vs.set 23 (some (Value.int (1 : Nat) tk))).set 24 (some (.str "#bygroup" t2))) xl S R Bk x p row 0 := (F.hi (by omega)).hi (by omega)
  have S5 : Same4 vs ((vs.set 23 (some (Value.int (1 : Nat) tk))).set 24 (some (.str "#bygroup" t2))) := (Same4.refl.set (by omega)).set (by omega)
  have g24 : ((vs.set 23 (some (Value.int (1 : Nat) tk))).set 24 (some (.str "#bygroup" t2)))[24]? = some (some (.str "#bygroup" t2)) := set_get (by simp; omega)
  have g18 := (S5 18 (by omega) (by omega)).trans h18
  generalize ((vs.set 23 (some (Value.int (1 : Nat) tk))).set 24 (some (.str "#bygroup" t2))) = v5 at M5 hv5 F5 S5 g24 g18
  refine sx_cons <| se_if_f <| w_tval <| w_callN <| w_blt (base_g M5.base) (base_b M5.base) (v := .builtin "isinstance") (by kernel_rfl) (by kernel_rfl) <| w_with_bi <| w_args <| w_loc X M5.ns (i := 24) rfl g24 <| w_args <|
    w_glob (base_g M5.base) (show mg0 c.w.params "Failure" = some (.ref 216) by kernel_rfl) <| w_args_nil <| w_isi_strF M5.base <| w_tbool ⟨rfl, ?_⟩
  refine sx_cons <| se_if_t <| w_tcmp <| w_loc X M5.ns (i := 24) rfl g24 <| w_str fun t5 => w_eq_str <| w_tbool ⟨by decide +kernel, ?_⟩
  -- the walk along the names
  have go : ∀ {K : Flow → Sem Fin} {h6 h7 : Heap} {l2 z TI TO i1 i2 : Addr} {kd : Bool} (p3 : Pos), (∀ h8 vs8, FK vs8 xl S R Bk x p row 0 → Same4 v5 vs8 → GS C c.w h₀ n I L nsK vs8 (ls ++ [(eit, .obj (ItO true O 2)), (e, .obj (EnO eit 2 .none))]) h8 → SG c G n (FE c.w.params e L) (K .next) (fsE c.w.params c it L p0 p1 p2) h8) →
      Keep h5 h6 → Keep h6 h7 → New h6 z → New h6 TI → New h6 TO → New h6 i1 → New h6 i2 → ZipApart z TI TO i1 i2 176 l2 → IsZip h7 z TI TO .none → TupA h7 TI [.ref i1, .ref i2] → TupA h7 TO [.none, .none] → It h7 i1 176 0 (seqOf (top.o_212 c.w.params)) true → It h7 i2 l2 0 [.none, .str bg u2, .none, .none] kd →
      SG c G (n + 1) (FZ c.w.params z L) ((model c.prog c.w).den (FZ c.w.params z L)) (frL (FE c.w.params e L) p3 (envT c.w.params L) K (loopH (envT c.w.params L)) :: fsE c.w.params c it L p0 p1 p2) h7 := fun {K h6 h7 l2 z TI TO i1 i2 kd} p3 fin k56 k67 nz nTI nTO n1 n2 D hz hTI hTO i1t i2t => by
    refine zip_walk (Fz := FZ c.w.params z L) hh (M5.mono k56) hv5 k67 nz nTI nTO n1 n2 D hz hTI hTO i1t i2t rfl fun h8 t8 M8 => ?_
    have F8 : FK ((v5.set 25 (some (.str "variable_begin" t8))).set 26 (some (.str bg u2))) xl S R Bk x p row 0 := (F5.hi (by omega)).hi (by omega)
    have S8 : Same4 v5 ((v5.set 25 (some (.str "variable_begin" t8))).set 26 (some (.str bg u2))) := (Same4.refl.set (by omega)).set (by omega)
    have g25 : ((v5.set 25 (some (.str "variable_begin" t8))).set 26 (some (.str bg u2)))[25]? = some (some (.str "variable_begin" t8)) := gs_ne (set_get (by omega)) (by omega)
    have g26 : ((v5.set 25 (some (.str "variable_begin" t8))).set 26 (some (.str bg u2)))[26]? = some (some (.str bg u2)) := set_get (by simp; omega)
    generalize ((v5.set 25 (some (.str "variable_begin" t8))).set 26 (some (.str bg u2))) = v8 at M8 F8 S8 g25 g26
    have hv8 := F8.len
    obtain ⟨u7, f7⟩ := F8.1.f7
    replace f7 := FK.at (by omega) f7
    refine sx_cons <| se_yield (by rfl) (by rfl) <| w_tuple <| w_args <| w_loc X M8.ns (i := 7) rfl f7 <| w_args <| w_loc X M8.ns (i := 25) rfl g25 <| w_args <| w_loc X M8.ns (i := 26) rfl g26 <| w_args_nil ⟨rfl, fun b h9 k9 nb tb => ?_⟩
    replace M8 := M8.mono k9
    refine ⟨hY _ _ (.mk tb) M8.cons, fun h10 hst => ?_⟩
    have M10 := M8.step hI (hSt _ _ _ hst)
    refine sx_done <| sx_W <| w_aug <| w_locN X M10.ns (i := 7) rfl f7 <| w_count <| w_loc X M10.ns (i := 26) rfl g26 ⟨_, _, rfl, w_str fun t9 => ⟨_, _, rfl, fun t10 => w_iadd fun t11 => ?_⟩⟩
    rw [count_nl, hnl]
    have e0 : ((row : Int) + ((0 : Nat) : Int)) = ((row : Nat) : Int) := by omega
    rw [e0]
    refine w_store X M10.ns (i := 7) rfl (by simp [hv8]) fun h11 N11 k11 => ?_
    have M11 := M10.store N11 k11
    refine sx_W <| fun tk => wpAny_Break ⟨h11, tk, rfl, ?_⟩
    refine sg_ret ?_
    exact fin h11 _ F8.row' (S8.set (by omega)) M11
  have fin : ∀ h8 vs8, FK vs8 xl S R Bk x p row 0 → Same4 v5 vs8 → GS C c.w h₀ n I L nsK vs8 (ls ++ [(eit, .obj (ItO true O 2)), (e, .obj (EnO eit 2 .none))]) h8 → SG c G n (FE c.w.params e L) ((model c.prog c.w).den (FE c.w.params e L)) (fsE c.w.params c it L p0 p1 p2) h8 := fun h8 vs8 F8 S8 M8 => q h8 vs8 F8 (fun j h1 h2 => (S8 j h1 h2).trans (S5 j h1 h2)) M8
  have tup := grn_tuple M5.base
  rcases seq M5 with hs | hs
  · refine sx_cons <| se_for <| w_callN <| w_blt (base_g M5.base) (base_b M5.base) (v := .type "zip") (by kernel_rfl) (by kernel_rfl) <| w_with_type <| w_args <| w_glob (base_g M5.base) (show mg0 c.w.params "root_names" = some (.ref 176) by kernel_rfl) <| w_args <|
      w_tup_step (a := 1) (k := 2) pick12 rfl (by decide) (adj9 (by decide)) <| w_loc X M5.ns (i := 18) rfl g18 ⟨g2, rfl, hs, fun h6 l2 k6 nl2 tl2 => w_args_nil <| w_zip2 true (TupKeep.of_keep k6 _ _ tup) (by rw [if_pos rfl]; exact ⟨_, tl2, rfl, 0, rfl⟩) fun h7 z TI TO i1 i2 k7 nz nTI nTO n1 n2 D hz hTI hTO i1t i2t => w_iter_zip hz fun p3 => ?_⟩
    exact go p3 (fun h8 vs8 F8 S8 M8 => sx_done <| sx_nil <| sx_done <| sx_nil <| sx_done <| sx_nil <| sg_again rfl (fin h8 vs8 F8 S8 M8)) k6 k7 nz nTI nTO n1 n2 D hz hTI hTO i1t i2t
  · refine sx_cons <| se_for <| w_callN <| w_blt (base_g M5.base) (base_b M5.base) (v := .type "zip") (by kernel_rfl) (by kernel_rfl) <| w_with_type <| w_args <| w_glob (base_g M5.base) (show mg0 c.w.params "root_names" = some (.ref 176) by kernel_rfl) <| w_args <|
      w_lst_step (a := 1) (k := 2) lpick12 rfl (by decide) <| w_loc X M5.ns (i := 18) rfl g18 ⟨g2, rfl, hs, fun h6 l2 k6 nl2 tl2 => w_args_nil <| w_zip2 false (TupKeep.of_keep k6 _ _ tup) (by rw [if_neg (by decide)]; exact tl2.isList) fun h7 z TI TO i1 i2 k7 nz nTI nTO n1 n2 D hz hTI hTO i1t i2t => w_iter_zip hz fun p3 => ?_⟩
    exact go p3 (fun h8 vs8 F8 S8 M8 => sx_done <| sx_nil <| sx_done <| sx_nil <| sx_done <| sx_nil <| sg_again rfl (fin h8 vs8 F8 S8 M8)) k6 k7 nz nTI nTO n1 n2 D hz hTI hTO i1t i2t
end
end Mine
end
section
open PySem PySem.W PySem.Calls PyProof.Rows PySem.Builtin.Re
set_option maxRecDepth 100000
set_option linter.all false
set_option maxHeartbeats 4000000
namespace Mine
open Rx
section
variable {c : Cx} {h h₀ : Heap} {E : Value → Heap → Prop} {env : Env} {C : Cons} {G : GSpec} {n : Nat} {fs : List PySem.Frame} {I : Heap → Prop} {L : Addr} {vs : List (Option Value)} {ls : List (Addr × Cell)}
/-- no token of the rule is left -/
theorem tok_end {it e eit O : Addr} {p0 p1 p2 : Pos} {t1 t2 : Tok} (hh : c.A.handled = none)
    (M : GS C c.w h₀ n I L nsK vs (ls ++ [(eit, .obj (ItO true O 2)), (e, .obj (EnO eit 2 .none))]) h)
    (KO : ∀ h : Heap, (∀ b o, b ∉ C.X → h₀.get? b = some o → h.get? b = some o) → ∃ o, h.get? O = some o ∧ OlsO [.str "data" t1, .str "#bygroup" t2] o)
    (q : ∀ h', GS C c.w h₀ n I L nsK vs ls h' → SX c G n (FL c.w.params it L) (fsF c.w.params L p0 p1) (loopK (FL c.w.params it L)) (loopH (envT c.w.params L)) (envT c.w.params L) ((sBody (forT c.w.params)).drop 4) h') :
    SG c G n (FE c.w.params e L) ((model c.prog c.w).den (FE c.w.params e L)) (fsE c.w.params c it L p0 p1 p2) h := by
  obtain ⟨⟨o1, e1, q1⟩, _⟩ := M.lst (eit, Cell.obj (ItO true O 2)) (by simp)
  obtain ⟨⟨o2, e2, old, q2⟩, _⟩ := M.lst (e, Cell.obj (EnO eit 2 .none)) (by simp)
  cases q1
  cases q2
  obtain ⟨o, ho1, hoc, k, hod⟩ := KO h M.keep
  have M2 : MS c.w h₀ C.X (fun h => C.Ic n h ∧ I h) L nsK vs (((C.cells n ++ ls) ++ [(eit, .obj (ItO true O 2))]) ++ [(e, .obj (EnO eit 2 .none))]) h := by simpa using M
  refine sg_forLoop (w_enum_end (c := c.ov (FE c.w.params e L) (fsE c.w.params c it L p0 p1 p2)) hh e2 e1 ho1 hod rfl fun h1 kb => ?_)
  have M3 := M2.drop.lost kb
  refine sg_block <| sx_nil <| sg_ret <| sx_done <| sx_nil <| sx_done ?_
  exact q h1 M3
/-- the end of a rule's turn that enters a variable -/
theorem tail_group {it a b S xl lr lv : Addr} {p0 p1 : Pos} {x : Str} {s e p : Nat} {tt t0 : Tok} (ja js : Nat) (hh : c.A.handled = none) (M : GS C c.w h₀ n I L nsK vs ls h) (hv : vs.length = 30) (h0 : vs[0]? = some (some (.ref xl))) (h8 : vs[8]? = some (some (.ref S))) (h16 : vs[16]? = some (some (.str "#bygroup" tt))) (h17 : vs[17]? = some (some (.ref a)))
    (KB : ∀ h, (∀ b o, b ∉ C.X → h₀.get? b = some o → h.get? b = some o) → LexR c.prog c.w h xl lr lv)
    (hm : (C.cells n ++ ls)[ja]? = some (a, .obj (MatchO x b))) (hS : (C.cells n ++ ls)[js]? = some (S, .lst [.str "root" t0])) (tb : ∀ h, I h → h.IsTuple b (rawInt p :: rawInt e :: rootSp p s e).toArray) (hl : x.length ≤ sizeLine) (he : s + 2 ≤ e)
    (q : ∀ h' b1 u1 u2 t1 o1, MS c.w h₀ C.X (fun h => C.Ic n h ∧ I h) L nsK ((((((vs.set 13 (some (.bool b1))).set 29 (some (.int e u1))).set 25 (some (.str "variable_begin" t1))).set 26 o1).set 9 (some (.ref lv))).set 6 (some (.int e u2))) ((C.cells n ++ ls).set js (S, .lst [.str "root" t0, .str "variable_begin" t1])) h' → SG c G n (FL c.w.params it L) (.pure (.done .next)) (fsF c.w.params L p0 p1) h') :
    SX c G n (FL c.w.params it L) (fsF c.w.params L p0 p1) (loopK (FL c.w.params it L)) (loopH (envT c.w.params L)) (envT c.w.params L) ((sBody (forT c.w.params)).drop 4) h := by
  have X := okT c.w.params
  have A := M.match ja hm tb
  refine sx_W <| w_assign <| w_cmp <| w_slice_any <| w_regroup <| w_loc X M.ns (i := 17) rfl h17 ⟨a, x, p, e, _, rfl, A, hl, fun t1 => w_neg fun t2 => ⟨_, _, _, _, rfl, rfl, Nat.le_trans (by rw [sl_len]; omega) hl, fun h' t' k => ?_⟩⟩
  replace M := M.mono k
  refine w_str fun t3 => w_eq_str <| w_store X M.ns (i := 13) rfl (by simp [hv]) fun h2 N2 k2 => ?_
  replace M := M.store N2 k2
  have A := M.match ja hm tb
  refine sx_W <| w_assign <| w_reend <| w_loc X M.ns (i := 17) rfl (by simpa using h17) ⟨a, x, p, e, _, rfl, A, fun t4 => w_store X M.ns (i := 29) rfl (by simp [hv]) fun h3 N3 k3 => ?_⟩
  replace M := M.store N3 k3
  refine sx_cons <| se_if_t <| w_tcmp <| w_loc X M.ns (i := 16) rfl (by simpa using h16) <| w_none <| w_isnot_none <| w_tbool ⟨rfl, ?_⟩
  refine sx_cons <| se_if_f <| w_tcmp <| w_loc X M.ns (i := 16) rfl (by simpa using h16) <| w_str fun t5 => w_eq_str <| w_tbool ⟨by decide +kernel, ?_⟩
  refine sx_cons <| se_if_t <| w_tcmp <| w_loc X M.ns (i := 16) rfl (by simpa using h16) <| w_str fun t5 => w_eq_str <| w_tbool ⟨by decide +kernel, ?_⟩
  have A := M.match ja hm tb
  have tup := grn_tuple M.base
  have g17 : ((vs.set 13 (some (Value.bool (decide (Txt.slice (sl x p e) (some (-1)) none = Str.ofString "\n"))))).set 29 (some (Value.int (↑e) t4)))[17]? = some (some (.ref a)) := by simpa using h17
  have g8 : ((vs.set 13 (some (Value.bool (decide (Txt.slice (sl x p e) (some (-1)) none = Str.ofString "\n"))))).set 29 (some (Value.int (↑e) t4)))[8]? = some (some (.ref S)) := by simpa using h8
  have g0 : ((vs.set 13 (some (Value.bool (decide (Txt.slice (sl x p e) (some (-1)) none = Str.ofString "\n"))))).set 29 (some (Value.int (↑e) t4)))[0]? = some (some (.ref xl)) := by simpa using h0
  have g29 : ((vs.set 13 (some (Value.bool (decide (Txt.slice (sl x p e) (some (-1)) none = Str.ofString "\n"))))).set 29 (some (Value.int (↑e) t4)))[29]? = some (some (Value.int (↑e) t4)) := by simp [hv]
  have hv2 : ((vs.set 13 (some (Value.bool (decide (Txt.slice (sl x p e) (some (-1)) none = Str.ofString "\n"))))).set 29 (some (Value.int (↑e) t4))).length = 30 := by simp [hv]
  have q2 := fun h' u2 t1 o1 => q h' (decide (Txt.slice (sl x p e) (some (-1)) none = Str.ofString "\n")) t4 u2 t1 o1
  generalize ((vs.set 13 (some (Value.bool (decide (Txt.slice (sl x p e) (some (-1)) none = Str.ofString "\n"))))).set 29 (some (Value.int (↑e) t4))) = v2 at M g17 g8 g0 g29 hv2 q2
  refine sx_cons <| se_for <| w_callN <| w_blt (base_g M.base) (base_b M.base) (v := .type "zip") (by kernel_rfl) (by kernel_rfl) <| w_with_type <| w_args <| w_glob (base_g M.base) (show mg0 c.w.params "root_names" = some (.ref 176) by kernel_rfl) <| w_args <|
    w_tup_step' (a := 1) (k := 2) (by decide) <| w_regroups <| w_loc X M.ns (i := 17) rfl g17 ⟨a, x, p, e, _, rfl, A, hl, by show (18 : Nat) ≤ _; decide, fun g1 h4 gv k4 n4 tg og => ?_⟩
  have og' : OptVals gv [some (sl x p s), none, none, some (sl x s e), some (sl x (s + 2) e), none, none, none, none] := by
    rw [← root_groups (p := p) (s := s) (e := e) x]
    have h9 : (rootSp p s e).length / 2 = 9 := by simp [rootSp]
    rw [h9] at og
    exact og
  obtain ⟨u1, u2, u3, rfl⟩ := optvals9 og'
  refine ⟨g1, items9 (sl x p s) (sl x s e) (sl x (s + 2) e) u1 u2 u3, _, rfl, tg, pick12, rfl, adj9 (by decide), fun h6 l2 k6 nl2 tl2 => w_args_nil <| w_zip2 true (TupKeep.of_keep (Keep.trans k4 k6) _ _ tup) (by rw [if_pos rfl]; exact ⟨_, tl2, rfl, 0, rfl⟩) fun h7 z TI TO i1 i2 k7 nz nTI nTO n1 n2 D hz hTI hTO i1t i2t => w_iter_zip hz fun p3 => ?_⟩
  refine zip_walk hh ((M.mono k4).mono k6) hv2 k7 nz nTI nTO n1 n2 D hz hTI hTO i1t i2t rfl fun h8 t8 M8 => ?_
  have g25 : ((v2.set 25 (some (.str "variable_begin" t8))).set 26 (some (.str (sl x s e) u2)))[25]? = some (some (.str "variable_begin" t8)) := gs_ne (set_get (by omega)) (by omega)
  replace g8 := gs_ne (v := some (Value.str (sl x s e) u2)) (gs_ne (v := some (Value.str "variable_begin" t8)) g8 (show 25 ≠ 8 by omega)) (show 26 ≠ 8 by omega)
  replace g0 := gs_ne (v := some (Value.str (sl x s e) u2)) (gs_ne (v := some (Value.str "variable_begin" t8)) g0 (show 25 ≠ 0 by omega)) (show 26 ≠ 0 by omega)
  replace g29 := gs_ne (v := some (Value.str (sl x s e) u2)) (gs_ne (v := some (Value.str "variable_begin" t8)) g29 (show 25 ≠ 29 by omega)) (show 26 ≠ 29 by omega)
  refine sx_W <| w_expr <| w_append <| w_loc X M8.ns (i := 8) rfl g8 ⟨S, _, rfl, M8.get js hS, w_loc X M8.ns (i := 25) rfl g25 ⟨_, M8.get js hS, by show (1 : Nat) ≤ _; decide, fun h9 l9 k9 => ⟨rfl, ?_⟩⟩⟩
  have M9 := M8.set js hS l9 k9
  obtain ⟨kl, e9⟩ := l9
  refine sx_W <| fun tk => wpAny_Break ⟨h9, tk, rfl, ?_⟩
  refine sg_ret <| sx_done <| sx_nil <| sx_done <| sx_nil <| sx_done ?_
  refine sx_W <| w_assign <| w_rules M9.base (KB _ M9.keep) "variable_begin" lv (.inr ⟨rfl, rfl⟩) (by rfl) (by intro _ _; rfl) <| w_loc X M9.ns (i := 0) rfl g0 ⟨rfl, rfl, w_sub <| w_loc X M9.ns (i := 8) rfl g8 <| w_neg fun t6 => w_last2 M9.base e9 ⟨t8, rfl, rfl, ?_⟩⟩
  refine w_store X M9.ns (i := 9) rfl (by simp [hv2]) fun h10 N10 k10 => ?_
  have M10 := M9.store N10 k10
  refine sx_nil <| sx_done <| sx_W <| w_assign <| w_loc X M10.ns (i := 29) rfl (gs_ne g29 (by omega)) <| w_store X M10.ns (i := 6) rfl (by simp [hv2]) fun h11 N11 k11 => ?_
  have M11 := M10.store N11 k11
  refine sx_W <| fun tk => wpAny_Break ⟨h11, tk, rfl, ?_⟩
  exact q2 h11 _ _ _ M11
end
end Mine
end
section
open PySem PySem.W PySem.Calls PyProof.Rows PySem.Builtin.Re
set_option maxRecDepth 100000
set_option linter.all false
set_option maxHeartbeats 4000000
namespace Mine
open Rx
theorem MS.addAt {w : World} {h₀ h : Heap} {X : List Addr} {I : Heap → Prop} {L : Addr} {ns : List Str} {vs : List (Option Value)} {ls : List (Addr × Cell)} (M : MS w h₀ X I L ns vs ls h) {a : Addr} {its : Cell} (l : its.at h a) (hf : a ∉ L :: ls.map (·.1)) (hn : New h₀ a) (nb : New (H1 w.params) a) : MS w h₀ X I L ns vs (ls ++ [(a, its)]) h := by
  have hall : ∀ b ∈ L :: (ls ++ [(a, its)]).map (·.1), b ∈ L :: ls.map (·.1) ∨ b = a := fun b hb => by
    simp only [List.map_append, List.mem_cons, List.mem_append, List.map_cons, List.map_nil, List.not_mem_nil, or_false] at hb ⊢
    rcases hb with h | h | h
    · exact .inl (.inl h)
    · exact .inl (.inr h)
    · exact .inr h
  refine ⟨M.base, M.ns, fun p hp => ?_, ?_, M.keep, fun b hb => ?_, fun b hb => ?_, M.inv, M.st⟩
  · rcases List.mem_append.mp hp with hp | hp
    · exact M.lst p hp
    · rw [List.mem_singleton.mp hp]; exact l
  · rw [List.map_append, ← List.cons_append]
    refine List.nodup_append.mpr ⟨M.nd, by simp, fun x hx y hy => ?_⟩
    simp only [List.map_cons, List.map_nil, List.mem_singleton] at hy
    subst hy
    exact fun e => hf (e ▸ hx)
  · rcases hall b hb with hb | rfl
    · exact M.new b hb
    · exact .inr hn
  · rcases hall b hb with hb | rfl
    · exact M.nb b hb
    · exact nb
theorem MS.notIn {w : World} {h₀ h : Heap} {X : List Addr} {I : Heap → Prop} {L : Addr} {ns : List Str} {vs : List (Option Value)} {ls : List (Addr × Cell)} (M : MS w h₀ X I L ns vs ls h) {a : Addr} (n : New h a) : a ∉ L :: ls.map (·.1) := fun hb => by
  rcases List.mem_cons.mp hb with e | hb
  · subst e
    obtain ⟨o, _, _, e, _⟩ := M.ns
    rw [n] at e; cases e
  · obtain ⟨p, hp, rfl⟩ := List.mem_map.mp hb
    obtain ⟨_, e, _⟩ := Cell.get (M.lst p hp)
    rw [n] at e; cases e
/-- what the outer rules are -/
structure WalkR (c : Cx) (h₀ : Heap) (C : Cons) (xl lr O : Addr) (r0 r1 : Addr) (t1 t2 : Tok) : Prop where
  KO : ∀ h : Heap, (∀ b o, b ∉ C.X → h₀.get? b = some o → h.get? b = some o) → ∃ o, h.get? O = some o ∧ OlsO [.str "data" t1, .str "#bygroup" t2] o
  KL : ∀ h : Heap, (∀ b o, b ∉ C.X → h₀.get? b = some o → h.get? b = some o) → ∃ dx kvs b, h.get? xl = some (instObj 432 dx) ∧ (∃ o, h.get? dx = some o ∧ EntsO kvs o) ∧ kvs.lookup ("lstrip_blocks" : Str) = some (.bool b)
  KR : ∀ h : Heap, (∀ b o, b ∉ C.X → h₀.get? b = some o → h.get? b = some o) → Lst h lr [.ref r0, .ref r1] ∧ (∃ t0, h.IsTuple r0 #[.ref 130, .ref O, .str "#bygroup" t0]) ∧ ∃ u, h.IsTuple r1 #[.ref 135, .str "data" u, .none]
section
variable {c : Cx} {h h₀ : Heap} {E : Value → Heap → Prop} {env : Env} {C : Cons} {G : GSpec} {n : Nat} {fs : List PySem.Frame} {I : Heap → Prop} {L : Addr} {vs : List (Option Value)} {ls : List (Addr × Cell)}
theorem data_end {w : World} (B : Base w h) {x : Str} {p : Nat} (hx : x.length ≤ p) (hp : p ≤ x.length) : Tries h 135 x p True (fun _ _ _ => False) := by
  have : p = x.length := by omega
  subst this
  exact ⟨_, _, pat_data B, by decide, mat_end 5 1 (by kernel_rfl) (by decide) trivial⟩
/-- the outer rule's tokens are told -/
theorem root_tell {it R a t xl S Bk O : Addr} {p0 p1 : Pos} {lg : List (Addr × Cell)} {g2 : Addr} {i s e k : Nat} {sv : List Value} {x : Str} {p row : Nat} {t1 t2 u1 u2 u3 : Tok} {J : Heap → Prop} (hh : c.A.handled = none) (U : c.A.units + 40 < cLine)
    (M : GS C c.w h₀ ((toksE x p s row).length + n) J L nsK vs ([(S, .lst sv), (Bk, .lst []), (it, .obj (IterO R i)), (a, .obj (MatchO x t))] ++ lg) h) (hJ : ∀ h h', TupKeep h h' → J h → J h') (F : FK vs xl S R Bk x p row k)
    (KO : ∀ h : Heap, (∀ b o, b ∉ C.X → h₀.get? b = some o → h.get? b = some o) → ∃ o, h.get? O = some o ∧ OlsO [.str "data" t1, .str "#bygroup" t2] o)
    (h15 : vs[15]? = some (some (.ref O))) (h18 : vs[18]? = some (some (.ref g2))) (hxl : x.length ≤ 1000) (he : e = s + 2 + signLen x s) (ho : opens x s) (hx : Alph x) (hk : nl (keptOf x p s) + k = nl (sl x p s))
    (hG : ∀ h, J h → (∀ p ∈ lg, p.2.at h p.1) → Seq h g2 (items9 (keptOf x p s) (sl x s e) (sl x (s + 2) e) u1 u2 u3))
    (hY1 : (keptOf x p s).length ≠ 0 → ∀ v h', TokV h' v ((row, "data", keptOf x p s) : Tk) → C.at c.w h₀ (n + 1 + 1) h' → G.Yv (n + 1) v h') (hY2 : ∀ v h', TokV h' v ((row + nl (sl x p s), "variable_begin", ("{{" : Str) ++ signOf x s) : Tk) → C.at c.w h₀ (n + 1) h' → G.Yv n v h') (hSt : ∀ n h' h'', G.St n h' h'' → C.step n h' h'')
    (q : ∀ h' vs', FR vs' xl S R Bk x p (row + nl (sl x p s)) → Same4 vs vs' → GS C c.w h₀ n J L nsK vs' ([(S, .lst sv), (Bk, .lst []), (it, .obj (IterO R i)), (a, .obj (MatchO x t))] ++ lg) h' → SX c G n (FL c.w.params it L) (fsF c.w.params L p0 p1) (loopK (FL c.w.params it L)) (loopH (envT c.w.params L)) (envT c.w.params L) ((sBody (forT c.w.params)).drop 4) h') :
    SX c G ((toksE x p s row).length + n) (FL c.w.params it L) (fsF c.w.params L p0 p1) (KT c it L) (loopH (envT c.w.params L)) (envT c.w.params L) ((grpB c.w.params).drop 2) h := by
  have X := okT c.w.params
  obtain ⟨o, ho1, hoc, kk, hod⟩ := KO h M.keep
  obtain ⟨oc, od, odt, osl⟩ := o
  cases hoc
  cases hod
  have htl : (toksE x p s row).length + n = (if (keptOf x p s).length ≠ 0 then 1 else 0) + (n + 1) := by
    unfold toksE
    split <;> simp <;> omega
  have hkl : (keptOf x p s).length ≤ sizeLine := by
    have hz : (10000 : Nat) < sizeLine := by decide
    unfold keptOf
    split
    · exact Nat.le_trans (len_rstrip _) (Nat.le_trans (sl_le x p s) (by omega))
    · exact Nat.le_trans (sl_le x p s) (by omega)
  have hbg : sl x s e = ("{{" : Str) ++ signOf x s := by rw [begin_eq ho, he]
  have hnl : nl (sl x s e) = 0 := by rw [he]; exact nl_begin hx ho
  rw [htl] at M ⊢
  refine sx_cons <| se_for <| w_callN <| w_blt (base_g M.base) (base_b M.base) (v := .type "enumerate") (by kernel_rfl) (by kernel_rfl) <| w_with_type <| w_args <| w_loc X M.ns (i := 15) rfl h15 <| w_args_nil <| w_enum_ols (c := c.ov (FL c.w.params it L) (fsF c.w.params L p0 p1)) M.base ho1 fun h1 en eit k1 ne ni hne en1 it1 => w_iter_enum en1 fun p2 => ?_
  have M1 := (M.mono k1).addAt (a := eit) (its := .obj (ItO true O 0)) ⟨it1.obj, ItO.nt⟩ (M.notIn ni) (M.fresh ni) (M.base.new ni)
  have M2 := M1.addAt (a := en) (its := .obj (EnO eit 0 .none)) ⟨⟨_, en1, _, rfl⟩, EnO.nt⟩ (by
    have := M.notIn ne
    simp only [List.map_append, List.mem_cons, List.mem_append, List.map_cons, List.map_nil, List.not_mem_nil, or_false, not_or] at this ⊢
    exact ⟨this.1, this.2, Ne.symm hne⟩) (M.fresh ne) (M.base.new ne)
  have M3 : GS C c.w h₀ ((if (keptOf x p s).length ≠ 0 then 1 else 0) + (n + 1)) J L nsK vs (([(S, .lst sv), (Bk, .lst []), (it, .obj (IterO R i)), (a, .obj (MatchO x t))] ++ lg) ++ [(eit, .obj (ItO true O 0)), (en, .obj (EnO eit 0 .none))]) h1 := by simpa using M2
  have hG2 : ∀ h, J h → (∀ q ∈ ([(S, .lst sv), (Bk, .lst []), (it, .obj (IterO R i)), (a, .obj (MatchO x t))] : List (Addr × Cell)) ++ lg, q.2.at h q.1) → Seq h g2 (items9 (keptOf x p s) (sl x s e) (sl x (s + 2) e) u1 u2 u3) := fun h j hl => hG h j fun q hq => hl q (List.mem_append_right _ hq)
  refine tok_data hh U M3 hJ F h18 hkl KO hG2 hY1 hSt fun h4 v4 F4 S4 M4 => ?_
  have hrow : row + nl (keptOf x p s) + k = row + nl (sl x p s) := by omega
  rw [hrow] at F4
  refine tok_group hh U M4 hJ F4 ((S4 18 (by omega) (by omega)).trans h18) KO hG2 hnl (fun v h' tv ca => hY2 v h' (by rw [← hbg]; exact tv) ca) hSt fun h5 v5 F5 S5 M5 => ?_
  refine tok_end hh M5 KO fun h6 M6 => ?_
  obtain ⟨F5a, u12, f12⟩ := F5
  have F6 : FR v5 xl S R Bk x p (row + nl (sl x p s)) := by
    have e : v5 = (v5.set 12 (some (.int 0 0))).set 12 (some (.int 0 u12)) := by
      rw [List.set_set]
      apply List.ext_getElem?
      intro j
      by_cases hj : 12 = j
      · subst hj
        rw [f12]
        have : 12 < v5.length := (List.getElem?_eq_some_iff.mp f12).1
        simp [this]
      · rw [List.getElem?_set_ne hj]
    rw [e]
    exact F5a.ns'
  exact q h6 v5 F6 (fun j h1 h2 => (S5 j h1 h2).trans (S4 j h1 h2)) M6
end
end Mine
end
section
open PySem PySem.W PySem.Calls PyProof.Rows PySem.Builtin.Re
set_option maxRecDepth 100000
set_option linter.all false
set_option maxHeartbeats 4000000
namespace Mine
open Rx
section
variable {c : Cx} {h h₀ : Heap} {C : Cons} {G : GSpec} {n : Nat} {I : Heap → Prop} {L : Addr} {vs : List (Option Value)} {ls l1 l2 : List (Addr × Cell)} {x : Str} {all : List Tk} {r : Option (Str × Nat)} {outer : List Env} {xl lr lv : Addr} {vvs : List Value}
theorem at_done' {α : Type} {done pre rem : List α} {t : α} {k : Nat} (hk : k = rem.length + 1) : (done ++ (pre ++ t :: rem))[(done ++ (pre ++ t :: rem)).length - k]? = some t := by
  subst hk
  have : (done ++ (pre ++ t :: rem)).length - (rem.length + 1) = (done ++ pre).length := by simp; omega
  rw [this, ← List.append_assoc]; simp
/-- a turn of the while outside of a variable -/
theorem root_turn (Wk : Walk c h₀ C G L x all r outer xl lr lv vvs) {O r0 r1 : Addr} {t1 t2 : Tok} (Wr : WalkR c h₀ C xl lr O r0 r1 t1 t2) {S Bk : Addr} {p0 : Pos} {sv : List Value} {p row : Nat} {rem done : List Tk} (R : RunF x false p row [] rem r) (hp : p ≤ x.length) (hall : done ++ rem = all)
    (M : GS C c.w h₀ rem.length (fun _ => True) L nsK vs [(S, .lst sv), (Bk, .lst [])] h) (F : FR vs xl S lr Bk x p row) (hst2 : ∃ t0, sv = [.str "root" t0])
    (next : Next c h₀ C G L x all r xl lr lv S Bk p0 rem.length) :
    SG c G rem.length (WL c.w.params L) ((model c.prog c.w).den (WL c.w.params L)) (fsW c.w.params L p0) h := by
  have hz : (10000 : Nat) < sizeLine := by decide
  have hxl := Wk.hl
  obtain ⟨t0, rfl⟩ := hst2
  refine while_for M F.f9 (Wr.KR h M.keep).1 fun p1 it h1 M1 => ?_
  have hh := fsF_hh (it := it) (P := c.w.params) (L := L) (p0 := p0) (p1 := p1) Wk.hh
  have hh2 := fsF_hh2 (P := c.w.params) (L := L) (p0 := p0) (p1 := p1) Wk.hh
  have D1 := dF (c := c) (L := L) (it := it) (P := c.w.params) (p0 := p0) (p1 := p1)
  have D2 := dB (c := c) (L := L) (P := c.w.params) (p0 := p0) (p1 := p1)
  have U1 := uF (c := c) (L := L) (it := it) (P := c.w.params) (p0 := p0) (p1 := p1)
  have D := Wk.D
  have U := Wk.U
  have hI : ∀ h h' : Heap, TupKeep h h' → (fun _ : Heap => True) h → (fun _ : Heap => True) h' := fun _ _ _ _ => trivial
  by_cases hlt : p < x.length
  · have hck : x.cps[p]? = some (x.cps[p]'hlt) := Array.getElem?_eq_getElem hlt
    obtain ⟨tr0, ht0⟩ := (Wr.KR h1 M1.keep).2.1
    refine turn (i := 0) (pa := 130) (b := .ref O) (d := .str "#bygroup" tr0) hh M1 hI F (Wr.KR h1 M1.keep).1 rfl ht0 (fun h' B => t_root B Wk.hx hxl hp) hp hxl (fun hn h2 vs2 F2 M2 => ?_) ?_
    · -- nothing opens: all is data
      have hf := find_root0 hp hn
      rcases R.splitR hlt with ⟨_, rfl, rfl⟩ | ⟨s', ts', hf', _, _⟩
      · obtain ⟨u, ht1⟩ := (Wr.KR h2 M2.keep).2.2
        refine turn (i := 1) (pa := 135) (b := .str "data" u) (d := .none) hh M2 hI F2 (Wr.KR h2 M2.keep).1 rfl ht1 (fun h' B => t_data B Wk.hx hxl hck) hp hxl (fun f => f.elim) ?_
        rintro st e sp a t h3 vs3 ⟨rfl, rfl⟩ F3 h15 h16 h17 M3
        have hY : ∀ v h', TokV h' v ((row, "data", sl x st x.length) : Tk) → C.at c.w h₀ (0 + 1) h' → G.Yv 0 v h' := fun v h' tv ca => Wk.hY 0 v h' _ (by rw [← hall]; exact at_done (rem := [])) (by rw [← hall]; simp) tv ca
        refine plain_hit (n := 0) (sv := [.str "root" t0]) (bv := []) M3 hI F3 (by omega) h15 h16 h17 (by simp) (by decide +kernel) (by decide +kernel) (by decide +kernel) hlt (Nat.le_refl _) (by omega) (fsF_gen _ _ _ _) (fsF_grd _ _ _ _) hY (Wk.hS _) fun h4 vs4 F4 M4 => for_done ?_
        exact next false x.length _ [] [] [.str "root" t0] [] vs4 h4 (by simp) (.done (Nat.le_refl _)) ⟨done ++ [((row, "data", sl x st x.length) : Tk)], by rw [← hall]; simp⟩ (Nat.le_refl _) (by simp) .nil (by simp) (by simpa using F4) (by simp) (MS.cut (l1 := [(S, .lst [.str "root" t0]), (Bk, .lst [])]) M4)
      · omega
    · -- a variable begins
      rintro st e sp a t h2 vs2 ⟨rfl, s, hs, ho, hn, he, rfl⟩ F2 h15 h16 h17 M2
      have hf := find_root hp hs ho hn
      rcases R.splitR hlt with ⟨hf', _, _⟩ | ⟨s', ts', hf', rfl, R2⟩
      · omega
      · have hss : s' = s := by omega
        subst hss
        have hlen : (toksE x st s' row ++ ts').length = (toksE x st s' row).length + ts'.length := List.length_append
        rw [hlen] at M2 ⊢
        have hel : e ≤ x.length := by
          rw [he]
          have h2 := (at_get ho.2).1
          unfold signLen
          split
          · rename_i h
            have : s' + 2 < x.length := by rcases h with h | h <;> exact (at_get h).1
            omega
          · omega
        refine root_head (fs := fsF c.w.params L p0 p1) hh M2 hI F2 Wr.KO Wr.KL h15 h17 hxl he ho fun h3 vs3 lg g2 k u1 u2 u3 J F3 g15 g16 g17 g18 hk hJ hJI hG hlg M3 => ?_
        have hallE : done ++ (toksE x st s' row ++ ts') = all := hall
        refine root_tell (n := ts'.length) Wk.hh (by omega) M3 hJ F3 Wr.KO (g15.trans h15) g18 hxl he ho Wk.hx hk hG ?_ ?_ Wk.hS fun h4 vs4 F4 S4 M4 => ?_
        · intro hk0 v h' tv ca
          have e1 : toksE x st s' row = [((row, ("data" : Str), keptOf x st s') : Tk)] ++ [((row + nl (sl x st s'), ("variable_begin" : Str), ("{{" : Str) ++ signOf x s') : Tk)] := by unfold toksE; rw [if_pos hk0]
          rw [e1] at hallE
          refine Wk.hY _ v h' _ ?_ ?_ tv ca
          · rw [← hallE]
            have := at_done' (done := done) (pre := []) (t := ((row, ("data" : Str), keptOf x st s') : Tk)) (rem := ((row + nl (sl x st s'), ("variable_begin" : Str), ("{{" : Str) ++ signOf x s') : Tk) :: ts') (k := ts'.length + 1 + 1) (by simp)
            simpa using this
          · rw [← hallE]; simp; omega
        · intro v h' tv ca
          refine Wk.hY _ v h' _ ?_ ?_ tv ca
          · rw [← hallE]
            unfold toksE
            have := at_done' (done := done) (pre := (if (keptOf x st s').length ≠ 0 then [((row, ("data" : Str), keptOf x st s') : Tk)] else [])) (t := ((row + nl (sl x st s'), ("variable_begin" : Str), ("{{" : Str) ++ signOf x s') : Tk)) (rem := ts') (k := ts'.length + 1) rfl
            simpa using this
          · rw [← hallE]
            unfold toksE
            simp
            omega
        · have tb : ∀ h, J h → h.IsTuple t (rawInt st :: rawInt e :: rootSp st s' e).toArray := fun h j => (hJI h j).2
          refine tail_group (p := st) (s := s') (lv := lv) 5 2 Wk.hh M4 F4.len F4.f0 F4.f8 ((S4 16 (by omega) (by omega)).trans (g16.trans h16)) ((S4 17 (by omega) (by omega)).trans (g17.trans h17)) Wk.KB rfl rfl tb (by omega) (by omega) fun h5 b1 w1 w2 w3 o1 M5 => for_done ?_
          have F5 : FR ((((((vs4.set 13 (some (.bool b1))).set 29 (some (.int e w1))).set 25 (some (.str "variable_begin" w3))).set 26 o1).set 9 (some (.ref lv))).set 6 (some (.int e w2))) xl S lv Bk x e (row + nl (sl x st s')) := (((((F4.ln').hi (by omega)).hi (by omega)).hi (by omega)).st').pos'
          have hse : s' + 2 + (signOf x s').length = e := by rw [signOf_len x ho, he]
          rw [hse] at R2
          have M6 : GS C c.w h₀ ts'.length J L nsK ((((((vs4.set 13 (some (.bool b1))).set 29 (some (.int e w1))).set 25 (some (.str "variable_begin" w3))).set 26 o1).set 9 (some (.ref lv))).set 6 (some (.int e w2))) ([(S, .lst [.str "root" t0, .str "variable_begin" w3]), (Bk, .lst [])] ++ ([(it, .obj (IterO lr 1)), (a, .obj (MatchO x t))] ++ lg)) h5 := M5
          have hpos : 0 < (toksE x st s' row).length := by unfold toksE; split <;> simp
          exact next true e _ [] ts' [.str "root" t0, .str "variable_begin" w3] [] _ h5 (by rw [List.length_append]; omega) R2 ⟨done ++ toksE x st s' row, by rw [← hall, List.append_assoc]⟩ hel (by simp) .nil (by simp) (by simpa using F5) (by simp) (MS.cut M6)
  · -- the end of the text
    have hr : rem = [] ∧ r = none := by
      cases R <;> first | exact ⟨rfl, rfl⟩ | omega
    obtain ⟨rfl, rfl⟩ := hr
    have hnone : ∀ j, p ≤ j → ¬ opens x j := fun j hj ho => by
      have := (at_get ho.2).1
      omega
    obtain ⟨tr0, ht0⟩ := (Wr.KR h1 M1.keep).2.1
    refine turn (i := 0) (pa := 130) (b := .ref O) (d := .str "#bygroup" tr0) hh M1 hI F (Wr.KR h1 M1.keep).1 rfl ht0 (fun h' B => (t_root B Wk.hx hxl hp).miss fun st e sp f => by obtain ⟨_, s, hs, ho, _⟩ := f; exact hnone s hs ho) hp hxl (fun _ h2 vs2 F2 M2 => ?_) (fun st e sp a t h' vs' f => f.elim)
    obtain ⟨u, ht1⟩ := (Wr.KR h2 M2.keep).2.2
    refine turn (i := 1) (pa := 135) (b := .str "data" u) (d := .none) hh M2 hI F2 (Wr.KR h2 M2.keep).1 rfl ht1 (fun h' B => data_end B (by omega) hp) hp hxl (fun _ h3 vs3 F3 M3 => ?_) (fun st e sp a t h' vs' f => f.elim)
    obtain ⟨w1, f1⟩ := F3.f1
    obtain ⟨u6, f6⟩ := F3.f6
    obtain ⟨u7, f7⟩ := F3.f7
    obtain ⟨u10, f10⟩ := F3.f10
    refine for_end (ls := [(S, .lst [.str "root" t0]), (Bk, .lst [])]) (items := [.ref r0, .ref r1]) hh hh2 (by omega) Wk.p0 M3 (Wr.KR h3 M3.keep).1 f1 F3.f2 F3.f3 f6 f7 f10 (by omega) Wk.hx.lt (fun _ h4 M4 => ?_) fun hle => absurd hle hlt
    refine sg_ret (sg_ret ?_)
    exact sg_end (r := .ok (.ret .none)) (Wk.ok rfl _ M4.cons)
/-- the while, to its end -/
theorem gen_while (Wk : Walk c h₀ C G L x all r outer xl lr lv vvs) {O r0 r1 : Addr} {t1 t2 : Tok} (Wr : WalkR c h₀ C xl lr O r0 r1 t1 t2) {S Bk : Addr} {p0 : Pos} : ∀ k, Next c h₀ C G L x all r xl lr lv S Bk p0 k := by
  intro k
  induction k with
  | zero => intro m p row stk rem sv bv vs h hk; omega
  | succ k ih =>
    intro m p row stk rem sv bv vs h hk R hall hp hdep hsv hcl F hst M
    obtain ⟨done, hall⟩ := hall
    have next : Next c h₀ C G L x all r xl lr lv S Bk p0 rem.length := fun m p row stk rem' sv bv vs h hk' => ih m p row stk rem' sv bv vs h (by omega)
    cases m with
    | true =>
      simp only [if_true] at F hst
      exact var_turn Wk R hp hall M F hsv hcl hdep hst next
    | false =>
      simp only [Bool.false_eq_true, if_false] at F hst
      obtain ⟨rfl, hst⟩ := hst
      have hb0 : bv = [] := List.eq_nil_of_length_eq_zero (by rw [hsv.len]; rfl)
      subst hb0
      exact root_turn Wk Wr R hp hall M F hst next
end
end Mine
end
section
open PySem PySem.Calls PyProof.Rows
set_option maxRecDepth 100000
set_option linter.all false
namespace Mine
open PySem.Builtin.Str PySem.StrLaws
abbrev NL : Str := ⟨#[10]⟩
theorem NL_eq : (("\n" : Str)) = NL := by decide +kernel
theorem occ_filter_go (y : Str) : ∀ (d i : Nat) (f : Array Nat) (fr : Nat), y.length + 1 - i = d → i ≤ y.length + 1 → fr ≤ i → f.size ≤ i →
    (forIn (List.range' i d) (f, fr) (occBody y NL y.length (y.length + 1))).run.fst.toList = f.toList ++ (List.range' i d).filter fun j => y.cps.toList[j]? == some 10 := by
  intro d
  induction d with
  | zero => intro i f fr hd hi _ _; simp
  | succ d ih =>
    intro i f fr hd hi hfr hf
    rw [List.range'_succ, List.forIn_cons, List.filter_cons]
    unfold occBody
    have e1 : (NL : Str).length = 1 := rfl
    by_cases hc : y.cps.toList[i]? = some 10
    · have hs := (subAt_one y 10 i).mpr hc
      have hlt : i < y.cps.toList.length := (List.getElem?_eq_some_iff.mp hc).1
      rw [len_list] at hlt
      rw [if_pos ⟨⟨⟨by show f.size < _; omega, hfr⟩, hs.1⟩, hs.2⟩]
      have := ih (i + 1) (f.push i) (i + (NL : Str).length) (by omega) (by omega) (by rw [e1]; omega) (by simp; omega)
      show (forIn (List.range' (i + 1) d) (f.push i, i + (NL : Str).length) (occBody y NL y.length (y.length + 1))).run.fst.toList = _
      rw [this, hc]
      simp
    · rw [if_neg (fun q => hc ((subAt_one y 10 i).mp ⟨q.1.2, q.2⟩))]
      have := ih (i + 1) f fr (by omega) (by omega) (by omega) (by omega)
      show (forIn (List.range' (i + 1) d) (f, fr) (occBody y NL y.length (y.length + 1))).run.fst.toList = _
      rw [this, if_neg (by simpa using hc)]
theorem occ_filter (y : Str) : occurrences y NL 0 y.length (y.length + 1) = (List.range' 0 (y.length + 1)).filter fun j => y.cps.toList[j]? == some 10 := by
  rw [occ_eq]
  have := occ_filter_go y (y.length + 1) 0 #[] 0 (by omega) (by omega) (Nat.le_refl _) (Nat.le_refl _)
  rw [show y.length + 1 - 0 = y.length + 1 by omega, this]
  rfl
/-- the text ends a line -/
def endsNL (x : Str) : Prop := 0 < x.length ∧ x.cps.toList[x.length - 1]? = some 10
theorem occ_last {x : Str} (h : endsNL x) : (occurrences x NL 0 x.length (x.length + 1)).getLast? = some (x.length - 1) := by
  obtain ⟨h1, h2⟩ := h
  rw [occ_filter]
  obtain ⟨n, hn⟩ : ∃ n, x.length = n + 1 := ⟨x.length - 1, by omega⟩
  rw [hn] at h2 ⊢
  rw [List.range'_concat, List.range'_concat, List.filter_append, List.filter_append]
  have e1 : x.cps.toList[0 + 1 * (n + 1)]? = none := List.getElem?_eq_none (by rw [len_list]; omega)
  have e2 : x.cps.toList[0 + 1 * n]? = some 10 := by simpa using h2
  simp [e1, e2]
  have e3 : x.cps[n]? = some 10 := by simpa using h2
  have e4 : x.cps[n + 1]? = none := by
    have : x.cps.size ≤ n + 1 := by have : x.cps.size = x.length := rfl; omega
    simp [this]
  simp [e3, e4]
theorem parts_last (x : Str) : ∀ (cuts : List Nat) (a : Nat), cuts.getLast? = some (x.length - 1) → 1 ≤ x.length → ∃ q, partsFrom x 1 a cuts = q ++ [strSub x x.length x.length]
  | [], a, h, _ => by cases h
  | [c], a, h, h1 => by
    simp at h
    subst h
    refine ⟨[strSub x a (x.length - 1)], ?_⟩
    unfold partsFrom partsFrom
    rw [show x.length - 1 + 1 = x.length by omega]
    rfl
  | c :: d :: r, a, h, h1 => by
    obtain ⟨q, hq⟩ := parts_last x (d :: r) (c + 1) (by simpa using h) h1
    refine ⟨strSub x a c :: q, ?_⟩
    rw [partsFrom, hq]; rfl
theorem join_snoc : ∀ (q : List Str) (l : Str), q ≠ [] → Str.join NL (q ++ [l]) = Str.join NL q ++ NL ++ l
  | [], _, h => absurd rfl h
  | [a], l, _ => rfl
  | a :: b :: r, l, _ => by
    show a ++ NL ++ Str.join NL ((b :: r) ++ [l]) = (a ++ NL ++ Str.join NL (b :: r)) ++ NL ++ l
    rw [join_snoc (b :: r) l (by simp)]
    apply str_ext
    have : ∀ u v : Str, (u ++ v).cps.toList = u.cps.toList ++ v.cps.toList := fun u v => by show (u.cps ++ v.cps).toList = _; simp
    simp only [this, List.append_assoc]
theorem app_list (u v : Str) : (u ++ v).cps.toList = u.cps.toList ++ v.cps.toList := by show (u.cps ++ v.cps).toList = _; simp
theorem split_join (x : Str) : Txt.join NL (Txt.split x NL) = x := by
  unfold Txt.join Txt.split
  split
  · rw [glued_eq_join]; rfl
  · split
    · rw [glued_eq_join]; rfl
    · exact glued_between_self x NL (x.length + 1)
theorem split_ne (x : Str) : Txt.split x NL ≠ [] := by
  unfold Txt.split
  split
  · simp
  · split
    · simp
    · rw [partsBetween_eq]
      obtain ⟨p, r, e⟩ := partsFrom_ne x (NL : Str).length 0 (occurrences x NL 0 x.length (x.length + 1))
      rw [e]; simp
theorem split_last (x : Str) (h : endsNL x) : ∃ q, Txt.split x NL = q ++ [strSub x x.length x.length] := by
  have hl := occ_last h
  have h1 : 1 ≤ x.length := h.1
  unfold Txt.split
  have e1 : (NL : Str).length = 1 := rfl
  have hk : 1 ≤ Builtin.Str.strKind x := by
    unfold Builtin.Str.strKind
    split
    · omega
    · split <;> omega
  have hk2 : Builtin.Str.strKind NL = 1 := by decide +kernel
  rw [if_neg (by rw [e1, hk2]; simp; omega), if_neg (by
    intro he
    rw [List.isEmpty_iff] at he
    rw [he] at hl
    cases hl), partsBetween_eq]
  exact parts_last x _ 0 hl h1
/-- a text cut at its line ends -/
theorem split_spec (x : Str) : ∃ q l, Txt.split x NL = q ++ [l] ∧ (l.length = 0 ↔ (x.length = 0 ∨ endsNL x)) ∧ (endsNL x → Txt.join NL q = sl x 0 (x.length - 1)) ∧ (x.length = 0 → Txt.join NL q = x) := by
  obtain ⟨q, l, hs⟩ : ∃ q l, Txt.split x NL = q ++ [l] := ⟨_, _, (List.dropLast_concat_getLast (split_ne x)).symm⟩
  have hj := split_join x
  have hgl : ∀ ys, Txt.join NL ys = Str.join NL ys := fun ys => glued_eq_join NL ys
  rw [hs, hgl] at hj
  have nil : ∀ {y : Str}, y.length = 0 → y.cps.toList = [] := fun h => List.eq_nil_of_length_eq_zero (by rw [len_list]; exact h)
  refine ⟨q, l, hs, ⟨fun hl => ?_, fun h => ?_⟩, fun h => ?_, fun h => ?_⟩
  · by_cases hq : q = []
    · subst hq
      left
      have : x = l := hj.symm
      rw [this]; exact hl
    · right
      rw [join_snoc q l hq] at hj
      have hx : x.cps.toList = (Str.join NL q).cps.toList ++ [10] := by rw [← hj, app_list, app_list, nil hl]; simp
      have hlen : x.length = (Str.join NL q).cps.toList.length + 1 := by rw [← len_list, hx]; simp
      refine ⟨by omega, ?_⟩
      rw [hx, hlen]
      simp
  · rcases h with h | h
    · by_cases hq : q = []
      · subst hq
        have : l = x := hj
        rw [this]; exact h
      · rw [join_snoc q l hq] at hj
        have hx : x.cps.toList = (Str.join NL q).cps.toList ++ [10] ++ l.cps.toList := by rw [← hj, app_list, app_list]
        rw [nil h] at hx
        simp at hx
    · obtain ⟨q', e⟩ := split_last x h
      rw [hs] at e
      have := List.append_inj_right' e rfl
      have : l = strSub x x.length x.length := by simpa using this
      rw [this, ← len_list, strSub_toList]
      simp
  · obtain ⟨q', e⟩ := split_last x h
    rw [hs] at e
    have hl : l = strSub x x.length x.length := by simpa using List.append_inj_right' e rfl
    have hl0 : l.cps.toList = [] := by rw [hl, strSub_toList]; simp
    by_cases hq : q = []
    · subst hq
      have : l = x := hj
      rw [this] at hl0
      have := h.1
      rw [← len_list, hl0] at this
      simp at this
    · rw [join_snoc q l hq] at hj
      have hx : x.cps.toList = (Str.join NL q).cps.toList ++ [10] := by rw [← hj, app_list, app_list, hl0]; simp
      rw [hgl]
      apply str_ext
      rw [sl_list, hx, Nat.sub_zero, List.drop_zero]
      have hlen : x.length - 1 = (Str.join NL q).cps.toList.length := by rw [← len_list, hx]; simp
      rw [hlen, List.take_left']
      rfl
  · by_cases hq : q = []
    · subst hq
      apply str_ext
      rw [nil h]
      rfl
    · rw [join_snoc q l hq] at hj
      have hx : x.cps.toList = (Str.join NL q).cps.toList ++ [10] ++ l.cps.toList := by rw [← hj, app_list, app_list]
      rw [nil h] at hx
      simp at hx
/-- the last sign of a text, and all but it -/
theorem slice_last (x : Str) : Txt.slice x (some (-1)) none = sl x (x.length - 1) x.length := by
  rw [← slice_sn]
  unfold Txt.slice
  have : strSliceIndices (some (-1)) none 1 x.length = strSliceIndices (some ((x.length - 1 : Nat) : Int)) none 1 x.length := by
    have h2 : ¬ (((x.length - 1 : Nat) : Int) < 0) := by omega
    simp only [strSliceIndices, show ((1 : Int) > 0) = True from by simp, if_true, h2, if_false, show ((-1 : Int) < 0) = True from by simp]
    congr 1
    omega
  rw [this]
theorem slice_init (x : Str) : Txt.slice x none (some (-1)) = sl x 0 (x.length - 1) := by
  rw [← slice_ns]
  unfold Txt.slice
  have : strSliceIndices none (some (-1)) 1 x.length = strSliceIndices none (some ((x.length - 1 : Nat) : Int)) 1 x.length := by
    have h2 : ¬ (((x.length - 1 : Nat) : Int) < 0) := by omega
    simp only [strSliceIndices, show ((1 : Int) > 0) = True from by simp, if_true, h2, if_false, show ((-1 : Int) < 0) = True from by simp]
    congr 1
    omega
  rw [this]
theorem last_iff (x : Str) : sl x (x.length - 1) x.length = NL ↔ endsNL x := by
  constructor
  · intro h
    have h2 : (x.cps.toList.drop (x.length - 1)).take (x.length - (x.length - 1)) = [10] := by rw [← sl_list, h]
    have h3 : x.cps.toList[x.length - 1]? = some 10 := by
      have := congrArg (·[0]?) h2
      rw [List.getElem?_take] at this
      split at this
      · rw [List.getElem?_drop] at this
        simpa using this
      · cases this
    have h4 := (List.getElem?_eq_some_iff.mp h3).1
    rw [len_list] at h4
    exact ⟨by omega, h3⟩
  · rintro ⟨h1, h2⟩
    apply str_ext
    have h3 : x.length - 1 < x.cps.toList.length := (List.getElem?_eq_some_iff.mp h2).1
    rw [sl_list, List.drop_eq_getElem_cons h3, show x.length - (x.length - 1) = 1 by omega]
    have := (List.getElem?_eq_some_iff.mp h2).2
    rw [this]
    rfl
end Mine
end
section
open PySem PySem.W PySem.Calls PyProof.Rows
set_option maxRecDepth 100000
set_option linter.all false
set_option maxHeartbeats 4000000
namespace Mine
open PySem.Builtin.Str
section
variable {c : Cx} {h : Heap} {E : Value → Heap → Prop} {env : Env}
/-- x.replace(y, z) where there is no y -/
theorem w_replace {o e1 e2 : Expr} {apos pos : Pos} {Q : Value → Heap → Prop}
    (q : W c h (eval o env) (fun ov h₁ => ∃ x t, ov = .str x t ∧ W c h₁ (spliced (backTo pos (starEach [e1, e2] env))) (fun vs h₂ => ∃ y u z v, vs = [.str y u, .str z v] ∧ occurrences x y 0 x.length (x.length + 1) = [] ∧ Q (.str x t) h₂) E) E)
    (hbase : attributeBase o "replace" env (eval o env) = eval o env := by rfl) (hline : (apos.endLine == pos.line) = true := by rfl)
    (hfew : ((backTo pos (starEach [e1, e2] env)).all (fun x => !x.1) && (backToKw pos (keywordEach [] env)).all (fun x => x.1.isSome)
      && decide ([e1, e2].length + ([] : List Keyword).length + (if ([] : List Keyword).isEmpty then 0 else 1) < 30)) = true := by rfl)
    (he : starEach [e1, e2] env = (false, eval e1 env) :: starEach [e2] env := by rfl) (hplain : (backTo pos (starEach [e1, e2] env)).any (·.1) = false := by rfl) :
    W c h (eval (.Call (.Attribute o "replace" apos) [e1, e2] [] pos) env) Q E :=
  w_meth F.plainAttrs_str F.slot_str_replace F.type_str_replace (W_mono q (fun ov h₁ ⟨x, t, hv, q⟩ => by
    subst hv
    refine ⟨fun s _ => typeIs_str _ _ _, noRef_str, W_mono q (fun vs h₂ ⟨y, u, z, v, e, ho, q⟩ => ?_) fun _ _ y => y⟩
    subst e
    have hc : ((occurrences x y 0 x.length (x.length + 1)).isEmpty || (y.length == 0 && z.length == 0)) = true := by rw [ho]; rfl
    refine fun tk => call_gives F.slot_str_replace (typeIs_str _ _ _) F.entry_str_replace (F.args_str_replace_3 _ _ _) (gives_str_replace x y z t u v fun hf => absurd (hc.symm.trans hf) (by simp)) ?_
    rw [if_pos hc]
    exact ⟨h₂, tk, rfl, q⟩) fun _ _ y => y) hbase hline hfew he hplain
theorem w_split_call {x y : Str} {t u : Tok} {Q : Value → Heap → Prop} (hy : (y.length == 0) = false) (hx : x.length ≤ sizeLine) (hn : (occurrences x y 0 x.length (x.length + 1)).length + 1 ≤ sizeLine)
    (q : ∀ h' D l, l.map (·.1) = Txt.split x y → Keep h h' → New h D → Lst h' D (strValues l) → Q (.ref D) h') : W c h (call (.builtin "str.split") [.str x t, .str y u]) Q E := fun tk => by
  have hn' : (partsBetween x (occurrences x y 0 x.length (x.length + 1)) y.length).length ≤ sizeLine := by rw [length_partsBetween]; exact hn
  have one : ∀ {tk'}, Txt.split x y = [x] → ∃ h' tk'', (c.st (h.push { cls := .type "list", data := .seq [Value.str x t].toArray }) tk') = c.st h' tk'' ∧ Q (.ref h.objs.size) h' := fun hs =>
    ⟨_, _, rfl, q _ _ [(x, t)] hs.symm (Keep.push _ _) (New.of_le (Nat.le_refl _)) ⟨0, Heap.get?_push_size _ rfl⟩⟩
  cases h1 : (decide (x.length < y.length) || decide (Builtin.Str.strKind x < Builtin.Str.strKind y))
  · cases hf : (occurrences x y 0 x.length (x.length + 1)).isEmpty
    · refine call_meets F.slot_str_split (typeIs_str _ _ _) F.entry_str_split (F.args_str_split_2 _ _) (meets_str_split_sep x y t u h1 hy hf hx hn') ?_
      rw [strsFrom_eq]
      refine ⟨_, _, rfl, q _ _ (numbered tk _) ((numbered_texts _ _).trans ((if_neg (ne_true_of_eq_false h1)).trans (if_neg (ne_true_of_eq_false hf))).symm) (Keep.push _ _) (New.of_le (Nat.le_refl _)) ⟨0, Heap.get?_push_size _ rfl⟩⟩
    · refine call_meets F.slot_str_split (typeIs_str _ _ _) F.entry_str_split (F.args_str_split_2 _ _) (meets_str_split_not_found x y t u h1 hy hf) ?_
      exact one ((if_neg (ne_true_of_eq_false h1)).trans (if_pos hf))
  · refine call_meets F.slot_str_split (typeIs_str _ _ _) F.entry_str_split (F.args_str_split_2 _ _) (meets_str_split_cannot_occur x y t u h1) ?_
    exact one (if_pos h1)
/-- x.split(y) -/
theorem w_split {o e : Expr} {apos pos : Pos} {Q : Value → Heap → Prop}
    (q : W c h (eval o env) (fun ov h₁ => ∃ x t, ov = .str x t ∧ W c h₁ (eval e env) (fun ev h₂ => ∃ y u, ev = .str y u ∧ (y.length == 0) = false ∧ x.length ≤ sizeLine ∧ (occurrences x y 0 x.length (x.length + 1)).length + 1 ≤ sizeLine ∧
      ∀ h' D l, l.map (·.1) = Txt.split x y → Keep h₂ h' → New h₂ D → Lst h' D (strValues l) → Q (.ref D) h') E) E)
    (hbase : attributeBase o "split" env (eval o env) = eval o env := by rfl) (hline : (apos.endLine == pos.line) = true := by rfl)
    (hfew : ((backTo pos (starEach [e] env)).all (fun x => !x.1) && (backToKw pos (keywordEach [] env)).all (fun x => x.1.isSome)
      && decide ([e].length + ([] : List Keyword).length + (if ([] : List Keyword).isEmpty then 0 else 1) < 30)) = true := by rfl)
    (he : starEach [e] env = (false, eval e env) :: starEach [] env := by rfl) (hplain : (backTo pos (starEach [e] env)).any (·.1) = false := by rfl) :
    W c h (eval (.Call (.Attribute o "split" apos) [e] [] pos) env) Q E :=
  w_meth F.plainAttrs_str F.slot_str_split F.type_str_split (W_mono q (fun ov h₁ ⟨x, t, hv, q⟩ => by
    subst hv
    refine ⟨fun s _ => typeIs_str _ _ _, noRef_str, w_args (W_mono q (fun ev h₂ q => w_args_nil ?_) fun _ _ y => y) he⟩
    obtain ⟨y, u, rfl, hy, hx, hn, q⟩ := q
    exact w_split_call hy hx hn q) fun _ _ y => y) hbase hline hfew he hplain
/-- sep.join(a list of texts) -/
theorem w_joinL {o e : Expr} {apos pos : Pos} {Q : Value → Heap → Prop}
    (q : W c h (eval o env) (fun ov h₁ => ∃ x t, ov = .str x t ∧ W c h₁ (eval e env) (fun ev h₂ => ∃ D l, ev = .ref D ∧ h₂.IsList D (strValues l).toArray ∧ JoinOk x (l.map (·.1)) = true ∧ ∀ tk, Q (.str (Txt.join x (l.map (·.1))) tk) h₂) E) E)
    (hbase : attributeBase o "join" env (eval o env) = eval o env := by rfl) (hline : (apos.endLine == pos.line) = true := by rfl)
    (hfew : ((backTo pos (starEach [e] env)).all (fun x => !x.1) && (backToKw pos (keywordEach [] env)).all (fun x => x.1.isSome)
      && decide ([e].length + ([] : List Keyword).length + (if ([] : List Keyword).isEmpty then 0 else 1) < 30)) = true := by rfl)
    (he : starEach [e] env = (false, eval e env) :: starEach [] env := by rfl) (hplain : (backTo pos (starEach [e] env)).any (·.1) = false := by rfl) :
    W c h (eval (.Call (.Attribute o "join" apos) [e] [] pos) env) Q E :=
  w_meth F.plainAttrs_str F.slot_str_join F.type_str_join (W_mono q (fun ov h₁ ⟨x, t, hv, q⟩ => by
    subst hv
    refine ⟨fun s _ => typeIs_str _ _ _, noRef_str, w_args (W_mono q (fun ev h₂ q => w_args_nil ?_) fun _ _ y => y) he⟩
    obtain ⟨D, l, rfl, hl, hok, q⟩ := q
    have hok2 := hok
    unfold JoinOk at hok
    rw [Bool.not_eq_true'] at hok
    exact fun tk => call_meets F.slot_str_join (typeIs_str _ _ _) F.entry_str_join (F.args_str_join_2 _ _) (meets_str_join_list x t D l hok) ⟨hl, post_join l ⟨joinFit_length hok, fun t' k => ⟨h₂, k, rfl, q t'⟩⟩⟩) fun _ _ y => y) hbase hline hfew he hplain
/-- l[-1] -/
theorem w_item_neg1 {value slice : Expr} {a : Addr} {l : List Value} {u : Tok} {x : Value} {Q : Value → Heap → Prop} (ht : h.IsList a (l ++ [x]).toArray) (q : Q x h)
    (hs : subscripted slice false (.ref a) (.int (-1) u) = operate [.ref a, .int (-1) u] (getItem (.ref a) (.int (-1) u)) := by with_unfolding_all rfl) :
    W c h (subscriptTail value slice (.ref a) (.int (-1) u)) Q E := fun tk => by
  refine tail_any (s := c.st h tk) (T := "list") ht.typeIs slot_list_getitem.lookup (wpAny_getItem_list_neg (s := c.st h tk) (k := -1) (x := x) ht (by omega) ?_ (by omega) ?_ ⟨h, tk, rfl, q⟩) hs
  · simp; omega
  · have : ((-1 : Int) + ((l ++ [x]).toArray.size : Nat)).toNat = l.length := by simp; omega
    rw [this]
    simp
/-- del l[-1] -/
theorem w_del_last {o i : Expr} {p pos : Pos} {Q : Flow → Heap → Prop}
    (y : W c h (eval o env) (fun ov h₁ => W c h₁ (eval i env) (fun iv h₂ => ∃ a l v u, ov = .ref a ∧ iv = .int (-1) u ∧ Lst h₂ a (l ++ [v]) ∧ l.length < sizeLine ∧ ∀ h', Lst h' a l → KeepBut a h₂ h' → Q .next h') E) E) :
    W c h (exec (.Delete [.Subscript o i p] pos) env) Q E := fun tk => by
  refine wpAny_Delete (wpAny_deleteEach_cons (wpAny_delete_Subscript (wpAny_mono (y tk) (fun ov s' ⟨h', tk', e, q⟩ => ?_) fun _ _ y => y)))
  subst e
  refine wpAny_mono (q tk') (fun iv s' ⟨h2, tk2, e, a, l, v, u, e1, e2, hl, hsz, q2⟩ => ?_) fun _ _ y => y
  subst e e1 e2
  obtain ⟨n, hl⟩ := hl
  refine P.delItem_list (s := c.st h2 tk2) (k := l.length) hl (by decide) ?_ (wpAny_deleteEach_nil ⟨_, tk2, rfl, q2 _ ?_ (update_but _ _ _)⟩) (by simp; omega)
  · have e : (l ++ [v]).toArray.size = l.length + 1 := by simp
    rw [e]
    unfold seqIndex?
    simp only [show ((-1 : Int) < 0) = True from by simp, if_true]
    rw [if_pos (by simp; omega)]
    congr 1
    omega
  · have := Lst.cut hl
    have e : (l ++ [v]).toArray.size - 1 = l.length := by simp
    rw [e] at this
    exact this
end
end Mine
end
section
open PySem PySem.W PySem.Calls PyProof.Rows
set_option maxRecDepth 100000
set_option linter.all false
set_option maxHeartbeats 4000000
namespace Mine
open Rx
/-- the text that is read: less its last line end, if that is not kept -/
def readOf (x0 : Str) (kp : Bool) : Str := if kp = false ∧ sl x0 (x0.length - 1) x0.length = NL then sl x0 0 (x0.length - 1) else x0
theorem sum_split (x : Str) : ((Txt.split x NL).map (·.length)).sum + (Txt.split x NL).length = x.length + 1 := by
  have h := size_glued NL (Txt.split x NL)
  have e : Builtin.Str.glued NL (Txt.split x NL) = x := split_join x
  rw [e] at h
  have e1 : (NL : Str).length = 1 := rfl
  rw [e1] at h
  have : (Txt.split x NL).length ≠ 0 := fun h0 => split_ne x (List.eq_nil_of_length_eq_zero h0)
  omega
theorem joinOk_of {ts : List Str} (h : (ts.map (·.length)).sum + ts.length ≤ sizeLine) : JoinOk NL ts = true := by
  unfold JoinOk
  rw [StrLaws.joinTotal]
  have e1 : (NL : Str).length = 1 := rfl
  rw [e1, Nat.mul_one]
  rw [Bool.not_eq_true']
  exact decide_eq_false (by omega)
theorem no_cr {x : Str} (hx : Alph x) : Builtin.Str.occurrences x "\r\n" 0 x.length (x.length + 1) = [] ∧ Builtin.Str.occurrences x "\r" 0 x.length (x.length + 1) = [] := by
  have e1 : (("\r\n" : Str)) = ⟨#[13, 10]⟩ := by decide +kernel
  have e2 : (("\r" : Str)) = ⟨#[13]⟩ := by decide +kernel
  have hn : ∀ i, x.cps[i]? ≠ some 13 := fun i h => not_sig hx (by decide) h
  constructor
  · rw [e1]
    refine occ_nil_of_no (x := x) (y := _) _ fun i hi => ?_
    cases hs : Builtin.Str.subAt x ⟨#[13, 10]⟩ i with
    | false => rfl
    | true => exact absurd (at_two.mp ⟨hi, hs⟩).1 (hn i)
  · rw [e2]
    refine occ_nil_of_no (x := x) (y := _) _ fun i hi => ?_
    cases hs : Builtin.Str.subAt x ⟨#[13]⟩ i with
    | false => rfl
    | true => exact absurd (by have := (StrLaws.subAt_one x 13 i).mp ⟨hi, hs⟩; rw [Array.getElem?_toList] at this; exact this) (hn i)
section
variable {c : Cx} {h h₀ : Heap} {C : Cons} {G : GSpec} {n : Nat} {I : Heap → Prop} {L : Addr} {vs : List (Option Value)} {ls l1 l2 : List (Addr × Cell)} {x : Str} {all : List Tk} {r : Option (Str × Nat)} {outer : List Env} {xl lr lv : Addr} {vvs : List Value}
abbrev vs0 (xl : Addr) (x0 : Str) (t : Tok) (b : Value) : List (Option Value) := [some (.ref xl), some (.str x0 t), some .none, some .none, some b, none, none, none, none, none, none, none, none, none, none, none, none, none, none, none, none, none, none, none, none, none, none, none, none, none]
/-- the generator, from its beginning to its end -/
theorem gen_all (Wk : Walk c h₀ C G L x all r outer xl lr lv vvs) {O r0 r1 : Addr} {t1 t2 : Tok} (Wr : WalkR c h₀ C xl lr O r0 r1 t1 t2) {x0 : Str} {t : Tok} {b : Value} {kp m : Bool} (hx0 : Alph x0) (hl0 : x0.length ≤ 1000) (hxe : x = readOf x0 kp) (hb : (b = .none ∧ m = false) ∨ (∃ u, b = .str "variable" u) ∧ m = true)
    (KK : ∀ h : Heap, (∀ b o, b ∉ C.X → h₀.get? b = some o → h.get? b = some o) → ∃ dx kvs, h.get? xl = some (instObj 432 dx) ∧ (∃ o, h.get? dx = some o ∧ EntsO kvs o) ∧ kvs.lookup ("keep_trailing_newline" : Str) = some (.bool kp))
    (M : GS C c.w h₀ all.length (fun _ => True) L nsK (vs0 xl x0 t b) [] h) (R : RunF x m 0 1 [] all r) : SG c G all.length (FC c.w.params L) ((model c.prog c.w).den (FC c.w.params L)) [] h := by
  have X := okT c.w.params
  have hz : (10000 : Nat) < sizeLine := by decide
  have U := Wk.U
  refine sg_func ?_
  obtain ⟨q, l, hsp, hl, hj1, hj2⟩ := split_spec x0
  have hsum := sum_split x0
  have hocc : (Builtin.Str.occurrences x0 NL 0 x0.length (x0.length + 1)).length + 1 ≤ sizeLine := by
    have := StrLaws.occ_length_le x0 NL 0 x0.length (x0.length + 1)
    omega
  have hnl := NL_eq
  have hUf : (c.ov (FC c.w.params L) []).A.units + 1 < cLine := by
    show c.A.units + unitsOf (([] : List PySem.Frame).map Frame.where_) + (FC c.w.params L).cUnits + 1 < cLine
    have h1 : (FC c.w.params L).cUnits ≤ 12 := by first | (show 0 ≤ 12; omega) | (show 3 ≤ 12; omega) | (show 3 * 1 ≤ 12; omega) | (show 1 ≤ 12; omega)
    have h2 : unitsOf (([] : List PySem.Frame).map Frame.where_) = 0 := rfl
    omega
  refine sx_W <| w_assign <| w_split <| w_replace <| w_replace <| w_loc X M.ns (i := 1) rfl rfl ⟨_, _, rfl, w_args <| w_str fun a1 => w_args <| w_str fun a2 => w_args_nil ⟨_, _, _, _, rfl, (no_cr hx0).1, _, _, rfl, w_args <| w_str fun a3 => w_args <| w_str fun a4 => w_args_nil ⟨_, _, _, _, rfl, (no_cr hx0).2, _, _, rfl, w_str fun a5 =>
    ⟨_, _, rfl, by decide +kernel, by omega, by rw [hnl]; exact hocc, fun h1 D sp hD k1 nD lD => ?_⟩⟩⟩⟩
  obtain ⟨oL, _, _, eL, _⟩ := id M.ns
  have nDL : D ≠ L := (New.ne nD eL).symm
  refine w_store X (M.mono k1).ns (i := 5) rfl rfl fun h2 N2 k2 => ?_
  have M2 := (M.mono k1).store N2 k2
  have l2 : Lst h2 D (strValues sp) := lD.but k2 nDL
  rw [hnl, hsp] at hD
  -- what comes after the line that may go
  have rest : ∀ h3 (sp3 : List (Str × Tok)), GS C c.w h₀ all.length (fun _ => True) L nsK ((vs0 xl x0 t b).set 5 (some (.ref D))) [] h3 → Lst h3 D (strValues sp3) → Txt.join NL (sp3.map (·.1)) = x → JoinOk NL (sp3.map (·.1)) = true →
      SX c G all.length (FC c.w.params L) [] funcK (funcH (envT c.w.params L)) (envT c.w.params L) ((fbody (top.o_480 c.w.params)).drop 2) h3 := fun h3 sp3 M3 l3 hj hok => by
    have hxl : x.length ≤ sizeLine := Nat.le_trans Wk.hl (by omega)
    have h63 := len_lt63 hxl
    refine sx_W <| w_assign <| w_joinL <| w_str fun a6 => ⟨_, _, rfl, w_loc X M3.ns (i := 5) rfl rfl ⟨D, sp3, rfl, l3.isList, by rw [hnl]; exact hok, fun a7 => ?_⟩⟩
    rw [hnl, hj]
    refine w_store X M3.ns (i := 1) rfl rfl fun h4 N4 k4 => ?_
    have M4 := M3.store N4 k4
    refine sx_W <| w_assign <| w_int fun a8 => w_store X M4.ns (i := 6) rfl rfl fun h5 N5 k5 => ?_
    have M5 := M4.store N5 k5
    refine sx_W <| w_assign <| w_int fun a9 => w_store X M5.ns (i := 7) rfl rfl fun h6 N6 k6 => ?_
    have M6 := M5.store N6 k6
    refine sx_W <| w_assign <| w_list <| w_args <| w_str fun a10 => w_args_nil ⟨rfl, fun S h7 k7 nS lS => ?_⟩
    have M7 := MS.add M6 nS (M6.fresh nS) k7 lS
    refine w_store X M7.ns (i := 8) rfl rfl fun h8 N8 k8 => ?_
    have M8 := M7.store N8 k8
    -- from the stack on
    have on : ∀ h9 sv R', (if m = true then ∃ t0 t1, sv = [.str "root" t0, .str "variable_begin" t1] else ∃ t0, sv = [.str "root" t0]) → (R' = if m = true then lv else lr) →
        GS C c.w h₀ all.length (fun _ => True) L nsK (((((((vs0 xl x0 t b).set 5 (some (.ref D))).set 1 (some (.str x a7))).set 6 (some (.int 0 a8))).set 7 (some (.int 1 a9))).set 8 (some (.ref S))).set 9 (some (.ref R'))) [(S, .lst sv)] h9 →
        SX c G all.length (FC c.w.params L) [] funcK (funcH (envT c.w.params L)) (envT c.w.params L) ((fbody (top.o_480 c.w.params)).drop 8) h9 := fun h9 sv R' hsv hR M9 => by
      refine sx_W <| w_assign <| w_callN <| w_blt (base_g M9.base) (base_b M9.base) (b_len _).1 (b_len _).2 <| w_with_bi <| w_args <| w_loc X M9.ns (i := 1) rfl rfl <| w_args_nil <| w_len h63 fun a11 => w_store X M9.ns (i := 10) rfl rfl fun h10 N10 k10 => ?_
      have M10 := M9.store N10 k10
      refine sx_W <| w_assign <| w_list <| w_args_nil ⟨rfl, fun Bk h11 k11 nB lB => ?_⟩
      have M11 := MS.add M10 nB (M10.fresh nB) k11 lB
      refine w_store X M11.ns (i := 11) rfl rfl fun h12 N12 k12 => ?_
      have M12 := M11.store N12 k12
      refine sx_W <| w_assign <| w_int fun a12 => w_store X M12.ns (i := 12) rfl rfl fun h13 N13 k13 => ?_
      have M13 := M12.store N13 k13
      refine sx_W <| w_assign <| w_bool <| w_store X M13.ns (i := 13) rfl rfl fun h14 N14 k14 => ?_
      have M14 := M13.store N14 k14
      refine sx_cons <| se_while fun p0 => ?_
      refine gen_while Wk Wr (S := S) (Bk := Bk) (p0 := p0) (all.length + 1) m 0 1 [] all sv [] _ h14 (by omega) R ⟨[], rfl⟩ (Nat.zero_le _) (Nat.le_refl _) .nil (by simp) ?_ ?_ M14
      · subst hR
        exact ⟨rfl, rfl, ⟨_, rfl⟩, rfl, rfl, ⟨_, rfl⟩, ⟨_, rfl⟩, rfl, rfl, ⟨_, rfl⟩, rfl, ⟨_, rfl⟩, ⟨_, rfl⟩⟩
      · cases m with
        | true => simpa using hsv
        | false => simpa using hsv
    rcases hb with ⟨rfl, rfl⟩ | ⟨⟨u, rfl⟩, rfl⟩
    · refine sx_cons <| se_if_f <| w_tand <| w_tcmp <| w_loc X M8.ns (i := 4) rfl rfl <| w_none <| w_isnot_none <| w_tbool ?_
      refine ⟨rfl, sx_nil <| sx_done ?_⟩
      obtain ⟨kS, eS⟩ := M8.get 2 rfl
      refine sx_W <| w_assign <| w_rules M8.base (Wk.KB _ M8.keep) "root" lr (.inl ⟨rfl, rfl⟩) (by rfl) (by intro _ _; rfl) <| w_loc X M8.ns (i := 0) rfl rfl ⟨rfl, rfl, w_sub <| w_loc X M8.ns (i := 8) rfl rfl <| w_neg fun a14 => w_last1 M8.base eS ⟨a10, rfl, rfl, ?_⟩⟩
      refine w_store X M8.ns (i := 9) rfl rfl fun h9 N9 k9 => ?_
      exact on h9 _ lr (by simp) (by simp) (M8.store N9 k9)
    · refine sx_cons <| se_if_t <| w_tand <| w_tcmp <| w_loc X M8.ns (i := 4) rfl rfl <| w_none <| w_isnot_none <| w_tbool ?_
      refine w_tcmp <| w_loc X M8.ns (i := 4) rfl rfl <| w_str fun a14 => w_ne_str <| w_tbool ⟨by decide +kernel, ?_⟩
      refine sx_W <| fun tk => wpAny_Assert_holds (wpAny_mono ((w_tcmp (c := c.ov (FC c.w.params L) []) (E := fun _ _ => False) (Q := fun b h' => b = true ∧ Keep h8 h') <| w_loc X M8.ns (i := 4) rfl rfl <| w_tuple <| w_args <| w_str fun a15 => w_args <| w_str fun a16 => w_args_nil ⟨rfl, fun T h9 k9 nT tT =>
        w_in_tuple tT (.cons (.cons .nil)) (by decide +kernel) (by decide +kernel) ?_ <| w_tbool ⟨by decide +kernel, k9⟩⟩ : W (c.ov (FC c.w.params L) []) h8 _ _ _) tk) (fun b s' ⟨h9, tk9, e9, hb9, k9⟩ => ⟨hb9, ?_⟩) fun _ _ ⟨_, _, _, f⟩ => f.elim)
      · exact hUf
      · subst e9
        have M9 := M8.mono k9
        refine ⟨h9, tk9, rfl, ?_⟩
        refine sx_W <| w_expr <| w_append <| w_loc X M9.ns (i := 8) rfl rfl ⟨S, _, rfl, M9.get 2 rfl, w_binop <| w_loc X M9.ns (i := 4) rfl rfl <| w_str fun a17 => w_add_str (by decide +kernel) fun a18 => ⟨_, M9.get 2 rfl, by show (1 : Nat) ≤ _; decide, fun h10 l10 k10 => ⟨rfl, ?_⟩⟩⟩
        have M10 := M9.set 2 rfl l10 k10
        obtain ⟨kS, eS⟩ := l10
        refine sx_nil <| sx_done ?_
        have evb : (("variable" : Str) ++ ("_begin" : Str)) = "variable_begin" := by decide +kernel
        refine sx_W <| w_assign <| w_rules M10.base (Wk.KB _ M10.keep) "variable_begin" lv (.inr ⟨rfl, rfl⟩) (by rfl) (by intro _ _; rfl) <| w_loc X M10.ns (i := 0) rfl rfl ⟨rfl, rfl, w_sub <| w_loc X M10.ns (i := 8) rfl rfl <| w_neg fun a14 => w_last2 M10.base eS ⟨a18, by rw [evb], rfl, ?_⟩⟩
        refine w_store X M10.ns (i := 9) rfl rfl fun h11 N11 k11 => ?_
        exact on h11 _ lv (by simp [evb]) (by simp) (M10.store N11 k11)
  -- the last line
  obtain ⟨dx, kvs, kx, ⟨od, hod, en⟩, hkp⟩ := KK h2 M2.keep
  refine sx_cons <| se_if <| w_tand <| w_tnot <| w_tval <| w_attr (by rfl) (by intros; rfl) <| w_loc X M2.ns (i := 0) rfl rfl <| w_getattr M2.base kx ⟨od, hod, en⟩ (by kernel_rfl) (by kernel_rfl) (by kernel_rfl) hkp rfl <| w_tbool ?_
  have hsum2 : ((q ++ [l]).map (·.length)).sum + (q ++ [l]).length = x0.length + 1 := by rw [← hsp]; exact hsum
  have hjall : Txt.join NL (q ++ [l]) = x0 := by rw [← hsp]; exact split_join x0
  cases kp with
  | true =>
    rw [if_neg (by decide), if_neg (by decide)]
    have hx : x = x0 := by rw [hxe]; unfold readOf; rw [if_neg (by simp)]
    exact sx_nil <| sx_done <| rest h2 sp M2 l2 (by rw [hD, hjall, hx]) (by rw [hD]; exact joinOk_of (by omega))
  | false =>
    rw [if_pos (by decide)]
    have hxi1 : endsNL x0 → x = sl x0 0 (x0.length - 1) := fun he => by rw [hxe]; unfold readOf; rw [if_pos ⟨rfl, (last_iff x0).mpr he⟩]
    have hxi2 : ¬ endsNL x0 → x = x0 := fun he => by rw [hxe]; unfold readOf; rw [if_neg (fun h => he ((last_iff x0).mp h.2))]
    obtain ⟨spq, tl, rfl, hq⟩ : ∃ spq tl, sp = spq ++ [(l, tl)] ∧ spq.map (·.1) = q := by
      have hne : sp ≠ [] := fun h => by rw [h] at hD; simp at hD
      refine ⟨sp.dropLast, (sp.getLast hne).2, ?_, ?_⟩
      · have h1 := List.dropLast_concat_getLast hne
        have h2 : (sp.getLast hne).1 = l := by
          have h3 := hD
          rw [← h1, List.map_append] at h3
          have := List.append_inj_right' h3 rfl
          simpa using this
        rw [← h2]; exact h1.symm
      · have h1 := List.dropLast_concat_getLast hne
        have h3 := hD
        rw [← h1, List.map_append] at h3
        exact List.append_inj_left' h3 rfl
    have hsv : strValues (spq ++ [(l, tl)]) = strValues spq ++ [.str l tl] := by unfold strValues; rw [List.map_append]; rfl
    rw [hsv] at l2
    refine w_tcmp <| w_sub <| w_loc X M2.ns (i := 5) rfl rfl <| w_neg fun b1 => w_item_neg1 l2.isList <| w_str fun b2 => w_eq_str <| w_tbool ?_
    have hl0 : l = "" ↔ l.length = 0 := ⟨fun h => by rw [h]; rfl, fun h => by
      apply str_ext
      have : l.cps.toList = [] := List.eq_nil_of_length_eq_zero (by rw [len_list]; exact h)
      rw [this]
      decide +kernel⟩
    by_cases he : l = ""
    · rw [decide_eq_true he, if_pos rfl]
      have hcond := hl.mp (hl0.mp he)
      have hjq : Txt.join NL q = x := by
        by_cases h2 : endsNL x0
        · rw [hxi1 h2]; exact hj1 h2
        · rw [hxi2 h2]
          rcases hcond with h3 | h3
          · exact hj2 h3
          · exact absurd h3 h2
      have hqsum : (q.map (·.length)).sum + q.length ≤ sizeLine := by
        rw [List.map_append, List.sum_append, List.length_append] at hsum2
        omega
      have hlen : (strValues spq).length < sizeLine := by
        have e : (strValues spq).length = q.length := by rw [← hq]; unfold strValues; rw [List.length_map, List.length_map]
        rw [List.map_append, List.sum_append, List.length_append] at hsum2
        simp only [List.length_cons, List.length_nil] at hsum2
        omega
      refine sx_W <| w_del_last <| w_loc X M2.ns (i := 5) rfl rfl <| w_neg fun b3 => ⟨D, strValues spq, .str l tl, b3, rfl, rfl, l2, hlen, fun h3 l3 k3 => ?_⟩
      have kb : KeepBut L h h3 := fun bb o hb e => k3 _ _ (nD.ne e) (k2 _ _ hb (k1 _ _ e))
      have N3 : h3.Ns L (frm nsK ((vs0 xl x0 t b).set 5 (some (.ref D)))) := by
        obtain ⟨o, es, ep, e, r⟩ := M2.ns
        exact ⟨o, es, ep, k3 _ _ nDL.symm e, r⟩
      exact sx_nil <| sx_done <| rest h3 spq (M.store N3 kb) l3 (by rw [hq, hjq]) (by rw [hq]; exact joinOk_of hqsum)
    · rw [decide_eq_false he, if_neg (by decide)]
      have hcond : ¬ endsNL x0 := fun h => he (hl0.mpr (hl.mpr (.inr h)))
      have hx : x = x0 := hxi2 hcond
      refine sx_nil <| sx_done <| rest h2 _ M2 ?_ (by rw [hD, hjall, hx]) (by rw [hD]; exact joinOk_of (by omega))
      rw [hsv]; exact l2
end
end Mine
end
section
open PySem PySem.W PySem.Calls PyProof.Rows
set_option maxRecDepth 100000
set_option linter.all false
set_option maxHeartbeats 4000000
namespace Mine
/-- the consumer of the generator: its list of tokens, its frame -/
def tC (K : Heap) (all : List Tk) (vsF : Option Value → List (Option Value)) (T Lc : Addr) (hne : Lc ≠ T) : Cons where
  T := T
  Lc := Lc
  K := K
  PT n h o := NoTup o ∧ ∃ tv, (∀ g : Heap, g.get? T = some o → Lst g T tv) ∧ Toks h tv (all.take (all.length - n))
  PL n h o := NoTup o ∧ ∃ tv, ∀ g : Heap, g.get? Lc = some o → g.Ns Lc (frm nsU (vsF tv))
  Ic n h := True
  ntT n h o x := x.1
  ntL n h o x := x.1
  stT n h h' o k x := let ⟨a, tv, b, c⟩ := x; ⟨a, tv, b, c.tup k⟩
  stL n h h' o k x := x
  st n h h' k x := trivial
  ne := hne
theorem PL_of {K : Heap} {all : List Tk} {vsF : Option Value → List (Option Value)} {T Lc : Addr} {hne : Lc ≠ T} {n : Nat} {h : Heap} {tv : Option Value} (N : h.Ns Lc (frm nsU (vsF tv))) : ∃ o, h.get? Lc = some o ∧ (tC K all vsF T Lc hne).PL n h o := by
  obtain ⟨o, es, ep, e, d, sk, f⟩ := N
  exact ⟨o, e, And.intro (fun _ items n e2 => by rw [d] at e2; cases e2) ⟨tv, fun g eg => ⟨o, es, ep, eg, d, sk, f⟩⟩⟩
theorem PT_of {K : Heap} {all : List Tk} {vsF : Option Value → List (Option Value)} {T Lc : Addr} {hne : Lc ≠ T} {n : Nat} {h : Heap} {tv : List Value} (N : Lst h T tv) (t : Toks h tv (all.take (all.length - n))) : ∃ o, h.get? T = some o ∧ (tC K all vsF T Lc hne).PT n h o := by
  obtain ⟨k, e⟩ := N
  exact ⟨_, e, And.intro (.of (by simp)) ⟨tv, fun g eg => ⟨k, eg⟩, t⟩⟩
theorem Cons.at.mono {C : Cons} {w : World} {h₀ h h' : Heap} {n : Nat} (A : C.at w h₀ n h) (k : Keep h h') : C.at w h₀ n h' :=
  ⟨A.base.mono k, let ⟨o, e, p⟩ := A.t; ⟨o, k _ _ e, C.stT n h h' o (.of_keep k) p⟩, let ⟨o, e, p⟩ := A.l; ⟨o, k _ _ e, C.stL n h h' o (.of_keep k) p⟩, C.st n h h' (.of_keep k) A.i, fun b o hb e => k _ _ (A.keep b o hb e)⟩
/-- an exception that came out of the generator, and what its consumer knows then -/
structure Flown (w : World) (C : Cons) (outer : List Env) (h : Heap) (y : Addr) (m : Str) (row : Nat) : Prop where
  fly : ∃ dx t1 tm ur, Fly w C.K outer y dx (.ref 89) (.ref t1) .none h ∧ h.get? t1 = some { cls := .type "tuple", data := .seq #[.str m tm] 0 } ∧ t1 ∉ outer.filterMap (·.frame) ∧ dx ∉ outer.filterMap (·.frame) ∧ ∃ o, h.get? dx = some o ∧ EntsO [("lineno", .int row ur), ("name", .none), ("filename", .none), ("source", .none), ("translated", .bool false)] o
  t : ∃ o, h.get? C.T = some o ∧ C.PT 0 h o
  l : ∃ o, h.get? C.Lc = some o ∧ C.PL 0 h o
  old : ∀ b o, b ∉ C.X → b ∉ outer.filterMap (·.frame) → C.K.get? b = some o → h.get? b = some o
  up : ∀ b o, b ∉ C.X → C.K.get? b = some o → (∀ vs, o.data ≠ .fields vs) → ∃ sl, h.get? b = some { o with slots := sl }
/-- what the generator owes its consumer -/
def tG (C : Cons) (w : World) (h₀ : Heap) (outer : List Env) (all : List Tk) (r : Option (Str × Nat)) : GSpec where
  Rh n res h := n = 0 ∧ ((r = none ∧ res = .ok (.ret .none) ∧ C.at w h₀ 0 h) ∨ ∃ m row y, r = some (m, row) ∧ res = .error (.ref y) ∧ Flown w C outer h y m row)
  Yv n v h := ∃ tk, all[all.length - (n + 1)]? = some tk ∧ n < all.length ∧ TokV h v tk ∧ C.at w h₀ (n + 1) h
  St n h h' := C.step n h h'
section
variable {w : World} {h₀ h1 h' h2 K : Heap} {all : List Tk} {vsF : Option Value → List (Option Value)} {T Lc : Addr} {hne : Lc ≠ T} {outer : List Env} {eL eG : Env}
/-- from the raise to the consumer -/
theorem flown {L y dx t1 : Addr} {m : Str} {row : Nat} {tm ur : Tok} (A : (tC K all vsF T Lc hne).at w h₀ 0 h1) (hK : K = h₀) (hL : ∃ o, h1.get? L = some o) (hgL : eG.frame = some L) (hcL : eL.frame = some Lc) (hT : T ∉ outer.filterMap (·.frame)) (hTL : T ≠ L) (ho : h1.FunFrames (H1 w.params) outer) (hLK : New h₀ L)
    (k : Keep h1 h') (ny : New h1 y) (nd : New h1 dx) (nt : New h1 t1) (ht : TseAt h' y dx t1 (.str m tm) (.int row ur)) (F : Fly w K (eL :: outer) y dx (.ref 89) (.ref t1) .none h2) (U : Up (eG :: eL :: outer) K h' h2) :
    Flown w (tC K all vsF T Lc hne) (eL :: outer) h2 y m row := by
  subst hK
  obtain ⟨e1, e2, o, e3, e4⟩ := ht
  obtain ⟨oL, hL⟩ := hL
  obtain ⟨oc, hc, pc⟩ := A.l
  obtain ⟨oT, hT1, pT⟩ := A.t
  have nf : ∀ a, New h1 a → a ∉ (eG :: eL :: outer).filterMap (·.frame) := fun a na hm => by
    rw [List.filterMap_cons, hgL, List.filterMap_cons, hcL] at hm
    rcases List.mem_cons.mp hm with rfl | hm
    · exact New.ne na hL rfl
    · rcases List.mem_cons.mp hm with rfl | hm
      · exact New.ne na hc rfl
      · obtain ⟨_, o, ho, _⟩ := ho.mem hm
        exact New.ne na ho rfl
  have hTn : T ∉ (eG :: eL :: outer).filterMap (·.frame) := fun hm => by
    rw [List.filterMap_cons, hgL, List.filterMap_cons, hcL] at hm
    rcases List.mem_cons.mp hm with e | hm
    · exact hTL e
    · rcases List.mem_cons.mp hm with e | hm
      · exact hne e.symm
      · exact hT hm
  have tk : TupKeep h' h2 := fun b items ⟨o, e, c, n, d⟩ => by
    obtain ⟨sl, hs⟩ := U.up b o e (fun vs => by rw [d]; simp)
    exact ⟨_, hs, c, n, d⟩
  have tk1 : TupKeep h1 h2 := fun b items x => tk _ _ ((TupKeep.of_keep k) _ _ x)
  obtain ⟨pc1, tvc, pc2⟩ := pc
  obtain ⟨pT1, tvT, pT2, pT3⟩ := pT
  obtain ⟨kT, eT⟩ := pT2 h1 hT1
  refine ⟨⟨dx, t1, tm, ur, F, U.same _ _ (nf _ nt) (by simp) e2, fun hm => nf _ nt (by rw [List.filterMap_cons, hgL]; exact List.mem_cons_of_mem _ hm), fun hm => nf _ nd (by rw [List.filterMap_cons, hgL]; exact List.mem_cons_of_mem _ hm), o, U.same _ _ (nf _ nd) ?_ e3, e4⟩, ?_, ?_, ?_, ?_⟩
  · obtain ⟨es, n, rfl, _⟩ := e4
    intro vs
    show Data.dict es.toArray _ ≠ _
    simp
  · exact PT_of ⟨kT, U.same _ _ hTn (by simp) (k _ _ eT)⟩ (pT3.tup tk1)
  · exact PL_of (U.up.ns ((pc2 h1 hc).keeps k))
  · intro b o hb hf ek
    have eb := k _ _ (A.keep b o hb ek)
    refine U.old b o (fun hm => ?_) ek eb
    rw [List.filterMap_cons, hgL] at hm
    rcases List.mem_cons.mp hm with e | hm
    · subst e; exact New.ne hLK ek rfl
    · exact hf hm
  · intro b o hb ek hd
    exact U.up b o (k _ _ (A.keep b o hb ek)) hd
end
end Mine
end
section
open PySem PySem.W PySem.Calls PyProof.Rows
set_option maxRecDepth 100000
set_option linter.all false
set_option maxHeartbeats 4000000
namespace Mine
/-- the context within the generator -/
abbrev Cx.gen (c : Cx) : Cx := { c with A := c.A.in1, g := c.g.push .running }
/-- what the call of tokeniter stands on -/
structure Tok0 (c : Cx) (hc hg h₁ : Heap) (all : List Tk) (r : Option (Str × Nat)) (outer : List Env) (xl T Lc L : Addr) (x x0 : Str) (t : Tok) (b : Value) (b2 kp m : Bool) (nm qn : Value) : Prop where
  hh : c.A.handled = none
  D : c.A.depth + 6 < recursionLimit
  U : c.A.units + 41 < cLine
  p0 : c.prog = P0
  fr : c.A.frames = some (envL c.w.params Lc :: outer)
  B : Base c.w hc
  hO : hc.FunFrames (H1 c.w.params) outer
  lex : IsLexer c.prog c.w hc xl (.bool b2) (.bool kp)
  k0 : Keep hc hg
  nLc : New hc Lc
  nT : New hc T
  ne : Lc ≠ T
  N : hg.Ns Lc (frm nsU (vsU xl x0 t b T none))
  l : Lst hg T []
  F : Fm hg L nsK (([.ref xl, .str x0 t, .none, .none, b] : List Value).map some ++ ([("lines" : Str), "pos", "lineno", "stack", "statetokens", "source_length", "balancing_stack", "newlines_stripped", "line_starting", "regex", "tokens", "new_state", "m", "groups", "text", "strip_sign", "stripped", "l_pos", "idx", "token", "key", "value", "data", "expected_op", "pos2"] : List Str).map fun _ => none) h₁
  ax : Alph x0
  hl : x0.length ≤ 1000
  hx : x = readOf x0 kp
  hb : (b = .none ∧ m = false) ∨ (∃ u, b = .str "variable" u) ∧ m = true
  R : RunF x m 0 1 [] all r
abbrev h2T (c : Cx) (h₁ : Heap) (nm qn : Value) : Heap := h₁.push (genObj c.g.size nm qn)
abbrev h0T (c : Cx) (h₁ : Heap) (nm qn : Value) (L : Addr) : Heap := hideAll (h2T c h₁ nm qn) [L]
abbrev CT (c : Cx) (h₁ : Heap) (nm qn : Value) (L : Addr) (all : List Tk) (xl : Addr) (x0 : Str) (t : Tok) (b : Value) (T Lc : Addr) (ne : Lc ≠ T) : Cons := tC (h0T c h₁ nm qn L) all (vsU xl x0 t b T) T Lc ne
noncomputable abbrev GT (c : Cx) (h₁ : Heap) (nm qn : Value) (L : Addr) (all : List Tk) (xl : Addr) (x0 : Str) (t : Tok) (b : Value) (T Lc : Addr) (ne : Lc ≠ T) (outer : List Env) (r : Option (Str × Nat)) : GSpec :=
  tG (CT c h₁ nm qn L all xl x0 t b T Lc ne) c.w (h0T c h₁ nm qn L) (envL c.w.params Lc :: outer) all r
section
variable {c : Cx} {hc hg h₁ : Heap} {all : List Tk} {r : Option (Str × Nat)} {outer : List Env} {xl T Lc L : Addr} {x x0 : Str} {t : Tok} {b : Value} {b2 kp m : Bool} {nm qn : Value}
theorem Tok0.keep2 (Z : Tok0 c hc hg h₁ all r outer xl T Lc L x x0 t b b2 kp m nm qn) : Keep hg (h2T c h₁ nm qn) := Keep.trans Z.F.keep (Keep.push _ _)
theorem Tok0.nL (Z : Tok0 c hc hg h₁ all r outer xl T Lc L x x0 t b b2 kp m nm qn) : New hg L := New.of_le Z.F.above
theorem Tok0.keep0 (Z : Tok0 c hc hg h₁ all r outer xl T Lc L x x0 t b b2 kp m nm qn) : Keep hg (h0T c h₁ nm qn L) := fun a o e =>
  hideAll_get _ (Z.keep2 a o e) (by simp only [List.mem_cons, List.not_mem_nil, or_false]; exact (Z.nL.ne e))
/-- what holds at the call holds at all later times -/
theorem Tok0.later (Z : Tok0 c hc hg h₁ all r outer xl T Lc L x x0 t b b2 kp m nm qn) {h : Heap} (k : ∀ b o, b ∉ ([Lc, T] : List Addr) → (h0T c h₁ nm qn L).get? b = some o → h.get? b = some o) : Keep hc h := fun a o e =>
  k a o (by simp only [List.mem_cons, List.not_mem_nil, or_false, not_or]; exact ⟨Z.nLc.ne e, Z.nT.ne e⟩) (Z.keep0 a o (Z.k0 a o e))
theorem Tok0.nsL (Z : Tok0 c hc hg h₁ all r outer xl T Lc L x x0 t b b2 kp m nm qn) : (h2T c h₁ nm qn).Ns L (frm nsK (vs0 xl x0 t b)) := Z.F.ns.keeps (Keep.push _ _)
theorem Tok0.neL (Z : Tok0 c hc hg h₁ all r outer xl T Lc L x x0 t b b2 kp m nm qn) : L ≠ Lc ∧ L ≠ T := by
  obtain ⟨o, _, _, e, _⟩ := Z.N
  obtain ⟨k, e2⟩ := Z.l
  exact ⟨(Z.nL.ne e).symm, (Z.nL.ne e2).symm⟩
theorem Tok0.at0 (Z : Tok0 c hc hg h₁ all r outer xl T Lc L x x0 t b b2 kp m nm qn) : (CT c h₁ nm qn L all xl x0 t b T Lc Z.ne).at c.w (h0T c h₁ nm qn L) all.length (h2T c h₁ nm qn) :=
  ⟨(Z.B.mono Z.k0).mono Z.keep2, PT_of (tv := []) (Z.l.keep Z.keep2) (by rw [Nat.sub_self]; exact .nil), PL_of (Z.N.keeps Z.keep2), trivial, fun a o _ e => of_hideAll _ e⟩
theorem Tok0.gs (Z : Tok0 c hc hg h₁ all r outer xl T Lc L x x0 t b b2 kp m nm qn) : GS (CT c h₁ nm qn L all xl x0 t b T Lc Z.ne) c.w (h0T c h₁ nm qn L) all.length (fun _ => True) L nsK (vs0 xl x0 t b) [] (h2T c h₁ nm qn) := by
  have A := Z.at0
  have hX : ∀ a ∈ L :: ((CT c h₁ nm qn L all xl x0 t b T Lc Z.ne).cells all.length ++ ([] : List (Addr × Cell))).map (·.1), a = L ∨ a = Lc ∨ a = T := fun a ha => by
    simp only [Cons.cells, tC, List.append_nil, List.map_cons, List.map_nil, List.mem_cons, List.not_mem_nil, or_false] at ha
    exact ha
  have nL0 : New (h0T c h₁ nm qn L) L := hideAll_none _ (by simp)
  refine ⟨A.base, Z.nsL, fun p hp => ?_, ?_, A.keep, fun a ha => ?_, fun a ha => ?_, ⟨trivial, trivial⟩, fun _ _ _ x => x⟩
  · simp only [Cons.cells, List.append_nil, List.mem_cons, List.not_mem_nil, or_false] at hp
    rcases hp with rfl | rfl
    · exact ⟨A.l, Cons.ntL _ _, Cons.stL _ _⟩
    · exact ⟨A.t, Cons.ntT _ _, Cons.stT _ _⟩
  · show (L :: [Lc, T]).Nodup
    have := Z.neL
    simp [this.1, this.2, Z.ne]
  · rcases hX a ha with rfl | rfl | rfl
    · exact .inr nL0
    · exact .inl (by simp [Cons.X, tC])
    · exact .inl (by simp [Cons.X, tC])
  · rcases hX a ha with rfl | rfl | rfl
    · exact Z.B.new (Z.nL.back Z.k0)
    · exact Z.B.new Z.nLc
    · exact Z.B.new Z.nT
/-- the generator does what it owes -/
theorem Tok0.goes (Z : Tok0 c hc hg h₁ all r outer xl T Lc L x x0 t b b2 kp m nm qn) : SG c.gen (GT c h₁ nm qn L all xl x0 t b T Lc Z.ne outer r) all.length (FC c.w.params L) ((model c.prog c.w).den (FC c.w.params L)) [] (h2T c h₁ nm qn) := by
  obtain ⟨dx, d, lr, lv, O, kvs, rk, r0, r1, vvs, t0, t1, t2, t3, u, w0, e1, e2, e3, e4, e5, e6, e7, e8, e9, e10, e11, e12, e13, e14, e15, e16, e17⟩ := Z.lex
  subst e12 e16
  have ax : Alph x := by
    rw [Z.hx]
    unfold readOf
    split
    · exact Z.ax.sl _ _
    · exact Z.ax
  have hxl : x.length ≤ 1000 := by
    rw [Z.hx]
    unfold readOf
    split
    · rw [sl_len]
      have := Z.hl
      omega
    · exact Z.hl
  have later : ∀ {h : Heap}, (∀ a o, a ∉ (CT c h₁ nm qn L all xl x0 t b T Lc Z.ne).X → (h0T c h₁ nm qn L).get? a = some o → h.get? a = some o) → Keep hc h := fun k => Z.later k
  have fr2 : ∀ h, Keep hc h → h.FunFrames (H1 c.w.params) outer := fun h k => Z.hO.of_keeps fun b o e _ => ⟨o, k b o e, rfl⟩
  have nL0 : New (h0T c h₁ nm qn L) L := hideAll_none _ (by simp)
  have Wk : Walk c.gen (h0T c h₁ nm qn L) (CT c h₁ nm qn L all xl x0 t b T Lc Z.ne) (GT c h₁ nm qn L all xl x0 t b T Lc Z.ne outer r) L x all r (envL c.w.params Lc :: outer) xl lr lv vvs := {
    hh := Z.hh
    D := Z.D
    U := by have := Z.U; show c.A.units + 1 + 40 < cLine; omega
    p0 := Z.p0
    bk := (Z.B.mono Z.k0).mono Z.keep0
    dk := fun b n => n
    fr := Z.fr
    hO := fun n h' A => by
      obtain ⟨o, e, _, tv, N⟩ := A.l
      exact Heap.FunFrames.cons (by rw [show (envL c.w.params Lc).scope.kind = _ from (okL c.w.params).kind]; simp) rfl (N h' e) (Z.B.new Z.nLc) (fr2 h' (later A.keep))
    hY := fun n v h' tk e l tv A => ⟨tk, e, l, tv, A⟩
    hS := fun n h' h'' s => s
    ok := fun e h' A => ⟨rfl, .inl ⟨e, rfl, A⟩⟩
    err := fun m row e h1 h' h2 y dx t1 tm ur A hL k ny nd nt _ ht F U => ⟨rfl, .inr ⟨m, row, y, e, rfl, flown (eG := envT c.w.params L) A rfl hL rfl rfl (fun hm => by
        obtain ⟨_, o, ho, _⟩ := Z.hO.mem hm
        exact Z.nT.ne ho rfl) Z.neL.2.symm (fr2 h1 (later A.keep)) nL0 k ny nd nt ht F U⟩⟩
    KV := fun h k => ⟨e13.keep (later k), e14.tup (.of_keep (later k))⟩
    KB := fun h k => ⟨dx, d, kvs, rk, later k _ _ e1, (let ⟨o, a, b⟩ := e2; ⟨o, later k _ _ a, b⟩), e5, e6.keep (later k), e7, e8⟩
    hx := ax
    hl := hxl }
  have Wr : WalkR c.gen (h0T c h₁ nm qn L) (CT c h₁ nm qn L all xl x0 t b T Lc Z.ne) xl lr O r0 r1 t1 t3 := {
    KO := fun h k => let ⟨o, a, b⟩ := e15; ⟨o, later k _ _ a, b⟩
    KL := fun h k => ⟨dx, kvs, b2, later k _ _ e1, (let ⟨o, a, b⟩ := e2; ⟨o, later k _ _ a, b⟩), e3⟩
    KR := fun h k => ⟨e9.keep (later k), ⟨_, (TupKeep.of_keep (later k)) _ _ e10⟩, u, (TupKeep.of_keep (later k)) _ _ e11⟩ }
  exact gen_all Wk Wr Z.ax Z.hl Z.hx Z.hb (fun h k => ⟨dx, kvs, later k _ _ e1, (let ⟨o, a, b⟩ := e2; ⟨o, later k _ _ a, b⟩), e4⟩) Z.gs Z.R
end
end Mine
end
section
open PySem PySem.W PySem.Calls PyProof.Rows
set_option maxRecDepth 100000
set_option linter.all false
set_option maxHeartbeats 4000000
namespace Mine
theorem push_set {α : Type} (a : Array α) (x y : α) : (a.push x).setIfInBounds a.size y = a.push y := by
  apply Array.ext
  · simp
  · intro i h1 h2
    simp only [Array.size_setIfInBounds, Array.size_push] at h1
    rw [Array.getElem_setIfInBounds (by simpa using h1)]
    by_cases h : a.size = i
    · subst h; simp
    · rw [if_neg h, Array.getElem_push, Array.getElem_push, dif_pos (by omega), dif_pos (by omega)]
theorem Cons.at.step {C : Cons} {w : World} {h₀ h h' : Heap} {n : Nat} (A : C.at w h₀ (n + 1) h) (n1 : New (H1 w.params) C.Lc) (n2 : New (H1 w.params) C.T) (s : C.step n h h') : C.at w h₀ n h' :=
  ⟨fun b o e => s.but b o (by simp only [Cons.X, List.mem_cons, List.not_mem_nil, or_false, not_or]; exact ⟨n1.ne e, n2.ne e⟩) (A.base b o e), s.t, s.l, s.i, fun b o hb e => s.but b o hb (A.keep b o hb e)⟩
section
variable {c : Cx} {hc hg h₁ : Heap} {all : List Tk} {r : Option (Str × Nat)} {outer : List Env} {xl T Lc L : Addr} {x x0 : Str} {t : Tok} {b : Value} {b2 kp m : Bool} {nm qn : Value}
/-- the consumer's step: a token is told -/
theorem Tok0.turn (Z : Tok0 c hc hg h₁ all r outer xl T Lc L x x0 t b b2 kp m nm qn) (hN : all.length ≤ sizeLine) {c' : Cx} (hw : c'.w = c.w) {n : Nat} {h' : Heap} {v : Value} {tkn : Tk} (htk : all[all.length - (n + 1)]? = some tkn) (hlt : n < all.length) (tv : TokV h' v tkn)
    (A : (CT c h₁ nm qn L all xl x0 t b T Lc Z.ne).at c.w (h0T c h₁ nm qn L) (n + 1) h') :
    W c' h' (assign (sTest (forL c.w.params)) (envL c.w.params Lc) v) (fun _ h2 => W c' h2 (execs (sBody (forL c.w.params)) (envL c.w.params Lc)) (fun f h3 => f = .next ∧ (CT c h₁ nm qn L all xl x0 t b T Lc Z.ne).step n h' h3) (fun _ _ => False)) (fun _ _ => False) := by
  have X := okL c.w.params
  obtain ⟨o, eo, _, tf, NN⟩ := A.l
  obtain ⟨oT, eT, _, tl, LL, toks⟩ := A.t
  have N := NN h' eo
  have l : Lst h' T tl := LL h' eT
  refine w_assign_name <| w_store X N (i := 4) rfl rfl fun h2 N2 k2 => ?_
  have hTL : T ≠ Lc := fun e => Z.ne e.symm
  have l2 := l.but k2 hTL
  have hlen := toks.len
  rw [List.length_take] at hlen
  refine w_cons <| w_expr <| w_append <| w_loc X N2 (i := 3) rfl rfl ⟨T, tl, rfl, l2, w_loc X N2 (i := 4) rfl rfl ⟨tl, l2, by omega, fun h3 l3 k3 => ⟨rfl, w_nil ⟨rfl, ?_⟩⟩⟩⟩
  have tk1 : TupKeep h' h2 := .of_ns N k2
  have tk2 : TupKeep h2 h3 := .of_list l2 k3
  have tk : TupKeep h' h3 := fun b i x => tk2 _ _ (tk1 _ _ x)
  refine ⟨tk, fun b o hb e => ?_, PT_of l3 ?_, PL_of (tv := some v) (N2.extBut k3 (Ne.symm hTL)), trivial⟩
  · simp only [Cons.X, tC, List.mem_cons, List.not_mem_nil, or_false, not_or] at hb
    exact k3 _ _ hb.2 (k2 _ _ hb.1 e)
  · have e1 : all.length - n = (all.length - (n + 1)) + 1 := by omega
    rw [e1, List.take_succ, htk]
    exact (toks.tup tk).app (tv.tup tk)
/-- the loop over the generator -/
theorem Tok0.loop (Z : Tok0 c hc hg h₁ all r outer xl T Lc L x x0 t b b2 kp m nm qn) (hN : all.length ≤ sizeLine) {R : Result → Shared → Prop} {tk : Nat}
    (q0 : r = none → ∀ h' tk, (CT c h₁ nm qn L all xl x0 t b T Lc Z.ne).at c.w (h0T c h₁ nm qn L) 0 h' → R (.ok .next) ((c.wg (c.g.push .finished)).st h' tk))
    (q1 : ∀ m row y h' tk, r = some (m, row) → Flown c.w (CT c h₁ nm qn L all xl x0 t b T Lc Z.ne) (envL c.w.params Lc :: outer) h' y m row → notedBy (model c.prog c.w) c.A (envL c.w.params Lc) (fun e s' => R (.error e) s') (.ref y) ((c.wg (c.g.push .finished)).st h' tk)) :
    codeAny (model c.prog c.w) c.A (.forLoop (sTest (forL c.w.params)) (.ref h₁.objs.size) (sBody (forL c.w.params)) (sElse (forL c.w.params)) (envL c.w.params Lc)) R ((c.wg (c.g.push (.fresh (FC c.w.params L)))).st (h2T c h₁ nm qn) tk) := by
  have ng : New h₁ h₁.objs.size := New.of_le (Nat.le_refl _)
  have kh1 : Keep hc h₁ := Keep.trans Z.k0 Z.F.keep
  obtain ⟨oL, _, _, eL, _⟩ := Z.N
  obtain ⟨kT, eT⟩ := Z.l
  obtain ⟨oF, _, _, eF, _⟩ := Z.F.ns
  have ga0 : (h0T c h₁ nm qn L).get? h₁.objs.size = some (genObj c.g.size nm qn) := hideAll_get _ (Heap.get?_push_size _ rfl) (by
    simp only [List.mem_cons, List.not_mem_nil, or_false]
    exact (ng.ne eF).symm)
  have gaX : h₁.objs.size ∉ (CT c h₁ nm qn L all xl x0 t b T Lc Z.ne).X := by
    simp only [Cons.X, tC, List.mem_cons, List.not_mem_nil, or_false, not_or]
    exact ⟨(ng.ne (Z.F.keep _ _ eL)).symm, (ng.ne (Z.F.keep _ _ eT)).symm⟩
  have isg : ∀ h : Heap, h.get? h₁.objs.size = some (genObj c.g.size nm qn) → h.IsGen h₁.objs.size c.g.size := fun h e => ⟨_, nm, qn, e, rfl, rfl, rfl⟩
  refine codeAny_forLoop_any (fun n s => ∃ h tk gs, s = (c.wg (c.g.push gs)).st h tk ∧ (CT c h₁ nm qn L all xl x0 t b T Lc Z.ne).at c.w (h0T c h₁ nm qn L) n h ∧
    ∀ tk, gs.Goes (model c.prog c.w) c.A.in1 (c.gen.R (GT c h₁ nm qn L all xl x0 t b T Lc Z.ne outer r)) (c.gen.Y (GT c h₁ nm qn L all xl x0 t b T Lc Z.ne outer r)) n (.send .none) (c.gen.st h tk))
    (fun n s ⟨h, tk, gs, e, A, go⟩ => ?_) all.length ⟨h2T c h₁ nm qn, tk, _, rfl, Z.at0, fun tk => ⟨rfl, Z.goes _ tk⟩⟩
  subst e
  have eset : ∀ g2 h tk, ((c.wg (c.g.push gs)).st h tk).setGen c.g.size g2 = (c.wg (c.g.push g2)).st h tk := fun g2 h tk => by
    show (⟨_, (c.g.push gs).setIfInBounds c.g.size g2, _, _, _⟩ : Shared) = _
    rw [push_set]
  have eset2 : ∀ g2 h tk, (c.gen.st h tk).setGen c.g.size g2 = (c.wg (c.g.push g2)).st h tk := fun g2 h tk => by
    show (⟨_, (c.g.push .running).setIfInBounds c.g.size g2, _, _, _⟩ : Shared) = _
    rw [push_set]
  refine gen_next (s := (c.wg (c.g.push gs)).st h tk) (g := c.g.size) (n := n) (gs := gs) Z.hh (base_lim A.base) (by have := Z.D; omega) (isg _ (A.keep _ _ gaX ga0)) (by simp) (by rw [eset]; exact go tk) (fun v s₁ gs' hY => ?_) (fun x s₁ hR => ?_)
  · obtain ⟨h', tk', e, ⟨tkn, htk, hlt, tv, A'⟩, kap⟩ := hY
    subst e
    rw [eset2]
    refine wpAny_of_eq (a := ()) (by rfl) ?_
    refine wpAny_mono (Z.turn hN (c' := c.wg (c.g.push gs')) rfl htk hlt tv A' tk') (fun _ s₂ ⟨h2, tk2, e, q⟩ => ?_) fun _ _ ⟨_, _, _, f⟩ => f.elim
    subst e
    refine wpAny_mono (q tk2) (fun f s₃ ⟨h3, tk3, e, hf, st⟩ => ?_) fun _ _ ⟨_, _, _, f⟩ => f.elim
    subst e hf
    cases n with
    | zero => exact (kap h3 0 st).elim
    | succ m => exact ⟨m, Nat.lt_succ_self m, h3, tk3, gs', rfl, A'.step (Z.B.new Z.nLc) (Z.B.new Z.nT) st, fun tk => kap h3 tk st⟩
  · obtain ⟨h', tk', e, hn, rest⟩ := hR
    subst e hn
    rcases rest with ⟨er, ex, A'⟩ | ⟨m, row, y, er, ex, FL⟩
    · refine .inl ⟨ex, fun h'' tk'' k => ?_⟩
      rw [eset2]
      exact wpAny_execs_nil (q0 er h'' tk'' (A'.mono k))
    · obtain ⟨dx, t1, tm, ur, fly, _, _⟩ := FL.fly
      obtain ⟨T1, _, _, ey, _⟩ := fly.at_
      refine .inr ⟨y, ex, ⟨KF_in fly.base, dx, _, _, ey⟩, isg _ (FL.old _ _ gaX (fun hm => ?_) ga0), ?_⟩
      · rw [List.filterMap_cons, show (envL c.w.params Lc).frame = some Lc from rfl] at hm
        rcases List.mem_cons.mp hm with e | hm
        · exact (ng.ne (Z.F.keep _ _ eL)) e.symm
        · obtain ⟨_, o, ho, _⟩ := Z.hO.mem hm
          exact (ng.ne (kh1 _ _ ho)) rfl
      · rw [eset2]
        exact q1 m row y h' tk' er FL
end
end Mine
end
section
open PySem PySem.W PySem.Calls PyProof.Rows
set_option maxRecDepth 100000
set_option linter.all false
set_option maxHeartbeats 4000000
namespace Mine
/-- what is kept, from the raise to the end of the call -/
structure Kp (Lc : Addr) (outer : List Env) (K h h' : Heap) : Prop where
  old : ∀ b o, b ≠ Lc → b ∉ outer.filterMap (·.frame) → K.get? b = some o → h.get? b = some o → h'.get? b = some o
  up : ∀ b o, b ≠ Lc → (∀ vs, o.data ≠ .fields vs) → h.get? b = some o → ∃ sl, h'.get? b = some { o with slots := sl }
theorem Kp.trans {Lc : Addr} {outer : List Env} {K h h' h'' : Heap} (a : Kp Lc outer K h h') (b : Kp Lc outer K h' h'') : Kp Lc outer K h h'' := ⟨fun x o n1 n2 k e => b.old x o n1 n2 k (a.old x o n1 n2 k e), fun x o n d e => by
  obtain ⟨sl, e1⟩ := a.up x o n d e
  obtain ⟨sl2, e2⟩ := b.up x { o with slots := sl } n d e1
  exact ⟨sl2, e2⟩⟩
theorem Kp.of_but {Lc : Addr} {outer : List Env} {K h h' : Heap} (k : KeepBut Lc h h') : Kp Lc outer K h h' := ⟨fun b o n _ _ e => k b o n e, fun b o n _ e => ⟨o.slots, k b o n e⟩⟩
theorem Kp.of_keep {Lc : Addr} {outer : List Env} {K h h' : Heap} (k : Keep h h') : Kp Lc outer K h h' := .of_but fun b o _ e => k b o e
theorem Kp.of_up {Lc : Addr} {env : Env} {outer : List Env} {K h h' : Heap} (hf : env.frame = some Lc) (u : Up (env :: outer) K h h') : Kp Lc outer K h h' := ⟨fun b o n1 n2 k e => u.old b o (fun hm => by
  rw [List.filterMap_cons, hf] at hm
  rcases List.mem_cons.mp hm with x | x
  · exact n1 x
  · exact n2 x) k e, fun b o _ d e => u.up b o e d⟩
section
variable {c : Cx} {h K : Heap} {outer : List Env} {T Lc : Addr} {vsF : Option Value → List (Option Value)}
abbrev Cx.mk1 (c : Cx) (y : Addr) : Cx := { c with A := c.A.mark (some (.ref y)) }
/-- what the handler gives back -/
theorem told_suite (X : FnOk nsU (fscope (top.o_605 c.w.params))) (B : Base c.w h) (D : c.A.depth < recursionLimit) {y dx t1 : Addr} {tt : Value} {m : Str} {row : Nat} {tm ur : Tok} {vs : List (Option Value)} (N : h.Ns Lc (frm nsU vs)) (h3 : vs[3]? = some (some (.ref T))) (h5 : vs[5]? = some (some (.ref y)))
    (hy : h.get? y = some { cls := .ref 89, dict := some dx, data := .fields #[.ref t1, tt, .none, .none, .bool false, .none] }) (ht : h.get? t1 = some { cls := .type "tuple", data := .seq #[.str m tm] 0 })
    (hd : ∃ o, h.get? dx = some o ∧ EntsO [("lineno", .int row ur), ("name", .none), ("filename", .none), ("source", .none), ("translated", .bool false)] o) {tl : List Value} {all : List Tk} (l : Lst h T tl) (tk : Toks h tl all) {E : Value → Heap → Prop} :
    ∀ body, body = (match tHand (tryT c.w.params) with | .ExceptHandler _ _ b _ :: _ => b | _ => []) → W c h (execs body (envL c.w.params Lc)) (fun f h' => Keep h h' ∧ ∃ v, f = .ret v ∧ LRes h' v all (some (m, row))) E := by
  rintro body rfl
  refine w_cons ?_
  refine w_return <| w_tuple <| w_args <| w_loc X N (i := 3) rfl h3 <| w_args <| w_tuple <| w_args <| w_attr (by rfl) (fun _ _ => rfl) <| w_loc X N (i := 5) rfl h5 <| w_message B D hy ht fun h2 k2 => ?_
  have N2 := N.keeps k2
  refine w_args <| w_attr (by rfl) (fun _ _ => rfl) <| w_loc X N2 (i := 5) rfl h5 <| w_lineno (B.mono k2) (k2 _ _ hy) (let ⟨o, a, b⟩ := hd; ⟨o, k2 _ _ a, b⟩) <| w_args_nil ⟨rfl, fun a h3 k3 n3 t3 => w_args_nil ⟨rfl, fun b h4 k4 n4 t4 => ?_⟩⟩
  have k : Keep h h4 := Keep.trans k2 (Keep.trans k3 k4)
  exact ⟨k, _, rfl, b, T, tl, .ref a, rfl, t4, l.keep k, tk.tup (.of_keep k), a, _, _, rfl, (TupKeep.of_keep k4) _ _ t3⟩
/-- the handler, whole -/
theorem told_hand (D : c.A.depth < recursionLimit) {y dx t1 : Addr} {m : Str} {row : Nat} {tm ur : Tok} {vs : List (Option Value)} (F : Fly c.w K (envL c.w.params Lc :: outer) y dx (.ref 89) (.ref t1) .none h) (N : h.Ns Lc (frm nsU vs)) (hv : vs.length = 6) (h3 : vs[3]? = some (some (.ref T)))
    (ht : h.get? t1 = some { cls := .type "tuple", data := .seq #[.str m tm] 0 }) (hdx : dx ≠ Lc) (hTL : T ≠ Lc) (hTf : T ∉ outer.filterMap (·.frame)) (htf : t1 ∉ outer.filterMap (·.frame)) (hdf : dx ∉ outer.filterMap (·.frame))
    (hd : ∃ o, h.get? dx = some o ∧ EntsO [("lineno", .int row ur), ("name", .none), ("filename", .none), ("source", .none), ("translated", .bool false)] o) {tl : List Value} {all : List Tk} (l : Lst h T tl) (tk : Toks h tl all) {Q : Flow → Shared → Prop} {E : Value → Shared → Prop}
    (q : ∀ h' tk v, Base c.w h' → Kp Lc outer K h h' → LRes h' v all (some (m, row)) → Q (.ret v) (c.st h' tk)) : ∀ tk, wpAny (model c.prog c.w) c.A (handleBy (.ref y) (envL c.w.params Lc) (tHand (tryT c.w.params))) Q E (c.st h tk) := fun tk0 => by
  have X := okL c.w.params
  obtain ⟨T1, _, _, ey, _⟩ := F.at_
  refine wpAny_handleBy_cons (codeAny_handlers_test (wpAny_mono ((w_glob (c := c.mk1 y) (sc := fscope (top.o_605 c.w.params)) (nm := "_law_told") (L := Lc) (a := 544) (cd := .ref 543) (E := fun _ _ => False) (Q := fun v h' => v = .ref 89 ∧ h' = h) (base_g F.base) (show mg0 c.w.params "TemplateSyntaxError" = some (.ref 89) by kernel_rfl) ⟨rfl, rfl⟩) tk0) (fun v s' ⟨h', tk1, e, e1, e2⟩ => ?_) fun _ _ ⟨_, _, _, f⟩ => f.elim)) (by intro q; cases q)
  subst e e1 e2
  refine wpAny_mono (w_match89 (c := c.mk1 y) (E := fun _ _ => False) (Q := fun b g => b = true ∧ g = h') F.base ey ⟨rfl, rfl⟩ tk1) (fun b s' ⟨g, tk2, e, e1, e2⟩ => ?_) fun _ _ ⟨_, _, _, f⟩ => f.elim
  subst e e1 e2
  rw [if_pos rfl]
  refine codeAny_handlers_suite_as (wpAny_mono (w_flight (c := c.mk1 y) (E := fun _ _ => False) (f := none) (Q := fun _ g' => Fly c.w K (envL c.w.params Lc :: outer) y dx (.ref 89) (.ref t1) .none g' ∧ Up (envL c.w.params Lc :: outer) K g g') F (fun h' f u => ⟨f, u⟩) tk2) (fun _ s' ⟨h1, tk3, e, F1, U1⟩ => ?_) fun _ _ ⟨_, _, _, f⟩ => f.elim)
  subst e
  have hfL : (envL c.w.params Lc).frame = some Lc := rfl
  have nin : ∀ a, a ≠ Lc → a ∉ outer.filterMap (·.frame) → a ∉ (envL c.w.params Lc :: outer).filterMap (·.frame) := fun a n1 n2 hm => by
    rw [List.filterMap_cons, hfL] at hm
    rcases List.mem_cons.mp hm with x | x
    · exact n1 x
    · exact n2 x
  obtain ⟨oL, _, _, eL, dL, _⟩ := id N
  have ht1L : t1 ≠ Lc := fun e => by
    subst e; rw [ht] at eL; cases eL; cases dL
  have hyL : y ≠ Lc := fun e => by
    subst e; rw [ey] at eL; cases eL; cases dL
  have N1 := U1.up.ns N
  have tk1 : TupKeep g h1 := fun b items ⟨o, e, c, n, d⟩ => by
    obtain ⟨sl, hs⟩ := U1.up b o e (fun vs => by rw [d]; simp)
    exact ⟨_, hs, c, n, d⟩
  have l1 : Lst h1 T tl := by
    obtain ⟨k, e⟩ := l
    exact ⟨k, U1.same _ _ (nin _ hTL hTf) (by simp) e⟩
  have ht1 := U1.same _ _ (nin _ ht1L htf) (by simp) ht
  have hd1 : ∃ o, h1.get? dx = some o ∧ EntsO [("lineno", .int row ur), ("name", .none), ("filename", .none), ("source", .none), ("translated", .bool false)] o := by
    obtain ⟨o, e3, e4⟩ := hd
    refine ⟨o, U1.same _ _ (nin _ hdx hdf) ?_ e3, e4⟩
    obtain ⟨es, n, rfl, _⟩ := e4
    intro vs
    show Data.dict es.toArray _ ≠ _
    simp
  obtain ⟨T2, _, _, ey1, _⟩ := F1.at_
  refine wpAny_storeName_local (kindOf_loc X (i := 5) rfl) N1 (fun h2 hn hs => ?_) (by show ((fscope (top.o_605 c.w.params)).kind == .class || ((fscope (top.o_605 c.w.params)).kind == .module && _)) = false; rw [X.kind]; rfl)
  rw [frm_set X.nd (i := 5) (x := ("error" : Str)) rfl (by omega)] at hn
  have k2 : KeepBut Lc h1 h2 := hs.extBut
  have B2 : Base c.w h2 := F1.base.but k2 (by
    obtain ⟨_, ⟨L', o, hf, hn, _⟩, _⟩ := F1.fr
    cases hf
    exact hn)
  refine wpAny_mono (told_suite (c := c.mk1 y) (E := fun _ _ => False) X B2 D (tt := .ref T2) hn (by rw [List.getElem?_set_ne (by decide)]; exact h3) (by simp [hv]) (k2 _ _ hyL ey1) (k2 _ _ ht1L ht1) (let ⟨o, a, b⟩ := hd1; ⟨o, k2 _ _ hdx a, b⟩) (l1.but k2 hTL) ((tk.tup tk1).tup (.of_ns N1 k2)) _ rfl _) (fun f s' ⟨h4, tk4, e, k4, v, ef, res⟩ => ?_) fun _ _ ⟨_, _, _, f⟩ => f.elim
  subst e ef
  refine wpAny_nameGoes (kindOf_loc X (i := 5) rfl) (hn.keeps k4) (by show ((fscope (top.o_605 c.w.params)).kind == .class || ((fscope (top.o_605 c.w.params)).kind == .module && _)) = false; rw [X.kind]; rfl) fun h5 m5 hn5 hs5 => ?_
  have k5 : KeepBut Lc h4 h5 := hs5.extBut
  have B4 : Base c.w h4 := B2.mono k4
  have nLc : New (H1 c.w.params) Lc := by
    obtain ⟨_, ⟨L', o, hf, hn, _⟩, _⟩ := F1.fr
    cases hf
    exact hn
  refine q h5 _ v (B4.but k5 nLc) (((Kp.of_up hfL U1).trans (.of_but k2)).trans ((Kp.of_keep k4).trans (.of_but k5))) ?_
  obtain ⟨a, T', tv, fv, e1, e2, e3, e4, e5⟩ := res
  have tk5 : TupKeep h4 h5 := .of_ns (hn.keeps k4) k5
  obtain ⟨o4, _, _, eo4, do4, _⟩ := (show h4.Ns Lc _ from hn.keeps k4)
  refine ⟨a, T', tv, fv, e1, tk5 _ _ e2, e3.but k5 (fun x => ?_), e4.tup tk5, e5.tup tk5⟩
  subst x
  obtain ⟨kk, ee⟩ := e3
  rw [ee] at eo4; cases eo4; cases do4
end
end Mine
end
section
open PySem PySem.W PySem.Calls PyProof.Rows
set_option maxRecDepth 100000
set_option linter.all false
set_option maxHeartbeats 4000000
namespace Mine
/-- what the call of _law_told keeps -/
structure Kc (outer : List Env) (hc h' : Heap) : Prop where
  old : ∀ a o, a ∉ outer.filterMap (·.frame) → hc.get? a = some o → h'.get? a = some o
  up : hc.UpToSlots h'
section
variable {c : Cx} {hc : Heap} {all : List Tk} {r : Option (Str × Nat)} {outer : List Env} {xl : Addr} {x x0 : Str} {t : Tok} {b : Value} {b2 kp m : Bool}
/-- _law_told, whole -/
theorem told_call (hh : c.A.handled = none) (D : c.A.depth + 10 < recursionLimit) (U : c.A.units + 60 < cLine) (p0 : c.prog = P0) (fr : c.A.frames = some outer) (B : Base c.w hc) (hO : hc.FunFrames (H1 c.w.params) outer)
    (lex : IsLexer c.prog c.w hc xl (.bool b2) (.bool kp)) (ax : Alph x0) (hl : x0.length ≤ 1000) (hx : x = readOf x0 kp) (hb : (b = .none ∧ m = false) ∨ (∃ u, b = .str "variable" u) ∧ m = true) (R : RunF x m 0 1 [] all r) (hN : all.length ≤ sizeLine) {Rr : Result → Shared → Prop}
    (q : ∀ h' tk v, Base c.w h' → Kc outer hc h' → LRes h' v all r → Rr (.ok (.ret v)) ((c.wg (c.g.push .finished)).st h' tk)) : ∀ tk, codeAny (model c.prog c.w) c.A (.call (.ref 544) ⟨[.ref xl, .str x0 t, b], []⟩) Rr (c.st hc tk) := fun tk => by
  have X := okL c.w.params
  have hdata : (top.o_605 c.w.params).data = .func (Calls.docDef "_law_told" (fparams (top.o_605 c.w.params)) (fbody (top.o_605 c.w.params)) (fscope (top.o_605 c.w.params)) (fmod (top.o_605 c.w.params)) (.ref 543) (fdoc (top.o_605 c.w.params))) := by kernel_rfl
  have hbind : bindArgs (Calls.docDef "_law_told" (fparams (top.o_605 c.w.params)) (fbody (top.o_605 c.w.params)) (fscope (top.o_605 c.w.params)) (fmod (top.o_605 c.w.params)) (.ref 543) (fdoc (top.o_605 c.w.params))) ⟨[.ref xl, .str x0 t, b], []⟩ = pure (([("lexer" : Str), "source", "begun"] : List Str).zip [.ref xl, .str x0 t, b]) := by kernel_rfl
  refine codeAny_call_def (s := c.st hc tk) (binds := ([("lexer" : Str), "source", "begun"] : List Str).zip [.ref xl, .str x0 t, b]) (by omega) (base_at B (by kernel_rfl) (by decide) (by kernel_rfl)) hdata (base_lim B) (cr_of (top.o_604 c.w.params) B (by kernel_rfl) (by decide) (by kernel_rfl) (by kernel_rfl)) rfl (.of_eq hbind) (cellFree.of (by kernel_rfl)) (fun y hy => X.loc y.1 (List.mem_append_left _ (List.of_mem_zip hy).1)) (fun h₀ hn hk => ?_) (by kernel_rfl) (by kernel_rfl) X.kind
  rw [frm_binds X.nd rfl] at hn
  have nLc : New hc hc.objs.size := New.of_le (Nat.le_refl _)
  -- told = []
  refine wpAny_execs_cons (wpAny_mono ((w_assign (c := { c with A := c.A.deeper (envL c.w.params hc.objs.size) }) (E := fun _ _ => False) (Q := fun f h2 => f = .next ∧ ∃ T, Keep hc h2 ∧ New hc T ∧ hc.objs.size ≠ T ∧ h2.Ns hc.objs.size (frm nsU (vsU xl x0 t b T none)) ∧ Lst h2 T []) <| w_list <| w_args_nil ⟨rfl, fun T h1 k1 nT lT => w_store X (hn.keeps k1) (i := 3) rfl rfl fun h2 N2 k2 => ⟨rfl, T, ?_, ?_, ?_, N2, lT.but k2 ?_⟩⟩) _) (fun f s' ⟨hg, tk1, e, ef, T, k0, nT, ne, N, l⟩ => ?_) fun _ _ ⟨_, _, _, f⟩ => f.elim)
  · exact fun b o e => k2 b o (nLc.ne e) (k1 _ _ (hk _ _ e))
  · exact nT.back hk
  · intro e
    obtain ⟨o, _, _, eo, _⟩ := hn
    exact (New.ne nT eo) e
  · intro e
    obtain ⟨o, _, _, eo, _⟩ := hn
    exact (New.ne nT eo) e.symm
  subst e ef
  have hr : recursionLimit = recursionLimit := rfl
  have D1 : (c.A.deeper (envL c.w.params hc.objs.size)).depth = c.A.depth + 1 := rfl
  have U1 : (c.A.deeper (envL c.w.params hc.objs.size)).units = c.A.units + 3 := rfl
  have nLcH : New (H1 c.w.params) hc.objs.size := B.new nLc
  obtain ⟨dx, d, lr, lv, O, kvs, rk, r0, r1, vvs, t0, t1, t2, t3, u, w0, e1, e2, e3, e4, e5, e6, e7, e8, e9, e10, e11, e12, e13, e14, e15, e16, e17⟩ := id lex
  refine wpAny_execs_cons (wpAny_Try_except (wpAny_execs_cons (wpAny_For (told_iter (c := { c with A := c.A.deeper (envL c.w.params hc.objs.size) }) (B.mono k0) (by show c.A.depth + 1 < recursionLimit; omega) N (k0 _ _ e1) (let ⟨o, a, b⟩ := e2; ⟨o, k0 _ _ a, b⟩) e17 (fun h₁ L nm qn tk2 F => ?_) tk1))))
  have Z : Tok0 { c with A := c.A.deeper (envL c.w.params hc.objs.size) } hc hg h₁ all r outer xl T hc.objs.size L x x0 t b b2 kp m nm qn := {
    hh := hh
    D := by show c.A.depth + 1 + 6 < recursionLimit; omega
    U := by show c.A.units + 3 + 41 < cLine; omega
    p0 := p0
    fr := Around.frames_deeper fr
    B := B
    hO := hO
    lex := lex
    k0 := k0
    nLc := nLc
    nT := nT
    ne := ne
    N := N
    l := l
    F := F
    ax := ax
    hl := hl
    hx := hx
    hb := hb
    R := R }
  have hTf : T ∉ outer.filterMap (·.frame) := fun hm => by
    obtain ⟨_, o, ho, _⟩ := hO.mem hm
    exact nT.ne ho rfl
  refine wpAny_pyIter_gen (g := c.g.size) ⟨_, nm, qn, Heap.get?_push_size _ rfl, rfl, rfl, rfl⟩ (Z.loop hN (fun er h' tk3 A => ?_) fun m' row y h' tk3 er FL => ?_)
  · -- the end
    refine wpAny_execs_nil (wpAny_execs_nil ?_)
    obtain ⟨o, eo, _, tf, NN⟩ := A.l
    obtain ⟨oT, eT, _, tl, LL, toks⟩ := A.t
    have N3 := NN h' eo
    have l3 : Lst h' T tl := LL h' eT
    have k3 : Keep hc h' := Z.later A.keep
    refine wpAny_mono ((w_cons (c := { c with A := c.A.deeper (envL c.w.params hc.objs.size), g := c.g.push .finished }) (E := fun _ _ => False) (Q := fun f g => ∃ v, f = .ret v ∧ Keep h' g ∧ LRes g v all r) <| w_return <| w_tuple <| w_args <| w_loc X N3 (i := 3) rfl rfl <| w_args <| w_none <| w_args_nil ⟨rfl, fun a h4 k4 n4 t4 => ⟨_, rfl, k4, a, T, tl, .none, rfl, t4, l3.keep k4, ?_, by rw [er]; rfl⟩⟩) tk3) (fun f s' ⟨h4, tk4, e, v, ef, k4, res⟩ => ?_) fun _ _ ⟨_, _, _, f⟩ => f.elim
    · rw [Nat.sub_zero, List.take_length] at toks
      exact toks.tup (.of_keep k4)
    · subst e ef
      exact q h4 tk4 v (B.mono (Keep.trans k3 k4)) ⟨fun a o _ e => k4 _ _ (k3 _ _ e), Heap.UpToSlots.of_keeps (Keep.trans k3 k4)⟩ res
  · -- the fault
    obtain ⟨dx', t1', tm, ur, F0, ht, htf, hdf, hd⟩ := FL.fly
    obtain ⟨oT, eT, _, tl, LL, toks⟩ := FL.t
    obtain ⟨o, eo, _, tf, NN⟩ := FL.l
    have N0 := NN h' eo
    have l0 : Lst h' T tl := LL h' eT
    rw [Nat.sub_zero, List.take_length] at toks
    have hfL : (envL c.w.params hc.objs.size).frame = some hc.objs.size := rfl
    have inn : ∀ a, a ∉ (envL c.w.params hc.objs.size :: outer).filterMap (·.frame) → a ≠ hc.objs.size ∧ a ∉ outer.filterMap (·.frame) := fun a hn => by
      rw [List.filterMap_cons, hfL] at hn
      exact ⟨fun e => hn (e ▸ List.mem_cons_self), fun hm => hn (List.mem_cons_of_mem _ hm)⟩
    have nin : ∀ a, a ≠ hc.objs.size → a ∉ outer.filterMap (·.frame) → a ∉ (envL c.w.params hc.objs.size :: outer).filterMap (·.frame) := fun a n1 n2 hm => by
      rw [List.filterMap_cons, hfL] at hm
      rcases List.mem_cons.mp hm with x | x
      · exact n1 x
      · exact n2 x
    have key : ∀ {ha hb : Heap}, Up (envL c.w.params hc.objs.size :: outer) (h0T { c with A := c.A.deeper (envL c.w.params hc.objs.size) } h₁ nm qn L) ha hb → ∀ {vs}, ha.Ns hc.objs.size (frm nsU vs) ∧ Lst ha T tl ∧ Toks ha tl all ∧ ha.get? t1' = some { cls := .type "tuple", data := .seq #[.str m' tm] 0 } ∧ (∃ o, ha.get? dx' = some o ∧ EntsO [("lineno", .int row ur), ("name", .none), ("filename", .none), ("source", .none), ("translated", .bool false)] o) →
        hb.Ns hc.objs.size (frm nsU vs) ∧ Lst hb T tl ∧ Toks hb tl all ∧ hb.get? t1' = some { cls := .type "tuple", data := .seq #[.str m' tm] 0 } ∧ (∃ o, hb.get? dx' = some o ∧ EntsO [("lineno", .int row ur), ("name", .none), ("filename", .none), ("source", .none), ("translated", .bool false)] o) := fun {ha hb} u vs ⟨a1, ⟨k, a2⟩, a3, a4, o, a5, a6⟩ => by
      have tk1 : TupKeep ha hb := fun b items ⟨o, e, c, n, d⟩ => by
        obtain ⟨sl, hs⟩ := u.up b o e (fun vs => by rw [d]; simp)
        exact ⟨_, hs, c, n, d⟩
      refine ⟨u.up.ns a1, ⟨k, u.same _ _ (nin _ ne.symm hTf) (by simp) a2⟩, a3.tup tk1, u.same _ _ htf (by simp) a4, o, u.same _ _ hdf ?_ a5, a6⟩
      obtain ⟨es, n, rfl, _⟩ := a6
      intro vs
      show Data.dict es.toArray _ ≠ _
      simp
    refine wpAny_mono (w_note_on (c := { c with A := c.A.deeper (envL c.w.params hc.objs.size), g := c.g.push .finished }) (E := fun _ _ => False) (Q := fun _ g => Fly c.w (h0T { c with A := c.A.deeper (envL c.w.params hc.objs.size) } h₁ nm qn L) (envL c.w.params hc.objs.size :: outer) y dx' (.ref 89) (.ref t1') (rawInt hc.objs.size) g ∧ Up (envL c.w.params hc.objs.size :: outer) (h0T { c with A := c.A.deeper (envL c.w.params hc.objs.size) } h₁ nm qn L) h' g) (Around.frames_deeper fr) rfl F0 (fun h f u => ⟨f, u⟩) tk3) (fun _ s' ⟨h4, tk4, e, F4, U4⟩ => ?_) fun _ _ ⟨_, _, _, f⟩ => f.elim
    subst e
    refine wpAny_mono (w_back (c := { c with A := c.A.deeper (envL c.w.params hc.objs.size), g := c.g.push .finished }) (E := fun _ _ => False) (f := some hc.objs.size) (Q := fun _ g => Fly c.w (h0T { c with A := c.A.deeper (envL c.w.params hc.objs.size) } h₁ nm qn L) (envL c.w.params hc.objs.size :: outer) y dx' (.ref 89) (.ref t1') (rawInt hc.objs.size) g ∧ Up (envL c.w.params hc.objs.size :: outer) (h0T { c with A := c.A.deeper (envL c.w.params hc.objs.size) } h₁ nm qn L) h4 g) F4 (fun h f u => ⟨f, u⟩) tk4) (fun _ s' ⟨h5, tk5, e, F5, U5⟩ => ?_) fun _ _ ⟨_, _, _, f⟩ => f.elim
    subst e
    refine wpAny_mono (w_note_again (c := { c with A := c.A.deeper (envL c.w.params hc.objs.size), g := c.g.push .finished }) (E := fun _ _ => False) (Q := fun _ g => g = h5) rfl F5 rfl tk5) (fun _ s' ⟨h6, tk6, e, e6⟩ => ?_) fun _ _ ⟨_, _, _, f⟩ => f.elim
    subst e e6
    refine wpAny_mono (w_flight (c := { c with A := c.A.deeper (envL c.w.params hc.objs.size), g := c.g.push .finished }) (E := fun _ _ => False) (f := none) (Q := fun _ g => Fly c.w (h0T { c with A := c.A.deeper (envL c.w.params hc.objs.size) } h₁ nm qn L) (envL c.w.params hc.objs.size :: outer) y dx' (.ref 89) (.ref t1') .none g ∧ Up (envL c.w.params hc.objs.size :: outer) (h0T { c with A := c.A.deeper (envL c.w.params hc.objs.size) } h₁ nm qn L) h6 g) F5 (fun h f u => ⟨f, u⟩) tk6) (fun _ s' ⟨h7, tk7, e, F7, U7⟩ => ?_) fun _ _ ⟨_, _, _, f⟩ => f.elim
    subst e
    obtain ⟨b1, b2', b3, b4, b5⟩ := key U7 (key U5 (key U4 ⟨N0, l0, toks, ht, hd⟩))
    refine told_hand (c := { c with A := c.A.deeper (envL c.w.params hc.objs.size), g := c.g.push .finished }) (by show c.A.depth + 1 < recursionLimit; omega) F7 b1 rfl (T := T) rfl b4 (inn _ hdf).1 ne.symm hTf (inn _ htf).2 (inn _ hdf).2 b5 b2' b3 (fun h8 tk8 v B8 kp8 res => ?_) tk7
    have kall := (((Kp.of_up hfL U4).trans (Kp.of_up hfL U5)).trans (Kp.of_up hfL U7)).trans kp8
    have toK : ∀ a o, hc.get? a = some o → (h0T { c with A := c.A.deeper (envL c.w.params hc.objs.size) } h₁ nm qn L).get? a = some o := fun a o e => Z.keep0 a o (k0 a o e)
    have nX : ∀ a o, hc.get? a = some o → a ∉ (CT { c with A := c.A.deeper (envL c.w.params hc.objs.size) } h₁ nm qn L all xl x0 t b T hc.objs.size Z.ne).X := fun a o e => by
      simp only [Cons.X, tC, List.mem_cons, List.not_mem_nil, or_false, not_or]
      exact ⟨nLc.ne e, nT.ne e⟩
    refine q h8 tk8 v B8 ⟨fun a o hf e => ?_, fun a o e hd => ?_⟩ (er ▸ res)
    · exact kall.old a o (nLc.ne e) hf (toK a o e) (FL.old a o (nX a o e) (nin a (nLc.ne e) hf) (toK a o e))
    · obtain ⟨sl, e1⟩ := FL.up a o (nX a o e) (toK a o e) hd
      obtain ⟨sl2, e2⟩ := kall.up a { o with slots := sl } (nLc.ne e) hd e1
      exact ⟨sl2, e2⟩
end
end Mine
end
section
open PySem PySem.W PySem.Calls PyProof.Rows
set_option maxRecDepth 100000
set_option linter.all false
set_option maxHeartbeats 4000000
namespace Mine
section
variable {c : Cx} {h : Heap} {E : Value → Heap → Prop} {env : Env}
theorem w_fdiv_int {x y : Int} {t u : Tok} {Q : Value → Heap → Prop} (hb : y ≠ 0) (hp : Builtin.divisionGoesByPylong x y = false) (q : ∀ tk, Q (.int (x.fdiv y) tk) h) : W c h (binaryOp .FloorDiv (.int x t) (.int y u)) Q E := fun tk => PyProof.Rows.floordiv_int hb ⟨h, _, rfl, q _⟩ (.inl hp)
/-- a list's [a:b] -/
theorem w_lst_between {value : Expr} {a b k1 k2 : Nat} {p1 p2 p pos : Pos} {Q : Value → Heap → Prop}
    (x : W c h (eval value env) (fun o h1 => ∃ t, ∃ items : List Value, o = .ref t ∧ h1.IsList t items.toArray ∧ Nat.ble items.length 64 = true ∧ ∀ h' b', Keep h1 h' → New h1 b' → Lst h' b' (slicePick items.toArray (some (a : Int)) (some (b : Int)) none).toList → Q (.ref b') h') E) :
    W c h (eval (.Subscript value (.Slice (some (.Constant (.int a) k1 p1)) (some (.Constant (.int b) k2 p2)) none p) pos) env) Q E := by
  refine w_subT (T := "list") F.slot_list_getitem.lookup (fun _ _ => ⟨_, rfl⟩) (W_mono x (fun o h1' z => ?_) fun _ _ y => y)
  obtain ⟨t, items, rfl, ht, hn, q⟩ := z
  refine w_slc (w_part (w_int fun t1 => w_part (w_int fun t2 => w_part0 fun h2 sl k2 n2 hs => ?_)))
  have ht2 : h2.IsList t items.toArray := ht.at (k2 t)
  refine ⟨fun tk => ht2.typeIs (s := c.st h2 tk), fun tk => wpAny_getItem_list_slice (s := c.st h2 tk) ht2 hs (.int _ _) (.int _ _) .none (by simp) ?_ (by rw [List.size_toArray]; exact Nat.le_trans (Nat.le_of_ble_eq_true hn) (by decide))⟩
  refine ⟨_, _, rfl, q _ _ (Keep.trans k2 (Keep.push _ _)) ((New.of_le (Nat.le_refl _)).back k2) ⟨0, ?_⟩⟩
  show Heap.get? _ _ = some _
  rw [Array.toArray_toList]
  exact Heap.get?_push_size _ rfl
/-- the bits of the number -/
def bit (n d : Int) : Bool := decide ((n.fdiv d).fmod 2 = 1)
theorem small_div {x y : Int} (hy : y.natAbs ≤ 64) : Builtin.divisionGoesByPylong x y = false := PyProof.noPylong_small (by omega)
theorem w_bit {n d : Int} {u : Tok} {q1 : Expr} {k1 k2 k3 : Nat} {p1 p2 p3 p4 p5 p6 : Pos} {Q : Value → Heap → Prop} (hd : d ≠ 0) (hs : d.natAbs ≤ 64) (x : W c h (eval q1 env) (fun v h' => v = .int n u ∧ h' = h) E) (q : Q (.bool (bit n d)) h) :
    W c h (eval (.Compare (.BinOp (.BinOp q1 .FloorDiv (.Constant (.int d) k1 p1) p2) .Mod (.Constant (.int 2) k2 p3) p4) [.Eq] [.Constant (.int 1) k3 p5] p6) env) Q E :=
  w_cmp <| w_binop <| w_binop <| W_mono x (fun v h' ⟨e1, e2⟩ => by
    subst e1 e2
    exact w_int fun t1 => w_fdiv_int hd (small_div hs) fun t2 => w_int fun t3 => w_mod_int (by decide) fun t4 => w_int fun t5 => w_eq_int q) fun _ _ y => y
theorem w_tbit {n d : Int} {u : Tok} {q1 : Expr} {k1 k2 k3 : Nat} {p1 p2 p3 p4 p5 p6 : Pos} {whole : Sem Value} {Q : Bool → Heap → Prop} (hd : d ≠ 0) (hs : d.natAbs ≤ 64) (x : W c h (eval q1 env) (fun v h' => v = .int n u ∧ h' = h) E) (q : Q (bit n d) h) :
    W c h (isTrue (.Compare (.BinOp (.BinOp q1 .FloorDiv (.Constant (.int d) k1 p1) p2) .Mod (.Constant (.int 2) k2 p3) p4) [.Eq] [.Constant (.int 1) k3 p5] p6) env whole) Q E :=
  w_tcmp <| w_binop <| w_binop <| W_mono x (fun v h' ⟨e1, e2⟩ => by
    subst e1 e2
    exact w_int fun t1 => w_fdiv_int hd (small_div hs) fun t2 => w_int fun t3 => w_mod_int (by decide) fun t4 => w_int fun t5 => w_eq_int (w_tbool q)) fun _ _ y => y
end
/-- the parts of law -/
noncomputable def lawB (P : Params) : List Stmt := fbody (top.o_612 P)
abbrev nsY : List Str := ([("script" : Str)] : List Str) ++ [("number" : Str), "keep", "begun", "lexer", "source", "text"]
noncomputable abbrev envY (P : Params) (L : Addr) : Env := envOf "law" (fscope (top.o_612 P)) L 551 (.ref 550)
theorem okY (P : Params) : FnOk nsY (fscope (top.o_612 P)) := FnOk.of (by kernel_rfl)
section
variable {c : Cx} {h : Heap} {L N : Addr}
theorem law1 (Ns : h.Ns L (frm nsY [some (.ref N), none, none, none, none, none, none])) {its : List Value} (hN : h.IsList N its.toArray) (hi : ∀ v ∈ its, ∃ i t, v = Value.int i t) (hl : its.length ≤ 64) {E : Value → Heap → Prop} :
    W c h (exec (hdS (lawB c.w.params)) (envY c.w.params L)) (fun f h' => f = .next ∧ ∃ n u, KeepBut L h h' ∧ h'.Ns L (frm nsY [some (.ref N), some (.int n u), none, none, none, none, none])) E := by
  have X := okY c.w.params
  have hz : (64 : Nat) < sizeLine := by decide
  refine w_assign <| w_ifexp' (its ≠ []) (fun g => g = h) (w_tval <| w_loc X Ns (i := 0) rfl rfl <| w_tlist hN (by rw [List.size_toArray]; omega) ⟨rfl, by cases its <;> simp⟩) (fun hne h' e => ?_) (fun hne h' e => ?_)
  · subst e
    obtain ⟨v, r, rfl⟩ := List.exists_cons_of_ne_nil hne
    obtain ⟨n, u, rfl⟩ := hi v (by simp)
    exact w_sub <| w_loc X Ns (i := 0) rfl rfl <| w_int fun t1 => w_item_list (i := 0) hN (by omega) rfl <| w_store X Ns (i := 1) rfl rfl fun h2 N2 k2 => ⟨rfl, n, u, k2, N2⟩
  · subst e
    exact w_int fun t1 => w_store X Ns (i := 1) rfl rfl fun h2 N2 k2 => ⟨rfl, _, _, k2, N2⟩
theorem law2 {n : Int} {u : Tok} (Ns : h.Ns L (frm nsY [some (.ref N), some (.int n u), none, none, none, none, none])) {E : Value → Heap → Prop} :
    W c h (exec (hdS ((lawB c.w.params).drop 1)) (envY c.w.params L)) (fun f h' => f = .next ∧ KeepBut L h h' ∧ h'.Ns L (frm nsY [some (.ref N), some (.int n u), some (.bool (bit n 4)), none, none, none, none])) E := by
  have X := okY c.w.params
  exact w_assign <| w_bit (by decide) (by decide) (w_loc X Ns (i := 1) rfl rfl ⟨rfl, rfl⟩) <| w_store X Ns (i := 2) rfl rfl fun h2 N2 k2 => ⟨rfl, k2, N2⟩
theorem law3 {n : Int} {u : Tok} {k : Bool} (Ns : h.Ns L (frm nsY [some (.ref N), some (.int n u), some (.bool k), none, none, none, none])) {E : Value → Heap → Prop} :
    W c h (exec (hdS ((lawB c.w.params).drop 2)) (envY c.w.params L)) (fun f h' => f = .next ∧ ∃ b, ((b = .none ∧ bit n 8 = false) ∨ (∃ u, b = .str "variable" u) ∧ bit n 8 = true) ∧ KeepBut L h h' ∧ h'.Ns L (frm nsY [some (.ref N), some (.int n u), some (.bool k), some b, none, none, none])) E := by
  have X := okY c.w.params
  refine w_assign <| w_ifexp <| w_tbit (by decide) (by decide) (w_loc X Ns (i := 1) rfl rfl ⟨rfl, rfl⟩) ?_
  cases hb : bit n 8 with
  | true =>
    rw [if_pos rfl]
    exact w_str fun t1 => w_store X Ns (i := 3) rfl rfl fun h2 N2 k2 => ⟨rfl, _, .inr ⟨⟨_, rfl⟩, rfl⟩, k2, N2⟩
  | false =>
    rw [if_neg Bool.false_ne_true]
    exact w_none <| w_store X Ns (i := 3) rfl rfl fun h2 N2 k2 => ⟨rfl, _, .inl ⟨rfl, rfl⟩, k2, N2⟩
theorem law4 (B : Base c.w h) (p0 : c.prog = P0) (D : c.A.depth + 6 < recursionLimit) (U : c.A.units + 60 < cLine) {n : Int} {u : Tok} {k : Bool} {b : Value} (Ns : h.Ns L (frm nsY [some (.ref N), some (.int n u), some (.bool k), some b, none, none, none])) {E : Value → Heap → Prop} :
    W c h (exec (hdS ((lawB c.w.params).drop 3)) (envY c.w.params L)) (fun f h' => f = .next ∧ ∃ xl b2, (∀ h'', KeepBut L h' h'' → TupKeep h' h'' → IsLexer c.prog c.w h'' xl (.bool b2) (.bool k)) ∧ KeepBut L h h' ∧ h'.Ns L (frm nsY [some (.ref N), some (.int n u), some (.bool k), some b, some (.ref xl), none, none])) E := by
  have X := okY c.w.params
  refine w_assign <| w_callK (a := 432) (by kernel_rfl) B (by kernel_rfl) <| w_args <| w_callK (a := 491) (by kernel_rfl) B (by kernel_rfl) <| w_args <| w_cmp <| w_binop <| w_loc X Ns (i := 1) rfl rfl <| w_int fun t1 => w_mod_int (by decide) fun t2 => w_int fun t3 => w_eq_int <|
    w_args <| w_bit (d := 2) (by decide) (by decide) (w_loc X Ns (i := 1) rfl rfl ⟨rfl, rfl⟩) <| w_args <| w_str fun t4 => w_args <| w_loc X Ns (i := 2) rfl rfl <| w_args_nil ⟨B, W_call (wc_env B (by omega) fun h1 en k1 hen => w_args_nil ⟨B.mono k1, W_call (wc_lexer hols p0 (B.mono k1) (by omega) (by omega) hen (by rfl) (by rfl) (by rfl) fun h2 xl k2 lx st => w_store X ((Ns.keeps k1).keeps k2) (i := 4) rfl rfl fun h3 N3 k3 => ⟨rfl, xl, _, fun h'' k tk => st L h'' (let ⟨o, _, _, e, _⟩ := Ns; ⟨o, k1 _ _ e⟩) (fun b o n e => k b o n (k3 b o n e)) (fun b i x => tk b i ((TupKeep.of_ns ((Ns.keeps k1).keeps k2) k3) b i x)), ?_, N3⟩)⟩)⟩
  · exact fun b o n e => k3 b o n (k2 _ _ (k1 _ _ e))
end
end Mine
end
section
open PySem PySem.W PySem.Calls PyProof.Rows
set_option maxRecDepth 100000
set_option linter.all false
set_option maxHeartbeats 4000000
namespace Mine
section
variable {c : Cx} {h : Heap} {L N : Addr}
theorem gf_source (P : Params) : GFn P "_law_source" 509 (top.o_567 P) := ⟨by kernel_rfl, by kernel_rfl, by kernel_rfl, by decide, by kernel_rfl⟩
theorem gf_told (P : Params) : GFn P "_law_told" 544 (top.o_605 P) := ⟨by kernel_rfl, by kernel_rfl, by kernel_rfl, by decide, by kernel_rfl⟩
theorem gf_read (P : Params) : GFn P "_law_read" 537 (top.o_598 P) := ⟨by kernel_rfl, by kernel_rfl, by kernel_rfl, by decide, by kernel_rfl⟩
theorem law5 (B : Base c.w h) (hh : c.A.handled = none) (D : c.A.depth + 6 < recursionLimit) (U : c.A.units + 60 < cLine) {its : List Value} (hN : h.IsList N its.toArray) (hi : ∀ v ∈ its, ∃ i t, v = Value.int i t) (hl : its.length ≤ 63) {n : Int} {u : Tok} {v2 v3 v4 : Value} (Ns : h.Ns L (frm nsY [some (.ref N), some (.int n u), some v2, some v3, some v4, none, none])) {E : Value → Heap → Prop} :
    W c h (exec (hdS ((lawB c.w.params).drop 4)) (envY c.w.params L)) (fun f h' => f = .next ∧ ∃ s t, Alph s ∧ s.length ≤ 1000 ∧ KeepBut L h h' ∧ h'.Ns L (frm nsY [some (.ref N), some (.int n u), some v2, some v3, some v4, some (.str s t), none])) E := by
  have X := okY c.w.params
  refine w_assign <| w_callG (gf_source _) B <| w_args <| w_lst_between <| w_loc X Ns (i := 0) rfl rfl ⟨N, its, rfl, hN, Nat.ble_eq_true_of_le (by omega), fun h1 b' k1 n1 l1 => w_args <| w_bit (d := 16) (by decide) (by decide) (w_loc X (Ns.keeps k1) (i := 1) rfl rfl ⟨rfl, rfl⟩) <| w_args_nil ⟨B.mono k1, W_call (wc_source (t0 := 0) (B.mono k1) (by omega) (by omega) hh l1.isList ?_ ?_ fun h2 s t k2 al hs => w_store X ((Ns.keeps k1).keeps k2) (i := 5) rfl rfl fun h3 N3 k3 => ⟨rfl, s, t, al, ?_, ?_, N3⟩)⟩⟩
  · intro v hv
    rw [slicePick_plain] at hv
    simp only [List.toList_toArray] at hv
    exact hi v (List.mem_of_mem_drop (List.mem_of_mem_take hv))
  · rw [Array.length_toList]
    exact Nat.le_trans (slicePick_size_le _ _ _ _) (by rw [List.size_toArray]; omega)
  · rw [Array.length_toList] at hs
    exact Nat.le_trans hs (Nat.le_trans (Nat.mul_le_mul_left 4 (slicePick_size_le _ _ _ _)) (by rw [List.size_toArray]; omega))
  · exact fun b o n e => k3 b o n (k2 _ _ (k1 _ _ e))
theorem law6 {s : Str} {t : Tok} (hs : s.length ≤ 1000) {v1 v3 v4 : Value} {k : Bool} (Ns : h.Ns L (frm nsY [some (.ref N), some v1, some (.bool k), some v3, some v4, some (.str s t), none])) {E : Value → Heap → Prop} :
    W c h (exec (hdS ((lawB c.w.params).drop 5)) (envY c.w.params L)) (fun f h' => f = .next ∧ ∃ t2, KeepBut L h h' ∧ h'.Ns L (frm nsY [some (.ref N), some v1, some (.bool k), some v3, some v4, some (.str s t), some (.str (readOf s k) t2)])) E := by
  have X := okY c.w.params
  have hz : (1000 : Nat) < sizeLine := by decide
  refine w_assign <| w_ifexp' (k = false ∧ sl s (s.length - 1) s.length = NL) (fun g => Keep h g) (w_tboolop <| w_and <| w_tcmp <| w_slice_any <| w_loc X Ns (i := 5) rfl rfl <| w_neg fun t2 => ⟨s, _, _, _, rfl, rfl, by omega, fun h1 t' k1 => w_str fun t3 => w_eq_str <| w_tbool ?_⟩) (fun hp h' k1 => ?_) (fun hp h' k1 => ?_)
  · rw [slice_last, NL_eq]
    by_cases hc : sl s (s.length - 1) s.length = NL
    · rw [if_pos (decide_eq_true hc)]
      refine w_and <| w_tnot <| w_tval <| w_loc X (Ns.keeps k1) (i := 2) rfl rfl <| w_tbool ?_
      cases k with
      | true =>
        rw [if_neg (by simp)]
        exact ⟨k1, by simp⟩
      | false =>
        rw [if_pos (by simp)]
        exact w_and_nil ⟨k1, by simp [hc]⟩
    · rw [if_neg (by simp [hc])]
      exact ⟨k1, by simp [hc]⟩
  · refine w_slice_ns <| w_loc X (Ns.keeps k1) (i := 5) rfl rfl <| w_neg fun t2 => ⟨s, _, _, _, rfl, rfl, by omega, fun h2 t' k2 => w_store X ((Ns.keeps k1).keeps k2) (i := 6) rfl rfl fun h3 N3 k3 => ⟨rfl, t', fun b o n e => k3 b o n (k2 _ _ (k1 _ _ e)), ?_⟩⟩
    rw [slice_init] at N3
    unfold readOf
    rw [if_pos hp]
    exact N3
  · refine w_loc X (Ns.keeps k1) (i := 5) rfl rfl <| w_store X (Ns.keeps k1) (i := 6) rfl rfl fun h3 N3 k3 => ⟨rfl, t, fun b o n e => k3 b o n (k1 _ _ e), ?_⟩
    unfold readOf
    rw [if_neg hp]
    exact N3
end
end Mine
end
section
open PySem PySem.W PySem.Calls PyProof.Rows
set_option maxRecDepth 100000
set_option linter.all false
set_option maxHeartbeats 4000000
namespace Mine
open Rx
theorem least (P : Nat → Prop) : ∀ d p, (∃ j, p ≤ j ∧ j < p + d ∧ P j) → ∃ s, p ≤ s ∧ P s ∧ ∀ j, p ≤ j → j < s → ¬ P j
  | 0, p, ⟨j, h1, h2, _⟩ => absurd h2 (by omega)
  | d + 1, p, ⟨j, h1, h2, h3⟩ => by
    by_cases hp : P p
    · exact ⟨p, Nat.le_refl _, hp, fun j a b => absurd b (by omega)⟩
    · have hj : j ≠ p := fun e => hp (e ▸ h3)
      obtain ⟨s, a, b, c⟩ := least P d (p + 1) ⟨j, by omega, by omega, h3⟩
      exact ⟨s, by omega, b, fun k ka kb => if e : k = p then e ▸ hp else c k (by omega) kb⟩
def Moves (p : Nat) : List Tk × Out → Prop
  | (ts, .fault _ _) => ts = []
  | (ts, .leave p' _) => (∃ t, ts = [t]) ∧ p < p'
  | (ts, .go p' _ _) => (∃ t, ts = [t]) ∧ p < p'
theorem stepV_moves (x : Str) (p row : Nat) (stk : List Str) : Moves p (stepV x p row stk) := by
  unfold stepV
  split
  · exact ⟨⟨_, rfl⟩, by omega⟩
  · split
    · refine ⟨⟨_, rfl⟩, ?_⟩
      rw [strLen_append]
      have : (("-}}" : Str)).length = 3 := by decide +kernel
      omega
    · cases hp : pieceOf x p with
      | none => rfl
      | some ky =>
        obtain ⟨k, y⟩ := ky
        have hy := piece_pos hp
        dsimp only
        cases nextStk stk y with
        | error m => rfl
        | ok stk' => exact ⟨⟨_, rfl⟩, by omega⟩
/-- the reading comes to an end, on every text -/
theorem run_exists (x : Str) : ∀ d p row (m : Bool) (stk : List Str), x.length - p ≤ d → (m = false → stk = []) → ∃ ts r, RunF x m p row stk ts r ∧ ts.length ≤ 2 * d := by
  intro d
  induction d with
  | zero => exact fun p row m stk h _ => ⟨[], none, .done (by omega), Nat.zero_le _⟩
  | succ d ih =>
    intro p row m stk h hm
    by_cases hp : p < x.length
    · cases m with
      | true =>
        have hs := stepV_moves x p row stk
        cases e : stepV x p row stk with
        | mk ts o =>
          rw [e] at hs
          cases o with
          | fault m r => cases (show ts = [] from hs); exact ⟨[], _, .fault hp e, Nat.zero_le _⟩
          | leave p' row' =>
            obtain ⟨⟨t, rfl⟩, hlt⟩ := hs
            obtain ⟨ts, r, R, hl⟩ := ih p' row' false [] (by omega) (fun _ => rfl)
            exact ⟨t :: ts, r, .leave hp e R, by simp only [List.length_cons]; omega⟩
          | go p' row' stk' =>
            obtain ⟨⟨t, rfl⟩, hlt⟩ := hs
            obtain ⟨ts, r, R, hl⟩ := ih p' row' true stk' (by omega) (fun e => by cases e)
            exact ⟨t :: ts, r, .go hp e R, by simp only [List.length_cons]; omega⟩
      | false =>
        cases hm rfl
        by_cases ho : ∃ j, p ≤ j ∧ opens x j
        · obtain ⟨j, h1, h2⟩ := ho
          obtain ⟨s, a, b, c⟩ := least (opens x) (j + 1) p ⟨j, h1, by omega, h2⟩
          obtain ⟨ts, r, R, hl⟩ := ih (s + 2 + (signOf x s).length) (row + nl (sl x p s)) true [] (by omega) (fun e => by cases e)
          refine ⟨_, r, .enter hp (find_root (by omega) a b c) R, ?_⟩
          have : (toksE x p s row).length ≤ 2 := by
            unfold toksE
            split <;> simp
          rw [List.length_append]
          omega
        · exact ⟨_, _, .data hp (find_root0 (by omega) fun j h1 h2 => ho ⟨j, h1, h2⟩), by simp only [List.length_cons, List.length_nil]; omega⟩
    · exact ⟨[], none, .done (by omega), Nat.zero_le _⟩
end Mine
end
section
open PySem PySem.W PySem.Calls PyProof.Rows PySem.SeqAt
set_option maxRecDepth 100000
set_option linter.all false
set_option maxHeartbeats 4000000
namespace Mine
section
variable {A : Around} {s : Shared} {h : Heap}
theorem all_true (n : Nat) : ((List.range n).all fun _ => true) = true := by simp
theorem EqAt.to {y x : Value} {b b' : Bool} (e : b = b') (h : EqAt A s y x b) : EqAt A s y x b' := e ▸ h
theorem eq_tuples {a b : Addr} {xs ys : List Value} (ha : s.heap.IsTuple a xs.toArray) (hb : s.heap.IsTuple b ys.toArray) (hl : xs.length = ys.length) (hu : A.units < cLine) (he : ∀ (j : Nat) v w, xs[j]? = some v → ys[j]? = some w → EqAt A.in1 s v w true) : EqAt A s (.ref a) (.ref b) true := by
  by_cases hne : a = b
  · subst hne; exact EqAt.same _
  · refine EqAt.of_refs hne ?_
    have := RcAt.tuples (e := fun _ => true) ha hb hu (fun j h1 h2 => he j _ _ (by rw [← List.getElem?_toArray]; exact Array.getElem?_eq_getElem h1) (by rw [← List.getElem?_toArray]; exact Array.getElem?_eq_getElem h2))
    simp only [List.size_toArray, all_true, hl, beq_self_eq_true, Bool.and_self] at this
    exact this
theorem eq_tok {v w : Value} {k : Tk} (hs : s.heap = h) (hu : A.units + 1 < cLine) (a : TokV h v k) (b : TokV h w k) : EqAt A s v w true := by
  subst hs
  cases a with
  | @mk b1 r k y t u v a =>
    cases b with
    | @mk b2 _ _ _ t2 u2 v2 b =>
      refine eq_tuples (xs := [_, _, _]) (ys := [_, _, _]) a b rfl (by omega) fun j v w e1 e2 => ?_
      match j, e1, e2 with
      | 0, e1, e2 => cases e1; cases e2; exact EqAt.to (by simp) (EqAt.int_int _ _ _ _)
      | 1, e1, e2 => cases e1; cases e2; exact EqAt.to (by simp) (EqAt.str_str _ _ _ _)
      | 2, e1, e2 => cases e1; cases e2; exact EqAt.to (by simp) (EqAt.str_str _ _ _ _)
theorem Toks.get : ∀ {vs : List Value} {ks : List Tk}, Toks h vs ks → ∀ {j : Nat} {v : Value}, vs[j]? = some v → ∃ k, ks[j]? = some k ∧ TokV h v k
  | _, _, .nil, j, v, e => by cases j <;> cases e
  | _, _, .cons a r, 0, v, e => by cases e; exact ⟨_, rfl, a⟩
  | _, _, .cons a r, j + 1, v, e => by
    rw [List.getElem?_cons_succ] at e ⊢
    exact r.get e
theorem eq_flt {v w : Value} {r : Option (Str × Nat)} (hs : s.heap = h) (hu : A.units + 1 < cLine) (a : FltV h v r) (b : FltV h w r) : EqAt A s v w true := by
  subst hs
  cases r with
  | none => cases a; cases b; exact EqAt.same _
  | some mr =>
    obtain ⟨m, r⟩ := mr
    obtain ⟨b1, t1, u1, rfl, e1⟩ := a
    obtain ⟨b2, t2, u2, rfl, e2⟩ := b
    refine eq_tuples (xs := [_, _]) (ys := [_, _]) e1 e2 rfl (by omega) fun j v w e1 e2 => ?_
    match j, e1, e2 with
    | 0, e1, e2 => cases e1; cases e2; exact EqAt.to (by simp) (EqAt.str_str _ _ _ _)
    | 1, e1, e2 => cases e1; cases e2; exact EqAt.to (by simp) (EqAt.int_int _ _ _ _)
theorem eq_lists {a b : Addr} {xs ys : List Value} {ts : List Tk} (hs : s.heap = h) (ha : Lst h a xs) (hb : Lst h b ys) (hx : Toks h xs ts) (hy : Toks h ys ts) (hu : A.units + 2 < cLine) : EqAt A s (.ref a) (.ref b) true := by
  subst hs
  by_cases hne : a = b
  · subst hne; exact EqAt.same _
  · refine EqAt.of_refs hne ?_
    have := RcAt.lists (e := fun _ => true) ha.isList hb.isList (by rw [List.size_toArray, List.size_toArray, hx.len, hy.len]) (by omega : A.units < cLine) (fun j h1 h2 => by
      obtain ⟨k1, e1, q1⟩ := hx.get (j := j) (v := xs.toArray[j]) (by rw [← List.getElem?_toArray]; exact Array.getElem?_eq_getElem h1)
      obtain ⟨k2, e2, q2⟩ := hy.get (j := j) (v := ys.toArray[j]) (by rw [← List.getElem?_toArray]; exact Array.getElem?_eq_getElem h2)
      rw [e1] at e2
      cases e2
      exact eq_tok rfl (by show A.units + 1 + 1 < cLine; omega) q1 q2)
    rw [all_true] at this
    exact this
end
section
variable {c : Cx} {h : Heap} {E : Value → Heap → Prop}
theorem w_eq_res {v w : Value} {ts : List Tk} {r : Option (Str × Nat)} {Q : Value → Heap → Prop} (hu : c.A.units + 4 < cLine) (a : LRes h v ts r) (b : LRes h w ts r) (q : Q (.bool true) h) : W c h (compareOp .Eq v w) Q E := fun tk => by
  obtain ⟨a1, T1, tv1, f1, rfl, e1, l1, t1, g1⟩ := a
  obtain ⟨a2, T2, tv2, f2, rfl, e2, l2, t2, g2⟩ := b
  refine eq_tupleAt (s := c.st h tk) (e := fun _ => true) e1 e2 (by omega) (fun j h1 h2 => ?_) ?_
  · match j, h1, h2 with
    | 0, h1, h2 => exact eq_lists (s := c.st h tk) rfl l1 l2 t1 t2 (by show c.A.units + 1 + 2 < cLine; omega)
    | 1, h1, h2 => exact eq_flt (s := c.st h tk) rfl (by show c.A.units + 1 + 1 < cLine; omega) g1 g2
  · exact ⟨h, tk, rfl, q⟩
end
end Mine
end
section
open PySem PySem.W PySem.Calls PyProof.Rows
set_option maxRecDepth 100000
set_option linter.all false
set_option maxHeartbeats 4000000
namespace Mine
theorem LRes.keep {h h' : Heap} {v : Value} {ts : List Tk} {r : Option (Str × Nat)} (x : LRes h v ts r) (k : Keep h h') : LRes h' v ts r := by
  obtain ⟨a, T, tv, fv, e, e1, e2, e3, e4⟩ := x
  have tk : TupKeep h h' := .of_keep k
  exact ⟨a, T, tv, fv, e, tk _ _ e1, e2.keep k, e3.tup tk, e4.tup tk⟩
theorem readOf_ok {s : Str} {kp : Bool} (ha : Alph s) (hl : s.length ≤ 1000) : Alph (readOf s kp) ∧ (readOf s kp).length ≤ 1000 := by
  unfold readOf
  split
  · exact ⟨ha.sl _ _, by rw [sl_len]; omega⟩
  · exact ⟨ha, hl⟩
section
variable {c : Cx} {hc : Heap} {N : Addr}
/-- law, whole -/
theorem law_call (B : Base c.w hc) (hh : c.A.handled = none) (D : c.A.depth + 20 < recursionLimit) (U : c.A.units + 100 < cLine) (p0 : c.prog = P0) (fr : c.A.frames = some []) {its : List Value} (hN : hc.IsList N its.toArray) (hi : ∀ v ∈ its, ∃ i t, v = Value.int i t) (hl : its.length ≤ 63) {Rr : Result → Shared → Prop}
    (q : ∀ h' tk, Keep hc h' → Rr (.ok (.ret (.bool true))) ((c.wg (c.g.push .finished)).st h' tk)) : ∀ tk, codeAny (model c.prog c.w) c.A (.call (.ref 551) ⟨[.ref N], []⟩) Rr (c.st hc tk) := fun tk => by
  have X := okY c.w.params
  have hdata : (top.o_612 c.w.params).data = .func (Calls.docDef "law" (fparams (top.o_612 c.w.params)) (fbody (top.o_612 c.w.params)) (fscope (top.o_612 c.w.params)) (fmod (top.o_612 c.w.params)) (.ref 550) (fdoc (top.o_612 c.w.params))) := by kernel_rfl
  have hbind : bindArgs (Calls.docDef "law" (fparams (top.o_612 c.w.params)) (fbody (top.o_612 c.w.params)) (fscope (top.o_612 c.w.params)) (fmod (top.o_612 c.w.params)) (.ref 550) (fdoc (top.o_612 c.w.params))) ⟨[.ref N], []⟩ = pure (([("script" : Str)] : List Str).zip [.ref N]) := by kernel_rfl
  refine codeAny_call_def (s := c.st hc tk) (binds := ([("script" : Str)] : List Str).zip [.ref N]) (by omega) (base_at B (by kernel_rfl) (by decide) (by kernel_rfl)) hdata (base_lim B) (cr_of (top.o_611 c.w.params) B (by kernel_rfl) (by decide) (by kernel_rfl) (by kernel_rfl)) rfl (.of_eq hbind) (cellFree.of (by kernel_rfl)) (fun y hy => X.loc y.1 (List.mem_append_left _ (List.of_mem_zip hy).1)) (fun h0 hn hk => ?_) (by kernel_rfl) (by kernel_rfl) X.kind
  rw [frm_binds X.nd rfl] at hn
  have nL : New hc hc.objs.size := New.of_le (Nat.le_refl _)
  have nLH : New (H1 c.w.params) hc.objs.size := B.new nL
  have B0 : Base c.w h0 := B.mono hk
  obtain ⟨oN, eN, cN, dN⟩ := id hN
  have hNL : N ≠ hc.objs.size := nL.ne eN
  have hN0 : h0.IsList N its.toArray := ⟨oN, hk _ _ eN, cN, dN⟩
  have D1 : (c.A.deeper (envY c.w.params hc.objs.size)).depth = c.A.depth + 1 := rfl
  have U1 : (c.A.deeper (envY c.w.params hc.objs.size)).units = c.A.units + 3 := rfl
  refine wpAny_execs_cons (wpAny_mono (law1 (c := { c with A := c.A.deeper (envY c.w.params hc.objs.size) }) (E := fun _ _ => False) hn hN0 hi (by omega) _) (fun f s' ⟨h1, tk1, e, ef, n, u, k1, N1⟩ => ?_) fun _ _ ⟨_, _, _, f⟩ => f.elim)
  subst e ef
  refine wpAny_execs_cons (wpAny_mono (law2 (c := { c with A := c.A.deeper (envY c.w.params hc.objs.size) }) (E := fun _ _ => False) N1 _) (fun f s' ⟨h2, tk2, e, ef, k2, N2⟩ => ?_) fun _ _ ⟨_, _, _, f⟩ => f.elim)
  subst e ef
  refine wpAny_execs_cons (wpAny_mono (law3 (c := { c with A := c.A.deeper (envY c.w.params hc.objs.size) }) (E := fun _ _ => False) N2 _) (fun f s' ⟨h3, tk3, e, ef, b, hb, k3, N3⟩ => ?_) fun _ _ ⟨_, _, _, f⟩ => f.elim)
  subst e ef
  have k03 : KeepBut hc.objs.size h0 h3 := fun b o n e => k3 _ _ n (k2 _ _ n (k1 _ _ n e))
  have B3 : Base c.w h3 := B0.but k03 nLH
  refine wpAny_execs_cons (wpAny_mono (law4 (c := { c with A := c.A.deeper (envY c.w.params hc.objs.size) }) (E := fun _ _ => False) B3 p0 (by show c.A.depth + 1 + 6 < recursionLimit; omega) (by show c.A.units + 3 + 60 < cLine; omega) N3 _) (fun f s' ⟨h4, tk4, e, ef, xl, b2, lex, k4, N4⟩ => ?_) fun _ _ ⟨_, _, _, f⟩ => f.elim)
  subst e ef
  have k04 : KeepBut hc.objs.size h0 h4 := fun b o n e => k4 _ _ n (k03 _ _ n e)
  refine wpAny_execs_cons (wpAny_mono (law5 (c := { c with A := c.A.deeper (envY c.w.params hc.objs.size) }) (E := fun _ _ => False) (B0.but k04 nLH) hh (by show c.A.depth + 1 + 6 < recursionLimit; omega) (by show c.A.units + 3 + 60 < cLine; omega) (its := its) ⟨oN, k04 _ _ hNL (hk _ _ eN), cN, dN⟩ hi hl N4 _) (fun f s' ⟨h5, tk5, e, ef, s, t, al, sl5, k5, N5⟩ => ?_) fun _ _ ⟨_, _, _, f⟩ => f.elim)
  subst e ef
  refine wpAny_execs_cons (wpAny_mono (law6 (c := { c with A := c.A.deeper (envY c.w.params hc.objs.size) }) (E := fun _ _ => False) sl5 N5 _) (fun f s' ⟨h6, tk6, e, ef, t2, k6, N6⟩ => ?_) fun _ _ ⟨_, _, _, f⟩ => f.elim)
  subst e ef
  have k06 : KeepBut hc.objs.size h0 h6 := fun b o n e => k6 _ _ n (k5 _ _ n (k04 _ _ n e))
  have B6 : Base c.w h6 := B0.but k06 nLH
  have lx : IsLexer c.prog c.w h6 xl (.bool b2) (.bool (bit n 4)) := lex h6 (fun b o n e => k6 _ _ n (k5 _ _ n e)) (fun b i x => (TupKeep.of_ns N5 k6) b i ((TupKeep.of_ns N4 k5) b i x))
  have kc6 : Keep hc h6 := fun a o e => k06 a o (nL.ne e) (hk _ _ e)
  have hz : (10000 : Nat) < sizeLine := by decide
  obtain ⟨ra, rl⟩ := readOf_ok (kp := bit n 4) al sl5
  obtain ⟨ts, r, R, hts⟩ := run_exists (readOf s (bit n 4)) (readOf s (bit n 4)).length 0 1 (bit n 8) [] (by omega) (fun _ => rfl)
  have hfr : h6.FunFrames (H1 c.w.params) [envY c.w.params hc.objs.size] := Heap.FunFrames.cons (by rw [show (envY c.w.params hc.objs.size).scope.kind = _ from X.kind]; simp) rfl N6 nLH trivial
  -- the last statement
  refine wpAny_execs_cons (wpAny_Return_some (wpAny_Compare1 (Call_ (wpAny_mono ((w_glob (c := { c with A := c.A.deeper (envY c.w.params hc.objs.size) }) (sc := fscope (top.o_612 c.w.params)) (nm := "law") (L := hc.objs.size) (a := 551) (cd := .ref 550) (E := fun _ _ => False) (Q := fun v h' => v = .ref 544 ∧ h' = h6) (base_g B6) (gf_told _).m ⟨rfl, rfl⟩) tk6) (fun v s' ⟨h7, tk7, e, e1, e2⟩ => ?_) fun _ _ ⟨_, _, _, f⟩ => f.elim))))
  subst e e1 e2
  obtain ⟨fd, hfd⟩ := isFn.of (gf_told c.w.params).fn
  refine callWith_def hfd (wpAny_mono ((w_args (c := { c with A := c.A.deeper (envY c.w.params hc.objs.size) }) (E := fun _ _ => False) (Q := fun vs g => vs = [.ref xl, .str s t, b] ∧ g = h7) <| w_loc X N6 (i := 4) rfl rfl <| w_args <| w_loc X N6 (i := 5) rfl rfl <| w_args <| w_loc X N6 (i := 3) rfl rfl <| w_args_nil ⟨rfl, rfl⟩) tk7) (fun vs s' ⟨g, tk8, e, ev, eg⟩ => ?_) fun _ _ ⟨_, _, _, f⟩ => f.elim) (by rfl)
  subst e ev eg
  refine ⟨base_at B6 (gf_told c.w.params).get (gf_told c.w.params).lt (gf_told c.w.params).al, wpAny_call (told_call (c := { c with A := c.A.deeper (envY c.w.params hc.objs.size) }) hh (by show c.A.depth + 1 + 10 < recursionLimit; omega) (by show c.A.units + 3 + 60 < cLine; omega) p0 (Around.frames_deeper fr) B6 hfr lx al sl5 rfl hb R (by omega) (fun h9 tk9 v B9 kc9 res => ?_) tk8)⟩
  have N9 := kc9.up.ns N6
  have kept : ∀ a o, hc.get? a = some o → h9.get? a = some o := fun a o e => kc9.old a o (by
    intro hm
    simp only [List.filterMap_cons, List.filterMap_nil] at hm
    have : a = hc.objs.size := by simpa [envOf] using hm
    exact (nL.ne e) this) (kc6 a o e)
  have hbm : (!(b == Value.none)) = bit n 8 := by
    rcases hb with ⟨e1, e2⟩ | ⟨⟨u, e1⟩, e2⟩
    · subst e1; rw [e2]; rfl
    · subst e1; rw [e2]; rfl
  refine wpAny_mono ((w_callG (c := { c with A := c.A.deeper (envY c.w.params hc.objs.size), g := c.g.push .finished }) (E := fun _ _ => False) (Q := fun w g => Keep h9 g ∧ LRes g w ts r) (gf_read _) B9 <| w_args <| w_loc X N9 (i := 6) rfl rfl <| w_args <| w_cmp <| w_loc X N9 (i := 3) rfl rfl <| w_none <| w_isnot_none <| w_args_nil ⟨B9, ?_⟩) tk9) (fun w s' ⟨g, tk10, e, k10, res2⟩ => ?_) fun _ _ ⟨_, _, _, f⟩ => f.elim
  · rw [hbm]
    exact W_call (wc_read (c := { c with A := c.A.deeper (envY c.w.params hc.objs.size), g := c.g.push .finished }) B9 (by show c.A.depth + 1 + 3 < recursionLimit; omega) (by show c.A.units + 3 + 14 < cLine; omega) hh (by omega) ra.lt R (by omega) fun h' v k res => ⟨k, res⟩)
  · subst e
    refine wpAny_mono (w_eq_res (c := { c with A := c.A.deeper (envY c.w.params hc.objs.size), g := c.g.push .finished }) (E := fun _ _ => False) (Q := fun v g' => v = .bool true ∧ g' = g) (by show c.A.units + 3 + 4 < cLine; omega) (res.keep k10) res2 ⟨rfl, rfl⟩ tk10) (fun v s' ⟨g', tk11, e, e1, e2⟩ => ?_) fun _ _ ⟨_, _, _, f⟩ => f.elim
    subst e e1 e2
    exact q g' tk11 (fun a o e => k10 _ _ (kept a o e))
end
end Mine
end
section
open PySem PySem.W PySem.Calls PyProof.Rows
set_option maxRecDepth 100000
set_option linter.all false
set_option maxHeartbeats 4000000
namespace Mine
abbrev RW0 : RowW := PySem.Challenge.rw_bw0017_01.row.toRowW
theorem has_ints {d : WData} (h : WShape.has [] d (.list .int) = true) : ∃ xs, d = .list xs ∧ WShape.hasItems [] xs .int = true := by
  cases d with
  | list xs => exact ⟨xs, rfl, by simpa [WShape.has, WShape.arms] using h⟩
  | _ => simp [WShape.has, WShape.arms] at h
theorem items_ints : ∀ {xs : List WData}, WShape.hasItems [] xs .int = true → ∀ x ∈ xs, ∃ i, x = .int i
  | [], _, x, hx => by cases hx
  | y :: ys, h, x, hx => by
    rw [WShape.hasItems, Bool.and_eq_true] at h
    rcases List.mem_cons.mp hx with rfl | hx
    · cases x with
      | int i => exact ⟨i, rfl⟩
      | _ => simp [WShape.has, WShape.arms] at h
    · exact items_ints h.2 x hx
theorem pre_ints {args : List WData} (h : RW0.claim.pre args = true) : ∃ xs, args = [.list xs] ∧ (∀ x ∈ xs, ∃ i, x = .int i) ∧ xs.length ≤ 63 := by
  have h' : (WShape.hasAll [] args [.list .int] && WTm.holds [] (.and (.not (.lt (.lit (.int 63)) (.len (.arg 0)))) (.lit (.bool true))) { args := args }) = true := h
  rw [Bool.and_eq_true] at h'
  obtain ⟨h1, h2⟩ := h'
  cases args with
  | nil => simp [WShape.hasAll] at h1
  | cons d rest =>
    rw [WShape.hasAll, Bool.and_eq_true] at h1
    cases rest with
    | cons e r => simp [WShape.hasAll] at h1
    | nil =>
      obtain ⟨xs, rfl, hx⟩ := has_ints h1.1
      refine ⟨xs, rfl, items_ints hx, ?_⟩
      refine Nat.le_of_not_lt fun hlt => ?_
      have e : WTm.value [] (.not (.lt (.lit (.int 63)) (.len (.arg 0)))) { args := [.list xs] } = some (.bool false) := by
        have : decide ((63 : Int) < (xs.length : Int)) = true := by simp; omega
        simp [WTm.value, this, less?, Num.less?]
      rw [WTm.holds, WTm.value, e] at h2
      cases h2
theorem reads_ints {R : WRecords} {cl : Str → Option Addr} {h : Heap} : ∀ {xs : List WData} {vs : List Value} {as : List Addr}, ReadsAllW R cl h vs xs as → (∀ x ∈ xs, ∃ i, x = .int i) → (∀ v ∈ vs, ∃ i t, v = Value.int i t) ∧ vs.length = xs.length
  | [], _, _, r, _ => by
    cases r
    exact ⟨(fun v hv => by cases hv), rfl⟩
  | x :: xs, _, _, r, hx => by
    cases r with
    | cons r1 r2 =>
      obtain ⟨i, rfl⟩ := hx x List.mem_cons_self
      cases r1
      obtain ⟨a, b⟩ := reads_ints r2 fun y hy => hx y (List.mem_cons_of_mem _ hy)
      refine ⟨fun v hv => ?_, by rw [List.length_cons, List.length_cons, b]⟩
      rcases List.mem_cons.mp hv with rfl | hv
      · exact ⟨_, _, rfl⟩
      · exact a v hv
theorem walk : WalkO q0 loose0 (fun _ _ => True) Base RW0 d0 [] fun f vs => PySem.call f vs := by
  intro w s₀ s₁ mg mb G B a o pm cd doc dV kV ho hd hcd dfl hmg hg args vals as hpre hlay hreads hwell hsys
  obtain ⟨xs, rfl, hx, hl⟩ := pre_ints hpre
  obtain ⟨oG, es, ep, eG, dG, skG, fG⟩ := G.T.g
  obtain ⟨oG', es', ep', eG', dG', skG', fG'⟩ := base_g B
  rw [eG] at eG'
  cases eG'
  rw [dG] at dG'
  cases dG'
  have ha : a = 551 := by
    have e1 : mg0 w.params "law" = some (.ref 551) := by kernel_rfl
    have e2 : mg "law" = some (.ref a) := hmg
    rw [← fG] at e2
    rw [← fG', e2] at e1
    cases e1
    rfl
  subst ha
  cases hreads with
  | cons r1 r2 =>
    cases r2
    cases r1 with
    | @list N oN vs n xs as' eN cN dN r =>
      obtain ⟨hi, hlen⟩ := reads_ints r hx
      obtain ⟨h, g, d, tk, os⟩ := s₁
      cases hg
      refine wpAny_call (law_call (c := { prog := P0, w := w, A := callerA, g := #[], d := d, os := os }) B rfl (show callerA.depth + 20 < recursionLimit by decide +kernel) (show callerA.units + 100 < cLine by decide +kernel) rfl rfl (its := vs.toList) ⟨oN, eN, cN, n, by rw [Array.toArray_toList]; exact dN⟩ hi (by rw [hlen]; exact hl) (fun h' tk' k => ?_) tk)
      refine ⟨.inl ⟨.bool true, .bool true, [], rfl, fun _ => rfl, .bool true, ?_, fun _ => ⟨List.nodup_nil, fun _ hm => by cases hm⟩⟩, OldK.of_keep k, rfl, ?_⟩
      · show (WShape.has [] (.bool true) .bool && WTm.holds [] (.eq .res (.lit (.bool true))) { args := [.list xs], res := some (.bool true), after := [.list xs] }) = true
        have e : same (.bool true) (.bool true) = true := by first | rfl | kernel_rfl | decide +kernel | simp [same]
        simp [WShape.has, WShape.arms, WTm.holds, WTm.value, e]
      · intro y hy
        have : y = .finished := by simpa using hy
        subst this
        rfl
end Mine
end
open PySem PySem.W PySem.Calls PyProof.Rows
set_option maxRecDepth 100000
set_option linter.all false
set_option maxHeartbeats 4000000
theorem PySem.Challenge.cw_bw0017_01_holds : PySem.Challenge.rw_bw0017_01.Holds := by
  o_law
  rename_i said
  exact Mine.rowHolds said Mine.t_prom Mine.walk
