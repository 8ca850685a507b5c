import PyProof.Rows.All
import Wide.All
import OpenK.AllK
import Wide.FinOn
import PySem.Challenge.RW_pm0012_01
/-! The law of _pre_parse_validation: one contract for each function, the walk of the law, and its plain law. -/
set_option Elab.async false
set_option maxRecDepth 100000
set_option linter.all false
section
open PySem PySem.W PyProof.Rows
set_option maxHeartbeats 8000000
open_top hd for PySem.Challenge.rw_pm0012_01
end
section
set_option maxHeartbeats 2000000
open PySem PySem.W PyProof.Rows PySem.Calls PySem.Spec
namespace Mine

/-- the names that the law's file binds -/
noncomputable abbrev loose39 : List Str := looseW hd.view_39 [] ++ (recsOf hd.view_39).map (·.name) ++ (litsOf hd.view_39).map (·.1) ++ (clssOf hd.view_39 (looseW hd.view_39 [])).map (·.name)
/-- the program's ground at a heap -/
structure Gd (w : World) (mean : ExcName → Option Value) (mg mb : Str → Option Value) (h : Heap) : Prop where
  X : (hd.heap_39 w.params).In h
  T : Top topProg loose39 mean mg mb h
theorem Gd.keeps {w : World} {mean : ExcName → Option Value} {mg mb : Str → Option Value} {h h' : Heap} (G : Gd w mean mg mb h) (k : ∀ b o, h.get? b = some o → h'.get? b = some o) : Gd w mean mg mb h' :=
  ⟨G.X.keeps k, G.T.keeps k⟩

/-- the generators' states: those of G₀ as they were, behind them bare ones -/
abbrev GB (G₀ gs : Array GenState) : Prop := ∃ more : Array GenState, gs = G₀ ++ more ∧ AllBare more
theorem GB.refl (G₀ : Array GenState) : GB G₀ G₀ := ⟨#[], by simp, .empty⟩
theorem GB.set {G₀ gs : Array GenState} {g : Nat} {x : GenState} (h : GB G₀ gs) (hg : G₀.size ≤ g) (hx : x.bare = true) : GB G₀ (gs.setIfInBounds g x) := by
  obtain ⟨more, rfl, hb⟩ := h
  refine ⟨more.setIfInBounds (g - G₀.size) x, ?_, fun y hy => ?_⟩
  · rw [Array.setIfInBounds_append_right hg]
  · rcases Array.mem_or_eq_of_mem_setIfInBounds hy with h | h
    · exact hb y h
    · subst h; exact hx
theorem GB.push {G₀ gs : Array GenState} {x : GenState} (h : GB G₀ gs) (hx : x.bare = true) : GB G₀ (gs.push x) := by
  obtain ⟨more, rfl, hb⟩ := h
  refine ⟨more.push x, by simp, fun y hy => ?_⟩
  rcases Array.mem_push.mp hy with h | h
  · exact hb y h
  · subst h; exact hx
theorem GB.size {G₀ gs : Array GenState} (h : GB G₀ gs) : G₀.size ≤ gs.size := by
  obtain ⟨more, rfl, _⟩ := h
  rw [Array.size_append]; exact Nat.le_add_right _ _
theorem GB.trans {a b c : Array GenState} (h : GB a b) (k : GB b c) : GB a c := by
  obtain ⟨m, rfl, hm⟩ := h
  obtain ⟨n, rfl, hn⟩ := k
  refine ⟨m ++ n, by simp, fun y hy => ?_⟩
  rcases Array.mem_append.mp hy with h | h
  · exact hm y h
  · exact hn y h

/-- what a call of the text's leaves: everything as it was, new things beside -/
structure Ext (s s' : Shared) : Prop where
  heap : ∀ b o, s.heap.get? b = some o → s'.heap.get? b = some o
  os : s'.os = s.os
  drawn : s'.drawn = s.drawn
  gens : GB s.gens s'.gens

theorem Ext.refl (s : Shared) : Ext s s := ⟨fun _ _ e => e, rfl, rfl, #[], by simp, .empty⟩
theorem Ext.trans {a b c : Shared} (h : Ext a b) (k : Ext b c) : Ext a c := ⟨fun x o e => k.heap x o (h.heap x o e), k.os.trans h.os, k.drawn.trans h.drawn, h.gens.trans k.gens⟩
theorem Ext.fr {h₀ : Heap} {L : Addr} {m : Str → Option Value} {s s' : Shared} (F : Fr h₀ L s.heap m) (x : Ext s s') : Fr h₀ L s'.heap m := ⟨F.ns.keeps x.heap, fun b o e => x.heap b o (F.keep b o e), F.above⟩
theorem Ext.news {h₀ : Heap} {L : Addr} {news : List (Addr × Obj)} {s s' : Shared} (N : News h₀ L s.heap news) (x : Ext s s') : News h₀ L s'.heap news := fun p hp => ⟨x.heap _ _ (N p hp).1, (N p hp).2⟩
theorem Ext.of {s s' : Shared} {L : Addr} {m : Str → Option Value} (F : Fr s.heap L s'.heap m) (h : s'.os = s.os) (g : GB s.gens s'.gens) (d : s'.drawn = s.drawn) : Ext s s' := ⟨F.keep, h, d, g⟩

/-- an around that knows nothing but room -/
abbrev rm (d u : Nat) : Around := { handled := none, depth := d, frames := none, guards := none, units := u }

theorem in_rm {Γ : PySem.Ctx} {A : Around} {d u : Nat} (hh : A.handled = none) (hd : A.depth ≤ d) (hu : A.units ≤ u) (h : Γ.In A) : Γ.In (rm d u) :=
  ⟨h.1.trans hh, Nat.le_trans h.2.1 hd, fun _ e => (nomatch e), fun _ e => (nomatch e), Nat.le_trans h.2.2.2.2 hu⟩
theorem below_rm {Γ : PySem.Ctx} {A : Around} {d u : Nat} (hh : A.handled = none) (hd : A.depth ≤ d) (hu : A.units ≤ u) (h : Γ.Below A) : Γ.Below (rm d u) :=
  ⟨h.1.trans hh, Nat.le_trans h.2.1 hd, fun _ e => (nomatch e), fun _ e => (nomatch e), Nat.le_trans h.2.2.2.2 hu⟩
theorem code_rm {M : Model} {A : Around} {d u : Nat} {c : Code} {R : Result → Shared → Prop} {s : Shared} (hh : A.handled = none) (hd : A.depth ≤ d) (hu : A.units ≤ u) (h : codeAny M (rm d u) c R s) : codeAny M A c R s :=
  fun Γ p hc hΓ => h Γ p hc (below_rm hh hd hu hΓ)
theorem any_rm {α : Type} {M : Model} {A : Around} {d u : Nat} {t : Sem α} {Q : α → Shared → Prop} {E : Value → Shared → Prop} {s : Shared} (hh : A.handled = none) (hd : A.depth ≤ d) (hu : A.units ≤ u) (h : wpAny M (rm d u) t Q E s) : wpAny M A t Q E s :=
  fun Γ p hΓ => h Γ p (in_rm hh hd hu hΓ)

section
variable {prog : Program} {w : World} {mean : ExcName → Option Value} {mg mb : Str → Option Value} {A : Around} {s : Shared} {R : Result → Shared → Prop}
  {name qual : Str} {params : Arguments} {body : List Stmt} {scope : Scope} {dV kV doc pm cdv ct oc : Value} {an od : Option Addr} {osl : Array (Option Value)} {f : Addr} {args : Args} {binds : List (Str × Value)}

/-- entering a def without cells -/
theorem enterP (G : Gd w mean mg mb s.heap)
    (ho : (hd.heap_39 w.params).lookup f = some ⟨oc, od, .func (fnOf name qual params body scope dV kV doc pm an cdv ct), osl⟩) (hcd : codeIn (hd.heap_39 w.params) cdv qual = true) (hroom : A.depth < recursionLimit)
    (hbind : BindsTo s (fnOf name qual params body scope dV kV doc pm an cdv ct) args binds) (hloc : ∀ y ∈ binds, scope.names.lookup y.1 = some .local)
    (hcell : ∀ x ∈ scope.names, x.2 ≠ .cell) (hco : scope.isCoroutine = false) (hgen : scope.isGenerator = false) (hk : scope.kind = .function)
    (h : ∀ h₁, Fr s.heap s.heap.objs.size h₁ (fun y => binds.reverse.lookup y) → News s.heap s.heap.objs.size h₁ [] →
      wpAny (model prog w) (A.deeper (envOf qual scope s.heap.objs.size f cdv)) (execs body (envOf qual scope s.heap.objs.size f cdv))
        (fun fl s' => R (.ok (.ret (match fl with | .ret v => v | _ => .none))) s') (fun _ _ => False)
        { s with heap := h₁, toks := s.toks + binds.length }) :
    codeAny (model prog w) A (.call (.ref f) args) R s := by
  refine codeAny_call_def (fd := fnOf name qual params body scope dV kV doc pm an cdv ct) (body := body) (binds := binds) hroom (G.X _ _ ho) rfl G.T.nolimit (codeRec_of G.X hcd) rfl hbind hcell hloc (fun h₁ hns hk₁ => ?_) hco hgen hk
  exact wpAny_mono (h h₁ ⟨hns, hk₁, Nat.le_refl _⟩ .nil) (fun _ _ x => x) (fun _ _ x => x.elim)

/-- entering a def with cells -/
theorem enterC (G : Gd w mean mg mb s.heap)
    (ho : (hd.heap_39 w.params).lookup f = some ⟨oc, od, .func (fnOf name qual params body scope dV kV doc pm an cdv ct), osl⟩) (hcd : codeIn (hd.heap_39 w.params) cdv qual = true) (hroom : A.depth < recursionLimit)
    (hbind : BindsTo s (fnOf name qual params body scope dV kV doc pm an cdv ct) args binds)
    (hkind : (binds.all fun y => scope.names.lookup y.1 == some .local || scope.names.lookup y.1 == some .cell) = true)
    (hnd : ((cellsFrom 0 scope.names []).map (·.1)).Nodup)
    (hco : scope.isCoroutine = false) (hgen : scope.isGenerator = false) (hk : scope.kind = .function)
    (h : ∀ h₁ tk cells, Fr s.heap s.heap.objs.size h₁ (bindL (envOfC qual scope s.heap.objs.size f cdv).kindOf binds fun _ => none) → News s.heap s.heap.objs.size h₁ cells →
      CellsAre (bindC (envOfC qual scope s.heap.objs.size f cdv).kindOf binds fun _ => none) (cellsFrom (s.heap.objs.size + 1) scope.names []) cells →
      wpAny (model prog w) (A.deeper (envOfC qual scope s.heap.objs.size f cdv)) (execs body (envOfC qual scope s.heap.objs.size f cdv))
        (fun fl s' => R (.ok (.ret (match fl with | .ret v => v | _ => .none))) s') (fun _ _ => False)
        { s with heap := h₁, toks := tk }) :
    codeAny (model prog w) A (.call (.ref f) args) R s := by
  refine codeAny_call_function hroom (G.X _ _ ho) rfl hco hgen rfl (codeRec_of G.X hcd) (hbind _ _ _ _ ?_)
  refine wpAny_newFunctionEnv_cells hk (kindsX hkind _) fun env' he s' x => ?_
  subst he
  refine ⟨G.T.nolimit.keeps x.toInCall.keep, codeAny_func ?_⟩
  obtain ⟨h₁, tk, rfl, _⟩ := x.done
  have hk₁ := x.toInCall.keep
  obtain ⟨cells, NC, Y⟩ := Cl.news (h₀ := s.heap) (Nat.le_refl _) fun n c hm => ⟨x.cell n c (lookup_of_mem_nodup (cellsFrom_names scope.names 0 (s.heap.objs.size + 1) [] [] rfl ▸ hnd) hm), x.above n c hm⟩
  exact wpAny_mono (h h₁ tk cells ⟨x.toInCall.ns, hk₁, Nat.le_refl _⟩ NC Y) (fun _ _ x => x) (fun _ _ x => x.elim)
end
end Mine
end
section
set_option maxHeartbeats 8000000
open PySem PySem.W PyProof.Rows PySem.Calls PySem.Spec
namespace Mine
def Stop (P : Prop) : Prop := P
theorem stop_intro {P : Prop} (h : Stop P) : P := h
local macro_rules | `(tactic| walk_at "exec For Name Name cons nil") => `(tactic| refine stop_intro ?_)
local macro_rules | `(tactic| walk_at "call ref") => `(tactic| refine stop_intro ?_)

theorem fr_pin {h₀ h : Heap} {L : Addr} {m : Str → Option Value} {y : Str} {u : Value} (F : Fr h₀ L h m) (e : m y = some u) : Fr h₀ L h (fun z => if z = y then some u else m z) := by
  have : (fun z => if z = y then some u else m z) = m := by
    funext z
    by_cases q : z = y
    · subst q; rw [if_pos rfl]; exact e.symm
    · rw [if_neg q]
  rw [this]; exact F

/-- what _law_whole answers -/
def wholeB (ns : List Int) : Bool := ((List.range (ns.length + 1)).all fun j => decide (0 ≤ (ns.take j).sum)) && decide (ns.sum = 0)
theorem wholeB_neg {ns : List Int} {j : Nat} (h : (ns.take j).sum < 0) : wholeB ns = false := by
  unfold wholeB
  rw [Bool.and_eq_false_iff]
  left
  rw [List.all_eq_false]
  by_cases hj : j ≤ ns.length
  · exact ⟨j, by simp; omega, by simp; omega⟩
  · refine ⟨ns.length, by simp, ?_⟩
    have : ns.take j = ns.take ns.length := by rw [List.take_of_length_le (by omega), List.take_length]
    rw [← this]; simp; omega
theorem wholeB_pos {ns : List Int} (h : ∀ j ≤ ns.length, 0 ≤ (ns.take j).sum) : wholeB ns = decide (ns.sum = 0) := by
  unfold wholeB
  have : ((List.range (ns.length + 1)).all fun j => decide (0 ≤ (ns.take j).sum)) = true := by
    rw [List.all_eq_true]
    intro j hj
    have : j ≤ ns.length := by have := List.mem_range.mp hj; omega
    exact decide_eq_true (h j this)
  rw [this, Bool.true_and]

theorem whole_st0 : (0 : Int) = ([] : List Int).sum ∧ ∀ j ≤ ([] : List Int).length, 0 ≤ (([] : List Int).take j).sum := ⟨rfl, by intro j _; simp⟩
theorem whole_st {pre : List Int} {d k : Int} (h : d = pre.sum ∧ ∀ j ≤ pre.length, 0 ≤ (pre.take j).sum) (hk : 0 ≤ d + k) : d + k = (pre ++ [k]).sum ∧ ∀ j ≤ (pre ++ [k]).length, 0 ≤ ((pre ++ [k]).take j).sum := by
  obtain ⟨h1, h2⟩ := h
  refine ⟨by simp [h1], fun j hj => ?_⟩
  rw [List.length_append, List.length_singleton] at hj
  by_cases q : j ≤ pre.length
  · rw [List.take_append_of_le_length q]; exact h2 j q
  · rw [List.take_of_length_le (by rw [List.length_append, List.length_singleton]; omega)]
    simp; omega

theorem Ext.of_fr {s : Shared} {L : Addr} {h : Heap} {m : Str → Option Value} {tk : Nat} (F : Fr s.heap L h m) : Ext s { heap := h, gens := s.gens, drawn := s.drawn, toks := tk, os := s.os } :=
  ⟨F.keep, rfl, rfl, #[], by simp, .empty⟩
theorem cast_ret {R : Result → Shared → Prop} {b c : Bool} {s : Shared} (e : c = b) (h : R (.ok (.ret (.bool c))) s) : R (.ok (.ret (.bool b))) s := e ▸ h
theorem whole_neg {ns pre post : List Int} {d k : Int} (e : ns = pre ++ k :: post) (h : d = pre.sum) (hk : d + k < 0) : (ns.take (pre.length + 1)).sum < 0 := by
  subst e h
  rw [show pre ++ k :: post = (pre ++ [k]) ++ post by simp, List.take_append_of_le_length (by simp), List.take_of_length_le (by simp)]
  simpa using hk

theorem whole_end {ns : List Int} {d : Int} (h1 : d = ns.sum) (h2 : ∀ j ≤ ns.length, 0 ≤ (ns.take j).sum) : wholeB ns = (d == 0) := by
  subst h1; rw [wholeB_pos h2]; rfl

theorem whole_c {w : World} {mean : ExcName → Option Value} {mg mb : Str → Option Value} {s : Shared} {R : Result → Shared → Prop} {l : Addr} {vs : List Value} {ns : List Int}
    (G : Gd w mean mg mb s.heap) (hl : s.heap.IsList l vs.toArray) (hi : IntsAre vs ns)
    (hR : ∀ s', Ext s s' → R (.ok (.ret (.bool (wholeB ns)))) s') :
    codeAny (model PySem.Challenge.rw_pm0012_01.row.prog w) (rm 330 100) (.call (.ref 75) ⟨[.ref l], []⟩) R s := by
  have X := G.X
  have T := G.T
  refine' enterP G ?k6 ?k7 ?k8 ?k9 ?kB ?c5 ?c2 ?c3 ?c4 ?_
  case k6 => k_is
  case k7 => k_is
  case k8 => decide
  case k9 => exact BindsTo.of_eq rfl
  case kB => exact locs rfl
  case c5 => decide
  case c2 => rfl
  case c3 => rfl
  case c4 => rfl
  intro h₁ F N
  k_steps
  rename_i h₂ F₂ N₂
  unfold Stop
  refine For_invVF F₂ (by rfl) (by rfl) ?_
  (k_with "state" => exact whole_st0)
  (k_with "state" => exact whole_st ⟨by assumption, by assumption⟩ (by omega))
  (k_with "pyIter ref" => k_state (fun pre d => d = pre.sum ∧ ∀ j ≤ pre.length, 0 ≤ (pre.take j).sum) "deep")
  k_steps
  · refine hR _ (.of_fr (by assumption)) |> cast_ret ?_
    exact wholeB_neg (j := _) (whole_neg (by assumption) (by assumption) (by assumption))
  · refine hR _ (.of_fr (by assumption)) |> cast_ret ?_
    exact whole_end (by assumption) (by assumption)
end Mine
end
section
set_option maxHeartbeats 2000000
open PySem PySem.W PyProof.Rows PySem.Calls PySem.Spec
open Sem (wp)
namespace Mine

section
variable {prog : Program} {w : World} {A : Around} {R : GenEnd} {Y : Protocol} {n : Nat} {s₀ : Shared} {c : Code} {fs : List Frame} {s : Shared} {env : Env}
  {K : Flow → Sem Fin} {H : Value → Sem Fin} {gd : Bool → Bool} {lv : List Value → List Value}

/-- a statement that yields nothing -/
theorem seg_quiet {α : Type} {m : Sem α} {K : α → Sem Fin} {H : Value → Sem Fin}
    (h : wpAny (model prog w) (A.over c fs) m (fun a s' => Seg (model prog w) A R Y n s₀ c (K a) fs s') (fun _ _ => False) s) :
    Seg (model prog w) A R Y n s₀ c (m.wrap K H gd lv) fs s :=
  seg_wrap (wpAny_mono h (fun _ _ x => x) fun _ _ x => x.elim)

theorem seg_If {test : Expr} {body orelse : List Stmt} {pos : Pos}
    (h : wpAny (model prog w) (A.over c fs) (isTrue test env (eval test env)) (fun b s' => if b = true then Seg (model prog w) A R Y n s₀ c ((execs body env).wrap K H gd lv) fs s' else Seg (model prog w) A R Y n s₀ c ((execs orelse env).wrap K H gd lv) fs s')
      (fun _ _ => False) s) :
    Seg (model prog w) A R Y n s₀ c ((exec (.If test body orelse pos) env).wrap K H gd lv) fs s := by
  rw [exec_If]
  refine seg_at ?_
  show Seg _ A R Y n s₀ c (Sem.wrap K H gd lv (isTrue test env (eval test env) >>= fun b => if b = true then execs body env else execs orelse env)) fs s
  rw [Sem.bind_eq_wrap', Sem.wrap_wrap]
  refine seg_quiet (wpAny_mono h (fun b s' hb => ?_) fun _ _ x => x)
  cases b with
  | true => rw [if_pos rfl] at hb ⊢; exact hb
  | false => rw [if_neg Bool.false_ne_true] at hb ⊢; exact hb

theorem seg_Yield {e : Expr} {ypos pos : Pos} (hfs : splitAtGen fs = none) (hgd : gd false = false) (hfg : fs.any Frame.guarded = false)
    (h : wpAny (model prog w) (A.over c fs) (eval e env) (fun v s' => ∀ kap : Resume → Shared → Prop,
        (∀ s'', Seg (model prog w) A R Y n s'' c (K .next) fs s'' → kap (.send .none) s'') → Y n s₀ v s' kap) (fun _ _ => False) s) (hco : env.scope.isCoroutine = false := by rfl) (hi : interactive env = false := by rfl) :
    Seg (model prog w) A R Y (n + 1) s₀ c ((exec (.Expr (.Yield (some e) ypos) pos) env).wrap K H gd lv) fs s :=
  seg_Expr_Yield hfs hgd hfg (wpAny_mono h (fun _ _ x kap hk => x kap fun s'' hs => hk .none s'' hs) fun _ _ x => x.elim) hco hi

/-- a for's head -/
theorem seg_For {target iter : Expr} {body : List Stmt} {pos : Pos}
    (h : wpAny (model prog w) (A.over c fs) (eval iter env) (fun x s₁ => wpAny (model prog w) (A.over c fs) (pyIter x) (fun it s' =>
        ∀ p, Seg (model prog w) A R Y n s₀ (.forLoop target it body [] env) ((model prog w).den (.forLoop target it body [] env))
          (.ret (fun r => ((match r with | .ok f => (.pure f : Sem Flow) | .error e => .raise e).onRaise fun (x : Value) => do
            if (← field x 1) == Value.none then unsupported "frame.own-activation:exception-without-traceback"
            setFlight x env.frame).wrap K H gd lv) none (gd false) (lv []) c p [] :: fs) s') (fun _ _ => False) s₁) (fun _ _ => False) s)
    (hs : ∀ x, foldedSetIterable iter env x = pure x) :
    Seg (model prog w) A R Y n s₀ c ((exec (.For target iter body [] pos) env).wrap K H gd lv) fs s := by
  have e : exec (.For target iter body [] pos) env = (do
      let it ← (do standAt pos; let x ← foldedSetIterable iter env (← eval iter env); standAt iter.pos; holding [x] (pyIter x))
      runOwn (.forLoop target it body [] env) env) := by
    rw [arm_exec_For]
    simp only [bind_assoc]
  rw [e, Sem.bind_eq_wrap', Sem.wrap_wrap]
  refine seg_quiet ?_
  refine wpAny_bind (wpAny_standAt (wpAny_bind (wpAny_mono h (fun x s₁ hx => ?_) fun _ _ z => z)))
  rw [hs]
  refine wpAny_bind (wpAny_pure (wpAny_bind (wpAny_standAt (wpAny_holding (wpAny_mono hx (fun it s' hi => ?_) fun _ _ z => z)))))
  exact seg_call hi
end

section
variable {prog : Program} {w : World} {A : Around} {R : GenEnd} {Y : Protocol} {fs : List Frame} {env : Env}

/-- a for within a generator: by induction -/
theorem seg_forLoop_ind {target : Expr} {it : Value} {body : List Stmt} (I : Nat → Nat → Shared → Shared → Prop)
    (turn : ∀ k, (∀ k', k' < k → ∀ n s₀ s, I k' n s₀ s → Seg (model prog w) A R Y n s₀ (.forLoop target it body [] env) (.pure (.again (.forLoop target it body [] env))) fs s) →
      ∀ n s₀ s, I k n s₀ s → wpAny (model prog w) (A.over (.forLoop target it body [] env) fs) (pyNext it) (fun r s₁ => match r with
        | none => Seg (model prog w) A R Y n s₀ (.block [] env) (.pure (.done .next)) fs s₁
        | some v => wpAny (model prog w) (A.over (.forLoop target it body [] env) fs) (letOwnedTupleGo target it v) (fun _ s₂ =>
            wpAny (model prog w) (A.over (.forLoop target it body [] env) fs) (assign target env v) (fun _ s₃ =>
              Seg (model prog w) A R Y n s₀ (.forLoop target it body [] env) ((execs body env).wrap (fun f => match f with
                | .next | .cont => .pure (.again (.forLoop target it body [] env))
                | .brk => .pure (.done .next)
                | .ret v => .pure (.done (.ret v))) (fun e => (do noteFrame e env; theTreesLotGoes e : Sem Unit).wrap (fun _ => .raise e) .raise id id) id id) fs s₃) (fun _ _ => False) s₂) (fun _ _ => False) s₁) (fun _ _ => False) s) :
    ∀ k n s₀ s, I k n s₀ s → Seg (model prog w) A R Y n s₀ (.forLoop target it body [] env) ((model prog w).den (.forLoop target it body [] env)) fs s := by
  intro k
  induction k using Nat.strongRecOn with
  | _ k ih =>
  intro n s₀ s hI
  have T := turn k (fun k' hk n s₀ s h => seg_again rfl (ih k' hk n s₀ s h)) n s₀ s hI
  show Seg _ A R Y n s₀ _ ((forTurn target it body [] env).onRaise (fun x => do noteFrame x env; theTreesLotGoes x)) fs s
  unfold forTurn
  rw [Sem.onRaise_eq_wrap]
  refine seg_at ?_
  show Seg _ A R Y n s₀ _ (Sem.wrap _ _ _ _ (((pyNext it).onRaise (fun _ => standAt { target.pos with line := 0 })) >>= _)) fs s
  rw [Sem.bind_eq_wrap', Sem.wrap_wrap]
  refine seg_quiet (wpAny_onRaise (wpAny_mono T (fun r s₁ h₁ => ?_) fun _ _ x => x.elim))
  cases r with
  | none =>
    refine seg_again rfl ?_
    show Seg _ A R Y n s₀ _ ((do return Fin.done (← (execs [] env).onRaise (fun x => do noteFrame x env; theTreesLotGoes x)) : Sem Fin)) fs s₁
    rw [show execs [] env = (.pure .next : Sem Flow) from rfl]
    exact h₁
  | some v =>
    show Seg _ A R Y n s₀ _ (Sem.wrap _ _ _ _ (letOwnedTupleGo target it v >>= fun _ => assign target env v >>= fun _ => execs body env >>= _)) fs s₁
    rw [Sem.bind_eq_wrap', Sem.wrap_wrap]
    refine seg_quiet (wpAny_mono h₁ (fun _ s₂ h₂ => ?_) fun _ _ x => x)
    rw [Sem.bind_eq_wrap', Sem.wrap_wrap]
    refine seg_quiet (wpAny_mono h₂ (fun _ s₃ h₃ => ?_) fun _ _ x => x)
    rw [Sem.bind_eq_wrap', Sem.wrap_wrap]
    rw [Sem.wrap_congr (execs body env) _ _ (K' := fun f => match f with
                | .next | .cont => .pure (.again (.forLoop target it body [] env))
                | .brk => .pure (.done .next)
                | .ret v => .pure (.done (.ret v))) (H' := (fun e => (do noteFrame e env; theTreesLotGoes e : Sem Unit).wrap (fun _ => .raise e) .raise id id))
        (fun f => by cases f <;> rfl)
        (fun e => by first | exact Sem.bind_eq_wrap _ _ | (show (do noteFrame e env; theTreesLotGoes e : Sem Unit).bind (fun _ => .raise e) = _; rw [Sem.bind_eq_wrap]))]
    exact h₃
end

section
variable {prog : Program} {w : World} {A : Around} {E : Value → Shared → Prop} {s : Shared} {env : Env} {h₀ : Heap} {m : Str → Option Value} {xi xc : Str} {pk pv pt : Pos} {x1 : Nat} {T : Addr} {v0 v1 : Value} {Q : Unit → Shared → Prop}
/-- a pair unpacked into two names -/
theorem assign_pair (hh : A.handled = none) (F : Fr h₀ env.locals s.heap m) (hT : s.heap.IsTuple T #[v0, v1]) (hxi : env.kindOf xi = some .local) (hxc : env.kindOf xc = some .local)
    (hp : (env.scope.kind == .class || (env.scope.kind == .module && env.locals != env.globals)) = false)
    (hQ : ∀ h' tk, Fr h₀ env.locals h' (fun y => if y = xc then some v1 else if y = xi then some v0 else m y) → (∀ b o, b ≠ env.locals → s.heap.get? b = some o → h'.get? b = some o) → Q () { s with heap := h', toks := tk }) :
    wpAny (model prog w) A (assign (.Tuple [.Name xi pk, .Name xc pv] x1 pt) env (.ref T)) Q E s := by
  refine wpAny_assign_Tuple hh hT rfl rfl fun h₃ hx₃ => ?_
  have up₃ : ∀ b o, s.heap.get? b = some o → h₃.get? b = some o := fun b o x => hx₃ b o (Nat.ne_of_lt (Heap.lt_size x)) x
  have F₃ : Fr h₀ env.locals h₃ m := ⟨F.ns.keeps up₃, fun b o e => up₃ b o (F.keep b o e), F.above⟩
  show wpAny _ A (do holding [v1] (assign (.Name xi pk) env v0); do holding [] (assign (.Name xc pv) env v1); pure ()) _ _ _
  refine wpAny_bind (wpAny_holding (wpAny_assign_Name (wpAny_storeName_local hxi F₃.ns (fun h₄ hn₄ hs₄ => ?_) hp)))
  replace hs₄ : Heap.SameBut env.locals h₃ h₄ := hs₄
  have F₄ := F₃.set hn₄ hs₄
  refine wpAny_bind (wpAny_holding (wpAny_assign_Name (wpAny_storeName_local hxc F₄.ns (fun h₅ hn₅ hs₅ => wpAny_pure ?_) hp)))
  replace hs₅ : Heap.SameBut env.locals h₄ h₅ := hs₅
  exact hQ _ _ (F₄.set hn₅ hs₅) fun b o hb e => hs₅.extBut b o hb (hs₄.extBut b o hb (up₃ b o e))
end
end Mine
end
section
set_option maxHeartbeats 8000000
open PySem PySem.W PyProof.Rows PySem.Calls PySem.Spec
open Sem (wp)
namespace Mine
local macro_rules | `(tactic| walk_at "exec For Name Name cons nil") => `(tactic| refine stop_intro ?_)
local macro_rules | `(tactic| walk_at "exec For Tuple Call cons nil") => `(tactic| refine stop_intro ?_)
local macro_rules | `(tactic| walk_at "call ref") => `(tactic| refine stop_intro ?_)
local macro_rules | `(tactic| walk_at "call type:enumerate") => `(tactic| refine stop_intro ?_)

/-- what _iter_escaped_chars hands out of the signs l from place i on -/
def escI : List Nat → Nat → Bool → List (Nat × List Nat)
  | [], i, true => [(i - 1, [92])]
  | [], _, false => []
  | c :: r, i, true => (i, [92, c]) :: escI r (i + 1) false
  | c :: r, i, false => if c = 92 then escI r (i + 1) true else (i, [c]) :: escI r (i + 1) false

abbrev tup2 (p : Nat × List Nat) (t1 t2 : Tok) : Obj := { cls := .type "tuple", data := .seq #[.int (p.1 : Int) t1, .str ⟨p.2.toArray⟩ t2] }

/-- what a stretch of a generator leaves: its user holds the things at cons, over the base h₀ -/
structure Wakes' (h₀ : Heap) (cons : List Addr) (s₀ s : Shared) : Prop where
  eq : ∃ h tk, s = { s₀ with heap := h, toks := tk }
  held : ∀ b o, b ∈ cons → s₀.heap.get? b = some o → s.heap.get? b = some o
  base : ∀ b o, h₀.get? b = some o → s.heap.get? b = some o
def Alive (cons : List Addr) (s s' : Shared) : Prop := ∀ b o, b ∉ cons → s.heap.get? b = some o → s'.heap.get? b = some o

def genP (h₀ : Heap) (cons : List Addr) (n : Nat) (s₀ s : Shared) : Prop := n = 0 ∧ Wakes' h₀ cons s₀ s
def genR (h₀ : Heap) (cons : List Addr) : GenEnd := fun n s₀ r s => r = .ok (.ret .none) ∧ genP h₀ cons n s₀ s
def genY (h₀ : Heap) (hs cons : List Addr) (its : List (Nat × List Nat)) : Protocol := fun k s₀ v s kap =>
  (∃ it T t1 t2, its[its.length - 1 - k]? = some it ∧ v = .ref T ∧ s.heap.get? T = some (tup2 it t1 t2)) ∧ Wakes' h₀ hs s₀ s ∧
  ∀ s', Alive cons s s' → kap (.send .none) s'


section
variable {prog : Program} {w : World} {mean : ExcName → Option Value} {mg mb : Str → Option Value} {A : Around} {s : Shared} {R : Result → Shared → Prop}
  {name qual : Str} {params : Arguments} {body : List Stmt} {scope : Scope} {dV kV doc pm cdv ct oc : Value} {an od : Option Addr} {osl : Array (Option Value)} {f : Addr} {args : Args} {binds : List (Str × Value)}
/-- making a generator -/
theorem enterG (G : Gd w mean mg mb s.heap)
    (ho : (hd.heap_39 w.params).lookup f = some ⟨oc, od, .func (fnOf name qual params body scope dV kV doc pm an cdv ct), osl⟩) (hcd : codeIn (hd.heap_39 w.params) cdv qual = true) (hroom : A.depth < recursionLimit)
    (hbind : BindsTo s (fnOf name qual params body scope dV kV doc pm an cdv ct) args binds) (hloc : ∀ y ∈ binds, scope.names.lookup y.1 = some .local)
    (hcell : ∀ x ∈ scope.names, x.2 ≠ .cell) (hco : scope.isCoroutine = false) (hgen : scope.isGenerator = true) (hk : scope.kind = .function)
    (h : ∀ h₁ tk nm qn, Fr s.heap s.heap.objs.size h₁ (fun y => binds.reverse.lookup y) → h₁.objs.size = s.heap.objs.size + 1 →
      R (.ok (.ret (.ref (s.heap.objs.size + 1)))) { s with heap := h₁.push { cls := .type "generator", data := .fields #[.int s.gens.size 0, nm, qn] }, toks := tk, gens := s.gens.push (.fresh (.func body (envOf qual scope s.heap.objs.size f cdv))) }) :
    codeAny (model prog w) A (.call (.ref f) args) R s := by
  refine codeAny_call_generator hroom (G.X _ _ ho) rfl hco hgen rfl (codeRec_of G.X hcd) (hbind _ _ _ _ ?_)
  refine wpAny_newFunctionEnv hcell hloc (fun h₁ hns hsb => ⟨G.T.nolimit.fresh _ hsb, ?_⟩) hk
  have hsz : h₁.objs.size = s.heap.objs.size + 1 := by rw [hsb.1, Heap.size_push]
  have := h h₁ (s.toks + binds.length + 1 + 1) (.str name (s.toks + binds.length)) (.str qual (s.toks + binds.length + 1)) ⟨hns, fun b o e => hsb.extBut b o (Nat.ne_of_lt (Heap.lt_size e)) (Heap.get?_push_of_some _ e), Nat.le_refl _⟩ hsz
  rw [← hsz] at this
  exact this
end

/-- a generator that its user (who holds cons, over h₀) may ask for the items from j on -/
structure GenSt (prog : Program) (w : World) (h₀ : Heap) (cons : List Addr) (its : List (Nat × List Nat)) (a g j : Nat) (s : Shared) : Prop where
  obj : s.heap.IsGen a g
  off : a ∉ cons
  run : ∃ gs, s.gens[g]? = some gs ∧ gs.bare = true ∧ ∀ s', Alive cons s s' → gs.Goes (model prog w) (rm 340 200).in1 (genR h₀ (a :: cons)) (genY h₀ (a :: cons) cons its) (its.length - j) (.send .none) s'

theorem fr_alive {h₀ : Heap} {cons : List Addr} {s s' : Shared} {L : Addr} {m : Str → Option Value} (al : Alive cons s s') (hc₀ : ∀ b ∈ cons, h₀.get? b = none) (hL : L ∉ cons) (F : Fr h₀ L s.heap m) : Fr h₀ L s'.heap m :=
  ⟨F.ns.at' fun o e => al _ o hL e, fun b o e => al b o (fun hb => by rw [hc₀ b hb] at e; cases e) (F.keep b o e), F.above⟩

/-- the loop's state: the things at e and it draw x from i on -/
structure LoopAt (h₀ : Heap) (cons : List Addr) (x : Str) (t : Tok) (its : List (Nat × List Nat)) (C e it : Addr) (k n : Nat) (s₀ s : Shared) : Prop where
  wk : Wakes' h₀ cons s₀ s
  st : ∃ (i : Nat) (esc : Bool) (m : Str → Option Value) (tk : Tok) (old : Value), IsEnum s.heap e it (i : Int) old ∧ s.heap.IsStrIter it "str_ascii_iterator" x t i ∧ Fr h₀ C s.heap m ∧ m (Str.ofString "escape") = some (.bool esc) ∧ (esc = true → m (Str.ofString "pos") = some (.int ((i - 1 : Nat) : Int) tk)) ∧
    i ≤ x.cps.size ∧ k = x.cps.size - i ∧ n = (escI (x.cps.toList.drop i) i esc).length ∧ its.drop (its.length - n) = escI (x.cps.toList.drop i) i esc ∧ n ≤ its.length

theorem enumW {prog : Program} {w : World} {A : Around} (hh : A.handled = none) (I : Addr) (x : Str) (t : Tok) :
    WalksT prog w A (I + 1) [I + 1, I] [I + 1, I] x.cps.size (fun i vals => ∃ t v, (∃ c u, x.cps[i]? = some c ∧ v = .str ⟨#[c]⟩ u) ∧ vals = #[.int i t, v])
      (fun i h => (∃ old, IsEnum h (I + 1) I i old) ∧ h.IsStrIter I "str_ascii_iterator" x t i)
      (fun i T h => (∃ v, IsEnumOut h (I + 1) I ((i : Int) + 1) v T) ∧ h.IsStrIter I "str_ascii_iterator" x t (i + 1) ∧ T ≠ I + 1 ∧ T ≠ I) :=
  WalksT.enumerateD (Draws.strAscii (A := A.in1) hh I x t) (I + 1) (Nat.succ_ne_self _) (fun h => Nat.succ_ne_self _ (List.mem_singleton.mp h)) (List.mem_singleton.mpr rfl)

theorem its_at {α : Type} {its : List α} {n : Nat} {a : α} {r : List α} (h : its.drop (its.length - (n + 1)) = a :: r) : its[its.length - 1 - n]? = some a := by
  have : its.length - 1 - n = its.length - (n + 1) := by omega
  rw [this]
  have := congrArg (fun l => l[0]?) h
  simpa [List.getElem?_drop] using this
theorem its_next {α : Type} {its : List α} {n : Nat} {a : α} {r : List α} (h : its.drop (its.length - (n + 1)) = a :: r) (hl : n + 1 ≤ its.length) : its.drop (its.length - n) = r := by
  have e : its.length - n = (its.length - (n + 1)) + 1 := by omega
  rw [e, ← List.drop_drop, h]
  rfl
theorem bs_cat (c : Nat) : Str.ofString "\\" ++ (⟨#[c]⟩ : Str) = ⟨[92, c].toArray⟩ := by
  rw [show Str.ofString "\\" = ⟨#[92]⟩ from by decide +kernel]
  rfl

theorem sign_eq {c k : Nat} {z : String} (h : Str.ofString z = ⟨#[k]⟩) : ((⟨#[c]⟩ : Str) == Str.ofString z) = true ↔ c = k := by
  rw [h, beq_iff_eq]
  constructor
  · intro e
    have := congrArg Str.cps e
    simpa using this
  · intro e
    rw [e]

theorem h_none {h : Heap} {a : Addr} (hz : h.objs.size ≤ a) : h.get? a = none := by
  cases e : h.get? a with
  | none => rfl
  | some o => exact absurd (Heap.lt_size e) (Nat.not_lt.mpr hz)

theorem gen_c {w : World} {mean : ExcName → Option Value} {mg mb : Str → Option Value} {s : Shared} {R : Result → Shared → Prop} {x : Str} {t : Tok} {h₀ : Heap} {cons : List Addr}
    (G : Gd w mean mg mb h₀) (k₀ : ∀ b o, h₀.get? b = some o → s.heap.get? b = some o) (hz : h₀.objs.size ≤ s.heap.objs.size) (hc : ∀ b ∈ cons, ∃ o, s.heap.get? b = some o) (hc₀ : ∀ b ∈ cons, h₀.get? b = none) (ha : x.cps.all (· < 128) = true)
    (hR : ∀ s', GenSt PySem.Challenge.rw_pm0012_01.row.prog w h₀ cons (escI x.cps.toList 0 false) (s.heap.objs.size + 1) s.gens.size 0 s' → Ext s s' → R (.ok (.ret (.ref (s.heap.objs.size + 1)))) s') :
    codeAny (model PySem.Challenge.rw_pm0012_01.row.prog w) (rm 340 200) (.call (.ref 21) ⟨[.str x t], []⟩) R s := by
  have X := G.X
  have T := G.T
  have GS := G.keeps k₀
  refine' enterG GS ?k6 ?k7 ?k8 ?k9 ?kB ?c5 ?c2 ?c3 ?c4 ?_
  case k6 => k_is
  case k7 => k_is
  case k8 => decide
  case k9 => exact BindsTo.of_eq rfl
  case kB => exact locs rfl
  case c5 => decide
  case c2 => rfl
  case c3 => rfl
  case c4 => rfl
  intro h₁ tk nm qn F hsz
  have off : s.heap.objs.size + 1 ∉ cons := fun hm => absurd (Heap.lt_size (hc _ hm).choose_spec) (Nat.not_lt.mpr (Nat.le_succ _))
  have offC : s.heap.objs.size ∉ cons := fun hm => absurd (Heap.lt_size (hc _ hm).choose_spec) (Nat.lt_irrefl _)
  have hcs : ∀ b ∈ cons, b < s.heap.objs.size := fun b hb => Heap.lt_size (hc _ hb).choose_spec
  generalize s.heap.objs.size = C at *
  have offH : C ∉ (C + 1) :: cons := by simp only [List.mem_cons, not_or]; exact ⟨Nat.ne_of_lt (Nat.lt_succ_self C), offC⟩
  have hc₁ : ∀ b ∈ (C + 1) :: cons, h₀.get? b = none := fun b hb => by
    rcases List.mem_cons.mp hb with rfl | hb
    · exact h_none (Nat.le_succ_of_le hz)
    · exact hc₀ b hb
  refine hR _ ⟨⟨_, nm, qn, by rw [← hsz]; exact Heap.get?_push_size _ rfl, rfl, rfl, rfl⟩, off, _, Array.getElem?_push_size .., rfl, fun s' al => ⟨rfl, ?_⟩⟩ ⟨fun b o e => Heap.get?_push_of_some _ (F.keep b o e), rfl, rfl, #[_], rfl, ?_⟩
  · refine seg_func ?_
    have F' : Fr h₀ C s'.heap _ := fr_alive al hc₀ offC ⟨F.ns.keeps fun b o e => Heap.get?_push_of_some _ e, fun b o e => Heap.get?_push_of_some _ (F.keep b o (k₀ b o e)), hz⟩
    have N' : News h₀ C s'.heap (ownOf h₀ ((C + 1) :: cons) s'.heap) := news_ownOf offH
    have hm' : ∀ b o, b ∈ (C + 1) :: cons → s'.heap.get? b = some o → (b, o) ∈ ownOf h₀ ((C + 1) :: cons) s'.heap := fun b o hb e => mem_ownOf hb (hc₁ b hb) e
    have hga := al _ _ off (by rw [← hsz]; exact Heap.get?_push_size _ rfl)
    generalize ownOf h₀ ((C + 1) :: cons) s'.heap = OWN at N' hm'
    refine seg_execs_cons (seg_quiet ?_)
    k_steps
    refine seg_execs_cons (seg_quiet ?_)
    k_steps
    refine seg_execs_cons (seg_For ?_ (by intro _; rfl))
    k_steps
    unfold Stop
    rename_i h₂ F₂ N₂
    refine call_enumerate_str fun h₃ he hit hsz₂ hk₂ => ?_
    replace hk₂ : ∀ b o, h₂.get? b = some o → h₃.get? b = some o := hk₂
    have F₃ : Fr h₀ C h₃ _ := ⟨F₂.ns.keeps hk₂, fun b o e => hk₂ b o (F₂.keep b o e), F₂.above⟩
    have hCl : C < h₂.objs.size := F₂.ns.lt
    have haI : C + 1 < h₂.objs.size := Heap.lt_size (N₂ _ (hm' _ _ (.head _) hga)).1
    have off₁c : h₂.objs.size ∉ cons := fun hm => Nat.lt_asymm hCl (hcs _ hm)
    have off₂c : h₂.objs.size + 1 ∉ cons := fun hm => Nat.lt_asymm (Nat.lt_succ_of_lt hCl) (hcs _ hm)
    have off₁ : h₂.objs.size ∉ (C + 1) :: cons := by simp only [List.mem_cons, not_or]; exact ⟨Nat.ne_of_gt haI, off₁c⟩
    have off₂ : h₂.objs.size + 1 ∉ (C + 1) :: cons := by simp only [List.mem_cons, not_or]; exact ⟨Nat.ne_of_gt (Nat.lt_succ_of_lt haI), off₂c⟩
    have hl₁ : h₀.get? h₂.objs.size = none := h_none (Nat.le_trans hz (Nat.le_of_lt hCl))
    have hl₂ : h₀.get? (h₂.objs.size + 1) = none := h_none (Nat.le_trans hz (Nat.le_of_lt (Nat.lt_succ_of_lt hCl)))
    have hCe : C ≠ h₂.objs.size + 1 := Nat.ne_of_lt (Nat.lt_succ_of_lt hCl)
    have hCi : C ≠ h₂.objs.size := Nat.ne_of_lt hCl
    refine (enumW rfl h₂.objs.size x t).self 0 _ _ _ ⟨⟨_, he⟩, by simpa [strIterType, ha] using hit⟩ fun p => ?_
    refine seg_forLoop_ind (LoopAt h₀ ((C + 1) :: cons) x t (escI x.cps.toList 0 false) C (h₂.objs.size + 1) h₂.objs.size) ?_ x.cps.size _ _ _ ?_
    · intro k ih n s₀ s₄ hI
      obtain ⟨⟨⟨h₄, tk₄, rfl⟩, hheld, hbase⟩, i, esc, m, tkp, old, hE, hS, F₄, hme, hmp, hi, hk, hn, hd, hnl⟩ := hI
      have hheld' : ∀ b o, b ∈ (C + 1) :: cons → s₀.heap.get? b = some o → h₄.get? b = some o := hheld
      generalize h₂.objs.size = I at *
      by_cases hlt : i < x.cps.size
      · refine (enumW rfl I x t).item i _ _ _ hlt ⟨⟨old, hE⟩, hS⟩ fun T vals h₅ tk₅ hP hge hT hMid hk₅ => ?_
        obtain ⟨ti, _, ⟨c, u, hcx, rfl⟩, rfl⟩ := hP
        replace hk₅ : ∀ b o, b ∉ [I + 1, I] → h₄.get? b = some o → h₅.get? b = some o := hk₅
        dsimp only
        refine (enumW rfl I x t).go _ _ _ i T _ _ _ hMid fun h₆ hst₆ hk₆ => ?_
        replace hk₆ : ∀ b o, b ∉ [I + 1, I] → h₅.get? b = some o → h₆.get? b = some o := hk₆
        have ht₆ : h₆.IsTuple T _ := hT.at fun o e => hk₆ T o ((enumW (prog := PySem.Challenge.rw_pm0012_01.row.prog) (w := w) (A := rm 340 200) rfl I x t).apart i T h₅ hMid) e
        have up₆ : ∀ b o, b ≠ I + 1 → b ≠ I → h₄.get? b = some o → h₆.get? b = some o := fun b o b1 b2 e => hk₆ b o (by simp [b1, b2]) (hk₅ b o (by simp [b1, b2]) e)
        have F₆ : Fr h₀ C h₆ m := ⟨F₄.ns.at' fun o e => up₆ _ o hCe hCi e, fun b o e => up₆ b o (fun q => by rw [q, hl₂] at e; cases e) (fun q => by rw [q, hl₁] at e; cases e) (F₄.keep b o e), F₄.above⟩
        have held₆ : ∀ b o, b ∈ (C + 1) :: cons → s₀.heap.get? b = some o → h₆.get? b = some o := fun b o hb e => up₆ b o (fun q => off₂ (q ▸ hb)) (fun q => off₁ (q ▸ hb)) (hheld' b o hb e)
        refine assign_pair rfl F₆ ht₆ rfl rfl rfl fun h₇ tk₇ F₇ hk₇ => ?_
        replace hk₇ : ∀ b o, b ≠ C → h₆.get? b = some o → h₇.get? b = some o := hk₇
        obtain ⟨⟨old₇, hE₆⟩, hS₆⟩ := hst₆
        have hE₇ := hk₇ _ _ (Ne.symm hCe) hE₆
        have hS₇ : h₇.IsStrIter I "str_ascii_iterator" x t (i + 1) := let ⟨o, ho, r⟩ := hS₆; ⟨o, hk₇ _ _ (Ne.symm hCi) ho, r⟩
        have held₇ : ∀ b o, b ∈ (C + 1) :: cons → s₀.heap.get? b = some o → h₇.get? b = some o := fun b o hb e => hk₇ b o (fun q => offH (q ▸ hb)) (held₆ b o hb e)
        have N₇ : News h₀ C h₇ (ownOf h₀ ((I + 1) :: I :: (C + 1) :: cons) h₇) := news_ownOf (by simp only [List.mem_cons, not_or]; exact ⟨hCe, hCi, Nat.ne_of_lt (Nat.lt_succ_self C), offC⟩)
        have m₁ : (I + 1, _) ∈ ownOf h₀ ((I + 1) :: I :: (C + 1) :: cons) h₇ := mem_ownOf (.head _) hl₂ hE₇
        obtain ⟨oS, hoS, rS⟩ := hS₇
        have m₂ : (I, oS) ∈ ownOf h₀ ((I + 1) :: I :: (C + 1) :: cons) h₇ := mem_ownOf (.tail _ (.head _)) hl₁ hoS
        have m₃ : ∀ b o, b ∈ (C + 1) :: cons → s₀.heap.get? b = some o → (b, o) ∈ ownOf h₀ ((I + 1) :: I :: (C + 1) :: cons) h₇ := fun b o hb e => mem_ownOf (.tail _ (.tail _ hb)) (hc₁ b hb) (held₇ b o hb e)
        generalize ownOf h₀ ((I + 1) :: I :: (C + 1) :: cons) h₇ = OW at N₇ m₁ m₂ m₃
        have F₈ := fr_pin (y := Str.ofString "escape") (u := .bool esc) F₇ hme
        have hdr : x.cps.toList.drop i = c :: x.cps.toList.drop (i + 1) := by
          have h1 : i < x.cps.toList.length := by simpa using hlt
          rw [List.drop_eq_getElem_cons h1]
          congr 1
          have := Array.getElem?_eq_some_iff.mp hcx
          obtain ⟨_, e⟩ := this
          simpa using e
        rw [hdr] at hn hd
        refine seg_execs_cons (seg_If ?_)
        clear F₇ F₆ F₄ F₃ F₂ N₂ hm' al F GS
        cases esc with
        | true =>
          k_steps
          simp only [escI, List.length_cons] at hn
          subst hn
          refine seg_execs_cons (seg_Yield rfl rfl rfl ?_)
          k_steps
          rename_i tq _ _ D h₈ F₉ N₉ l₁ kap hkap
          refine ⟨⟨(i, [92, c]), D, ti, tq, its_at hd, rfl, by rw [(N₉ _ (.head _)).1, bs_cat]⟩, ⟨⟨_, _, rfl⟩, fun b o hb e => (N₉ _ (.tail _ (m₃ b o hb e))).1, F₉.keep⟩, fun s₉ al₉ => hkap s₉ ?_⟩
          have F₁₀ := fr_alive al₉ hc₀ offC F₉
          have g₁ := al₉ _ _ off₂c (N₉ _ (.tail _ m₁)).1
          have g₂ := al₉ _ _ off₁c (N₉ _ (.tail _ m₂)).1
          have N₁₀ : News h₀ C s₉.heap (ownOf h₀ ((I + 1) :: I :: (C + 1) :: cons) s₉.heap) := news_ownOf (by simp only [List.mem_cons, not_or]; exact ⟨hCe, hCi, Nat.ne_of_lt (Nat.lt_succ_self C), offC⟩)
          have q₁ := mem_ownOf (fp := (I + 1) :: I :: (C + 1) :: cons) (.head _) hl₂ g₁
          have q₂ := mem_ownOf (fp := (I + 1) :: I :: (C + 1) :: cons) (.tail _ (.head _)) hl₁ g₂
          have q₃ : ∀ b o, b ∈ (C + 1) :: cons → s₉.heap.get? b = some o → (b, o) ∈ ownOf h₀ ((I + 1) :: I :: (C + 1) :: cons) s₉.heap := fun b o hb e => mem_ownOf (.tail _ (.tail _ hb)) (hc₁ b hb) e
          generalize ownOf h₀ ((I + 1) :: I :: (C + 1) :: cons) s₉.heap = OW₉ at N₁₀ q₁ q₂ q₃
          clear N₉ F₉ N₇ l₁
          refine seg_execs_cons (seg_quiet ?_)
          k_steps
          rename_i F₁₁ N₁₁
          refine seg_execs_nil ?_
          refine ih (x.cps.size - (i + 1)) (by omega) _ _ _ ⟨⟨⟨_, _, rfl⟩, fun b o hb e => (N₁₁ _ (q₃ b o hb e)).1, F₁₁.keep⟩, i + 1, false, _, 0, old₇, (N₁₁ _ q₁).1, ⟨oS, (N₁₁ _ q₂).1, rS⟩, F₁₁, rfl, fun h => (nomatch h), hlt, rfl, rfl, ?_, ?_⟩
          · exact its_next hd hnl
          · exact Nat.le_of_succ_le hnl
        | false =>
          k_steps
          refine seg_execs_cons (seg_If ?_)
          k_steps
          · rename_i hb
            obtain rfl : c = 92 := (sign_eq (by decide +kernel)).mp hb
            rw [show escI (92 :: x.cps.toList.drop (i + 1)) i false = escI (x.cps.toList.drop (i + 1)) (i + 1) true from rfl] at hn hd
            refine seg_execs_cons (seg_quiet ?_)
            k_steps
            rename_i F₁₁ N₁₁
            refine seg_execs_nil (seg_execs_nil ?_)
            exact ih (x.cps.size - (i + 1)) (by omega) _ _ _ ⟨⟨⟨_, _, rfl⟩, fun b o hb e => (N₁₁ _ (m₃ b o hb e)).1, F₁₁.keep⟩, i + 1, true, _, ti, old₇, (N₁₁ _ m₁).1, ⟨oS, (N₁₁ _ m₂).1, rS⟩, F₁₁, rfl, fun _ => rfl, hlt, rfl, hn, hd, hnl⟩
          · rename_i hb
            have hb' : ¬ c = 92 := fun e => by rw [(sign_eq (by decide +kernel)).mpr e] at hb; cases hb
            rw [show escI (c :: x.cps.toList.drop (i + 1)) i false = (i, [c]) :: escI (x.cps.toList.drop (i + 1)) (i + 1) false from if_neg hb'] at hn hd
            simp only [List.length_cons] at hn
            subst hn
            refine seg_execs_cons (seg_Yield rfl rfl rfl ?_)
            k_steps
            rename_i D h₈ F₉ N₉ l₁ kap hkap
            refine ⟨⟨(i, [c]), D, ti, u, its_at hd, rfl, (N₉ _ (.head _)).1⟩, ⟨⟨_, _, rfl⟩, fun b o hb e => (N₉ _ (.tail _ (m₃ b o hb e))).1, F₉.keep⟩, fun s₉ al₉ => hkap s₉ ?_⟩
            have F₁₀ := fr_alive al₉ hc₀ offC F₉
            have g₁ := al₉ _ _ off₂c (N₉ _ (.tail _ m₁)).1
            have g₂ := al₉ _ _ off₁c (N₉ _ (.tail _ m₂)).1
            have N₁₀ : News h₀ C s₉.heap (ownOf h₀ ((I + 1) :: I :: (C + 1) :: cons) s₉.heap) := news_ownOf (by simp only [List.mem_cons, not_or]; exact ⟨hCe, hCi, Nat.ne_of_lt (Nat.lt_succ_self C), offC⟩)
            have q₁ := mem_ownOf (fp := (I + 1) :: I :: (C + 1) :: cons) (.head _) hl₂ g₁
            have q₂ := mem_ownOf (fp := (I + 1) :: I :: (C + 1) :: cons) (.tail _ (.head _)) hl₁ g₂
            have q₃ : ∀ b o, b ∈ (C + 1) :: cons → s₉.heap.get? b = some o → (b, o) ∈ ownOf h₀ ((I + 1) :: I :: (C + 1) :: cons) s₉.heap := fun b o hb e => mem_ownOf (.tail _ (.tail _ hb)) (hc₁ b hb) e
            generalize ownOf h₀ ((I + 1) :: I :: (C + 1) :: cons) s₉.heap = OW₉ at N₁₀ q₁ q₂ q₃
            clear N₉ F₉ N₇ l₁
            refine seg_execs_nil (seg_execs_nil ?_)
            refine ih (x.cps.size - (i + 1)) (by omega) _ _ _ ⟨⟨⟨_, _, rfl⟩, fun b o hb e => e, F₁₀.keep⟩, i + 1, false, _, 0, old₇, g₁, ⟨oS, g₂, rS⟩, F₁₀, rfl, fun h => (nomatch h), hlt, rfl, rfl, ?_, ?_⟩
            · exact its_next hd hnl
            · exact Nat.le_of_succ_le hnl
      · have hin : i = x.cps.size := Nat.le_antisymm hi (Nat.not_lt.mp hlt)
        subst hin
        refine (enumW rfl I x t).done _ _ _ ⟨⟨old, hE⟩, hS⟩ fun h₅ tk₅ hk₅ => ?_
        replace hk₅ : ∀ b o, b ∉ [I + 1, I] → h₄.get? b = some o → h₅.get? b = some o := hk₅
        dsimp only
        have up₅ : ∀ b o, b ≠ I + 1 → b ≠ I → h₄.get? b = some o → h₅.get? b = some o := fun b o b1 b2 e => hk₅ b o (by simp [b1, b2]) e
        have F₅ : Fr h₀ C h₅ m := ⟨F₄.ns.at' fun o e => up₅ _ o hCe hCi e, fun b o e => up₅ b o (fun q => by rw [q, hl₂] at e; cases e) (fun q => by rw [q, hl₁] at e; cases e) (F₄.keep b o e), F₄.above⟩
        have held₅ : ∀ b o, b ∈ (C + 1) :: cons → s₀.heap.get? b = some o → h₅.get? b = some o := fun b o hb e => up₅ b o (fun q => off₂ (q ▸ hb)) (fun q => off₁ (q ▸ hb)) (hheld' b o hb e)
        have N₅ : News h₀ C h₅ (ownOf h₀ ((C + 1) :: cons) h₅) := news_ownOf offH
        have m₃ : ∀ b o, b ∈ (C + 1) :: cons → s₀.heap.get? b = some o → (b, o) ∈ ownOf h₀ ((C + 1) :: cons) h₅ := fun b o hb e => mem_ownOf hb (hc₁ b hb) (held₅ b o hb e)
        generalize ownOf h₀ ((C + 1) :: cons) h₅ = OW at N₅ m₃
        have F₈ := fr_pin (y := Str.ofString "escape") (u := .bool esc) F₅ hme
        rw [show x.cps.toList.drop x.cps.size = [] from by simp] at hn hd
        refine seg_leaf (.ok .next) ?_
        refine seg_execs_cons (seg_If ?_)
        clear F₅ F₄ F₃ F₂ N₂ hm' al F GS
        cases esc with
        | true =>
          have F₉ := fr_pin (y := Str.ofString "pos") F₈ (hmp rfl)
          clear F₈
          k_steps
          simp only [escI, List.length_cons, List.length_nil] at hn
          subst hn
          refine seg_execs_cons (seg_Yield rfl rfl rfl ?_)
          k_steps
          rename_i tq D h₈ F₁₀ N₁₀ l₁ kap hkap
          refine ⟨⟨(x.cps.size - 1, [92]), D, tkp, _, its_at (n := 0) hd, rfl, by rw [(N₁₀ _ (.head _)).1, show Str.ofString "\\" = (⟨[92].toArray⟩ : Str) from by decide +kernel]⟩, ⟨⟨_, _, rfl⟩, fun b o hb e => (N₁₀ _ (.tail _ (m₃ b o hb e))).1, F₁₀.keep⟩, fun s₉ al₉ => hkap s₉ ?_⟩
          have F₁₁ := fr_alive al₉ hc₀ offC F₁₀
          refine seg_execs_nil (seg_execs_nil (seg_end (.ok (.ret .none)) ⟨rfl, rfl, ⟨_, _, rfl⟩, fun b o hb e => e, F₁₁.keep⟩))
        | false =>
          k_steps
          have hn0 : n = 0 := hn
          subst hn0
          refine seg_execs_nil (seg_execs_nil (seg_end (.ok (.ret .none)) ⟨rfl, rfl, ⟨_, _, rfl⟩, held₅, (by assumption : Fr h₀ C h₅ _).keep⟩))
    · refine ⟨⟨⟨_, _, rfl⟩, fun b o hb e => hk₂ b o (N₂ _ (hm' b o hb e)).1, F₃.keep⟩, 0, false, _, 0, .none, he, by simpa [strIterType, ha] using hit, F₃, rfl, fun h => (nomatch h), Nat.zero_le _, rfl, by simp, by simp, by simp⟩
  · intro y hy
    rw [List.mem_toArray, List.mem_singleton] at hy
    subst hy
    rfl
end Mine
end
section
set_option maxHeartbeats 8000000
open PySem PySem.W PyProof.Rows PySem.Calls PySem.Spec
open Sem (wp)
namespace Mine

section
variable {prog : Program} {w : World} {A : Around} {E : Value → Shared → Prop} {s : Shared}
theorem pyNext_genQ {a : Addr} {g n : Nat} {gs : GenState} {P : Nat → Shared → Shared → Prop} {Y : Protocol} {Q : Option Value → Shared → Prop} (hh : A.handled = none)
    (hl : s.heap.NoLimit) (hroom : A.depth < recursionLimit)
    (hg : s.heap.IsGen a g) (hgs : s.gens[g]? = some gs)
    (hgo : gs.Goes (model prog w) A.in1 (fun n s₀ r s₁ => r = .ok (.ret .none) ∧ P n s₀ s₁) Y n (.send .none) (s.setGen g .running))
    (hY : ∀ v s₁ gs', gs'.bare = true → Y (n - 1) (s.setGen g .running) v s₁ (fun r' s'' => match n with
        | 0 => False
        | m + 1 => gs'.Goes (model prog w) A.in1 (fun n s₀ r s₁ => r = .ok (.ret .none) ∧ P n s₀ s₁) Y m r' s'') → Q (some v) (s₁.setGen g gs'))
    (hP : ∀ s₁, P n (s.setGen g .running) s₁ → ∀ h', (∀ b o, s₁.heap.get? b = some o → h'.get? b = some o) → Q none { s₁.setGen g .finished with heap := h' }) :
    wpAny (model prog w) A (pyNext (.ref a)) Q E s := by
  unfold pyNext
  refine wpAny_bind (wpAny_attempt (wpAny_callSpecial?_slot (name := Str.ofString "__next__") hg.typeIs slot_gen_next
    (wpAny_call_entry slot_gen_next hg.typeIs entry_gen_next ?_ (args_gen_next _))))
  show wpAny _ A.in1 (Builtin.Generator.genWake (.ref a) (.send .none)) _ _ s
  unfold Builtin.Generator.genWake
  refine wpAny_bind (wpAny_holding (wpAny_genNumber hg (wpAny_bind (wpAny_genState hgs ?_))))
  cases gs with
  | running => exact hgo.elim
  | finished => exact hgo.elim
  | _ =>
    refine wpAny_bind (wpAny_roomToWake hl hroom ?_)
    show wpAny _ A.in1 (.resume g (.send .none) [] _) _ _ s
    refine wpAny_resumeQ hgs hgo (fun x s₁ hx => ?_) (fun v s₁ gs' hb hv => ?_)
    · obtain ⟨rfl, hp⟩ := hx
      show wpAny _ A.in1 (newExc (.type "StopIteration") [] >>= _) _ _ _
      refine wpAny_bind ?_
      simp only [newExc, newTuple]
      refine wpAny_bind (wpAny_newObj_type ?_ (by size_fits))
      refine wpAny_bind (m := firstArgMember _ _) (wpAny_of_eq (a := Value.none) (by first | rfl | (simp only [firstArgMember]; rfl)) ?_)
      refine wpAny_newObj_type ?_ (by size_fits)
      simp only [raiseNew]
      refine wpAny_bind (wpAny_bind (wpAny_handled ?_))
      first | rw [show A.in1.handled = none from hh] | rw [hh]
      refine wpAny_throw ?_
      refine wpAny_bind (wpAny_isInstance (T := "StopIteration") (b := true) ⟨_, Heap.get?_push_size _ rfl, rfl⟩ isSubtype_stop ?_)
      exact wpAny_pure (hP s₁ hp _ fun b o hb => Heap.get?_push_of_some _ (Heap.get?_push_of_some _ hb))
    · exact wpAny_pure ⟨v, rfl, wpAny_pure (hY v s₁ gs' hb hv)⟩

theorem letGo_gen {elts : List Expr} {k : Nat} {pos : Pos} {a T : Addr} {g : Nat} {Q : Unit → Shared → Prop} (hg : s.heap.IsGen a g) (h : Q () s) :
    wpAny (model prog w) A (letOwnedTupleGo (.Tuple elts k pos) (.ref a) (.ref T)) Q E s := by
  obtain ⟨o, nm, qn, ho, hc, hd, hs⟩ := hg
  unfold letOwnedTupleGo
  refine wpAny_bind (wpAny_load ho ?_)
  obtain ⟨c, d, dt, sl⟩ := o
  dsimp only at hc hd hs
  subst hc hd
  show wpAny _ A (if (["enumerate", "zip", "dict_itemiterator", "dict_reverseitemiterator", "odict_iterator", "itertools.zip_longest", "itertools.pairwise"].contains "generator" && _) = true then _ else _) Q E s
  rw [if_neg (by simp)]
  exact wpAny_pure h
end

section
variable {M : Model} {A : Around} {s : Shared} {env : Env} {Q : Flow → Shared → Prop}
/-- a for, by its code -/
theorem for_own {target iter : Expr} {body : List Stmt} {pos : Pos}
    (h : wpAny M A (eval iter env) (fun x s₁ => wpAny M A (pyIter x) (fun it s₂ => codeAny M A (.forLoop target it body [] env) (fun r s' => match r with | .ok f => Q f s' | .error _ => False) s₂) (fun _ _ => False) s₁) (fun _ _ => False) s)
    (hs : ∀ x, foldedSetIterable iter env x = pure x) : wpAny M A (exec (.For target iter body [] pos) env) Q (fun _ _ => False) s := by
  rw [arm_exec_For]
  refine wpAny_bind (wpAny_standAt (wpAny_bind (wpAny_mono h (fun x s₁ hx => ?_) fun _ _ z => z)))
  rw [hs]
  refine wpAny_bind (wpAny_pure (wpAny_bind (wpAny_standAt (wpAny_bind (wpAny_holding (wpAny_mono hx (fun it s₂ hi => ?_) fun _ _ z => z))))))
  refine wpAny_runOwn (h := none) ?_
  exact codeAny_mono (A := A) hi fun r s' k => by cases r with
    | ok f => exact k
    | error e => exact k.elim
end

section
variable {prog : Program} {w : World} {A : Around} {s : Shared} {env : Env} {h₀ : Heap} {R : Result → Shared → Prop}
/-- a for over a generator of ours -/
theorem for_gen {xi xc : Str} {pk pv pt : Pos} {x1 : Nat} {body : List Stmt} {a g : Nat} {its : List (Nat × List Nat)} {cons : List Addr} {m : Str → Option Value} {news : List (Addr × Obj)} {G₀ : Array GenState}
    (J : Nat → (Str → Option Value) → List (Addr × Obj) → Prop)
    (hh : A.handled = none) (hd : A.depth ≤ 340) (hu : A.units ≤ 200) (hl : h₀.NoLimit)
    (hcons : cons = env.locals :: news.map (·.1)) (hst : GenSt prog w h₀ cons its a g 0 s) (ha : h₀.get? a = none)
    (hG : GB G₀ s.gens) (hg : G₀.size ≤ g)
    (F : Fr h₀ env.locals s.heap m) (N : News h₀ env.locals s.heap news) (hj : J 0 m news)
    (hxi : env.kindOf xi = some .local) (hxc : env.kindOf xc = some .local)
    (hp : (env.scope.kind == .class || (env.scope.kind == .module && env.locals != env.globals)) = false)
    (turn : ∀ j it ti tc m₁ news₁ h tk gs own, its[j]? = some it → news₁.map (·.1) = news.map (·.1) → OwnOff own (news.map (·.1)) → J j m₁ news₁ → GB G₀ gs →
      Fr h₀ env.locals h (fun y => if y = xc then some (.str ⟨it.2.toArray⟩ tc) else if y = xi then some (.int (it.1 : Int) ti) else m₁ y) → News h₀ env.locals h (news₁ ++ own) →
      wpAny (model prog w) A (execs body env) (InvPostN h₀ env.locals (J (j + 1)) own (news.map (·.1)) { s with heap := h, toks := tk, gens := gs } (fun f s' => R (.ok f) s')) (fun _ _ => False) { s with heap := h, toks := tk, gens := gs })
    (done : ∀ m₁ news₁ h tk gs, J its.length m₁ news₁ → GB G₀ gs → Fr h₀ env.locals h m₁ → News h₀ env.locals h news₁ → R (.ok .next) { s with heap := h, toks := tk, gens := gs }) :
    codeAny (model prog w) A (.forLoop (.Tuple [.Name xi pk, .Name xc pv] x1 pt) (.ref a) body [] env) R s := by
  have hc₀ : ∀ b ∈ cons, h₀.get? b = none := fun b hb => by
    rw [hcons] at hb
    rcases List.mem_cons.mp hb with rfl | hb
    · exact h_none F.above
    · obtain ⟨p, hp, rfl⟩ := List.mem_map.mp hb
      exact (N p hp).2.2
  have hLc : env.locals ∈ cons := hcons ▸ List.mem_cons_self ..
  refine codeAny_forLoop_any
    (fun k s' => ∃ j h tk gs m₁ news₁, s' = { s with heap := h, toks := tk, gens := gs } ∧ GenSt prog w h₀ cons its a g j s' ∧ Fr h₀ env.locals h m₁ ∧ News h₀ env.locals h news₁ ∧ news₁.map (·.1) = news.map (·.1) ∧ J j m₁ news₁ ∧ GB G₀ gs ∧ j ≤ its.length ∧ k = its.length - j) ?_ its.length
    ⟨0, s.heap, s.toks, s.gens, m, news, rfl, hst, F, N, rfl, hj, hG, Nat.zero_le _, rfl⟩
  rintro k s' ⟨j, h, tk, gs, m₁, news₁, rfl, ⟨hobj, hoff, gst, hgst, hbare, hgo⟩, F₁, N₁, hadr, hJ, hGB, hjl, rfl⟩
  have hnc : ∀ p ∈ news₁, p.1 ∈ cons := fun p hp => by
    rw [hcons, ← hadr]
    exact List.mem_cons_of_mem _ (List.mem_map.mpr ⟨p, hp, rfl⟩)
  refine wpAny_mono (any_rm (d := 340) (u := 200) hh hd hu (pyNext_genQ (P := genP h₀ (a :: cons)) (n := its.length - j) rfl (hl.keeps F₁.keep) (by decide) hobj hgst (hgo _ fun b o _ e => e) (fun v s₁ gs' hb' hy => ?_) (fun s₁ hp' h' hk' => ?_))) (fun r s₁ x => x) (fun _ _ x => False.elim x)
  · obtain ⟨⟨it, T, t1, t2, hit, rfl, hT⟩, ⟨⟨h₁, tk₁, rfl⟩, held, base⟩, kap⟩ := hy
    have hne : its.length - j ≠ 0 := fun e => by
      rw [e] at kap
      exact kap _ fun _ _ _ e => e
    obtain ⟨q, hq⟩ : ∃ q, its.length - j = q + 1 := ⟨its.length - j - 1, by omega⟩
    rw [hq] at kap hit
    have hidx : its.length - 1 - (q + 1 - 1) = j := by omega
    rw [hidx] at hit
    have held' : ∀ b o, b ∈ a :: cons → h.get? b = some o → h₁.get? b = some o := held
    have base' : ∀ b o, h₀.get? b = some o → h₁.get? b = some o := base
    have F₂ : Fr h₀ env.locals h₁ m₁ := ⟨F₁.ns.at' fun o e => held' _ o (.tail _ hLc) e, base', F₁.above⟩
    have N₂ : News h₀ env.locals h₁ news₁ := fun p hp => ⟨held' _ _ (.tail _ (hnc p hp)) (N₁ p hp).1, (N₁ p hp).2⟩
    have hobj₁ : h₁.IsGen a g := let ⟨o, nm, qn, ho, r⟩ := hobj; ⟨o, nm, qn, held' a o (.head _) ho, r⟩
    dsimp only
    refine letGo_gen hobj₁ ?_
    refine assign_pair hh F₂ ⟨_, hT, rfl, _, rfl⟩ hxi hxc hp fun h₃ tk₃ F₃ hk₃ => ?_
    have hk₃' : ∀ b o, b ≠ env.locals → h₁.get? b = some o → h₃.get? b = some o := hk₃
    have N₃ : News h₀ env.locals h₃ news₁ := fun p hp => ⟨hk₃' _ _ (N₂ p hp).2.1 (N₂ p hp).1, (N₂ p hp).2⟩
    let fp := (List.range h₃.objs.size).filter fun b => decide (b ∉ cons)
    have hLf : env.locals ∉ fp := fun hm => by
      have := (List.mem_filter.mp hm).2
      exact absurd hLc (of_decide_eq_true this)
    have Nown : News h₀ env.locals h₃ (ownOf h₀ fp h₃) := news_ownOf hLf
    have hsep : OwnOff (ownOf h₀ fp h₃) (news.map (·.1)) := fun p hp b hb e => by
      have h1 := (List.mem_filter.mp (ownOf_sub p hp)).2
      refine absurd ?_ (of_decide_eq_true h1)
      rw [e, hcons]; exact List.mem_cons_of_mem _ hb
    have hall : ∀ b o, b ∉ cons → h₀.get? b = none → h₃.get? b = some o → (b, o) ∈ ownOf h₀ fp h₃ := fun b o hb hn e =>
      mem_ownOf (List.mem_filter.mpr ⟨List.mem_range.mpr (Heap.lt_size e), decide_eq_true hb⟩) hn e
    generalize ownOf h₀ fp h₃ = own at Nown hsep hall
    have NN : News h₀ env.locals h₃ (news₁ ++ own) := fun p hp => (List.mem_append.mp hp).elim (N₃ p) (Nown p)
    have hGB₃ : GB G₀ ((gs.setIfInBounds g .running).setIfInBounds g gs') := (hGB.set hg rfl).set hg hb'
    refine wpAny_mono (turn j it t1 t2 m₁ news₁ h₃ tk₃ _ own hit hadr hsep hJ hGB₃ F₃ NN) (fun f s₄ p => ?_) (fun _ _ e => False.elim e)
    have fin : InvEndN h₀ env.locals (J (j + 1)) own (news.map (·.1)) { s with heap := h₃, toks := tk₃, gens := (gs.setIfInBounds g .running).setIfInBounds g gs' } s₄ → ∃ k', k' < its.length - j ∧ ∃ j h tk gs m₁ news₁, s₄ = { s with heap := h, toks := tk, gens := gs } ∧ GenSt prog w h₀ cons its a g j s₄ ∧ Fr h₀ env.locals h m₁ ∧ News h₀ env.locals h news₁ ∧ news₁.map (·.1) = news.map (·.1) ∧ J j m₁ news₁ ∧ GB G₀ gs ∧ j ≤ its.length ∧ k' = its.length - j := by
      rintro ⟨h₅, tk₅, m₅, news₅, nx, rfl, F₅, N₅, hnx, hown, hadr₅, hJ₅⟩
      have al : ∀ b o, b ∉ cons → h₁.get? b = some o → h₅.get? b = some o := fun b o hb e => by
        have hbL : b ≠ env.locals := fun q => hb (q ▸ hLc)
        have e₃ := hk₃' b o hbL e
        cases hn : h₀.get? b with
        | some o' =>
          have : h₃.get? b = some o' := F₃.keep b o' hn
          rw [e₃] at this; cases this
          exact F₅.keep b o hn
        | none => exact (N₅ _ (hown _ (hall b o hb hn e₃))).1
      refine ⟨its.length - (j + 1), by omega, j + 1, h₅, tk₅, _, m₅, nx, rfl, ⟨let ⟨o, nm, qn, ho, r⟩ := hobj₁; ⟨o, nm, qn, al a o hoff ho, r⟩, hoff, gs', setGen_self (setGen_self hgst), hb', fun s₆ al₆ => ?_⟩, F₅, (fun p hp => N₅ p (hnx p hp)), hadr₅, hJ₅, hGB₃, by omega, rfl⟩
      have e : its.length - (j + 1) = q := by omega
      rw [e]
      exact kap s₆ fun b o hb e => al₆ b o hb (al b o hb e)
    cases f with
    | ret v => exact p
    | brk => exact p
    | next => exact fin p
    | cont => exact fin p
  · obtain ⟨hn0, ⟨h₁, tk₁, rfl⟩, held, base⟩ := hp'
    have held' : ∀ b o, b ∈ a :: cons → h.get? b = some o → h₁.get? b = some o := held
    have base' : ∀ b o, h₀.get? b = some o → h₁.get? b = some o := base
    have hk'' : ∀ b o, h₁.get? b = some o → h'.get? b = some o := hk'
    have hjn : j = its.length := by omega
    subst hjn
    refine wpAny_execs_nil (done m₁ news₁ h' tk₁ _ hJ ((hGB.set hg rfl).set hg rfl) ⟨F₁.ns.at' fun o e => hk'' _ _ (held' _ o (.tail _ hLc) e), fun b o e => hk'' _ _ (base' b o e), F₁.above⟩ fun p hp => ⟨hk'' _ _ (held' _ _ (.tail _ (hnc p hp)) (N₁ p hp).1), (N₁ p hp).2⟩)
end

theorem inv_end {h₀ h' : Heap} {L : Addr} {J : (Str → Option Value) → List (Addr × Obj) → Prop} {own nx : List (Addr × Obj)} {adr : List Addr} {s₁ : Shared} {tk : Nat} {m' : Str → Option Value}
    (F : Fr h₀ L h' m') (N : News h₀ L h' (nx ++ own)) (ha : nx.map (·.1) = adr) (hJ : J m' nx) : InvEndN h₀ L J own adr s₁ { s₁ with heap := h', toks := tk } :=
  ⟨h', tk, m', nx ++ own, nx, rfl, F, N, fun _ hp => List.mem_append_left _ hp, fun _ hp => List.mem_append_right _ hp, ha, hJ⟩
theorem signs_eq {l : List Nat} {k : Nat} {z : String} (h : Str.ofString z = ⟨#[k]⟩) : ((⟨l.toArray⟩ : Str) == Str.ofString z) = true ↔ l = [k] := by
  rw [h, beq_iff_eq]
  constructor
  · intro e
    have := congrArg (fun q => (Str.cps q).toList) e
    simpa using this
  · intro e
    rw [e]
theorem signs_ne {l : List Nat} {k : Nat} {z : String} (h : Str.ofString z = ⟨#[k]⟩) : ((⟨l.toArray⟩ : Str) == Str.ofString z) = false ↔ l ≠ [k] := by
  rw [← Bool.not_eq_true, signs_eq h]
end Mine
end
section
set_option maxHeartbeats 2000000
open PySem PySem.W PyProof.Rows PySem.Calls PySem.Spec
open Builtin.Str
namespace Mine
theorem slice_nat (x : Str) (a b : Nat) : Txt.slice x (some (a : Int)) (some (b : Int)) = ⟨((x.cps.toList.drop a).take (b - a)).toArray⟩ := by
  have hlen : x.cps.toList.length = x.length := by simp [Str.length]
  by_cases h : a ≤ b ∧ b ≤ x.length
  · have := slice_closes (x := x) (i := (a : Int)) (j := (b : Int)) ⟨by omega, by omega, by rw [hlen]; omega⟩
    rw [beq_iff_eq] at this
    rw [this]
    congr 3
    omega
  · by_cases h2 : a < x.length ∧ a < b
    · have hb : x.length < b := by omega
      have e : strSliceIndices (some (a : Int)) (some (b : Int)) 1 x.length = strSliceIndices (some (a : Int)) (some (x.length : Int)) 1 x.length := by
        have h1 : ¬ ((b : Int) < 0) := by omega
        have h3 : ¬ ((x.length : Int) < 0) := by omega
        simp only [strSliceIndices, h1, h3, if_false, show ((1 : Int) > 0) = True from by simp, if_true]
        have e1 : min (b : Int) (x.length : Int) = x.length := by omega
        have e2 : min (x.length : Int) (x.length : Int) = x.length := by omega
        rw [e1, e2]
      have q : Txt.slice x (some (a : Int)) (some (b : Int)) = Txt.slice x (some (a : Int)) (some (x.length : Int)) := by
        unfold Txt.slice
        rw [e]
      have := slice_closes (x := x) (i := (a : Int)) (j := (x.length : Int)) ⟨by omega, by omega, by rw [hlen]; omega⟩
      rw [beq_iff_eq] at this
      rw [q, this]
      congr 1
      have h3 : ((x.length : Int) - (a : Int)).toNat = x.length - a := by omega
      rw [h3, Int.toNat_natCast, List.take_of_length_le (by rw [List.length_drop, hlen]; exact Nat.le_refl _), List.take_of_length_le (by rw [List.length_drop, hlen]; omega)]
    · have e : strSliceIndices (some (a : Int)) (some (b : Int)) 1 x.length = [] := by
        have h1 : ¬ ((b : Int) < 0) := by omega
        have h3 : ¬ ((a : Int) < 0) := by omega
        simp only [strSliceIndices, h1, h3, if_false, sliceRange, show ((1 : Int) > 0) = True from by simp, if_true]
        have : ¬ (max (0 : Int) (min (a : Int) (x.length : Int)) < max (0 : Int) (min (b : Int) (x.length : Int))) := by omega
        rw [if_neg this]
        rfl
      have q : (x.cps.toList.drop a).take (b - a) = [] := by
        by_cases h3 : a < b
        · rw [List.drop_eq_nil_of_le (by rw [hlen]; omega)]; simp
        · have : b - a = 0 := by omega
          rw [this]; simp
      unfold Txt.slice
      rw [e, q]
      split
      · rename_i h3
        have : x.length = 0 := by
          simp at h3; omega
        have : x.cps = #[] := Array.eq_empty_of_size_eq_zero this
        cases x; simp_all
      · rfl
theorem slice_from (x : Str) (a : Nat) : Txt.slice x (some (a : Int)) none = ⟨(x.cps.toList.drop a).toArray⟩ := by
  have hlen : x.cps.toList.length = x.length := by simp [Str.length]
  have e : Txt.slice x (some (a : Int)) none = Txt.slice x (some (a : Int)) (some (x.length : Int)) := by
    unfold Txt.slice
    rw [StrLaws.sliceIdx_none_hi]
  rw [e, slice_nat]
  congr 2
  rw [List.take_of_length_le (by rw [List.length_drop, hlen]; exact Nat.le_refl _)]
theorem escI_len : ∀ (l : List Nat) (i : Nat) (e : Bool), (escI l i e).length ≤ l.length + 1
  | [], _, true => by simp [escI]
  | [], _, false => by simp [escI]
  | c :: r, i, true => by simp only [escI, List.length_cons]; have := escI_len r (i + 1) false; omega
  | c :: r, i, false => by
    simp only [escI]
    split
    · have := escI_len r (i + 1) true; simp only [List.length_cons]; omega
    · have := escI_len r (i + 1) false; simp only [List.length_cons]; omega
theorem strsAre_push {vs : Array Value} {ys : List Str} (h : StrsAre vs.toList ys) (y : Str) (t : Tok) : StrsAre (vs.push (.str y t)).toList (ys ++ [y]) := by
  rw [Array.toList_push]
  generalize vs.toList = l at h
  induction h with
  | nil => exact .cons y t .nil
  | cons z u _ ih => exact .cons z u ih

theorem join_empty : ∀ ls : List (List Nat), Txt.join (Str.ofString "") (ls.map fun l => (⟨l.toArray⟩ : Str)) = ⟨ls.flatten.toArray⟩ := by
  have h0 : Str.ofString "" = (⟨#[]⟩ : Str) := by decide +kernel
  have key : ∀ ls : List (List Nat), Str.join (⟨#[]⟩ : Str) (ls.map fun l => (⟨l.toArray⟩ : Str)) = ⟨ls.flatten.toArray⟩ := by
    intro ls
    induction ls with
    | nil => rfl
    | cons a r ih =>
      cases r with
      | nil => simp [Str.join]
      | cons b r =>
        have e : Str.join (⟨#[]⟩ : Str) ((a :: b :: r).map fun l => (⟨l.toArray⟩ : Str)) = (⟨a.toArray⟩ : Str) ++ ⟨#[]⟩ ++ Str.join (⟨#[]⟩ : Str) ((b :: r).map fun l => (⟨l.toArray⟩ : Str)) := rfl
        rw [e, ih]
        apply Str.ext'
        simp [Str.cps_append]
  intro ls
  rw [h0]
  show Builtin.Str.glued _ _ = _
  rw [StrLaws.glued_eq_join, key]
end Mine
end
section
set_option maxHeartbeats 2000000
open PySem PySem.W PyProof.Rows PySem.Calls PySem.Spec
namespace Mine

/-- a turn's end -/
def TurnG (h₀ : Heap) (L : Addr) (J : (Str → Option Value) → List (Addr × Obj) → Prop) (own : List (Addr × Obj)) (adr : List Addr) (G₀ : Array GenState) (s : Shared) (R : Result → Shared → Prop) (f : Flow) (s₂ : Shared) : Prop :=
  match f with
  | .ret v => R (.ok (.ret v)) s₂
  | .brk => R (.ok .next) s₂
  | _ => ∃ h' tk gs m' nx, s₂ = { s with heap := h', toks := tk, gens := gs } ∧ Fr h₀ L h' m' ∧ News h₀ L h' (nx ++ own) ∧ nx.map (·.1) = adr ∧ J m' nx ∧ GB G₀ gs
theorem turn_end {h₀ h' : Heap} {L : Addr} {J : (Str → Option Value) → List (Addr × Obj) → Prop} {own nx : List (Addr × Obj)} {adr : List Addr} {G₀ gs : Array GenState} {s : Shared} {R : Result → Shared → Prop} {m' : Str → Option Value} {tk : Nat} {s₂ : Shared}
    (e : s₂ = { s with heap := h', toks := tk, gens := gs }) (F : Fr h₀ L h' m') (N : News h₀ L h' (nx ++ own)) (ha : nx.map (·.1) = adr) (hJ : J m' nx) (hG : GB G₀ gs) : TurnG h₀ L J own adr G₀ s R .next s₂ := ⟨h', tk, gs, m', nx, e, F, N, ha, hJ, hG⟩

section
variable {prog : Program} {w : World} {A : Around} {s : Shared} {env : Env} {h₀ : Heap} {R : Result → Shared → Prop}
/-- a for of one name over a walk -/
theorem for_walk {x : Str} {px : Pos} {body : List Stmt} {I : Addr} {fp wr : List Addr} {n : Nat} {P : Nat → Value → Prop} {St : Nat → Heap → Prop} {m : Str → Option Value} {news : List (Addr × Obj)} {G₀ : Array GenState}
    (J : Nat → (Str → Option Value) → List (Addr × Obj) → Prop) (W : Walks prog w A I fp wr n P St) (hx : env.kindOf x = some .local)
    (hp : (env.scope.kind == .class || (env.scope.kind == .module && env.locals != env.globals)) = false)
    (hLf : env.locals ∉ fp) (hwr : ∀ b ∈ wr, h₀.get? b = none) (hnw : ∀ p ∈ news, p.1 ∉ fp) (hst : St 0 s.heap) (F : Fr h₀ env.locals s.heap m) (N : News h₀ env.locals s.heap news) (hj : J 0 m news) (hG : GB G₀ s.gens)
    (turn : ∀ i v m₁ news₁ h tk gs own, i < n → P i v → news₁.map (·.1) = news.map (·.1) → OwnOff own (news.map (·.1)) → J i m₁ news₁ → GB G₀ gs →
      Fr h₀ env.locals h (fun y => if y = x then some v else m₁ y) → News h₀ env.locals h (news₁ ++ own) →
      wpAny (model prog w) A (execs body env) (TurnG h₀ env.locals (J (i + 1)) own (news.map (·.1)) G₀ s R) (fun _ _ => False) { s with heap := h, toks := tk, gens := gs })
    (done : ∀ m₁ news₁ h tk gs, J n m₁ news₁ → news₁.map (·.1) = news.map (·.1) → GB G₀ gs → Fr h₀ env.locals h m₁ → News h₀ env.locals h news₁ → (∀ b o, b ∈ fp → b ∉ wr → s.heap.get? b = some o → h.get? b = some o) → R (.ok .next) { s with heap := h, toks := tk, gens := gs }) :
    codeAny (model prog w) A (.forLoop (.Name x px) (.ref I) body [] env) R s := by
  have hLw : env.locals ∉ wr := fun h => hLf (W.sub _ h)
  have old : ∀ b o, h₀.get? b = some o → b ∉ wr := fun b o e hb => by rw [hwr b hb] at e; cases e
  refine codeAny_forLoop_any
    (fun k s' => ∃ i h tk gs m₁ news₁, s' = { s with heap := h, toks := tk, gens := gs } ∧ St i h ∧ Fr h₀ env.locals h m₁ ∧ News h₀ env.locals h news₁ ∧ news₁.map (·.1) = news.map (·.1) ∧ J i m₁ news₁ ∧ GB G₀ gs ∧ i ≤ n ∧ k = n - i ∧ (∀ b o, b ∈ fp → b ∉ wr → s.heap.get? b = some o → h.get? b = some o)) ?_ n
    ⟨0, s.heap, s.toks, s.gens, m, news, rfl, hst, F, N, rfl, hj, hG, Nat.zero_le _, rfl, fun _ _ _ _ e => e⟩
  rintro k s' ⟨i, h, tk, gs, m₁, news₁, rfl, hst₁, F₁, N₁, hadr, hJ, hGB, hi, rfl, hfix⟩
  have hnf : ∀ p ∈ news₁, p.1 ∉ fp := fun p hp => by
    have : p.1 ∈ news.map (·.1) := hadr ▸ List.mem_map.mpr ⟨p, hp, rfl⟩
    obtain ⟨q, hq, e⟩ := List.mem_map.mp this
    exact e ▸ hnw q hq
  have hnw' : ∀ p ∈ news₁, p.1 ∉ wr := fun p hp h => hnf p hp (W.sub _ h)
  have next : ∀ h₁ : Heap, (∀ b o, b ∉ wr → h.get? b = some o → h₁.get? b = some o) → Fr h₀ env.locals h₁ m₁ ∧ News h₀ env.locals h₁ news₁ := fun h₁ hk₁ =>
    ⟨⟨F₁.ns.at' fun o e => hk₁ _ o hLw e, fun b o e => hk₁ b o (old b o e) (F₁.keep b o e), F₁.above⟩, fun p hp => ⟨hk₁ _ _ (hnw' p hp) (N₁ p hp).1, (N₁ p hp).2⟩⟩
  by_cases hlt : i < n
  · refine W.item i _ _ _ hlt hst₁ fun v h₁ tk₁ hPv hst₂ hk₁ => ?_
    replace hk₁ : ∀ b o, b ∉ wr → h.get? b = some o → h₁.get? b = some o := hk₁
    obtain ⟨F₂, N₂⟩ := next h₁ hk₁
    dsimp only
    have hgo : ∀ (Q : Unit → Shared → Prop) (E : Value → Shared → Prop) (s₃ : Shared), Q () s₃ → wpAny (model prog w) A (letOwnedTupleGo (.Name x px) (.ref I) v) Q E s₃ := fun Q E s₃ q => wpAny_pure q
    refine hgo _ _ _ ?_
    refine wpAny_assign_Name (wpAny_storeName_local hx F₂.ns (fun h₂ hn₂ hs₂ => ?_) hp)
    have F₃ := F₂.set hn₂ hs₂
    have hs₂' : Heap.SameBut env.locals h₁ h₂ := hs₂
    have N₃ : News h₀ env.locals h₂ news₁ := N₂.set hs₂'
    have hst₃ : St (i + 1) h₂ := W.frame _ _ _ hst₂ fun b hb o e => hs₂'.extBut b o (fun q => hLf (q ▸ hb)) e
    have Nown : News h₀ env.locals h₂ (ownOf h₀ fp h₂) := news_ownOf hLf
    have hsep : OwnOff (ownOf h₀ fp h₂) (news.map (·.1)) := fun p hp b hb e => by
      obtain ⟨q, hq, rfl⟩ := List.mem_map.mp hb
      exact hnw q hq (e ▸ ownOf_sub p hp)
    have hall : ∀ b o, b ∈ fp → h₀.get? b = none → h₂.get? b = some o → (b, o) ∈ ownOf h₀ fp h₂ := fun b o hb hn e => mem_ownOf hb hn e
    generalize ownOf h₀ fp h₂ = own at Nown hsep hall
    refine wpAny_mono (turn i v m₁ news₁ h₂ _ gs own hlt hPv hadr hsep hJ hGB F₃ (fun p hp => (List.mem_append.mp hp).elim (N₃ p) (Nown p))) (fun f s₄ p => ?_) (fun _ _ e => False.elim e)
    have fin : TurnG h₀ env.locals (J (i + 1)) own (news.map (·.1)) G₀ s R .next s₄ → ∃ k', k' < n - i ∧ ∃ i h tk gs m₁ news₁, s₄ = { s with heap := h, toks := tk, gens := gs } ∧ St i h ∧ Fr h₀ env.locals h m₁ ∧ News h₀ env.locals h news₁ ∧ news₁.map (·.1) = news.map (·.1) ∧ J i m₁ news₁ ∧ GB G₀ gs ∧ i ≤ n ∧ k' = n - i ∧ (∀ b o, b ∈ fp → b ∉ wr → s.heap.get? b = some o → h.get? b = some o) := by
      rintro ⟨h₅, tk₅, gs₅, m₅, nx, rfl, F₅, N₅, hadr₅, hJ₅, hG₅⟩
      have keep₅ : ∀ b o, b ∈ fp → h₂.get? b = some o → h₅.get? b = some o := fun b o hb e => by
        cases hn : h₀.get? b with
        | some o' =>
          have : h₂.get? b = some o' := F₃.keep b o' hn
          rw [e] at this; cases this
          exact F₅.keep b o hn
        | none => exact (N₅ _ (List.mem_append_right _ (hall b o hb hn e))).1
      refine ⟨n - (i + 1), by omega, i + 1, h₅, tk₅, gs₅, m₅, nx, rfl, W.frame _ _ _ hst₃ fun b hb o e => keep₅ b o hb e, F₅, (fun p hp => N₅ p (List.mem_append_left _ hp)), hadr₅, hJ₅, hG₅, hlt, rfl, fun b o hb hbw e => keep₅ b o hb (hs₂'.extBut b o (fun q => hLf (q ▸ hb)) (hk₁ b o hbw (hfix b o hb hbw e)))⟩
    cases f with
    | ret v => exact p
    | brk => exact p
    | next => exact fin p
    | cont => exact fin p
  · have hin : i = n := by omega
    subst hin
    refine W.done _ _ _ hst₁ fun h₁ tk₁ hk₁ => ?_
    replace hk₁ : ∀ b o, b ∉ wr → h.get? b = some o → h₁.get? b = some o := hk₁
    obtain ⟨F₂, N₂⟩ := next h₁ hk₁
    exact wpAny_execs_nil (done m₁ news₁ h₁ tk₁ gs hJ hadr hGB F₂ N₂ fun b o hb hbw e => hk₁ b o hbw (hfix b o hb hbw e))

/-- a for of one name over a list that stands -/
theorem for_list {x : Str} {px : Pos} {body : List Stmt} {l : Addr} {items : Array Value} {m : Str → Option Value} {news : List (Addr × Obj)} {G₀ : Array GenState}
    (J : Nat → (Str → Option Value) → List (Addr × Obj) → Prop) (hh : A.handled = none) (hl : s.heap.IsList l items) (hx : env.kindOf x = some .local)
    (hp : (env.scope.kind == .class || (env.scope.kind == .module && env.locals != env.globals)) = false)
    (hlL : l ≠ env.locals) (hln : ∀ p ∈ news, p.1 ≠ l) (F : Fr h₀ env.locals s.heap m) (N : News h₀ env.locals s.heap news) (hj : J 0 m news) (hG : GB G₀ s.gens)
    (turn : ∀ i v m₁ news₁ h tk gs own, items[i]? = some v → news₁.map (·.1) = news.map (·.1) → OwnOff own (news.map (·.1)) → J i m₁ news₁ → GB G₀ gs →
      Fr h₀ env.locals h (fun y => if y = x then some v else m₁ y) → News h₀ env.locals h (news₁ ++ own) →
      wpAny (model prog w) A (execs body env) (TurnG h₀ env.locals (J (i + 1)) own (news.map (·.1)) G₀ { s with heap := s.heap.push { cls := .type "list_iterator", data := .fields #[.ref l, .int 0 0] } } R) (fun _ _ => False) { s with heap := h, toks := tk, gens := gs })
    (done : ∀ m₁ news₁ h tk gs, J items.size m₁ news₁ → news₁.map (·.1) = news.map (·.1) → GB G₀ gs → Fr h₀ env.locals h m₁ → News h₀ env.locals h news₁ → (∀ o, s.heap.get? l = some o → h.get? l = some o) → R (.ok .next) { s with heap := h, toks := tk, gens := gs }) :
    wpAny (model prog w) A (pyIter (.ref l)) (fun it s₂ => codeAny (model prog w) A (.forLoop (.Name x px) it body [] env) R s₂) (fun _ _ => False) s := by
  obtain ⟨ol, hol, _⟩ := id hl
  have hne : l ≠ s.heap.objs.size := Nat.ne_of_lt (Heap.lt_size hol)
  refine wpAny_pyIter_list hl ?_
  have W := Walks.list (prog := prog) (w := w) hh s.heap.objs.size l hne items
  have hLs : env.locals < s.heap.objs.size := F.ns.lt
  refine for_walk (G₀ := G₀) J W hx hp ?_ ?_ ?_ ⟨⟨_, Heap.get?_push_size _ rfl, rfl, rfl⟩, hl.at fun o e => Heap.get?_push_of_some _ e⟩ (F.push _) (fun p hp => ⟨Heap.get?_push_of_some _ (N p hp).1, (N p hp).2⟩) hj hG ?_ ?_
  · intro hm
    rcases List.mem_cons.mp hm with e | hm
    · exact Nat.ne_of_lt hLs e
    · exact hlL (List.mem_singleton.mp hm).symm
  · intro b hb
    rw [List.mem_singleton.mp hb]
    exact h_none (Nat.le_trans F.above (Nat.le_of_lt hLs))
  · intro p hp hI
    rcases List.mem_cons.mp hI with e | hm
    · exact Nat.ne_of_lt (Heap.lt_size (N p hp).1) e
    · exact hln p hp (List.mem_singleton.mp hm)
  · intro i v m₁ news₁ h tk gs own _ hP ha ho hJ hGB F₁ N₁
    exact turn i v m₁ news₁ h tk gs own hP ha ho hJ hGB F₁ N₁
  · intro m₁ news₁ h tk gs hJ ha hGB F₁ N₁ hfix
    exact done m₁ news₁ h tk gs hJ ha hGB F₁ N₁ fun o e => hfix l o (.tail _ (.head _)) (fun hm => hne (List.mem_singleton.mp hm)) (Heap.get?_push_of_some _ e)
end
end Mine
end
section
set_option maxHeartbeats 8000000
open PySem PySem.W PyProof.Rows PySem.Calls PySem.Spec
open Sem (wp)
namespace Mine
local macro_rules | `(tactic| walk_at "exec For Tuple Call cons nil") => `(tactic| refine stop_intro ?_)
local macro_rules | `(tactic| walk_at "exec For Tuple") => `(tactic| refine stop_intro ?_)
local macro_rules | `(tactic| walk_at "call ref") => `(tactic| refine stop_intro ?_)

/-- one item of _strip_quoted_realnames' loop -/
def stripS (x : List Nat) (σ : Nat × Option Nat × List (List Nat)) (it : Nat × List Nat) : Nat × Option Nat × List (List Nat) :=
  if it.2 = [34] then match σ.2.1 with
    | none => (σ.1, some it.1, σ.2.2)
    | some o => (it.1 + 1, none, if σ.1 ≠ o then σ.2.2 ++ [(x.drop σ.1).take (o - σ.1)] else σ.2.2)
  else σ
def stripF (x : List Nat) : List Nat :=
  if 34 ∈ x then
    let σ := (escI x 0 false).foldl (stripS x) (0, none, [])
    (σ.2.2 ++ (if σ.1 < x.length then [x.drop σ.1] else [])).flatten
  else x
/-- the loop of _check_parenthesis -/
def chkF : List (Nat × List Nat) → Int → Bool
  | [], o => decide (o = 0)
  | it :: r, o => if it.2 = [40] then chkF r (o + 1) else if it.2 = [41] then (if o - 1 < 0 then false else chkF r (o - 1)) else chkF r o
theorem stripS_mem {x : List Nat} {σ : Nat × Option Nat × List (List Nat)} {it : Nat × List Nat} (h : ∀ l ∈ σ.2.2, ∀ c ∈ l, c ∈ x) : ∀ l ∈ (stripS x σ it).2.2, ∀ c ∈ l, c ∈ x := by
  unfold stripS
  split
  · split
    · exact h
    · split
      · intro l hl c hc
        rcases List.mem_append.mp hl with hl | hl
        · exact h l hl c hc
        · rw [List.mem_singleton.mp hl] at hc
          exact List.mem_of_mem_drop (List.mem_of_mem_take hc)
      · exact h
  · exact h
theorem stripF_mem (x : List Nat) : ∀ c ∈ stripF x, c ∈ x := by
  unfold stripF
  split
  · have key : ∀ (its : List (Nat × List Nat)) (σ : Nat × Option Nat × List (List Nat)), (∀ l ∈ σ.2.2, ∀ c ∈ l, c ∈ x) → ∀ l ∈ (its.foldl (stripS x) σ).2.2, ∀ c ∈ l, c ∈ x := by
      intro its
      induction its with
      | nil => intro σ h; exact h
      | cons it r ih => intro σ h; exact ih _ (stripS_mem h)
    intro c hc
    obtain ⟨l, hl, hc⟩ := List.mem_flatten.mp hc
    rcases List.mem_append.mp hl with hl | hl
    · exact key _ _ (by intro l h; cases h) l hl c hc
    · split at hl
      · rw [List.mem_singleton.mp hl] at hc
        exact List.mem_of_mem_drop hc
      · cases hl
  · exact fun c h => h
theorem ascii_of {l : List Nat} (h : ∀ c ∈ l, c < 128) : (⟨l.toArray⟩ : Str).cps.all (· < 128) = true := by
  rw [Array.all_eq_true_iff_forall_mem]
  intro c hc
  exact decide_eq_true (h c (by simpa using hc))
def checkF (x : List Nat) : Bool := chkF (escI (stripF x) 0 false) 0

abbrev prg : Program := PySem.Challenge.rw_pm0012_01.row.prog

def StripC (w : World) (mean : ExcName → Option Value) (mg mb : Str → Option Value) : Prop := ∀ (s : Shared) (R : Result → Shared → Prop) (x : Str) (t : Tok), Gd w mean mg mb s.heap → (∀ c ∈ x.cps.toList, c < 128) → x.cps.size ≤ 1000 →
  (∀ s' t', Ext s s' → R (.ok (.ret (.str ⟨(stripF x.cps.toList).toArray⟩ t'))) s') → codeAny (model PySem.Challenge.rw_pm0012_01.row.prog w) (rm 330 100) (.call (.ref 28) ⟨[.str x t], []⟩) R s

theorem check_c {w : World} {mean : ExcName → Option Value} {mg mb : Str → Option Value} (SC : StripC w mean mg mb) {s : Shared} {R : Result → Shared → Prop} {x : Str} {t : Tok}
    (G : Gd w mean mg mb s.heap) (ha : ∀ c ∈ x.cps.toList, c < 128) (hx : x.cps.size ≤ 1000)
    (hR : ∀ s', Ext s s' → R (.ok (.ret (.bool (checkF x.cps.toList)))) s') :
    codeAny (model PySem.Challenge.rw_pm0012_01.row.prog w) (rm 325 80) (.call (.ref 35) ⟨[.str x t], []⟩) R s := by
  have X := G.X
  have T := G.T
  refine' enterP G ?k6 ?k7 ?k8 ?k9 ?kB ?c5 ?c2 ?c3 ?c4 ?_
  case k6 => k_is
  case k7 => k_is
  case k8 => decide
  case k9 => exact BindsTo.of_eq rfl
  case kB => exact locs rfl
  case c5 => decide
  case c2 => rfl
  case c3 => rfl
  case c4 => rfl
  intro h₁ F N
  k_steps
  unfold Stop
  refine wpAny_call (code_rm rfl (Nat.le_of_ble_eq_true rfl) (Nat.le_of_ble_eq_true rfl) (SC _ _ x t (G.keeps F.keep) ha hx fun s₂ t₂ e₂ => ?_))
  have F₂ := e₂.fr F
  have N₂ := e₂.news N
  dsimp only
  clear F N
  k_steps
  rename_i h₃ F₃ N₃
  unfold Stop
  refine for_own ?_ (by intro _; rfl)
  k_steps
  unfold Stop
  refine wpAny_call (code_rm rfl (Nat.le_of_ble_eq_true rfl) (Nat.le_of_ble_eq_true rfl) (gen_c (cons := [s.heap.objs.size]) G F₃.keep (Nat.le_of_lt F₃.ns.lt) ?_ ?_ ?_ fun s₄ g₄ e₄ => ?_))
  · intro b hb
    obtain rfl := List.mem_singleton.mp hb
    obtain ⟨o, _, _, ho, _⟩ := F₃.ns
    exact ⟨o, ho⟩
  · intro b hb
    obtain rfl := List.mem_singleton.mp hb
    exact h_none (Nat.le_refl _)
  · exact ascii_of fun c hc => ha c (stripF_mem _ c hc)
  have F₄ := e₄.fr F₃
  have N₄ := e₄.news N₃
  dsimp only
  have hz₄ : s.heap.get? (h₃.objs.size + 1) = none := h_none (Nat.le_trans (Nat.le_of_lt F₃.ns.lt) (Nat.le_succ _))
  have hgs : GB s.gens s₂.gens := e₂.gens
  clear F₃ N₃
  refine wpAny_pyIter_gen g₄.obj ?_
  generalize hits : escI (stripF x.cps.toList) 0 false = its
  have hck : checkF x.cps.toList = chkF its 0 := by rw [← hits]; rfl
  have g₄' : GenSt prg w s.heap [s.heap.objs.size] its (h₃.objs.size + 1) s₂.gens.size 0 s₄ := by rw [← hits]; exact g₄
  refine for_gen (G₀ := s.gens) (its := its) (m := _) (fun j m nx => nx = [] ∧ ∃ o t, m (Str.ofString "opens") = some (.int o t) ∧ chkF (its.drop j) o = checkF x.cps.toList) rfl (Nat.le_of_ble_eq_true rfl) (Nat.le_of_ble_eq_true rfl) T.nolimit (by rfl) g₄' hz₄ (hgs.trans e₄.gens) hgs.size F₄ N₄ ⟨rfl, 0, _, rfl, hck.symm⟩ rfl rfl rfl ?_ ?_
  · rintro j it ti tc m₁ nx h₅ tk₅ gs₅ own hit _ _ ⟨rfl, o, to, hmo, hch⟩ hGB F₅ N₅
    have hdr : its.drop j = it :: its.drop (j + 1) := by
      obtain ⟨hl, he⟩ := List.getElem?_eq_some_iff.mp hit
      rw [List.drop_eq_getElem_cons hl, he]
    rw [hdr] at hch
    have F₆ := fr_pin (y := Str.ofString "opens") F₅ hmo
    clear F₅ F₄ N₄
    k_steps
    · rename (_ == Str.ofString "(") = true => hq
      have hq' := (signs_eq (k := 40) (by decide +kernel)).mp hq
      refine' inv_end (nx := []) ?F1 ?N1 rfl ?_
      case F1 => assumption
      case N1 => assumption
      exact ⟨rfl, _, _, rfl, by rw [← hch]; simp [chkF, hq']⟩
    · rename (_ == Str.ofString "(") = false => hq
      rename (_ == Str.ofString ")") = true => hr
      rename (_ : Int) < 0 => hlt
      have hq' := (signs_ne (k := 40) (by decide +kernel)).mp hq
      have hr' := (signs_eq (k := 41) (by decide +kernel)).mp hr
      refine' cast_ret (b := false) (c := checkF x.cps.toList) ?_ (hR _ (.of (m := ?m2) ?F2 (e₄.os.trans e₂.os) hGB (e₄.drawn.trans e₂.drawn)))
      case F2 => assumption
      rw [← hch]; simp [chkF, hr', hlt]
    · rename (_ == Str.ofString "(") = false => hq
      rename (_ == Str.ofString ")") = true => hr
      rename ¬ ((_ : Int) < 0) => hlt
      have hq' := (signs_ne (k := 40) (by decide +kernel)).mp hq
      have hr' := (signs_eq (k := 41) (by decide +kernel)).mp hr
      refine' inv_end (nx := []) ?F3 ?N3 rfl ?_
      case F3 => assumption
      case N3 => assumption
      exact ⟨rfl, _, _, rfl, by rw [← hch]; simp [chkF, hr', hlt]⟩
    · rename (_ == Str.ofString "(") = false => hq
      rename (_ == Str.ofString ")") = false => hr
      have hq' := (signs_ne (k := 40) (by decide +kernel)).mp hq
      have hr' := (signs_ne (k := 41) (by decide +kernel)).mp hr
      refine' inv_end (nx := []) ?F4 ?N4 rfl ?_
      case F4 => assumption
      case N4 => assumption
      exact ⟨rfl, _, _, rfl, by rw [← hch]; simp [chkF, hq', hr']⟩
  · rintro m₁ nx h₅ tk₅ gs₅ ⟨rfl, o, to, hmo, hch⟩ hGB F₅ N₅
    have F₆ := fr_pin (y := Str.ofString "opens") F₅ hmo
    clear F₅ F₄ N₄
    k_steps
    refine cast_ret (c := checkF x.cps.toList) ?_ (hR _ (.of F₆ (e₄.os.trans e₂.os) hGB (e₄.drawn.trans e₂.drawn)))
    rw [← hch, List.drop_length]; rfl
end Mine
end
section
set_option maxHeartbeats 8000000
open PySem PySem.W PyProof.Rows PySem.Calls PySem.Spec
open Sem (wp)
namespace Mine
local macro_rules | `(tactic| walk_at "exec For Tuple Call cons nil") => `(tactic| refine stop_intro ?_)
local macro_rules | `(tactic| walk_at "exec For Tuple") => `(tactic| refine stop_intro ?_)
local macro_rules | `(tactic| walk_at "call builtin:str.join") => `(tactic| refine stop_intro ?_)
local macro_rules | `(tactic| walk_at "call ref") => `(tactic| refine stop_intro ?_)

theorem cast_retS {R : Result → Shared → Prop} {b c : Str} {t : Tok} {s : Shared} (e : c = b) (h : R (.ok (.ret (.str c t))) s) : R (.ok (.ret (.str b t))) s := e ▸ h
theorem no_quote {x : Str} (h : (Builtin.Str.occurrences x (Str.ofString "\"") 0 x.length 1).isEmpty = true) : 34 ∉ x.cps.toList := by
  have := StrLaws.found_one x 34
  rw [show (⟨#[34]⟩ : Str) = Str.ofString "\"" from by decide +kernel, h] at this
  simpa using this
theorem a_quote {x : Str} (h : (Builtin.Str.occurrences x (Str.ofString "\"") 0 x.length 1).isEmpty = false) : 34 ∈ x.cps.toList := by
  have := StrLaws.found_one x 34
  rw [show (⟨#[34]⟩ : Str) = Str.ofString "\"" from by decide +kernel, h] at this
  simpa using this

theorem stripS_len {x : List Nat} {σ : Nat × Option Nat × List (List Nat)} {it : Nat × List Nat} (h : ∀ l ∈ σ.2.2, l.length ≤ x.length) : ∀ l ∈ (stripS x σ it).2.2, l.length ≤ x.length := by
  unfold stripS
  split
  · split
    · exact h
    · split
      · intro l hl
        rcases List.mem_append.mp hl with hl | hl
        · exact h l hl
        · rw [List.mem_singleton.mp hl, List.length_take, List.length_drop]; omega
      · exact h
  · exact h
theorem strip_lens {x : List Nat} : ∀ (its : List (Nat × List Nat)) (σ : Nat × Option Nat × List (List Nat)), (∀ l ∈ σ.2.2, l.length ≤ x.length) → ∀ l ∈ (its.foldl (stripS x) σ).2.2, l.length ≤ x.length
  | [], _, h => h
  | _ :: r, _, h => strip_lens r _ (stripS_len h)
theorem strsAre_len {vs : List Value} {ys : List Str} (h : StrsAre vs ys) : vs.length = ys.length := by
  induction h with
  | nil => rfl
  | cons _ _ _ ih => simp [ih]
/-- what the loop leaves, joined -/
theorem strip_join {prog : Program} {w : World} {A : Around} {E : Value → Shared → Prop} {s : Shared} {t : Tok} {Q : Value → Shared → Prop} {D : Addr} {vs : Array Value} {n : Nat} {pieces : List (List Nat)}
    (hl : s.heap.get? D = some (PySem.W.listOf vs n)) (hvs : StrsAre vs.toList (pieces.map fun l => (⟨l.toArray⟩ : Str))) (hk : vs.size ≤ 1100) (hp : ∀ l ∈ pieces, l.length ≤ 1000)
    (h : ∀ t' k, Q (.str ⟨pieces.flatten.toArray⟩ t') { s with toks := k }) : wpAny (model prog w) A (call (.builtin "str.join") [.str (Str.ofString "") t, .ref D]) Q E s := by
  refine join_list ⟨_, hl, rfl, n, rfl⟩ hvs ?_ fun t' k => by rw [join_empty]; exact h t' k
  have h1 := StrLaws.sumLen_le (B := 1000) (pieces.map fun l => (⟨l.toArray⟩ : Str)) (fun y hy => by
    obtain ⟨l, hl, rfl⟩ := List.mem_map.mp hy
    simpa [Str.length] using hp l hl)
  have h2 : (Str.ofString "").length = 0 := by decide +kernel
  have h3 := strsAre_len hvs
  rw [Array.length_toList] at h3
  rw [h2]
  omega

/-- the loop's three names -/
structure StripJ (x : Str) (t : Tok) (D : Addr) (k : Nat) (σ : Nat × Option Nat × List (List Nat)) (m : Str → Option Value) (nx : List (Addr × Obj)) : Prop where
  addr : m (Str.ofString "addr") = some (.str x t)
  start : ∃ t, m (Str.ofString "start") = some (.int (σ.1 : Int) t)
  opn : match σ.2.1 with | none => m (Str.ofString "open_pos") = some .none | some o => ∃ t, m (Str.ofString "open_pos") = some (.int (o : Int) t)
  res : m (Str.ofString "result") = some (.ref D)
  led : ∃ vs n, nx = [(D, PySem.W.listOf vs n)] ∧ vs.size ≤ k ∧ StrsAre vs.toList (σ.2.2.map fun l => (⟨l.toArray⟩ : Str))
theorem strip_c {w : World} {mean : ExcName → Option Value} {mg mb : Str → Option Value} : StripC w mean mg mb := by
  intro s R x t G ha hx hR
  have X := G.X
  have T := G.T
  refine' enterP G ?k6 ?k7 ?k8 ?k9 ?kB ?c5 ?c2 ?c3 ?c4 ?_
  case k6 => k_is
  case k7 => k_is
  case k8 => decide
  case k9 => exact BindsTo.of_eq rfl
  case kB => exact locs rfl
  case c5 => decide
  case c2 => rfl
  case c3 => rfl
  case c4 => rfl
  intro h₁ F N
  k_steps
  · rename (_ : Bool) = true => hq
    refine' cast_retS ?_ (hR _ t (.of F rfl (.refl _) rfl))
    unfold stripF
    rw [if_neg (no_quote hq)]
  · rename (_ : Bool) = false => hq
    have hq' := a_quote hq
    rename_i D _ _ h₃ F₃ N₃
    unfold Stop
    refine for_own ?_ (by intro _; rfl)
    k_steps
    unfold Stop
    have hDL : D ≠ s.heap.objs.size := (N₃ _ (.head _)).2.1
    refine wpAny_call (code_rm rfl (Nat.le_of_ble_eq_true rfl) (Nat.le_of_ble_eq_true rfl) (gen_c (cons := [s.heap.objs.size, D]) G F₃.keep (Nat.le_of_lt F₃.ns.lt) ?_ ?_ ?_ fun s₄ g₄ e₄ => ?_))
    · intro b hb
      rcases List.mem_cons.mp hb with rfl | hb
      · obtain ⟨o, _, _, ho, _⟩ := F₃.ns
        exact ⟨o, ho⟩
      · obtain rfl := List.mem_singleton.mp hb
        exact ⟨_, (N₃ _ (.head _)).1⟩
    · intro b hb
      rcases List.mem_cons.mp hb with rfl | hb
      · exact h_none (Nat.le_refl _)
      · obtain rfl := List.mem_singleton.mp hb
        exact (N₃ _ (.head _)).2.2
    · exact ascii_of ha
    have F₄ := e₄.fr F₃
    have N₄ := e₄.news N₃
    dsimp only
    have hz₄ : s.heap.get? (h₃.objs.size + 1) = none := h_none (Nat.le_trans (Nat.le_of_lt F₃.ns.lt) (Nat.le_succ _))
    clear F₃ N₃
    refine wpAny_pyIter_gen g₄.obj ?_
    generalize hits : escI x.cps.toList 0 false = its
    have g₄' : GenSt prg w s.heap [s.heap.objs.size, D] its (h₃.objs.size + 1) s.gens.size 0 s₄ := by rw [← hits]; exact g₄
    refine for_gen (G₀ := s.gens) (its := its) (m := _) (fun j m nx => StripJ x t D j ((its.take j).foldl (stripS x.cps.toList) (0, none, [])) m nx) rfl (Nat.le_of_ble_eq_true rfl) (Nat.le_of_ble_eq_true rfl) T.nolimit (by rfl) g₄' hz₄ e₄.gens (Nat.le_refl _) F₄ N₄ ⟨rfl, ⟨_, rfl⟩, rfl, rfl, _, _, rfl, Nat.le_refl _, ?_⟩ rfl rfl rfl ?_ ?_
    · exact .nil
    · rintro j it ti tc m₁ nx h₅ tk₅ gs₅ own hit hadr hoff ⟨hm1, ⟨ts, hm2⟩, hm3, hm4, vs, n, rfl, hvk, hvs⟩ hGB F₅ N₅
      have hvl : vs.size ≤ sizeLine := by
        have h1 : j < its.length := (List.getElem?_eq_some_iff.mp hit).1
        have h2 := escI_len x.cps.toList 0 false
        rw [hits] at h2
        simp only [Array.length_toList] at h2
        rw [sizeLine_eq]; omega
      have hx' : x.length ≤ 1000 := hx
      rw [List.take_add_one, hit]
      rw [show (some it).toList = [it] from rfl, List.foldl_append, List.foldl_cons, List.foldl_nil]
      generalize (its.take j).foldl (stripS x.cps.toList) (0, none, []) = σ at hm2 hm3 hvs ⊢
      obtain ⟨st, op, res⟩ := σ
      have F₆ := fr_pin (y := Str.ofString "result") (fr_pin (y := Str.ofString "start") (fr_pin (y := Str.ofString "addr") F₅ hm1) hm2) hm4
      clear F₅ F₄ N₄
      cases op with
      | none =>
        have F₇ := fr_pin (y := Str.ofString "open_pos") F₆ hm3
        clear F₆
        k_steps
        · rename (_ == Str.ofString "\"") = true => hq
          have hq' := (signs_eq (k := 34) (by decide +kernel)).mp hq
          have e : stripS x.cps.toList (st, none, res) it = (st, some it.1, res) := by simp [stripS, hq']
          rw [e]
          refine' inv_end (nx := [(D, PySem.W.listOf vs n)]) ?F1 ?N1 rfl ?_
          case F1 => assumption
          case N1 => assumption
          exact ⟨rfl, ⟨_, rfl⟩, ⟨_, rfl⟩, rfl, _, _, rfl, Nat.le_succ_of_le hvk, hvs⟩
        · rename (_ == Str.ofString "\"") = false => hq
          have hq' := (signs_ne (k := 34) (by decide +kernel)).mp hq
          have e : stripS x.cps.toList (st, none, res) it = (st, none, res) := by simp [stripS, hq']
          rw [e]
          refine' inv_end (nx := [(D, PySem.W.listOf vs n)]) F₇ N₅ rfl ?_
          exact ⟨rfl, ⟨_, rfl⟩, rfl, rfl, _, _, rfl, Nat.le_succ_of_le hvk, hvs⟩
      | some o =>
        obtain ⟨to, hm3⟩ := hm3
        have F₇ := fr_pin (y := Str.ofString "open_pos") F₆ hm3
        clear F₆
        k_steps
        · rename (_ == Str.ofString "\"") = true => hq
          have hq' := (signs_eq (k := 34) (by decide +kernel)).mp hq
          rename ((_ : Int) ≠ _) => hne
          have hne' : st ≠ o := fun q => hne (by rw [q])
          have e : stripS x.cps.toList (st, some o, res) it = (it.1 + 1, none, res ++ [(x.cps.toList.drop st).take (o - st)]) := by simp [stripS, hq', hne']
          rw [e]
          refine' inv_end (nx := [(D, PySem.W.listOf (vs.push _) (n + 1))]) ?F3 ?N3 rfl ?_
          case F3 => assumption
          case N3 => assumption
          refine ⟨rfl, ⟨_, rfl⟩, rfl, rfl, _, _, rfl, by rw [Array.size_push]; exact Nat.succ_le_succ hvk, ?_⟩
          rw [List.map_append, slice_nat]
          exact strsAre_push hvs _ _
        · rename (_ == Str.ofString "\"") = true => hq
          have hq' := (signs_eq (k := 34) (by decide +kernel)).mp hq
          rename (((st, some o, res) : Nat × Option Nat × List (List Nat)).fst : Int) = (o : Int) => hne
          have hne' : st = o := Int.ofNat.inj hne
          have e : stripS x.cps.toList (st, some o, res) it = (it.1 + 1, none, res) := by simp [stripS, hq', hne']
          rw [e]
          refine' inv_end (nx := [(D, PySem.W.listOf vs n)]) ?F4 ?N4 rfl ?_
          case F4 => assumption
          case N4 => assumption
          exact ⟨rfl, ⟨_, rfl⟩, rfl, rfl, _, _, rfl, Nat.le_succ_of_le hvk, hvs⟩
        · rename (_ == Str.ofString "\"") = false => hq
          have hq' := (signs_ne (k := 34) (by decide +kernel)).mp hq
          have e : stripS x.cps.toList (st, some o, res) it = (st, some o, res) := by simp [stripS, hq']
          rw [e]
          refine' inv_end (nx := [(D, PySem.W.listOf vs n)]) F₇ N₅ rfl ?_
          exact ⟨rfl, ⟨_, rfl⟩, ⟨_, rfl⟩, rfl, _, _, rfl, Nat.le_succ_of_le hvk, hvs⟩
    · rintro m₁ nx h₅ tk₅ gs₅ ⟨hm1, ⟨ts, hm2⟩, hm3, hm4, vs, n, rfl, hvk, hvs⟩ hGB F₅ N₅
      have F₆ := fr_pin (y := Str.ofString "result") (fr_pin (y := Str.ofString "start") (fr_pin (y := Str.ofString "addr") F₅ hm1) hm2) hm4
      have hx' : x.length ≤ 1000 := hx
      have hil : its.length ≤ 1001 := by
        have h2 := escI_len x.cps.toList 0 false
        rw [hits] at h2
        simp only [Array.length_toList] at h2
        omega
      have hvl : vs.size ≤ sizeLine := by rw [sizeLine_eq]; omega
      rw [List.take_length] at hvs
      have hpl := strip_lens (x := x.cps.toList) its (0, none, []) (by intro l h; cases h)
      have hfin : stripF x.cps.toList = ((its.foldl (stripS x.cps.toList) (0, none, [])).2.2 ++ (if (its.foldl (stripS x.cps.toList) (0, none, [])).1 < x.cps.toList.length then [x.cps.toList.drop (its.foldl (stripS x.cps.toList) (0, none, [])).1] else [])).flatten := by
        unfold stripF
        rw [if_pos hq', hits]
      rw [List.take_length] at F₆
      have hxl : x.cps.toList.length = x.length := by simp [Str.length]
      clear F₅ F₄ N₄
      generalize its.foldl (stripS x.cps.toList) (0, none, []) = σ at F₆ hvs hpl hfin
      have hpl' : ∀ l ∈ σ.2.2, l.length ≤ 1000 := fun l hl => Nat.le_trans (hpl l hl) (by rw [hxl]; exact hx')
      k_steps
      · rename ((_ : Int) < _) => hlt
        rw [hxl, if_pos (by omega)] at hfin
        unfold Stop
        refine strip_join (pieces := σ.2.2 ++ [x.cps.toList.drop σ.1]) (News.get (by assumption) (.head _)) ?_ ?_ ?_ fun t' k => ?_
        · rw [List.map_append, slice_from]
          exact strsAre_push hvs _ _
        · rw [Array.size_push]; omega
        · intro l hl
          rcases List.mem_append.mp hl with hl | hl
          · exact hpl' l hl
          · rw [List.mem_singleton.mp hl, List.length_drop, hxl]; omega
        · rw [← hfin]
          refine' hR _ t' (.of (m := ?m5) ?F5 e₄.os hGB e₄.drawn)
          case F5 => assumption
      · rename (¬ ((_ : Int) < _)) => hlt
        rw [hxl, if_neg (by omega), List.append_nil] at hfin
        unfold Stop
        refine strip_join (pieces := σ.2.2) (News.get N₅ (.head _)) hvs (by omega) hpl' fun t' k => ?_
        rw [← hfin]
        exact hR _ t' (.of F₆ e₄.os hGB e₄.drawn)
end Mine
end
section
set_option maxHeartbeats 8000000
open PySem PySem.W PyProof.Rows PySem.Calls PySem.Spec
namespace Mine
local macro_rules | `(tactic| walk_at "exec For Name Name cons nil") => `(tactic| refine stop_intro ?_)
local macro_rules | `(tactic| walk_at "call ref") => `(tactic| refine stop_intro ?_)

/-- what stands for a text that is refused -/
def refused : Str := Str.ofString "('', '')"
def preF (y : Str) : Str := if checkF y.cps.toList then y else refused

theorem strsAre_get {vs : List Value} {ys : List Str} (h : StrsAre vs ys) : ∀ {i : Nat} {v : Value}, vs[i]? = some v → ∃ y t, ys[i]? = some y ∧ v = .str y t := by
  induction h with
  | nil => intro i v e; cases e
  | cons y t _ ih =>
    intro i v e
    cases i with
    | zero => cases e; exact ⟨y, t, rfl, rfl⟩
    | succ i => exact ih e

theorem pre_c {w : World} {mean : ExcName → Option Value} {mg mb : Str → Option Value} {s : Shared} {R : Result → Shared → Prop} {l : Addr} {vs : List Value} {ys : List Str}
    (G : Gd w mean mg mb s.heap) (hl : s.heap.IsList l vs.toArray) (hvs : StrsAre vs ys) (hlen : vs.length ≤ 100000) (hy : ∀ y ∈ ys, (∀ c ∈ y.cps.toList, c < 128) ∧ y.cps.size ≤ 1000)
    (hR : ∀ s' r vs' n, Ext s s' → s.heap.get? r = none → s'.heap.get? r = some (PySem.W.listOf vs' n) → StrsAre vs'.toList (ys.map preF) → R (.ok (.ret (.ref r))) s') :
    codeAny (model PySem.Challenge.rw_pm0012_01.row.prog w) (rm 322 60) (.call (.ref 42) ⟨[.ref l], []⟩) R s := by
  have X := G.X
  have T := G.T
  refine' enterP G ?k6 ?k7 ?k8 ?k9 ?kB ?c5 ?c2 ?c3 ?c4 ?_
  case k6 => k_is
  case k7 => k_is
  case k8 => decide
  case k9 => exact BindsTo.of_eq rfl
  case kB => exact locs rfl
  case c5 => decide
  case c2 => rfl
  case c3 => rfl
  case c4 => rfl
  intro h₁ F N
  k_steps
  rename_i D _ _ h₃ F₃ N₃
  unfold Stop
  refine for_own ?_ (by intro _; rfl)
  k_steps
  obtain ⟨ol, hol, hcl⟩ := id hl
  have hlL : l ≠ s.heap.objs.size := Nat.ne_of_lt (Heap.lt_size hol)
  have hDl : D ≠ l := fun e => by
    have := (N₃ _ (.head _)).2.2
    rw [e, hol] at this; cases this
  refine for_list (G₀ := s.gens) (fun i m nx => m (Str.ofString "accepted_values") = some (.ref D) ∧ ∃ ws n, nx = [(D, PySem.W.listOf ws n)] ∧ ws.size = i ∧ StrsAre ws.toList ((ys.take i).map preF))
    rfl (hl.at fun o e => F₃.keep l o e) rfl rfl hlL (by intro p hp; rw [List.mem_singleton.mp hp]; exact hDl) F₃ N₃ ⟨rfl, _, _, rfl, rfl, .nil⟩ (.refl _) ?_ ?_
  · rintro i v m₁ nx h₅ tk₅ gs₅ own hiv hadr hoff ⟨hm1, ws, n, rfl, hwi, hws⟩ hGB F₅ N₅
    obtain ⟨y, ty, hyi, rfl⟩ := strsAre_get hvs (i := i) (by simpa using hiv)
    have F₆ := fr_pin (y := Str.ofString "accepted_values") F₅ hm1
    have hil : i < vs.length := by
      have := (List.getElem?_eq_some_iff.mp (by simpa using hiv : vs[i]? = some _)).1
      exact this
    have hwl : ws.size ≤ sizeLine := by rw [sizeLine_eq]; omega
    have hyy := hy y (List.mem_of_getElem? hyi)
    clear F₅ F₃ N₃
    k_steps
    unfold Stop
    refine wpAny_call (code_rm rfl (Nat.le_of_ble_eq_true rfl) (Nat.le_of_ble_eq_true rfl) (check_c strip_c (x := y) (G.keeps F₆.keep) hyy.1 hyy.2 fun s₆ e₆ => ?_))
    have F₇ := e₆.fr F₆
    have N₇ := e₆.news N₅
    have hos : s₆.os = s.os := e₆.os
    have hG₆ := hGB.trans e₆.gens
    dsimp only
    clear F₆ N₅
    have hdr₆ : s₆.drawn = s.drawn := e₆.drawn
    have htk : ys.take (i + 1) = ys.take i ++ [y] := by rw [List.take_add_one, hyi]; rfl
    k_steps
    · rename (_ : Bool) = true => hq
      have hp : preF y = y := if_pos hq
      refine' turn_end (gs := s₆.gens) (nx := [(D, PySem.W.listOf (ws.push _) (n + 1))]) ?E1 ?F1 ?N1 rfl ?J1 hG₆
      case E1 => rw [hos, hdr₆]
      case F1 => assumption
      case N1 => assumption
      refine ⟨rfl, _, _, rfl, ?_, ?_⟩
      · rw [Array.size_push, hwi]
      · rw [htk, List.map_append, List.map_cons, List.map_nil, hp]
        exact strsAre_push hws _ _
    · rename (_ : Bool) = false => hq
      have hp : preF y = refused := if_neg (by rw [hq]; exact Bool.false_ne_true)
      refine' turn_end (gs := s₆.gens) (nx := [(D, PySem.W.listOf (ws.push _) (n + 1))]) ?E2 ?F2 ?N2 rfl ?J2 hG₆
      case E2 => rw [hos, hdr₆]
      case F2 => assumption
      case N2 => assumption
      refine ⟨rfl, _, _, rfl, ?_, ?_⟩
      · rw [Array.size_push, hwi]
      · rw [htk, List.map_append, List.map_cons, List.map_nil, hp]
        exact strsAre_push hws _ _
  · rintro m₁ nx h₅ tk₅ gs₅ ⟨hm1, ws, n, rfl, hwi, hws⟩ hadr hGB F₅ N₅ _
    have F₆ := fr_pin (y := Str.ofString "accepted_values") F₅ hm1
    have hvl : vs.length = ys.length := strsAre_len hvs
    clear F₅ F₃
    k_steps
    refine hR _ D ws n (.of F₆ rfl hGB rfl) (N₃ _ (.head _)).2.2 (N₅ _ (.head _)).1 ?_
    rw [show vs.toArray.size = ys.length by simpa using hvl, List.take_length] at hws
    exact hws
end Mine
end
section
set_option maxHeartbeats 8000000
open PySem PySem.W PyProof.Rows PySem.Calls PySem.Spec
namespace Mine
local macro_rules | `(tactic| walk_at "exec While Name cons nil") => `(tactic| refine stop_intro ?_)
local macro_rules | `(tactic| walk_at "call builtin:str.split") => `(tactic| refine stop_intro ?_)
local macro_rules | `(tactic| walk_at "call builtin:str.join") => `(tactic| refine stop_intro ?_)
local macro_rules | `(tactic| walk_at "truthy ref") => `(tactic| refine stop_intro ?_)
local macro_rules | `(tactic| walk_at "subscriptTail") => `(tactic| refine stop_intro ?_)
local macro_rules | `(tactic| walk_at "subscriptTail ref int") => `(tactic| refine stop_intro ?_)
local macro_rules | `(tactic| walk_at "subscriptTail ref ref") => `(tactic| refine stop_intro ?_)
local macro_rules | `(tactic| walk_at "call ref") => `(tactic| refine stop_intro ?_)

/-- a while, by its code -/
theorem while_own {M : Model} {A : Around} {s : Shared} {env : Env} {Q : Flow → Shared → Prop} {test : Expr} {body : List Stmt} {pos : Pos}
    (h : codeAny M A (.whileLoop test body [] env) (fun r s' => match r with | .ok f => Q f s' | .error _ => False) s) : wpAny M A (exec (.While test body [] pos) env) Q (fun _ _ => False) s :=
  wpAny_While (codeAny_mono h fun r s' k => by cases r with
    | ok f => exact k
    | error e => exact k.elim)

/-- a while's turn's end -/
def TurnW (I : Nat → Shared → Prop) (n : Nat) (R : Result → Shared → Prop) (f : Flow) (s : Shared) : Prop :=
  match f with
  | .ret v => R (.ok (.ret v)) s
  | .brk => R (.ok .next) s
  | _ => ∃ m, m < n ∧ I m s
theorem while_inv {prog : Program} {w : World} {A : Around} {s : Shared} {env : Env} {test : Expr} {body : List Stmt} {R : Result → Shared → Prop} (I : Nat → Shared → Prop)
    (turn : ∀ n s, I n s → wpAny (model prog w) A (isTrue test env (eval test env)) (fun b s₂ =>
      if b then wpAny (model prog w) A (execs body env) (TurnW I n R) (fun _ _ => False) s₂
      else wpAny (model prog w) A (execs [] env) (fun f s₃ => R (.ok f) s₃) (fun _ _ => False) s₂) (fun _ _ => False) s)
    (n : Nat) (h : I n s) : codeAny (model prog w) A (.whileLoop test body [] env) R s := by
  refine codeAny_whileLoop I (fun n s hI => wpAny_mono (turn n s hI) (fun b s₂ h₂ => ?_) (fun _ _ x => x.elim)) n h
  cases b with
  | true =>
    refine wpAny_mono h₂ (fun f s₃ h₃ => ?_) (fun _ _ x => x.elim)
    cases f with
    | ret v => exact h₃
    | brk => exact h₃
    | next => exact h₃
    | cont => exact h₃
  | false => exact wpAny_mono h₂ (fun _ _ x => x) (fun _ _ x => x.elim)

/-- pydoc's replace -/
def replF : List Str → Str → Str
  | a :: b :: r, x => replF r (Str.join b (Txt.split x a))
  | _, x => x
/-- its sizes -/
def ReplOk : List Str → Str → Prop
  | a :: b :: r, x => 1 ≤ a.length ∧ x.length ≤ 1000 ∧ b.length ≤ 100 ∧ ReplOk r (Str.join b (Txt.split x a))
  | [], _ => True
  | _, _ => False

section
variable {prog : Program} {w : World} {mean : ExcName → Option Value} {mg mb : Str → Option Value} {A : Around} {s : Shared} {R : Result → Shared → Prop}
  {name qual : Str} {params : Arguments} {body : List Stmt} {scope : Scope} {dV kV doc pm cdv ct oc : Value} {an od : Option Addr} {osl : Array (Option Value)} {f : Addr} {args : Args} {front : List (Str × Value)} {nr : Str} {vs : List Value}
/-- entering a def with *rest -/
theorem enterS (G : Gd w mean mg mb s.heap)
    (ho : (hd.heap_39 w.params).lookup f = some ⟨oc, od, .func (fnOf name qual params body scope dV kV doc pm an cdv ct), osl⟩) (hcd : codeIn (hd.heap_39 w.params) cdv qual = true) (hroom : A.depth < recursionLimit)
    (hbind : bindArgs (fnOf name qual params body scope dV kV doc pm an cdv ct) args = (newTuple vs >>= fun T => pure (front ++ [(nr, T)]))) (hz : vs.length ≤ sizeLine)
    (hloc : ∀ T, ∀ y ∈ front ++ [(nr, T)], scope.names.lookup y.1 = some .local)
    (hcell : ∀ x ∈ scope.names, x.2 ≠ .cell) (hco : scope.isCoroutine = false) (hgen : scope.isGenerator = false) (hk : scope.kind = .function)
    (h : ∀ h₁ tk, Fr s.heap (s.heap.objs.size + 1) h₁ (fun y => (front ++ [(nr, Value.ref s.heap.objs.size)]).reverse.lookup y) → News s.heap (s.heap.objs.size + 1) h₁ [(s.heap.objs.size, { cls := .type "tuple", data := .seq vs.toArray })] →
      wpAny (model prog w) (A.deeper (envOf qual scope (s.heap.objs.size + 1) f cdv)) (execs body (envOf qual scope (s.heap.objs.size + 1) f cdv))
        (fun fl s' => R (.ok (.ret (match fl with | .ret v => v | _ => .none))) s') (fun _ _ => False)
        { s with heap := h₁, toks := tk }) :
    codeAny (model prog w) A (.call (.ref f) args) R s := by
  refine codeAny_call_function hroom (G.X _ _ ho) rfl hco hgen rfl (codeRec_of G.X hcd) ?_
  rw [hbind]
  refine wpAny_bind (wpAny_newObj_type (wpAny_pure ?_) (by show vs.toArray.size ≤ sizeLine; rw [List.size_toArray]; exact hz))
  refine wpAny_newFunctionEnv hcell (hloc _) (fun h₁ hns hsb => ?_) hk
  have hk₁ : ∀ b o, s.heap.get? b = some o → h₁.get? b = some o := fun b o e => hsb.extBut b o (Nat.ne_of_lt (by rw [Heap.size_push]; exact Nat.lt_succ_of_lt (Heap.lt_size e))) (Heap.get?_push_of_some _ (Heap.get?_push_of_some _ e))
  refine ⟨G.T.nolimit.keeps hk₁, codeAny_func ?_⟩
  dsimp only at hns hsb ⊢
  rw [Heap.size_push] at hns hsb ⊢
  have ht : h₁.get? s.heap.objs.size = some { cls := .type "tuple", data := .seq vs.toArray } := hsb.extBut _ _ (Nat.ne_of_lt (Nat.lt_succ_self _)) (Heap.get?_push_of_some _ (Heap.get?_push_size _ rfl))
  have N : News s.heap (s.heap.objs.size + 1) h₁ [(s.heap.objs.size, { cls := .type "tuple", data := .seq vs.toArray })] := fun p hp => by
    rw [List.mem_singleton.mp hp]
    exact ⟨ht, Nat.ne_of_lt (Nat.lt_succ_self _), h_none (Nat.le_refl _)⟩
  exact wpAny_mono (h h₁ _ ⟨hns, hk₁, Nat.le_succ _⟩ N) (fun _ _ x => x) (fun _ _ x => x.elim)
end

theorem truthyT {prog : Program} {w : World} {A : Around} {E : Value → Shared → Prop} {s : Shared} {t : Addr} {items : Array Value} {Q : Bool → Shared → Prop} {b : Bool} (ht : IsTup s.heap t items) (hfit : items.size ≤ 1000) (hb : (!items.isEmpty) = b)
    (h : ∀ k, Q b { s with toks := k }) : wpAny (model prog w) A (truthy (.ref t)) Q E s :=
  truthy_tuple ht (by omega) (hb ▸ h _)

theorem seqIx {k : Int} {j n : Nat} (e : k = j) (h : j < n) : seqIndex? k n = some j := by
  subst e
  have h1 : ¬ ((j : Int) < 0) := by omega
  have h2 : (0 : Int) ≤ j := by omega
  have h3 : (j : Int) < n := by omega
  simp [seqIndex?, h1, h2, h3]

/-- the state between two turns of replace -/
def RInv (s : Shared) (prs : List Str) (x : Str) (n : Nat) (s' : Shared) : Prop :=
  ∃ prs' x' t' ps' T' m' h' tk', s' = { s with heap := h', toks := tk' } ∧ n = prs'.length ∧ StrsAre ps' prs' ∧ ReplOk prs' x' ∧ replF prs' x' = replF prs x ∧ ps'.length ≤ 1000 ∧
      m' (Str.ofString "text") = some (.str x' t') ∧ m' (Str.ofString "pairs") = some (.ref T') ∧ Fr s.heap (s.heap.objs.size + 1) h' m' ∧ News s.heap (s.heap.objs.size + 1) h' [(T', { cls := .type "tuple", data := .seq ps'.toArray })]
theorem RInv.mk {s : Shared} {prs prs' : List Str} {x x' : Str} {t' : Tok} {ps' : List Value} {T' : Addr} {m' : Str → Option Value} {h' : Heap} {tk' : Nat}
    (h1 : StrsAre ps' prs') (h2 : ReplOk prs' x') (h3 : replF prs' x' = replF prs x) (h4 : ps'.length ≤ 1000) (F : Fr s.heap (s.heap.objs.size + 1) h' m')
    (h5 : m' (Str.ofString "text") = some (.str x' t')) (h6 : m' (Str.ofString "pairs") = some (.ref T')) (N : News s.heap (s.heap.objs.size + 1) h' [(T', { cls := .type "tuple", data := .seq ps'.toArray })]) :
    RInv s prs x prs'.length { s with heap := h', toks := tk' } := ⟨prs', x', t', ps', T', m', h', tk', rfl, rfl, h1, h2, h3, h4, h5, h6, F, N⟩

theorem replace_c {w : World} {mean : ExcName → Option Value} {mg mb : Str → Option Value} {s : Shared} {R : Result → Shared → Prop} {x : Str} {t : Tok} {ps : List Value} {prs : List Str}
    (G : Gd w mean mg mb s.heap) (hps : StrsAre ps prs) (hz : ps.length ≤ 1000) (hok : ReplOk prs x)
    (hR : ∀ s' t', Ext s s' → R (.ok (.ret (.str (replF prs x) t'))) s') :
    codeAny (model PySem.Challenge.rw_pm0012_01.row.prog w) (rm 330 100) (.call (.ref 49) ⟨.str x t :: ps, []⟩) R s := by
  have X := G.X
  have T := G.T
  refine' enterS (front := [(Str.ofString "text", .str x t)]) (nr := Str.ofString "pairs") (vs := ps) G ?k6 ?k7 ?k8 ?k9 ?kz ?kB ?c5 ?c2 ?c3 ?c4 ?_
  case k6 => k_is
  case k7 => k_is
  case k8 => decide
  case kz => rw [sizeLine_eq]; omega
  case k9 =>
    simp [bindArgs, seqItems?, notAStandIn]
  case kB => intro T; exact locs rfl
  case c5 => decide
  case c2 => rfl
  case c3 => rfl
  case c4 => rfl
  intro h₁ tk F N
  k_steps
  unfold Stop
  refine while_own ?_
  refine while_inv (RInv s prs x) ?_ prs.length (RInv.mk hps hok rfl hz F rfl rfl N)
  clear F N
  rintro n s' ⟨prs', x', t', ps', T', m', h', tk', rfl, rfl, hps', hok', hre, hz', hm1, hm2, F₂, N₂⟩
  have F₃ := fr_pin (y := Str.ofString "text") (fr_pin (y := Str.ofString "pairs") F₂ hm2) hm1
  clear F₂
  have hT : IsTup h' T' ps'.toArray := ⟨_, (N₂ _ (.head _)).1, rfl, _, rfl⟩
  cases hps' with
  | nil =>
    k_steps
    unfold Stop
    refine truthyT hT (by simp) (b := false) rfl fun k => ?_
    k_steps
    dsimp only
    have e : x' = replF prs x := hre
    rw [e]
    exact hR _ _ (.of_fr F₃)
  | cons a ta hps₁ =>
    cases hps₁ with
    | nil => exact hok'.elim
    | cons b tb hps₂ =>
      obtain ⟨ho1, ho2, ho3, ho4⟩ := hok'
      k_steps
      unfold Stop
      refine truthyT hT (by simpa using hz') (b := true) rfl fun k => ?_
      k_steps
      unfold Stop
      refine item_tupleL hT (by decide) (by decide) (j := 1) (x := .str b tb) ?_ rfl ?_
      · exact seqIx rfl (by simp)
      k_steps
      unfold Stop
      refine item_tupleL hT (by decide) (by decide) (j := 0) (x := .str a ta) ?_ rfl ?_
      · exact seqIx rfl (by simp)
      k_steps
      unfold Stop
      refine splitN1A F₃ N₂ (by simp; omega) (fun l h₄ k₄ hl hsl hla hil F₄ N₄ => ?_) (by rw [sizeLine_eq]; omega)
      k_steps
      unfold Stop
      have hw := split_weight x' a ho1
      rw [← hl] at hw
      refine join_list hil hsl (by
        have : (l.map (·.1)).length * b.length ≤ 1001 * 100 := Nat.mul_le_mul (by omega) ho3
        omega) fun t₅ k₅ => ?_
      k_steps
      rename_i h₆ F₆ N₆
      unfold Stop
      have hT₆ : IsTup h₆ T' _ := ⟨_, (N₆ _ (.tail _ (.head _))).1, rfl, _, rfl⟩
      refine slice_tuple_from (a := 2) F₆ N₆ hT₆ (by decide) (by simp) (fun h₇ F₇ N₇ => ?_) (hsz := by rw [sizeLine_eq]; simp at hz' ⊢; omega)
      clear F₆ N₆
      k_steps
      rename_i h₈ F₈ N₈
      refine ⟨_, ?_, RInv.mk (t' := t₅) hps₂ ho4 hre ?_ F₈ ?_ rfl fun p hp => N₈ p (List.mem_singleton.mp hp ▸ .head _)⟩
      · simp only [List.length_cons]; omega
      · simp only [List.length_cons] at hz'; omega
      · rw [hl]
        refine (if_neg (by decide)).trans ((if_pos rfl).trans ?_)
        show some (Value.str (Builtin.Str.glued _ _) _) = _
        rw [StrLaws.glued_eq_join]
end Mine
end
section
set_option maxHeartbeats 2000000
open PySem PySem.W PyProof.Rows PySem.Calls PySem.Spec
namespace Mine

/-- things that a step has made -/
def Fresh (s s' : Shared) (obs : List (Addr × Obj)) : Prop := ∀ p ∈ obs, s.heap.get? p.1 = none ∧ s'.heap.get? p.1 = some p.2
theorem Fresh.nil {s s' : Shared} : Fresh s s' [] := fun _ h => nomatch h
theorem Fresh.one {s s' : Shared} {a : Addr} {o : Obj} (h : s.heap.get? a = none) (h' : s'.heap.get? a = some o) : Fresh s s' [(a, o)] := fun p hp => by rw [List.mem_singleton.mp hp]; exact ⟨h, h'⟩
theorem Fresh.news {s s' : Shared} {obs : List (Addr × Obj)} {h₀ : Heap} {L : Addr} {m : Str → Option Value} (x : Fresh s s' obs) (F : Fr h₀ L s.heap m) : News h₀ L s'.heap obs := fun p hp => by
  obtain ⟨h1, h2⟩ := x p hp
  refine ⟨h2, fun e => ?_, ?_⟩
  · obtain ⟨o, es, ep, hL, _⟩ := F.ns
    rw [e, hL] at h1; cases h1
  · cases e : h₀.get? p.1 with
    | none => rfl
    | some o => have := F.keep _ _ e; rw [h1] at this; cases this
theorem Fresh.of_news {s s' : Shared} {obs : List (Addr × Obj)} {L : Addr} (N : News s.heap L s'.heap obs) : Fresh s s' obs := fun p hp => ⟨(N p hp).2.2, (N p hp).1⟩
theorem Fresh.ext {s s' s'' : Shared} {obs : List (Addr × Obj)} (x : Fresh s s' obs) (e : Ext s' s'') : Fresh s s'' obs := fun p hp => ⟨(x p hp).1, e.heap _ _ (x p hp).2⟩
theorem none_back {s s' : Shared} {a : Addr} (x : Ext s s') (h : s'.heap.get? a = none) : s.heap.get? a = none := by
  cases e : s.heap.get? a with
  | none => rfl
  | some o => have := x.heap _ _ e; rw [h] at this; cases this
theorem Fresh.back {s s' s'' : Shared} {obs : List (Addr × Obj)} (x : Ext s s') (h : Fresh s' s'' obs) : Fresh s s'' obs := fun p hp => ⟨none_back x (h p hp).1, (h p hp).2⟩

/-- where a comprehension's items come from, and what its names hold then -/
structure Turns (prog : Program) (w : World) (A : Around) (I : Addr) (target : Expr) (cenv : Env) (fp wr : List Addr) (n : Nat) (V : Nat → (Str → Option Value) → Prop) (St : Nat → Heap → Prop) : Prop where
  sub : ∀ b ∈ wr, b ∈ fp
  frame : ∀ i h h', St i h → (∀ b ∈ fp, ∀ o, h.get? b = some o → h'.get? b = some o) → St i h'
  live : ∀ i h, St i h → ∀ b ∈ wr, ∃ o, h.get? b = some o
  item : ∀ i (s : Shared) m (Q : Shared → Prop), i < n → St i s.heap → s.heap.Ns cenv.locals m → cenv.locals ∉ fp →
    (∀ h' tk m', St (i + 1) h' → h'.Ns cenv.locals m' → V i m' → (∀ b o, b ∉ wr → b ≠ cenv.locals → s.heap.get? b = some o → h'.get? b = some o) → Q { s with heap := h', toks := tk }) →
    wpAny (model prog w) A (pyNext (.ref I)) (fun r s₁ => match r with
      | none => False
      | some v => wpAny (model prog w) A (letOwnedTupleGo target (.ref I) v) (fun _ s₀ => wpAny (model prog w) A (assign target cenv v) (fun _ s₂ => Q s₂) (fun _ _ => False) s₀) (fun _ _ => False) s₁) (fun _ _ => False) s
  done : ∀ (s : Shared) (Q : Shared → Prop), St n s.heap → (∀ h' tk, (∀ b o, b ∉ wr → s.heap.get? b = some o → h'.get? b = some o) → Q { s with heap := h', toks := tk }) →
    wpAny (model prog w) A (pyNext (.ref I)) (fun r s₁ => match r with | none => Q s₁ | some _ => False) (fun _ _ => False) s
  self : ∀ i (s : Shared) (Q : Value → Shared → Prop), St i s.heap → Q (.ref I) s → wpAny (model prog w) A (pyIter (.ref I)) Q (fun _ _ => False) s

section
variable {prog : Program} {w : World} {A : Around} {R : Result → Shared → Prop} {s : Shared}
/-- a name's turns over any walk -/
theorem Turns.name {I : Addr} {x : Str} {px : Pos} {cenv : Env} {fp wr : List Addr} {n : Nat} {P : Nat → Value → Prop} {St : Nat → Heap → Prop} (W : Walks prog w A I fp wr n P St) (hl : ∀ i h, St i h → ∀ b ∈ wr, ∃ o, h.get? b = some o)
    (hx : cenv.kindOf x = some .local) (hp : (cenv.scope.kind == .class || (cenv.scope.kind == .module && cenv.locals != cenv.globals)) = false) :
    Turns prog w A I (.Name x px) cenv fp wr n (fun i m => ∃ v, P i v ∧ m x = some v) St where
  sub := W.sub
  frame := W.frame
  live := hl
  item := fun i s m Q hi hst hn hC hQ => by
    refine W.item i _ _ _ hi hst fun v h₁ tk₁ hP hst₁ hk₁ => ?_
    have hgo : ∀ (Q : Unit → Shared → Prop) (E : Value → Shared → Prop) (s₃ : Shared), Q () s₃ → wpAny (model prog w) A (letOwnedTupleGo (.Name x px) (.ref I) v) Q E s₃ := fun Q E s₃ q => wpAny_pure q
    refine hgo _ _ _ ?_
    have hCw : cenv.locals ∉ wr := fun h => hC (W.sub _ h)
    refine wpAny_assign_Name (wpAny_storeName_local hx (hn.at' fun o e => hk₁ _ o hCw e) (fun h₂ hn₂ hs₂ => ?_) hp)
    exact hQ h₂ _ _ (W.frame _ _ _ hst₁ fun b hb o e => hs₂.extBut b o (fun q => hC (q ▸ hb)) e) hn₂ ⟨v, hP, if_pos rfl⟩ fun b o hb hbC e => hs₂.extBut b o hbC (hk₁ b o hb e)
  done := fun s Q hst hQ => W.done _ _ _ hst fun h' tk hk => hQ h' tk hk
  self := fun i s Q hst hQ => W.self i s Q _ hst hQ

/-- a pair's turns -/
theorem Turns.pair {I : Addr} {a b : Str} {pa pb tp : Pos} {kk : Nat} {cenv : Env} {fp wr : List Addr} {n : Nat} {Pt : Nat → Array Value → Prop} {St : Nat → Heap → Prop} {Mid : Nat → Addr → Heap → Prop} (hh : A.handled = none)
    (W : WalksU prog w A I fp wr n Pt St Mid) (hl : ∀ i h, St i h → ∀ b ∈ wr, ∃ o, h.get? b = some o) (hab : ¬ a = b) (hP : ∀ i vals, Pt i vals → ∃ x y, vals = #[x, y])
    (ha : cenv.kindOf a = some .local) (hb : cenv.kindOf b = some .local) (hp : (cenv.scope.kind == .class || (cenv.scope.kind == .module && cenv.locals != cenv.globals)) = false) :
    Turns prog w A I (.Tuple [.Name a pa, .Name b pb] kk tp) cenv fp wr n (fun i m => ∃ x y, Pt i #[x, y] ∧ m a = some x ∧ m b = some y) St where
  sub := W.sub
  frame := W.frame
  live := hl
  item := fun i s m Q hi hst hn hC hQ => by
    have hCw : cenv.locals ∉ wr := fun h => hC (W.sub _ h)
    refine W.item i _ _ _ hi hst fun T vals h₁ tk₁ hPt hT hm hk₁ => ?_
    obtain ⟨x, y, rfl⟩ := hP i vals hPt
    have hTw := W.apart i T _ hm
    refine W.go _ _ _ _ _ _ _ _ hm fun h₂ hst₂ hk₂ => ?_
    have hT₂ : h₂.IsTuple T #[x, y] := hT.at fun o e => hk₂ T o hTw e
    refine kcp_assign (env := cenv) hh hT₂ ha hb hp (hn.at' fun o e => hk₂ _ o hCw (hk₁ _ o hCw e)) fun h₃ tk₃ hn₃ hs₃ => ?_
    exact hQ h₃ tk₃ _ (W.frame _ _ _ hst₂ fun c hc o e => hs₃ c o (fun q => hC (q ▸ hc)) e) hn₃ ⟨x, y, hPt, (if_neg hab).trans (if_pos rfl), if_pos rfl⟩ fun c o hc hcC e => hs₃ c o hcC (hk₂ c o hc (hk₁ c o hc e))
  done := fun s Q hst hQ => W.done _ _ _ hst fun h' tk hk => hQ h' tk hk
  self := fun i s Q hst hQ => W.self i s Q _ hst hQ

/-- the ends of an element and of a test -/
def EltEnd (h₀ : Heap) (C : Addr) (m₃ : Str → Option Value) (news base rest : List (Addr × Obj)) (d : Dat) (s₃ : Shared) (y : Value) (s₄ : Shared) : Prop :=
  ∃ obs h' tk gs, s₄ = { s₃ with heap := h', toks := tk, gens := gs } ∧ Fr h₀ C h' m₃ ∧ News h₀ C h' (obs ++ (news ++ rest)) ∧ DatIn (obs ++ base) y d ∧ OwnOff obs ((news ++ rest).map (·.1)) ∧ GB s₃.gens gs
def TestEnd (h₀ : Heap) (C : Addr) (m₃ : Str → Option Value) (news rest : List (Addr × Obj)) (b : Bool) (s₃ : Shared) (ok : Bool) (s₄ : Shared) : Prop :=
  ok = b ∧ ∃ h' tk gs, s₄ = { s₃ with heap := h', toks := tk, gens := gs } ∧ Fr h₀ C h' m₃ ∧ News h₀ C h' (news ++ rest) ∧ GB s₃.gens gs
theorem TestEnd.same {h₀ : Heap} {C : Addr} {m₃ : Str → Option Value} {news rest : List (Addr × Obj)} {b : Bool} {s₃ : Shared} (F : Fr h₀ C s₃.heap m₃) (N : News h₀ C s₃.heap (news ++ rest)) : TestEnd h₀ C m₃ news rest b s₃ b s₃ :=
  ⟨rfl, s₃.heap, s₃.toks, s₃.gens, rfl, F, N, .refl _⟩
theorem EltEnd.mk0 {h₀ h' : Heap} {C : Addr} {m₃ : Str → Option Value} {news base rest : List (Addr × Obj)} {d : Dat} {s₃ : Shared} {y : Value} {tk : Nat} {gs : Array GenState} (F : Fr h₀ C h' m₃) (N : News h₀ C h' (news ++ rest)) (hd : DatIn base y d) (hg : GB s₃.gens gs) :
    EltEnd h₀ C m₃ news base rest d s₃ y { s₃ with heap := h', toks := tk, gens := gs } := ⟨[], h', tk, gs, rfl, F, N, hd, (fun _ h => nomatch h), hg⟩
theorem fr_unpin {h₀ h : Heap} {L : Addr} {m : Str → Option Value} {y : Str} {u : Value} (F : Fr h₀ L h (fun z => if z = y then some u else m z)) (e : m y = some u) : Fr h₀ L h m := by
  have : (fun z => if z = y then some u else m z) = m := by
    funext z
    by_cases q : z = y
    · subst q; rw [if_pos rfl]; exact e.symm
    · rw [if_neg q]
  rw [this] at F; exact F
/-- all that stands beside a frame -/
def allBut (h₀ : Heap) (C : Addr) (h : Heap) : List (Addr × Obj) := PyProof.Rows.ownOf h₀ ((List.range h.objs.size).filter (fun b => decide (b ≠ C))) h
theorem allBut_news {h₀ : Heap} {C : Addr} {h : Heap} : News h₀ C h (allBut h₀ C h) := news_ownOf (by simp)
theorem allBut_mem {h₀ : Heap} {C b : Addr} {h : Heap} {o : Obj} (hn : h₀.get? b = none) (hb : b ≠ C) (e : h.get? b = some o) : (b, o) ∈ allBut h₀ C h :=
  mem_ownOf (List.mem_filter.mpr ⟨List.mem_range.mpr (Heap.lt_size e), by simpa using hb⟩) hn e
theorem keep_but {h₀ h h' : Heap} {C : Addr} {m m' : Str → Option Value} {pre : List (Addr × Obj)} (F : Fr h₀ C h m) (F' : Fr h₀ C h' m') (N : News h₀ C h' (pre ++ allBut h₀ C h)) : ∀ b o, b ≠ C → h.get? b = some o → h'.get? b = some o := fun b o hb e => by
  cases hn : h₀.get? b with
  | some o' =>
    have := F.keep b o' hn
    rw [e] at this; cases this
    exact F'.keep b o hn
  | none => exact (N _ (List.mem_append_right _ (allBut_mem hn hb e))).1
theorem fr_butC {h₀ h h' : Heap} {L C : Addr} {m : Str → Option Value} (F : Fr h₀ L h m) (hk : ∀ b o, b ≠ C → h.get? b = some o → h'.get? b = some o) (hL : L ≠ C) (hC : h₀.get? C = none) : Fr h₀ L h' m :=
  ⟨F.ns.at' fun o e => hk L o hL e, fun b o e => hk b o (fun q => by rw [q, hC] at e; cases e) (F.keep b o e), F.above⟩

/-- behind the names of a turn: the tests, the element, the append -/
def CompTurn (prog : Program) (w : World) (A : Around) (elt : Expr) (ifs : List Expr) (env : Env) (acc : Value) (P : Shared → Prop) (s₂ : Shared) : Prop :=
  wpAny (model prog w) A (forIn ifs true fun c r => if r = true then do let ok ← isTrue c env (eval c env); pure (ForInStep.yield ok) else pure (ForInStep.yield r)) (fun ok s₃ =>
    if ok = true then wpAny (model prog w) A (eval elt env) (fun x s₄ =>
      wpAny (model prog w) A (call (.builtin "list.append") [acc, x]) (fun _ s₅ => P s₅) (fun _ _ => False) s₄) (fun _ _ => False) s₃
    else P s₃) (fun _ _ => False) s₂
theorem comp_loop {elt target iter : Expr} {ifs : List Expr} {scope : Scope} {pos : Pos} {it acc : Value} {env : Env} (I : Nat → Shared → Prop)
    (turn : ∀ n s, I n s → wpAny (model prog w) A (pyNext it) (fun r s₁ => match r with
      | none => R (.ok .next) s₁
      | some v => wpAny (model prog w) A (letOwnedTupleGo target it v) (fun _ s₀ => wpAny (model prog w) A (assign target env v) (fun _ s₂ =>
          CompTurn prog w A elt ifs env acc (fun s₅ => ∃ m, m < n ∧ I m s₅) s₂) (fun _ _ => False) s₀) (fun _ _ => False) s₁) (fun _ _ => False) s)
    (n : Nat) (h : I n s) : codeAny (model prog w) A (.compLoop (.ListComp elt [⟨target, iter, ifs, 0⟩] scope pos) 0 it acc env) R s := by
  refine codeAny_loop rfl I (fun n s hI => ?_) n h
  show wpAny _ A ((compTurn (.ListComp elt [⟨target, iter, ifs, 0⟩] scope pos) 0 it acc env).onRaise (fun x => do noteFrame x env; theTreesLotGoes x)) _ _ s
  refine wpAny_noted ?_
  rw [compTurn_list]
  refine wpAny_bind (wpAny_standAt (wpAny_bind (wpAny_mono (turn n s hI) (fun r s₁ h₁ => ?_) fun _ _ h' => h'.elim)))
  cases r with
  | none => exact wpAny_pure h₁
  | some v =>
    refine wpAny_bind (wpAny_mono h₁ (fun _ s₀ h₀' => ?_) fun _ _ h' => h'.elim)
    refine wpAny_bind (wpAny_mono h₀' (fun _ s₂ h₂ => wpAny_bind (wpAny_mono h₂ (fun ok s₃ h₃ => ?_) fun _ _ h' => h'.elim)) fun _ _ h' => h'.elim)
    cases ok with
    | false => exact wpAny_pure ⟨rfl, h₃⟩
    | true =>
      exact wpAny_bind (wpAny_bind (wpAny_mono h₃ (fun x s₄ h₄ => wpAny_bind (wpAny_mono h₄ (fun _ s₅ h₅ => wpAny_pure (wpAny_pure ⟨rfl, h₅⟩)) fun _ _ h' => h'.elim)) fun _ _ h' => h'.elim))

theorem range_filter_succ (p : Nat → Bool) (i : Nat) : (List.range (i + 1)).filter p = (List.range i).filter p ++ (if p i then [i] else []) := by
  rw [List.range_succ, List.filter_append]
  cases hp : p i <;> simp [hp]

/-- a comprehension's loop -/
theorem comp_walk {elt iter target : Expr} {ifs : List Expr} {scope scope' : Scope} {pos : Pos} {cenv : Env} {I D : Addr} {fp wr : List Addr} {n : Nat} {V : Nat → (Str → Option Value) → Prop} {St : Nat → Heap → Prop}
    {h₀ : Heap} {L : Addr} {m mC : Str → Option Value} {news base : List (Addr × Obj)}
    (W : Turns prog w A I target cenv fp wr n V St) (hsz : n ≤ sizeLine) (p : Nat → Bool) (dat : Nat → Dat)
    (hst : St 0 s.heap) (hDf : D ∉ fp) (hCf : cenv.locals ∉ fp) (hDC : D ≠ cenv.locals) (hDL : D ≠ L) (hCL : cenv.locals ≠ L) (hD₀ : h₀.get? D = none) (hC₀ : h₀.get? cenv.locals = none) (hCa : h₀.objs.size ≤ cenv.locals)
    (F : Fr h₀ L s.heap m) (N : News h₀ L s.heap news) (hC : s.heap.Ns cenv.locals mC) (hD : s.heap.get? D = some (PySem.W.listOf #[] 0)) (hoff : ∀ q ∈ news, q.1 ∉ wr ∧ q.1 ≠ cenv.locals ∧ q.1 ≠ D)
    (hwr : ∀ b ∈ wr, h₀.get? b = none ∧ b ≠ L)
    (test : ∀ i s₃ m₃ rest, i < n → V i m₃ → Fr h₀ cenv.locals s₃.heap m₃ → News h₀ cenv.locals s₃.heap (news ++ rest) → s₃.os = s.os → s₃.drawn = s.drawn → GB s.gens s₃.gens →
      wpAny (model prog w) A (forIn ifs true fun c r => if r = true then do let ok ← isTrue c cenv (eval c cenv); pure (ForInStep.yield ok) else pure (ForInStep.yield r)) (TestEnd h₀ cenv.locals m₃ news rest (p i) s₃) (fun _ _ => False) s₃)
    (body : ∀ i s₃ m₃ rest, i < n → p i = true → V i m₃ → Fr h₀ cenv.locals s₃.heap m₃ → News h₀ cenv.locals s₃.heap (news ++ rest) → s₃.os = s.os → s₃.drawn = s.drawn → GB s.gens s₃.gens →
      wpAny (model prog w) A (eval elt cenv) (EltEnd h₀ cenv.locals m₃ news base rest (dat i) s₃) (fun _ _ => False) s₃)
    (fin : ∀ h tk gs m' ys obs, Fr h₀ L h m → News h₀ L h ((D, PySem.W.listOf ys.toArray ys.length) :: (obs ++ news)) → h.Ns cenv.locals m' → (∀ q ∈ obs, q.1 ≠ cenv.locals ∧ q.1 ≠ D ∧ ∀ r ∈ news, q.1 ≠ r.1) →
      DatAll (obs ++ base) ys (((List.range n).filter p).map dat) → GB s.gens gs → R (.ok .next) { s with heap := h, toks := tk, gens := gs }) :
    codeAny (model prog w) A (.compLoop (.ListComp elt [⟨target, iter, ifs, 0⟩] scope' pos) 0 (.ref I) (.ref D) cenv) R s := by
  have hDw : D ∉ wr := fun h => hDf (W.sub _ h)
  have hCw : cenv.locals ∉ wr := fun h => hCf (W.sub _ h)
  have hLw : L ∉ wr := fun h => (hwr _ h).2 rfl
  obtain ⟨J, hJ⟩ : ∃ J : Nat → Shared → Prop, J = (fun k s' => ∃ i h' tk gs m' ys obs, s' = { s with heap := h', toks := tk, gens := gs } ∧ i ≤ n ∧ k = n + 1 - i ∧ St i h' ∧ Fr h₀ L h' m ∧ h'.Ns cenv.locals m' ∧ News h₀ L h' ((D, PySem.W.listOf ys.toArray ys.length) :: (obs ++ news)) ∧
      (∀ q ∈ obs, q.1 ∉ wr ∧ q.1 ≠ cenv.locals ∧ q.1 ≠ D ∧ ∀ r ∈ news, q.1 ≠ r.1) ∧ DatAll (obs ++ base) ys (((List.range i).filter p).map dat) ∧ GB s.gens gs) := ⟨_, rfl⟩
  refine comp_loop J ?_ (n + 1) (hJ ▸ ⟨0, s.heap, s.toks, s.gens, mC, [], [], rfl, Nat.zero_le _, rfl, hst, F, hC, fun q hq => ?_, (fun _ h => nomatch h), .nil, .refl _⟩)
  · intro k s' hk
    rw [hJ] at hk
    obtain ⟨i, h', tk, gs, m', ys, obs, rfl, hi, rfl, hst', F', hn', N', hobs, hdat, hGB⟩ := hk
    have hND : h'.get? D = some (PySem.W.listOf ys.toArray ys.length) := (N' _ (.head _)).1
    have hyl : ys.length ≤ i := by
      rw [hdat.length, List.length_map]
      exact Nat.le_trans (List.length_filter_le _ _) (by simp)
    by_cases hlt : i < n
    · refine wpAny_mono (W.item i { s with heap := h', toks := tk, gens := gs } m' (CompTurn prog w A elt ifs cenv (.ref D) (fun s₅ => ∃ m_1, m_1 < n + 1 - i ∧ J m_1 s₅)) hlt hst' hn' hCf fun h₁ tk₁ m₁ hst₁ hn₁ hV hk₁ => ?_) (fun r s₁ h => ?_) fun _ _ e => e
      · unfold CompTurn
        rw [hJ]
        dsimp only at hk₁ ⊢
        have FL : Fr h₀ L h₁ m := ⟨F'.ns.at' fun o e => hk₁ L o hLw (Ne.symm hCL) e, fun b o e => hk₁ b o (fun hb => by rw [(hwr b hb).1] at e; cases e) (fun q => by rw [q, hC₀] at e; cases e) (F'.keep b o e), F'.above⟩
        have FC : Fr h₀ cenv.locals h₁ m₁ := ⟨hn₁, FL.keep, hCa⟩
        have off' : ∀ q ∈ (D, PySem.W.listOf ys.toArray ys.length) :: (obs ++ news), q.1 ∉ wr ∧ q.1 ≠ cenv.locals := fun q hq => by
          rcases List.mem_cons.mp hq with rfl | hq
          · exact ⟨hDw, hDC⟩
          · rcases List.mem_append.mp hq with hq | hq
            · exact ⟨(hobs q hq).1, (hobs q hq).2.1⟩
            · exact ⟨(hoff q hq).1, (hoff q hq).2.1⟩
        have N₁ : News h₀ L h₁ ((D, PySem.W.listOf ys.toArray ys.length) :: (obs ++ news)) := fun q hq => ⟨hk₁ _ _ (off' q hq).1 (off' q hq).2 (N' q hq).1, (N' q hq).2⟩
        have NC : ∀ h₂ : Heap, (∀ b o, b ≠ cenv.locals → h₁.get? b = some o → h₂.get? b = some o) → News h₀ cenv.locals h₂ (news ++ allBut h₀ cenv.locals h₂) := fun h₂ hk => News.append (fun q hq => ⟨hk _ _ (hoff q hq).2.1 (N₁ q (.tail _ (List.mem_append_right _ hq))).1, (hoff q hq).2.1, (N₁ q (.tail _ (List.mem_append_right _ hq))).2.2⟩) allBut_news
        refine wpAny_mono (test i { s with heap := h₁, toks := tk₁, gens := gs } m₁ _ hlt hV FC (NC h₁ fun _ _ _ e => e) rfl rfl hGB) (fun ok s₃ ht => ?_) fun _ _ e => e
        obtain ⟨rfl, h₃, tk₃, gs₃, rfl, FC₃, NC₃, hG₃⟩ := ht
        have up₃ := keep_but FC FC₃ NC₃
        have FL₃ := fr_butC FL up₃ (Ne.symm hCL) hC₀
        cases hp : p i with
        | false =>
          simp only [Bool.false_eq_true, if_false]
          refine ⟨n + 1 - (i + 1), by omega, i + 1, h₃, tk₃, gs₃, m₁, ys, obs, rfl, hlt, rfl, W.frame _ _ _ hst₁ fun b hb o e => up₃ b o (fun q => hCf (q ▸ hb)) e, FL₃, FC₃.ns, fun q hq => ⟨up₃ _ _ (off' q hq).2 (N₁ q hq).1, (N₁ q hq).2⟩, hobs, ?_, hGB.trans hG₃⟩
          rw [range_filter_succ, hp]; simpa using hdat
        | true =>
          simp only [if_true]
          refine wpAny_mono (body i _ m₁ _ hlt hp hV FC₃ (NC h₃ up₃) rfl rfl (hGB.trans hG₃)) (fun y s₄ hy => ?_) fun _ _ e => e
          obtain ⟨ob₁, h₄, tk₄, gs₄, rfl, FC₄, NC₄, hy, hown, hG₄⟩ := hy
          have up₃₄ := keep_but FC₃ FC₄ (pre := ob₁ ++ news) (by rw [List.append_assoc]; exact NC₄)
          have up₄ : ∀ b o, b ≠ cenv.locals → h₁.get? b = some o → h₄.get? b = some o := fun b o hb e => up₃₄ b o hb (up₃ b o hb e)
          have N₄ : News h₀ L h₄ ((D, PySem.W.listOf ys.toArray ys.length) :: (obs ++ news)) := fun q hq => ⟨up₄ _ _ (off' q hq).2 (N₁ q hq).1, (N₁ q hq).2⟩
          have hD₄ : h₄.get? D = some (PySem.W.listOf ys.toArray ys.length) := (N₄ _ (.head _)).1
          have far : ∀ q ∈ ob₁, ∀ b o, h₁.get? b = some o → h₀.get? b = none → b ≠ cenv.locals → q.1 ≠ b := fun q hq b o e hn hb => hown q hq b (by
            rw [List.map_append]
            exact List.mem_append_right _ (List.mem_map.mpr ⟨(b, o), allBut_mem hn hb (up₃ b o hb e), rfl⟩))
          have hLh : ∃ o, h₁.get? L = some o := by obtain ⟨o, es, ep, e, _⟩ := FL.ns; exact ⟨o, e⟩
          have ob_off : ∀ q ∈ ob₁, q.1 ∉ wr ∧ q.1 ≠ cenv.locals ∧ q.1 ≠ D ∧ ∀ r ∈ news, q.1 ≠ r.1 := fun q hq => by
            have hz := NC₄ q (List.mem_append_left _ hq)
            refine ⟨fun hw => ?_, hz.2.1, ?_, fun r hr => ?_⟩
            · obtain ⟨o, ho⟩ := W.live _ _ hst₁ _ hw
              exact far q hq _ o ho hz.2.2 hz.2.1 rfl
            · exact far q hq D _ (N₁ _ (.head _)).1 hD₀ hDC
            · exact far q hq _ _ (N₁ r (.tail _ (List.mem_append_right _ hr))).1 (N₁ r (.tail _ (List.mem_append_right _ hr))).2.2 (hoff r hr).2.1
          have Nob : News h₀ L h₄ ob₁ := fun q hq => by
            have hz := NC₄ q (List.mem_append_left _ hq)
            obtain ⟨o, ho⟩ := hLh
            have hL₀ : h₀.get? L = none := Heap.get?_none_of_le FL.above
            exact ⟨hz.1, far q hq L o ho hL₀ (Ne.symm hCL), hz.2.2⟩
          refine append_at (hsz := by rw [List.size_toArray]; omega) hD₄ fun h₅ hs₅ hD₅ => ?_
          refine ⟨n + 1 - (i + 1), by omega, i + 1, h₅, tk₄, gs₄, m₁, ys ++ [y], ob₁ ++ obs, rfl, hlt, rfl, W.frame _ _ _ hst₁ fun b hb o e => hs₅.extBut b o (fun q => hDf (q ▸ hb)) (up₄ b o (fun q => hCf (q ▸ hb)) e), (fr_butC FL up₄ (Ne.symm hCL) hC₀).change hs₅ hDL hD₀, FC₄.ns.sameBut hs₅ (Ne.symm hDC), fun q hq => ?_, fun q hq => ?_, ?_, (hGB.trans hG₃).trans hG₄⟩
          · rcases List.mem_cons.mp hq with rfl | hq
            · exact ⟨hD₅.trans (by rw [List.length_append, List.length_singleton]; simp [PySem.W.listOf]), hDL, hD₀⟩
            · rw [List.append_assoc] at hq
              rcases List.mem_append.mp hq with hq | hq
              · exact ⟨hs₅.extBut _ _ (ob_off q hq).2.2.1 (Nob q hq).1, (Nob q hq).2⟩
              · have z := N₄ q (.tail _ hq)
                refine ⟨hs₅.extBut _ _ ?_ z.1, z.2⟩
                rcases List.mem_append.mp hq with hq | hq
                · exact (hobs q hq).2.2.1
                · exact (hoff q hq).2.2
          · rcases List.mem_append.mp hq with hq | hq
            · exact ob_off q hq
            · exact hobs q hq
          · rw [range_filter_succ, hp, List.append_assoc]
            simp only [if_true, List.map_append, List.map_cons, List.map_nil]
            refine DatAll.append (hdat.mono fun q hq => List.mem_append_right _ hq) (.one (hy.mono fun q hq => ?_))
            rcases List.mem_append.mp hq with hq | hq
            · exact List.mem_append_left _ hq
            · exact List.mem_append_right _ (List.mem_append_right _ hq)
      · cases r with
        | none => exact h.elim
        | some v => exact h
    · obtain rfl : i = n := Nat.le_antisymm hi (Nat.not_lt.mp hlt)
      refine wpAny_mono (W.done { s with heap := h', toks := tk, gens := gs } (fun s₁ => R (.ok .next) s₁) hst' fun h₁ tk₁ hk₁ => ?_) (fun r s₁ h => ?_) fun _ _ e => e
      · dsimp only at hk₁
        refine fin h₁ tk₁ gs m' ys obs ⟨F'.ns.at' fun o e => hk₁ L o hLw e, fun b o e => hk₁ b o (fun hb => by rw [(hwr b hb).1] at e; cases e) (F'.keep b o e), F'.above⟩ (fun q hq => ?_) (hn'.at' fun o e => hk₁ _ o hCw e) (fun q hq => (hobs q hq).2) hdat hGB
        refine ⟨hk₁ _ _ ?_ (N' q hq).1, (N' q hq).2⟩
        rcases List.mem_cons.mp hq with rfl | hq
        · exact hDw
        · rcases List.mem_append.mp hq with hq | hq
          · exact (hobs q hq).1
          · exact (hoff q hq).1
      · cases r with
        | none => exact h
        | some v => exact h.elim
  · rcases List.mem_cons.mp hq with rfl | hq
    · exact ⟨hD, hDL, hD₀⟩
    · exact N q hq
end
end Mine
end
section
set_option maxHeartbeats 2000000
open PySem PySem.W PyProof.Rows PySem.Calls PySem.Spec
namespace Mine

/-- a comprehension, where its iterator stands -/
def CompAt (M : Model) (A : Around) (env : Env) (scope : Scope) (cl : List (Str × Addr)) (e : Expr) (RR : Value → Addr → Result → Shared → Prop) (it : Value) (s₂ : Shared) : Prop :=
  wpAny M A (newList []) (fun acc s₃ => wpAny M A (newFunctionEnv scope env.globals cl [] env.qual none .none (some env)) (fun cenv s₄ =>
    codeAny M A (.compStart e 0 it acc { cenv with scope := relabel scope env }) (RR acc cenv.locals) s₄) (fun _ _ => False) s₃) (fun _ _ => False) s₂

section
variable {prog : Program} {w : World} {A : Around} {s : Shared} {env : Env}
theorem comp_eval {elt iter target : Expr} {ifs : List Expr} {gens : List Comprehension} {scope : Scope} {cl : List (Str × Addr)} {pos : Pos} {Q : Value → Shared → Prop}
    (hclos : closureFor scope env = pure cl) (hkind : scope.kind = .function) (hnames : ∀ y ∈ scope.names, y.2 = .local → scope.names.lookup y.1 = some .local)
    (h : wpAny (model prog w) A (eval iter env) (fun xv s₁ => wpAny (model prog w) A (pyIter xv) (fun it s₂ =>
      CompAt (model prog w) A env scope cl (.ListComp elt (⟨target, iter, ifs, 0⟩ :: gens) scope pos) (compPost (model prog w) A (fun _ _ => False) none Q) it s₂) (fun _ _ => False) s₁) (fun _ _ => False) s)
    (hs : ∀ x, foldedSetIterable iter env x = pure x := by intro _; rfl) :
    wpAny (model prog w) A (eval (.ListComp elt (⟨target, iter, ifs, 0⟩ :: gens) scope pos) env) Q (fun _ _ => False) s := by
  rw [eval_ListComp]
  exact wpAny_comprehension_free (use := none) rfl hs hclos hkind hnames h

theorem comp_assign {elt iter target : Expr} {ifs : List Expr} {gens : List Comprehension} {scope : Scope} {cl : List (Str × Addr)} {y : Str} {py pos spos : Pos} {Q : Flow → Shared → Prop}
    (hsw : swapsWith (.ListComp elt (⟨target, iter, ifs, 0⟩ :: gens) scope pos) (some (.Name y py)) spos.line env = pure true)
    (hclos : closureFor scope env = pure cl) (hkind : scope.kind = .function) (hnames : ∀ y ∈ scope.names, y.2 = .local → scope.names.lookup y.1 = some .local)
    (h : wpAny (model prog w) A (eval iter env) (fun xv s₁ => wpAny (model prog w) A (pyIter xv) (fun it s₂ =>
      CompAt (model prog w) A env scope cl (.ListComp elt (⟨target, iter, ifs, 0⟩ :: gens) scope pos) (compPost (model prog w) A (fun _ _ => False) (some (assign (.Name y py) env)) (fun _ s' => Q .next s')) it s₂) (fun _ _ => False) s₁) (fun _ _ => False) s)
    (hs : ∀ x, foldedSetIterable iter env x = pure x := by intro _; rfl) :
    wpAny (model prog w) A (exec (.Assign [.Name y py] (.ListComp elt (⟨target, iter, ifs, 0⟩ :: gens) scope pos) spos) env) Q (fun _ _ => False) s := by
  rw [exec_Assign_Name_used _ _ _ _ hsw]
  refine wpAny_bind (wpAny_standAt (wpAny_bind ?_))
  show wpAny _ A (do let _ ← comprehension (.ListComp elt (⟨target, iter, ifs, 0⟩ :: gens) scope pos) scope env _ (newList []) false (eval iter env) (some (assign (.Name y py) env))) _ _ s
  exact wpAny_bind (wpAny_mono (wpAny_comprehension_free (use := some (assign (.Name y py) env)) (Q := fun _ s' => Q .next s') rfl hs hclos hkind hnames h) (fun _ s' hq => wpAny_pure (wpAny_pure hq)) fun _ _ e => e)

/-- the block of a comprehension of one clause -/
theorem comp_at {elt iter target : Expr} {ifs : List Expr} {scope : Scope} {cl : List (Str × Addr)} {pos : Pos} {RR : Value → Addr → Result → Shared → Prop}
    {I : Addr} {fp wr : List Addr} {n : Nat} {V : Nat → (Str → Option Value) → Prop} {St : Nat → Heap → Prop}
    {h₀ : Heap} {L : Addr} {m : Str → Option Value} {news base : List (Addr × Obj)}
    (W : ∀ C, Turns prog w A I target (compEnvC scope cl C env) fp wr n V St) (hsz : n ≤ sizeLine) (p : Nat → Bool) (dat : Nat → Dat)
    (hcell : ∀ y ∈ scope.names, y.2 ≠ .cell) (hkind : scope.kind = .function)
    (hst : St 0 s.heap) (hfp : ∀ b ∈ fp, b < s.heap.objs.size)
    (F : Fr h₀ L s.heap m) (N : News h₀ L s.heap news) (hwr : ∀ b ∈ wr, h₀.get? b = none ∧ b ≠ L ∧ ∀ q ∈ news, q.1 ≠ b)
    (test : ∀ C i s₃ m₃ rest, i < n → V i m₃ → Fr h₀ C s₃.heap m₃ → News h₀ C s₃.heap (news ++ rest) → s₃.os = s.os → s₃.drawn = s.drawn → GB s.gens s₃.gens →
      wpAny (model prog w) A (forIn ifs true fun c r => if r = true then do let ok ← isTrue c (compEnvC scope cl C env) (eval c (compEnvC scope cl C env)); pure (ForInStep.yield ok) else pure (ForInStep.yield r)) (TestEnd h₀ C m₃ news rest (p i) s₃) (fun _ _ => False) s₃)
    (body : ∀ C i s₃ m₃ rest, i < n → p i = true → V i m₃ → Fr h₀ C s₃.heap m₃ → News h₀ C s₃.heap (news ++ rest) → s₃.os = s.os → s₃.drawn = s.drawn → GB s.gens s₃.gens →
      wpAny (model prog w) A (eval elt (compEnvC scope cl C env)) (EltEnd h₀ C m₃ news base rest (dat i) s₃) (fun _ _ => False) s₃)
    (fin : ∀ D C h tk gs m' ys obs, Fr h₀ L h m → News h₀ L h ((D, PySem.W.listOf ys.toArray ys.length) :: (obs ++ news)) → h.Ns C m' → C ≠ L → h₀.get? C = none → (∀ q ∈ (D, PySem.W.listOf ys.toArray ys.length) :: (obs ++ news), q.1 ≠ C) → (∀ q ∈ obs ++ news, q.1 ≠ D) → OwnOff obs (D :: news.map (·.1)) →
      DatAll (obs ++ base) ys (((List.range n).filter p).map dat) → GB s.gens gs → RR (.ref D) C (.ok .next) { s with heap := h, toks := tk, gens := gs }) :
    CompAt (model prog w) A env scope cl (.ListComp elt [⟨target, iter, ifs, 0⟩] scope pos) RR (.ref I) s := by
  refine wpAny_newObj_type (wpAny_newFunctionEnv hcell (by intro y hy; simp at hy) (fun h₁ hns₁ hsb₁ => ?_) hkind)
  dsimp only at hns₁ hsb₁ ⊢
  generalize hH2 : s.heap.push { cls := .type "list", dict := none, data := .seq ([] : List Value).toArray } = H2 at hns₁ hsb₁ ⊢
  have hC : H2.objs.size = s.heap.objs.size + 1 := by rw [← hH2, Heap.size_push]
  have hDC : s.heap.objs.size ≠ H2.objs.size := by rw [hC]; exact Nat.ne_of_lt (Nat.lt_succ_self _)
  have below : ∀ b, b < s.heap.objs.size → b ≠ H2.objs.size ∧ b ≠ s.heap.objs.size := fun b hb => ⟨by rw [hC]; exact Nat.ne_of_lt (Nat.lt_succ_of_lt hb), Nat.ne_of_lt hb⟩
  have hDf : s.heap.objs.size ∉ fp := fun hm => Nat.lt_irrefl _ (hfp _ hm)
  have hCf : H2.objs.size ∉ fp := fun hm => by have := hfp _ hm; rw [hC] at this; exact Nat.lt_irrefl _ (Nat.lt_of_succ_lt this)
  have old : ∀ b o, s.heap.get? b = some o → h₁.get? b = some o := fun b o e => hsb₁.extBut b o (below b (Heap.lt_size e)).1 (Heap.get?_push_of_some _ (hH2 ▸ Heap.get?_push_of_some _ e))
  have hacc : h₁.get? s.heap.objs.size = some (PySem.W.listOf #[] 0) := hsb₁.extBut _ _ hDC (Heap.get?_push_of_some _ (hH2 ▸ Heap.get?_push_size _ rfl))
  have W0 := W H2.objs.size
  have hst₁ : St 0 h₁ := W0.frame _ _ _ hst fun b _ o e => old b o e
  have fresh : ∀ a, s.heap.objs.size ≤ a → s.heap.get? a = none := fun a ha => by
    cases e : s.heap.get? a with
    | none => rfl
    | some o' => exact absurd (Heap.lt_size e) (Nat.not_lt.mpr ha)
  have fresh₀ : ∀ a, s.heap.objs.size ≤ a → h₀.get? a = none := fun a ha => by
    cases e : h₀.get? a with
    | none => rfl
    | some o' => have := F.keep a o' e; rw [fresh a ha] at this; cases this
  have hD₀ : h₀.get? s.heap.objs.size = none := fresh₀ _ (Nat.le_refl _)
  have hC₀ : h₀.get? H2.objs.size = none := fresh₀ _ (by rw [hC]; exact Nat.le_succ _)
  have hLlt : L < s.heap.objs.size := F.ns.lt
  have hDL : s.heap.objs.size ≠ L := Ne.symm (below L hLlt).2
  have hCL : H2.objs.size ≠ L := Ne.symm (below L hLlt).1
  have hCa : h₀.objs.size ≤ H2.objs.size := by rw [hC]; exact Nat.le_trans F.above (Nat.le_of_lt (Nat.lt_succ_of_lt hLlt))
  have loop : ∀ s₃ : Shared, s₃ = { s with heap := h₁, toks := s.toks + ([] : List (Str × Value)).length } →
      codeAny (model prog w) A (.compLoop (.ListComp elt [⟨target, iter, ifs, 0⟩] scope pos) 0 (.ref I) (.ref s.heap.objs.size) (compEnvC scope cl H2.objs.size env))
        (RR (.ref s.heap.objs.size) H2.objs.size) s₃ := by
    rintro s₃ rfl
    refine comp_walk (scope := scope) (cenv := compEnvC scope cl H2.objs.size env) (h₀ := h₀) (L := L) (m := m) (news := news) W0 hsz p dat hst₁ hDf hCf hDC hDL hCL hD₀ hC₀ hCa (F.keeps old) (N.grown old) hns₁ hacc (fun q hq => ?_) (fun b hb => ⟨(hwr b hb).1, (hwr b hb).2.1⟩)
      (fun i s₃ m₃ rest hi hV F₃ N₃ ho hd hg => test _ i s₃ m₃ rest hi hV F₃ N₃ ho hd hg) (fun i s₃ m₃ rest hi hp hV F₃ N₃ ho hd hg => body _ i s₃ m₃ rest hi hp hV F₃ N₃ ho hd hg) (fun h tk gs m' ys obs F' N' hn' hob hdat hg => ?_)
    · have hq' := below _ (Heap.lt_size (N q hq).1)
      exact ⟨fun hw => (hwr _ hw).2.2 q hq rfl, hq'.1, hq'.2⟩
    · refine fin _ _ h tk gs m' ys obs F' N' hn' hCL hC₀ (fun q hq => ?_) (fun q hq => ?_) (fun q hq b hb => ?_) hdat hg
      · rcases List.mem_cons.mp hq with rfl | hq
        · exact hDC
        · rcases List.mem_append.mp hq with hq | hq
          · exact (hob q hq).1
          · exact (below _ (Heap.lt_size (N q hq).1)).1
      · rcases List.mem_append.mp hq with hq | hq
        · exact (hob q hq).2.1
        · exact (below _ (Heap.lt_size (N q hq).1)).2
      · rcases List.mem_cons.mp hb with rfl | hb
        · exact (hob q hq).2.1
        · obtain ⟨r, hr, rfl⟩ := List.mem_map.mp hb
          exact (hob q hq).2.2 r hr
  exact codeAny_compStart_list (loop _ rfl) (wpAny_mono (W0.self 0 _ (fun it' s' => codeAny (model prog w) A (.compLoop (.ListComp elt [⟨target, iter, ifs, 0⟩] scope pos) 0 it' (.ref s.heap.objs.size) (compEnvC scope cl H2.objs.size env)) (RR (.ref s.heap.objs.size) H2.objs.size) s') hst₁ (loop _ rfl)) (fun _ _ x => x) (fun _ _ x => x.elim))

/-- .. handed on as a value -/
theorem comp_fin_eval {h₀ h : Heap} {L C D : Addr} {m m' : Str → Option Value} {ys : List Value} {more : List (Addr × Obj)} {gs : Array GenState} {tk : Nat} {Q : Value → Shared → Prop}
    (F : Fr h₀ L h m) (N : News h₀ L h ((D, PySem.W.listOf ys.toArray ys.length) :: more)) (hn : h.Ns C m') (hCL : C ≠ L) (hC₀ : h₀.get? C = none) (hoff : ∀ q ∈ (D, PySem.W.listOf ys.toArray ys.length) :: more, q.1 ≠ C)
    (fin : ∀ h', Fr h₀ L h' m → News h₀ L h' ((D, PySem.W.listOf ys.toArray ys.length) :: more) → Q (.ref D) { s with heap := h', toks := tk, gens := gs }) :
    compPost (model prog w) A (fun _ _ => False) none Q (.ref D) C (.ok .next) { s with heap := h, toks := tk, gens := gs } :=
  ⟨m', hn, fun h'' hs'' => fin h'' (F.change hs'' hCL hC₀) fun q hq => ⟨hs''.extBut _ _ (hoff q hq) (N q hq).1, (N q hq).2⟩⟩
/-- .. stored in a name -/
theorem comp_fin_assign {h₀ h : Heap} {L C D : Addr} {m m' : Str → Option Value} {ys : List Value} {more : List (Addr × Obj)} {gs : Array GenState} {tk : Nat} {y : Str} {py : Pos} {Q : Value → Shared → Prop}
    (hLe : env.locals = L) (hy : env.kindOf y = some .local) (hp : (env.scope.kind == .class || (env.scope.kind == .module && env.locals != env.globals)) = false)
    (F : Fr h₀ L h m) (N : News h₀ L h ((D, PySem.W.listOf ys.toArray ys.length) :: more)) (hn : h.Ns C m') (hCL : C ≠ L) (hC₀ : h₀.get? C = none) (hoff : ∀ q ∈ (D, PySem.W.listOf ys.toArray ys.length) :: more, q.1 ≠ C)
    (fin : ∀ h' tk', Fr h₀ L h' (fun z => if z = y then some (.ref D) else m z) → News h₀ L h' ((D, PySem.W.listOf ys.toArray ys.length) :: more) → Q .none { s with heap := h', toks := tk', gens := gs }) :
    compPost (model prog w) A (fun _ _ => False) (some (assign (.Name y py) env)) Q (.ref D) C (.ok .next) { s with heap := h, toks := tk, gens := gs } := by
  subst hLe
  show wpAny _ A (assign (.Name y py) env (.ref D)) _ _ _
  refine wpAny_assign_Name (wpAny_storeName_local hy F.ns (fun h₂ hn₂ hs₂ => ?_) hp)
  have F₂ := F.set hn₂ hs₂
  have N₂ : News h₀ env.locals h₂ _ := N.set hs₂
  refine ⟨m', hn.sameBut hs₂ hCL, fun h'' hs'' => fin h'' _ (F₂.change hs'' hCL hC₀) fun q hq => ⟨hs''.extBut _ _ (hoff q hq) (N₂ q hq).1, (N₂ q hq).2⟩⟩

/-- the turns of a list's items -/
theorem turns_list {x : Str} {px : Pos} {I ax : Addr} {items : Array Value} {cenv : Env} (hh : A.handled = none) (hne : ax ≠ I) (hx : cenv.kindOf x = some .local) (hp : (cenv.scope.kind == .class || (cenv.scope.kind == .module && cenv.locals != cenv.globals)) = false) :
    Turns prog w A I (.Name x px) cenv [I, ax] [I] items.size (fun i m => ∃ v, items[i]? = some v ∧ m x = some v) (fun i h => h.IsListIter I ax i ∧ h.IsList ax items) :=
  Turns.name (Walks.list hh I ax hne items) (fun i h st b hb => by rw [List.mem_singleton.mp hb]; obtain ⟨o, e, _⟩ := st.1; exact ⟨o, e⟩) hx hp
/-- the turns of a range -/
theorem turns_range {x : Str} {px : Pos} {I : Addr} {a c : Int} {n : Nat} {cenv : Env} (hh : A.handled = none) (hx : cenv.kindOf x = some .local) (hp : (cenv.scope.kind == .class || (cenv.scope.kind == .module && cenv.locals != cenv.globals)) = false) :
    Turns prog w A I (.Name x px) cenv [I] [I] n (fun i m => ∃ v, (∃ t, v = .int (a + i * c) t) ∧ m x = some v) (fun i h => IsRangeIter h I (a + (i : Nat) * c) ((n : Int) - (i : Nat)) c) :=
  Turns.name (Walks.range hh I a c n) (fun i h st b hb => by rw [List.mem_singleton.mp hb]; exact ⟨_, st⟩) hx hp
/-- the turns of a list of pairs -/
theorem turns_pairs {a b : Str} {pa pb tp : Pos} {kk : Nat} {I ax : Addr} {items : Array Value} {Ts : Nat → Addr} {us vs : Nat → Value} {cenv : Env} (hh : A.handled = none) (hne : ax ≠ I) (hit : ∀ j, j < items.size → items[j]? = some (.ref (Ts j))) (hTI : ∀ j, j < items.size → Ts j ≠ I)
    (hab : ¬ a = b) (ha : cenv.kindOf a = some .local) (hb : cenv.kindOf b = some .local) (hp : (cenv.scope.kind == .class || (cenv.scope.kind == .module && cenv.locals != cenv.globals)) = false) :
    Turns prog w A I (.Tuple [.Name a pa, .Name b pb] kk tp) cenv (I :: ax :: (List.range items.size).map Ts) [I] items.size (fun i m => m a = some (us i) ∧ m b = some (vs i))
      (fun j h => h.IsListIter I ax j ∧ h.IsList ax items ∧ ∀ k, k < items.size → h.IsTuple (Ts k) #[us k, vs k]) := by
  have T := Turns.pair (cenv := cenv) (pa := pa) (pb := pb) (tp := tp) (kk := kk) hh (WalksU.listOfTuples (prog := prog) (w := w) hh I ax hne items Ts (fun k => #[us k, vs k]) hit hTI) (fun i h st b hb => by rw [List.mem_singleton.mp hb]; obtain ⟨o, e, _⟩ := st.1; exact ⟨o, e⟩) hab
    (fun i vals e => ⟨_, _, e⟩) ha hb hp
  exact { sub := T.sub, frame := T.frame, live := T.live, done := T.done, self := T.self,
          item := fun i s m Q hi hst hn hC hQ => T.item i s m Q hi hst hn hC fun h' tk m' hst' hn' hV hk => hQ h' tk m' hst' hn' (by
            obtain ⟨x, y, e, hx, hy⟩ := hV
            have e' : (#[x, y] : Array Value) = #[us i, vs i] := e
            simp at e'
            exact ⟨e'.1 ▸ hx, e'.2 ▸ hy⟩) hk }
/-- the turns of two lists zipped -/
theorem turns_zip {a b : Str} {pa pb tp : Pos} {kk : Nat} {z TI TO i1 i2 l1 l2 : Addr} {xs ys : Array Value} {cenv : Env} (hh : A.handled = none) (D : ZipApart z TI TO i1 i2 l1 l2)
    (hab : ¬ a = b) (ha : cenv.kindOf a = some .local) (hb : cenv.kindOf b = some .local) (hp : (cenv.scope.kind == .class || (cenv.scope.kind == .module && cenv.locals != cenv.globals)) = false) :
    Turns prog w A z (.Tuple [.Name a pa, .Name b pb] kk tp) cenv [z, TI, TO, i1, i2, l1, l2] [z, TO, i1, i2] (min xs.size ys.size) (fun i m => ∃ x y, xs[i]? = some x ∧ ys[i]? = some y ∧ m a = some x ∧ m b = some y)
      (fun i h => IsZip h z TI TO .none ∧ IsPair h TI (.ref i1) (.ref i2) ∧ (∃ a b, IsPair h TO a b) ∧ h.IsListIter i1 l1 i ∧ h.IsListIter i2 l2 i ∧ h.IsList l1 xs ∧ h.IsList l2 ys) := by
  have T := Turns.pair (cenv := cenv) (pa := pa) (pb := pb) (tp := tp) (kk := kk) hh (WalksT.zip2 (prog := prog) (w := w) hh z TI TO i1 i2 l1 l2 D xs ys).toU (fun i h st c hc => by
    obtain ⟨h1, _, ⟨_, _, h3⟩, h4, h5, _⟩ := st
    simp at hc
    rcases hc with rfl | rfl | rfl | rfl
    · exact ⟨_, h1⟩
    · exact ⟨_, h3⟩
    · obtain ⟨o, e, _⟩ := h4; exact ⟨o, e⟩
    · obtain ⟨o, e, _⟩ := h5; exact ⟨o, e⟩) hab
    (fun i vals e => by obtain ⟨x, y, _, _, e⟩ := e; exact ⟨x, y, e⟩) ha hb hp
  exact { sub := T.sub, frame := T.frame, live := T.live, done := T.done, self := T.self,
          item := fun i s m Q hi hst hn hC hQ => T.item i s m Q hi hst hn hC fun h' tk m' hst' hn' hV hk => hQ h' tk m' hst' hn' (by
            obtain ⟨x, y, ⟨x', y', e1, e2, e3⟩, hx, hy⟩ := hV
            simp at e3
            exact ⟨x, y, e3.1 ▸ e1, e3.2 ▸ e2, hx, hy⟩) hk }
end
end Mine
end
section
set_option maxHeartbeats 2000000
open PySem PySem.W PyProof.Rows PySem.Calls PySem.Spec
namespace Mine

/-- things that stand in a heap -/
def Held (h : Heap) (n : List (Addr × Obj)) : Prop := ∀ p ∈ n, h.get? p.1 = some p.2
theorem Held.keeps {h h' : Heap} {n : List (Addr × Obj)} (x : Held h n) (k : ∀ b o, h.get? b = some o → h'.get? b = some o) : Held h' n := fun p hp => k _ _ (x p hp)
theorem Held.of_news {h₀ h : Heap} {L : Addr} {n : List (Addr × Obj)} (N : News h₀ L h n) : Held h n := fun p hp => (N p hp).1
theorem Held.append {h : Heap} {a b : List (Addr × Obj)} (x : Held h a) (y : Held h b) : Held h (a ++ b) := fun p hp => (List.mem_append.mp hp).elim (x p) (y p)
theorem Held.left {h : Heap} {a b : List (Addr × Obj)} (x : Held h (a ++ b)) : Held h a := fun p hp => x p (List.mem_append_left _ hp)
theorem Held.news {h : Heap} {n : List (Addr × Obj)} (x : Held h n) : ∃ (h₀ : Heap) (L : Addr), News h₀ L h n := by
  refine ⟨{ h with objs := #[] }, h.objs.size, fun p hp => ⟨x p hp, Nat.ne_of_lt (Heap.lt_size (x p hp)), Heap.get?_none_of_le (Nat.zero_le _)⟩⟩

theorem news_cons {h₀ h h' : Heap} {L a : Addr} {o : Obj} {m : Str → Option Value} {news : List (Addr × Obj)} (F : Fr h₀ L h m) (hn : h.get? a = none) (hg : h'.get? a = some o) (N : News h₀ L h' news) : News h₀ L h' ((a, o) :: news) := fun p hp => by
  rcases List.mem_cons.mp hp with rfl | hp
  · refine ⟨hg, fun e => ?_, F.noneBack hn⟩
    obtain ⟨o, es, ep, hL, _⟩ := F.ns
    have e' : a = L := e
    rw [e', hL] at hn; cases hn
  · exact N p hp
/-- a list is no cell -/
theorem ne_cell {h₀ h : Heap} {L a c : Addr} {news : List (Addr × Obj)} {o : Obj} {vs : Array Value} {n : Nat} {v : Option Value} (N : News h₀ L h news) (hp : (a, PySem.W.listOf vs n) ∈ news) (hq : (c, o) ∈ news) (hd : o.data = .cell v) : @Ne Nat a c := fun e => by
  have h1 := (N _ hp).1
  have h2 := (N _ hq).1
  have e' : a = c := e
  rw [e', h2] at h1
  cases h1
  cases hd
/-- a store into a cell -/
theorem store_cell {M : Model} {A : Around} {E : Value → Shared → Prop} {s : Shared} {h₀ : Heap} {L c : Addr} {m : Str → Option Value} {news : List (Addr × Obj)} {env : Env} {name : Str} {o : Obj} {v₀ : Option Value} {v : Value} {Q : Unit → Shared → Prop}
    (hk : env.scope.kind = .function) (hl : env.kindOf name = some .cell) (hc : env.cells.lookup name = some c) (F : Fr h₀ L s.heap m) (N : News h₀ L s.heap news) (hm : (c, o) ∈ news) (hd : o.data = .cell v₀)
    (h : ∀ h' o', Fr h₀ L h' m → o'.data = .cell (some v) → News h₀ L h' [(c, o')] → (∀ sub : List (Addr × Obj), (∀ p ∈ sub, p ∈ news ∧ p.1 ≠ c) → News h₀ L h' sub) → Q () { s with heap := h' }) :
    wpAny M A (storeName env name v) Q E s := by
  have hmem := N (c, o) hm
  refine wpAny_storeName_cell hk hl hc ⟨o, hmem.1, hd⟩ fun h' hv hs => ?_
  obtain ⟨o', ho', hd'⟩ := hv
  refine h h' o' ⟨F.ns.sameBut hs (Ne.symm hmem.2.1), fun b ob e => (hs.2 b (fun q => ?_)).trans (F.keep b ob e), F.above⟩ hd' (fun p hp => ?_) fun sub hsub p hp => ?_
  · rw [q, hmem.2.2] at e; cases e
  · rw [List.mem_singleton.mp hp]; exact ⟨ho', hmem.2⟩
  · have z := N p (hsub p hp).1
    exact ⟨(hs.2 _ (hsub p hp).2).trans z.1, z.2⟩
/-- an append to a list of the ledger -/
theorem append_own {prog : Program} {w : World} {A : Around} {E : Value → Shared → Prop} {s : Shared} {h₀ : Heap} {L D : Addr} {m : Str → Option Value} {news : List (Addr × Obj)} {its : Array Value} {n : Nat} {x : Value} {Q : Value → Shared → Prop}
    (F : Fr h₀ L s.heap m) (N : News h₀ L s.heap news) (hm : (D, PySem.W.listOf its n) ∈ news) (hsz : its.size ≤ sizeLine)
    (h : ∀ h', Fr h₀ L h' m → News h₀ L h' [(D, PySem.W.listOf (its.push x) (n + 1))] → (∀ sub : List (Addr × Obj), (∀ p ∈ sub, p ∈ news ∧ p.1 ≠ D) → News h₀ L h' sub) → Q .none { s with heap := h' }) :
    wpAny (model prog w) A (call (.builtin "list.append") [.ref D, x]) Q E s := by
  have hmem := N _ hm
  refine append_at (hsz := hsz) hmem.1 fun h' hs ho => ?_
  refine h h' (F.change hs hmem.2.1 hmem.2.2) (fun p hp => ?_) fun sub hsub p hp => ?_
  · rw [List.mem_singleton.mp hp]; exact ⟨ho, hmem.2⟩
  · have z := N p (hsub p hp).1
    exact ⟨hs.extBut _ _ (hsub p hp).2 z.1, z.2⟩
/-- a list of data that stands in a heap -/
def ListH (h : Heap) (l : Addr) (ds : List Dat) : Prop := ∃ n vs k, Held h n ∧ h.get? l = some (PySem.W.listOf vs.toArray k) ∧ DatAll n vs ds
theorem ListH.keeps {h h' : Heap} {l : Addr} {ds : List Dat} (x : ListH h l ds) (k : ∀ b o, h.get? b = some o → h'.get? b = some o) : ListH h' l ds := by
  obtain ⟨n, vs, j, hn, hl, hd⟩ := x
  exact ⟨n, vs, j, hn.keeps k, k _ _ hl, hd⟩
theorem ListH.of_news {h₀ h : Heap} {L l : Addr} {news : List (Addr × Obj)} {vs : List Value} {k : Nat} {ds : List Dat} (N : News h₀ L h news) (hm : (l, PySem.W.listOf vs.toArray k) ∈ news) (hd : DatAll news vs ds) : ListH h l ds :=
  ⟨news, vs, k, .of_news N, (N _ hm).1, hd⟩
theorem ListH.of_news' {h₀ h : Heap} {L l : Addr} {news n' : List (Addr × Obj)} {vs : List Value} {k : Nat} {ds : List Dat} (N : News h₀ L h news) (hm : (l, PySem.W.listOf vs.toArray k) ∈ news) (hs : ∀ p ∈ n', p ∈ news) (hd : DatAll n' vs ds) : ListH h l ds :=
  .of_news N hm (hd.mono hs)
theorem ListH.isList {h : Heap} {l : Addr} {ds : List Dat} (x : ListH h l ds) : ∃ n vs, Held h n ∧ h.IsList l vs.toArray ∧ DatAll n vs ds := by
  obtain ⟨n, vs, j, hn, hl, hd⟩ := x
  exact ⟨n, vs, hn, ⟨_, hl, rfl, j, rfl⟩, hd⟩

theorem datAll_strs {n : List (Addr × Obj)} {vs : List Value} {ys : List Str} (h : DatAll n vs (ys.map Dat.str)) : StrsAre vs ys := by
  induction ys generalizing vs with
  | nil =>
    have h' : DatAll n vs [] := h
    cases h'; exact .nil
  | cons y ys ih =>
    have h' : DatAll n vs (.str y :: ys.map Dat.str) := h
    cases h' with
    | cons h1 h2 => cases h1 with
      | str _ t => exact .cons y t (ih h2)
theorem datAll_ints {n : List (Addr × Obj)} {vs : List Value} {ys : List Int} (h : DatAll n vs (ys.map Dat.int)) : IntsAre vs ys := by
  induction ys generalizing vs with
  | nil =>
    have h' : DatAll n vs [] := h
    cases h'; exact .nil
  | cons y ys ih =>
    have h' : DatAll n vs (.int y :: ys.map Dat.int) := h
    cases h' with
    | cons h1 h2 => cases h1 with
      | int _ t => exact .cons y t (ih h2)
theorem strs_datAll {n : List (Addr × Obj)} {vs : List Value} {ys : List Str} (h : StrsAre vs ys) : DatAll n vs (ys.map Dat.str) := by
  induction h with
  | nil => exact .nil
  | cons y t _ ih => exact .cons (.str y t) ih
/-- a pair of ints -/
def pd (p : Int × Int) : Dat := .tuple [.int p.1, .int p.2]
theorem pd_inj {p q : Int × Int} (h : pd p = pd q) : p = q := by
  unfold pd at h
  injection h with h
  injection h with h1 h2
  injection h2 with h2 _
  injection h1 with h1
  injection h2 with h2
  exact Prod.ext h1 h2
theorem pd_ok (n : Nat) (p : Int × Int) : kqdOk (n + 1) (pd p) = true := by simp [pd, kqdOk]
theorem datIn_pd {n : List (Addr × Obj)} {v : Value} {p : Int × Int} (h : DatIn n v (pd p)) : ∃ T u u' k, v = .ref T ∧ (T, ({ cls := .type "tuple", data := .seq #[.int p.1 u, .int p.2 u'] k } : Obj)) ∈ n := by
  unfold pd at h
  cases h with
  | tuple hm hd =>
    cases hd with
    | cons h1 hd =>
      cases hd with
      | cons h2 hd =>
        cases hd
        cases h1 with
        | int _ u => cases h2 with
          | int _ u' => exact ⟨_, u, u', _, rfl, hm⟩

/-- a list of pairs, as its turns want it -/
theorem pairs_at {n : List (Addr × Obj)} {h : Heap} (hn : Held h n) {vs : List Value} {ps : List (Int × Int)} (hd : DatAll n vs (ps.map pd)) : vs.length = ps.length ∧ ∀ j (_ : j < vs.length), ∃ T u u' p, ps[j]? = some p ∧ vs[j]? = some (.ref T) ∧ h.IsTuple T #[.int p.1 u, .int p.2 u'] := by
  induction ps generalizing vs with
  | nil =>
    have h' : DatAll n vs [] := hd
    cases h'
    exact ⟨rfl, fun j hj => nomatch hj⟩
  | cons p ps ih =>
    have h' : DatAll n vs (pd p :: ps.map pd) := hd
    cases h' with
    | cons h1 h2 =>
      obtain ⟨hl, ih⟩ := ih h2
      refine ⟨congrArg Nat.succ hl, fun j hj => ?_⟩
      cases j with
      | zero =>
        obtain ⟨T, u, u', k, rfl, hm⟩ := datIn_pd h1
        exact ⟨T, u, u', p, rfl, rfl, ⟨_, hn _ hm, rfl, _, rfl⟩⟩
      | succ j =>
        obtain ⟨T, u, u', q, e1, e2, e3⟩ := ih j (Nat.lt_of_succ_lt_succ hj)
        exact ⟨T, u, u', q, e1, e2, e3⟩
/-- .. with its parts named -/
theorem pairs_fun {n : List (Addr × Obj)} {h : Heap} {vs : List Value} {ps : List (Int × Int)} (hn : Held h n) (hd : DatAll n vs (ps.map pd)) :
    ∃ (Ts : Nat → Addr) (us ws : Nat → Tok) (P : Nat → Int × Int), vs.length = ps.length ∧ (∀ j, j < ps.length → ps[j]? = some (P j)) ∧ ∀ j, j < vs.toArray.size → vs.toArray[j]? = some (.ref (Ts j)) ∧ h.IsTuple (Ts j) #[.int (P j).1 (us j), .int (P j).2 (ws j)] := by
  obtain ⟨hl, H⟩ := pairs_at hn hd
  have K : ∀ j, ∃ q : Addr × Tok × Tok × (Int × Int), j < vs.length → ps[j]? = some q.2.2.2 ∧ vs[j]? = some (.ref q.1) ∧ h.IsTuple q.1 #[.int q.2.2.2.1 q.2.1, .int q.2.2.2.2 q.2.2.1] := fun j => by
    by_cases hj : j < vs.length
    · obtain ⟨T, u, u', p, h1, h2, h3⟩ := H j hj
      exact ⟨(T, u, u', p), fun _ => ⟨h1, h2, h3⟩⟩
    · exact ⟨(0, 0, 0, (0, 0)), fun x => absurd x hj⟩
  refine ⟨fun j => (Classical.choose (K j)).1, fun j => (Classical.choose (K j)).2.1, fun j => (Classical.choose (K j)).2.2.1, fun j => (Classical.choose (K j)).2.2.2, hl, fun j hj => (Classical.choose_spec (K j) (by omega)).1, fun j hj => ?_⟩
  have hj' : j < vs.length := by simpa using hj
  have := Classical.choose_spec (K j) hj'
  exact ⟨by simpa using this.2.1, this.2.2⟩

/-- of the list that a filter of indices leaves -/
theorem filter_map_range {α β : Type} (l : List α) (P : Nat → α) (hP : ∀ j, j < l.length → l[j]? = some (P j)) (q : α → Bool) (f : α → β) :
    ((List.range l.length).filter (fun i => q (P i))).map (fun i => f (P i)) = (l.filter q).map f := by
  have e : l = (List.range l.length).map P := by
    apply List.ext_getElem?
    intro i
    by_cases hi : i < l.length
    · rw [hP i hi]; simp [hi]
    · rw [List.getElem?_eq_none (by omega), List.getElem?_eq_none (by simp; omega)]
  have e2 : (l.filter q).map f = (((List.range l.length).map P).filter q).map f := by rw [← e]
  rw [e2, List.filter_map, List.map_map]
  rfl

section
variable {prog : Program} {w : World} {A : Around} {E : Value → Shared → Prop} {s : Shared} {a b : Addr} {x : Value} {d : Dat} {ds es : List Dat} {n : List (Addr × Obj)} {Q : Value → Shared → Prop}
theorem dec_any {p : Prop} {b : Bool} (hb : b = true ↔ p) (I : Decidable p) : @decide p I = b := by
  cases b with
  | true => exact decide_eq_true (hb.mp rfl)
  | false => exact decide_eq_false fun h => by have := hb.mpr h; cases this
theorem in_h {r : Bool} (ha : ListH s.heap a ds) (hn : Held s.heap n) (hx : DatIn n x d) (h1 : ∀ d ∈ ds, kqdOk 8 d = true) (h2 : kqdOk 8 d = true) (hu : A.units + 64 < cLine) (hr : r = true ↔ d ∈ ds) (h : Q (.bool r) s) : wpAny (model prog w) A (compareOp .In x (.ref a)) Q E s := by
  obtain ⟨m, vs, k, hm, hl, hd⟩ := ha
  have hall : Held s.heap ((a, PySem.W.listOf vs.toArray k) :: (m ++ n)) := fun p hp => by
    rcases List.mem_cons.mp hp with rfl | hp
    · exact hl
    · exact (hm.append hn) p hp
  obtain ⟨h₀, L, N⟩ := hall.news
  refine kqd_isIn N (.head _) rfl rfl hd (fun p hp => .tail _ (List.mem_append_left _ hp)) hx (fun p hp => .tail _ (List.mem_append_right _ hp)) h1 h2 hu ?_
  rw [dec_any hr]; exact h
theorem notIn_h {r : Bool} (ha : ListH s.heap a ds) (hn : Held s.heap n) (hx : DatIn n x d) (h1 : ∀ d ∈ ds, kqdOk 8 d = true) (h2 : kqdOk 8 d = true) (hu : A.units + 64 < cLine) (hr : r = true ↔ d ∈ ds) (h : Q (.bool (!r)) s) : wpAny (model prog w) A (compareOp .NotIn x (.ref a)) Q E s := by
  obtain ⟨m, vs, k, hm, hl, hd⟩ := ha
  have hall : Held s.heap ((a, PySem.W.listOf vs.toArray k) :: (m ++ n)) := fun p hp => by
    rcases List.mem_cons.mp hp with rfl | hp
    · exact hl
    · exact (hm.append hn) p hp
  obtain ⟨h₀, L, N⟩ := hall.news
  refine kqd_notIn N (.head _) rfl rfl hd (fun p hp => .tail _ (List.mem_append_left _ hp)) hx (fun p hp => .tail _ (List.mem_append_right _ hp)) h1 h2 hu ?_
  rw [dec_any hr]; exact h
theorem eq_h {r : Bool} (ha : ListH s.heap a ds) (hb : ListH s.heap b es) (h1 : ∀ d ∈ ds, kqdOk 8 d = true) (h2 : ∀ d ∈ es, kqdOk 8 d = true) (hu : A.units + 64 < cLine) (hr : r = true ↔ ds = es) (h : Q (.bool r) s) : wpAny (model prog w) A (compareOp .Eq (.ref a) (.ref b)) Q E s := by
  obtain ⟨m, vs, k, hm, hl, hd⟩ := ha
  obtain ⟨m', vs', k', hm', hl', hd'⟩ := hb
  have hall : Held s.heap ((a, PySem.W.listOf vs.toArray k) :: (b, PySem.W.listOf vs'.toArray k') :: (m ++ m')) := fun p hp => by
    rcases List.mem_cons.mp hp with rfl | hp
    · exact hl
    · rcases List.mem_cons.mp hp with rfl | hp
      · exact hl'
      · exact (hm.append hm') p hp
  obtain ⟨h₀, L, N⟩ := hall.news
  refine kqd_eq N (.head _) rfl rfl hd (fun p hp => .tail _ (.tail _ (List.mem_append_left _ hp))) (.tail _ (.head _)) rfl rfl hd' (fun p hp => .tail _ (.tail _ (List.mem_append_right _ hp))) h1 h2 hu ?_
  rw [dec_any hr]; exact h
end
end Mine
end
section
set_option maxHeartbeats 2000000
open PySem PySem.W PyProof.Rows PySem.Calls PySem.Spec
namespace Mine
section
variable {prog : Program} {w : World} {A : Around} {s : Shared} {env : Env} {h₀ : Heap} {L : Addr} {m : Str → Option Value} {news base : List (Addr × Obj)} {scope : Scope} {cl : List (Str × Addr)} {pos : Pos} {elt iter : Expr} {ifs : List Expr} {RR : Value → Addr → Result → Shared → Prop}

/-- a comprehension's end -/
def CompFin (h₀ : Heap) (L : Addr) (m : Str → Option Value) (news base : List (Addr × Obj)) (ds : List Dat) (s : Shared) (RR : Value → Addr → Result → Shared → Prop) : Prop :=
  ∀ D C h tk gs m' ys obs, Fr h₀ L h m → News h₀ L h ((D, PySem.W.listOf ys.toArray ys.length) :: (obs ++ news)) → h.Ns C m' → C ≠ L → h₀.get? C = none → (∀ q ∈ (D, PySem.W.listOf ys.toArray ys.length) :: (obs ++ news), q.1 ≠ C) → (∀ q ∈ obs ++ news, q.1 ≠ D) → OwnOff obs (D :: news.map (·.1)) →
    DatAll (obs ++ base) ys ds → GB s.gens gs → RR (.ref D) C (.ok .next) { s with heap := h, toks := tk, gens := gs }

/-- over a list of pairs -/
theorem comp_pairs {a b : Str} {pa pb tp : Pos} {kk : Nat} {lP : Addr} {ps : List (Int × Int)} (hh : A.handled = none) (hP : ListH s.heap lP (ps.map pd)) (hz : ps.length ≤ 100000) (p : Int × Int → Bool) (dat : Int × Int → Dat)
    (hcell : ∀ y ∈ scope.names, y.2 ≠ .cell) (hkind : scope.kind = .function) (hab : ¬ a = b) (ha : scope.names.lookup a = some .local) (hb : scope.names.lookup b = some .local)
    (F : Fr h₀ L s.heap m) (N : News h₀ L s.heap news)
    (test : ∀ C q s₃ m₃ u u' rest, q ∈ ps → m₃ a = some (.int q.1 u) → m₃ b = some (.int q.2 u') → Fr h₀ C s₃.heap m₃ → News h₀ C s₃.heap (news ++ rest) → s₃.os = s.os → s₃.drawn = s.drawn → GB s.gens s₃.gens →
      wpAny (model prog w) A (forIn ifs true fun c r => if r = true then do let ok ← isTrue c (compEnvC scope cl C env) (eval c (compEnvC scope cl C env)); pure (ForInStep.yield ok) else pure (ForInStep.yield r)) (TestEnd h₀ C m₃ news rest (p q) s₃) (fun _ _ => False) s₃)
    (body : ∀ C q s₃ m₃ u u' rest, q ∈ ps → p q = true → m₃ a = some (.int q.1 u) → m₃ b = some (.int q.2 u') → Fr h₀ C s₃.heap m₃ → News h₀ C s₃.heap (news ++ rest) → s₃.os = s.os → s₃.drawn = s.drawn → GB s.gens s₃.gens →
      wpAny (model prog w) A (eval elt (compEnvC scope cl C env)) (EltEnd h₀ C m₃ news base rest (dat q) s₃) (fun _ _ => False) s₃)
    (fin : CompFin h₀ L m news base ((ps.filter p).map dat) s RR) :
    wpAny (model prog w) A (pyIter (.ref lP)) (fun it s₂ => CompAt (model prog w) A env scope cl (.ListComp elt [⟨.Tuple [.Name a pa, .Name b pb] kk tp, iter, ifs, 0⟩] scope pos) RR it s₂) (fun _ _ => False) s := by
  obtain ⟨n, vs, hn, hl, hd⟩ := hP.isList
  obtain ⟨Ts, us, ws, P, hlen, hP1, hP2⟩ := pairs_fun hn hd
  obtain ⟨ol, hol, _⟩ := id hl
  have hne : lP ≠ s.heap.objs.size := Nat.ne_of_lt (Heap.lt_size hol)
  have hsize : vs.toArray.size = ps.length := by simpa using hlen
  refine wpAny_pyIter_list hl ?_
  have hT : ∀ j, j < vs.toArray.size → Ts j < s.heap.objs.size := fun j hj => by
    obtain ⟨o, e, _⟩ := (hP2 j hj).2
    exact Heap.lt_size e
  refine comp_at (base := base) (n := vs.toArray.size) (fp := s.heap.objs.size :: lP :: (List.range vs.toArray.size).map Ts) (wr := [s.heap.objs.size]) (fun C => turns_pairs (ax := lP) (items := vs.toArray) (Ts := Ts) (us := fun k => .int (P k).1 (us k)) (vs := fun k => .int (P k).2 (ws k)) hh hne (fun j hj => (hP2 j hj).1) (fun j hj => Nat.ne_of_lt (hT j hj)) hab (lookup_relabel_local ha) (lookup_relabel_local hb) (by simp [compEnvC, relabel, hkind]))
    (by rw [hsize, sizeLine_eq]; omega) (fun i => p (P i)) (fun i => dat (P i)) hcell hkind ?_ ?_ (F.push _) (N.grown fun _ _ e => Heap.get?_push_of_some _ e) ?_ ?_ ?_ ?_
  · exact ⟨⟨_, Heap.get?_push_size _ rfl, rfl, rfl⟩, hl.push _, fun k hk => (hP2 k hk).2.at fun o e => Heap.get?_push_of_some _ e⟩
  · intro b hb
    show b < (s.heap.push _).objs.size
    rw [Heap.size_push]
    rcases List.mem_cons.mp hb with rfl | hb
    · exact Nat.lt_succ_self _
    · rcases List.mem_cons.mp hb with rfl | hb
      · exact Nat.lt_succ_of_lt (Heap.lt_size hol)
      · obtain ⟨j, hj, rfl⟩ := List.mem_map.mp hb
        exact Nat.lt_succ_of_lt (hT j (List.mem_range.mp hj))
  · intro b hb
    rw [List.mem_singleton.mp hb]
    exact ⟨next_is_new F, Ne.symm (Nat.ne_of_lt F.ns.lt), N.apart⟩
  · intro C i s₃ m₃ rest hi hV F₃ N₃ ho hdr hg
    exact test C (P i) s₃ m₃ _ _ rest (List.mem_of_getElem? (hP1 i (hsize ▸ hi))) hV.1 hV.2 F₃ N₃ ho hdr hg
  · intro C i s₃ m₃ rest hi hp hV F₃ N₃ ho hdr hg
    exact body C (P i) s₃ m₃ _ _ rest (List.mem_of_getElem? (hP1 i (hsize ▸ hi))) hp hV.1 hV.2 F₃ N₃ ho hdr hg
  · intro D C h tk gs m' ys obs F' N' hn' hCL hC₀ hoff hD hO hdat hg
    refine fin D C h tk gs m' ys obs F' N' hn' hCL hC₀ hoff hD hO ?_ hg
    rw [hsize] at hdat
    rw [← filter_map_range ps P hP1 p dat]
    exact hdat

/-- over a list's items -/
theorem comp_list {x : Str} {px : Pos} {l : Addr} {n : List (Addr × Obj)} {vs : List Value} {ds : List Dat} (hh : A.handled = none) (hl : s.heap.IsList l vs.toArray) (hd : DatAll n vs ds) (hz : ds.length ≤ 100000) (p : Dat → Bool) (dat : Dat → Dat)
    (hcell : ∀ y ∈ scope.names, y.2 ≠ .cell) (hkind : scope.kind = .function) (hx : scope.names.lookup x = some .local)
    (F : Fr h₀ L s.heap m) (N : News h₀ L s.heap news)
    (test : ∀ C v d s₃ m₃ rest, d ∈ ds → DatIn n v d → m₃ x = some v → Fr h₀ C s₃.heap m₃ → News h₀ C s₃.heap (news ++ rest) → s₃.os = s.os → s₃.drawn = s.drawn → GB s.gens s₃.gens →
      wpAny (model prog w) A (forIn ifs true fun c r => if r = true then do let ok ← isTrue c (compEnvC scope cl C env) (eval c (compEnvC scope cl C env)); pure (ForInStep.yield ok) else pure (ForInStep.yield r)) (TestEnd h₀ C m₃ news rest (p d) s₃) (fun _ _ => False) s₃)
    (body : ∀ C v d s₃ m₃ rest, d ∈ ds → p d = true → DatIn n v d → m₃ x = some v → Fr h₀ C s₃.heap m₃ → News h₀ C s₃.heap (news ++ rest) → s₃.os = s.os → s₃.drawn = s.drawn → GB s.gens s₃.gens →
      wpAny (model prog w) A (eval elt (compEnvC scope cl C env)) (EltEnd h₀ C m₃ news base rest (dat d) s₃) (fun _ _ => False) s₃)
    (fin : CompFin h₀ L m news base ((ds.filter p).map dat) s RR) :
    wpAny (model prog w) A (pyIter (.ref l)) (fun it s₂ => CompAt (model prog w) A env scope cl (.ListComp elt [⟨.Name x px, iter, ifs, 0⟩] scope pos) RR it s₂) (fun _ _ => False) s := by
  obtain ⟨ol, hol, _⟩ := id hl
  have hne : l ≠ s.heap.objs.size := Nat.ne_of_lt (Heap.lt_size hol)
  have hsize : vs.toArray.size = ds.length := by simpa using hd.length
  have hP1 : ∀ j, j < ds.length → ds[j]? = some (ds.getD j .none) := fun j hj => by simp [hj]
  refine wpAny_pyIter_list hl ?_
  refine comp_at (base := base) (n := vs.toArray.size) (fp := [s.heap.objs.size, l]) (wr := [s.heap.objs.size]) (fun C => turns_list (ax := l) (items := vs.toArray) hh hne (lookup_relabel_local hx) (by simp [compEnvC, relabel, hkind]))
    (by rw [hsize, sizeLine_eq]; omega) (fun i => p (ds.getD i .none)) (fun i => dat (ds.getD i .none)) hcell hkind ?_ ?_ (F.push _) (N.grown fun _ _ e => Heap.get?_push_of_some _ e) ?_ ?_ ?_ ?_
  · exact ⟨⟨_, Heap.get?_push_size _ rfl, rfl, rfl⟩, hl.push _⟩
  · intro b hb
    show b < (s.heap.push _).objs.size
    rw [Heap.size_push]
    rcases List.mem_cons.mp hb with rfl | hb
    · exact Nat.lt_succ_self _
    · rw [List.mem_singleton.mp hb]; exact Nat.lt_succ_of_lt (Heap.lt_size hol)
  · intro b hb
    rw [List.mem_singleton.mp hb]
    exact ⟨next_is_new F, Ne.symm (Nat.ne_of_lt F.ns.lt), N.apart⟩
  · intro C i s₃ m₃ rest hi hV F₃ N₃ ho hdr hg
    obtain ⟨v, hv, hm⟩ := hV
    have hi' : i < ds.length := hsize ▸ hi
    obtain ⟨v', hv', hd'⟩ := hd.get hi'
    have e : v = v' := by have : vs[i]? = some v := by simpa using hv
                          rw [hv'] at this; exact (Option.some.inj this).symm
    subst e
    have e2 : ds.getD i .none = ds[i]'hi' := by simp [List.getD, hi']
    rw [e2]
    exact test C v _ s₃ m₃ rest (List.getElem_mem hi') hd' hm F₃ N₃ ho hdr hg
  · intro C i s₃ m₃ rest hi hp hV F₃ N₃ ho hdr hg
    obtain ⟨v, hv, hm⟩ := hV
    have hi' : i < ds.length := hsize ▸ hi
    obtain ⟨v', hv', hd'⟩ := hd.get hi'
    have e : v = v' := by have : vs[i]? = some v := by simpa using hv
                          rw [hv'] at this; exact (Option.some.inj this).symm
    subst e
    have e2 : ds.getD i .none = ds[i]'hi' := by simp [List.getD, hi']
    rw [e2] at hp ⊢
    exact body C v _ s₃ m₃ rest (List.getElem_mem hi') hp hd' hm F₃ N₃ ho hdr hg
  · intro D C h tk gs m' ys obs F' N' hn' hCL hC₀ hoff hD hO hdat hg
    refine fin D C h tk gs m' ys obs F' N' hn' hCL hC₀ hoff hD hO ?_ hg
    rw [hsize] at hdat
    rw [← filter_map_range ds (fun i => ds.getD i .none) hP1 p dat]
    exact hdat

theorem zip_apart {n l1 l2 : Nat} (z1 : l1 < n) (z2 : l2 < n) : ZipApart (n + 4) (n + 2) (n + 3) n (n + 1) l1 l2 := by
  constructor <;> (show @Ne Nat _ _; omega)
theorem up5 {n : Nat} (k : Nat) (h : k < 5) : n + k < n + 5 := Nat.add_lt_add_left h n
/-- over two lists zipped -/
theorem comp_zip {a b : Str} {pa pb tp : Pos} {kk : Nat} {l1 l2 : Addr} {n1 n2 : List (Addr × Obj)} {xs ys : List Value} {ds es : List Dat} (hh : A.handled = none) (hl1 : s.heap.IsList l1 xs.toArray) (hd1 : DatAll n1 xs ds) (hl2 : s.heap.IsList l2 ys.toArray) (hd2 : DatAll n2 ys es) (hle : es.length = ds.length) (hz : ds.length ≤ 100000) (dat : Dat → Dat → Dat)
    (hcell : ∀ y ∈ scope.names, y.2 ≠ .cell) (hkind : scope.kind = .function) (hab : ¬ a = b) (ha : scope.names.lookup a = some .local) (hb : scope.names.lookup b = some .local)
    (F : Fr h₀ L s.heap m) (N : News h₀ L s.heap news)
    (body : ∀ (C : Addr) (i : Nat) (v : Value) (d : Dat) (u : Value) (e : Dat) (s₃ : Shared) m₃ rest, ds[i]? = some d → es[i]? = some e → DatIn n1 v d → DatIn n2 u e → m₃ a = some v → m₃ b = some u → Fr h₀ C s₃.heap m₃ → News h₀ C s₃.heap (news ++ rest) → s₃.os = s.os → s₃.drawn = s.drawn → GB s.gens s₃.gens →
      wpAny (model prog w) A (eval elt (compEnvC scope cl C env)) (EltEnd h₀ C m₃ news base rest (dat d e) s₃) (fun _ _ => False) s₃)
    (fin : CompFin h₀ L m news base ((ds.zip es).map fun q => dat q.1 q.2) s RR) :
    wpAny (model prog w) A (call (.type "zip") [.ref l1, .ref l2]) (fun xv s₁ => wpAny (model prog w) A (pyIter xv) (fun it s₂ => CompAt (model prog w) A env scope cl (.ListComp elt [⟨.Tuple [.Name a pa, .Name b pb] kk tp, iter, [], 0⟩] scope pos) RR it s₂) (fun _ _ => False) s₁) (fun _ _ => False) s := by
  obtain ⟨o1, ho1, _⟩ := id hl1
  obtain ⟨o2, ho2, _⟩ := id hl2
  have lt1 := Heap.lt_size ho1
  have lt2 := Heap.lt_size ho2
  have hs1 : xs.toArray.size = ds.length := by simpa using hd1.length
  have hs2 : ys.toArray.size = es.length := by simpa using hd2.length
  refine call_zip_2 hl1 hl2 fun h' hz' hTI hTO hi1 hi2 hsz hk => ?_
  refine wpAny_pyIter_zip hz' ?_
  have D : ZipApart (s.heap.objs.size + 4) (s.heap.objs.size + 2) (s.heap.objs.size + 3) s.heap.objs.size (s.heap.objs.size + 1) l1 l2 := zip_apart lt1 lt2
  have hn : min xs.toArray.size ys.toArray.size = ds.length := by rw [hs1, hs2, hle, Nat.min_self]
  refine comp_at (base := base) (n := min xs.toArray.size ys.toArray.size) (fp := [s.heap.objs.size + 4, s.heap.objs.size + 2, s.heap.objs.size + 3, s.heap.objs.size, s.heap.objs.size + 1, l1, l2]) (wr := [s.heap.objs.size + 4, s.heap.objs.size + 3, s.heap.objs.size, s.heap.objs.size + 1])
    (fun C => turns_zip (xs := xs.toArray) (ys := ys.toArray) hh D hab (lookup_relabel_local ha) (lookup_relabel_local hb) (by simp [compEnvC, relabel, hkind]))
    (by rw [hn, sizeLine_eq]; omega) (fun _ => true) (fun i => dat (ds.getD i .none) (es.getD i .none)) hcell hkind ?_ ?_ (F.keeps hk) (N.grown hk) ?_ ?_ ?_ ?_
  · exact ⟨hz', hTI, ⟨_, _, hTO⟩, hi1, hi2, hl1.at fun o e => hk _ o e, hl2.at fun o e => hk _ o e⟩
  · intro b hb
    show @LT.lt Nat _ b h'.objs.size
    rw [hsz]
    simp only [List.mem_cons, List.not_mem_nil, or_false] at hb
    rcases hb with rfl | rfl | rfl | rfl | rfl | rfl | rfl
    · exact Nat.lt_succ_self _
    · exact up5 2 (by decide)
    · exact up5 3 (by decide)
    · exact up5 0 (by decide)
    · exact up5 1 (by decide)
    · exact Nat.lt_trans lt1 (up5 0 (by decide))
    · exact Nat.lt_trans lt2 (up5 0 (by decide))
  · intro b hb
    have hge : @LE.le Nat _ s.heap.objs.size b := by
      simp only [List.mem_cons, List.not_mem_nil, or_false] at hb
      rcases hb with rfl | rfl | rfl | rfl
      · exact Nat.le_add_right _ _
      · exact Nat.le_add_right _ _
      · exact Nat.le_refl _
      · exact Nat.le_add_right _ _
    have hno : s.heap.get? b = none := Heap.get?_none_of_le hge
    exact ⟨F.noneBack hno, fun e => Nat.lt_irrefl _ (Nat.lt_of_lt_of_le F.ns.lt (e ▸ hge)), fun q hq e => Nat.lt_irrefl _ (Nat.lt_of_lt_of_le (Heap.lt_size (N q hq).1) (e ▸ hge))⟩
  · intro C i s₃ m₃ rest _ _ F₃ N₃ _ _ _
    exact wpAny_tests_nil (.same F₃ N₃)
  · intro C i s₃ m₃ rest hi _ hV F₃ N₃ ho hdr hg
    obtain ⟨v, u, hv, hu, ma, mb⟩ := hV
    have hi' : i < ds.length := hn ▸ hi
    have hi2' : i < es.length := hle ▸ hi'
    obtain ⟨v', hv', hd'⟩ := hd1.get hi'
    obtain ⟨u', hu', he'⟩ := hd2.get hi2'
    have e : v = v' := by have : xs[i]? = some v := by simpa using hv
                          rw [hv'] at this; exact (Option.some.inj this).symm
    have e' : u = u' := by have : ys[i]? = some u := by simpa using hu
                           rw [hu'] at this; exact (Option.some.inj this).symm
    subst e e'
    have e2 : ds.getD i .none = ds[i]'hi' := by simp [List.getD, hi']
    have e3 : es.getD i .none = es[i]'hi2' := by simp [List.getD, hi2']
    rw [e2, e3]
    exact body C i v _ u _ s₃ m₃ rest (List.getElem?_eq_getElem hi') (List.getElem?_eq_getElem hi2') hd' he' ma mb F₃ N₃ ho hdr hg
  · intro D C h tk gs m' ys' obs F' N' hn' hCL hC₀ hoff hD hO hdat hg
    refine fin D C h tk gs m' ys' obs F' N' hn' hCL hC₀ hoff hD hO ?_ hg
    rw [hn] at hdat
    have e : (((List.range ds.length).filter fun _ => true).map fun i => dat (ds.getD i .none) (es.getD i .none)) = (ds.zip es).map fun q => dat q.1 q.2 := by
      rw [List.filter_eq_self.mpr (fun _ _ => rfl)]
      apply List.ext_getElem?
      intro i
      by_cases hi : i < ds.length
      · simp [hi, hle, List.getElem?_zip_eq_some, List.getD, show i < es.length from hle ▸ hi]
      · rw [List.getElem?_eq_none (by simp; omega), List.getElem?_eq_none (by simp; omega)]
    rw [← e]
    exact hdat
end
end Mine
end
section
set_option maxHeartbeats 2000000
open PySem PySem.W PyProof.Rows PySem.Calls PySem.Spec
namespace Mine
section
variable {prog : Program} {w : World} {A : Around} {s : Shared} {env : Env} {h₀ : Heap} {R : Result → Shared → Prop}
/-- a for of one name over range(n) -/
theorem for_range {x : Str} {px : Pos} {body : List Stmt} {r : Addr} {n : Nat} {t u v : Tok} {m : Str → Option Value} {news : List (Addr × Obj)} {G₀ : Array GenState}
    (J : Nat → (Str → Option Value) → List (Addr × Obj) → Prop) (hh : A.handled = none) (hr : IsRange s.heap r 0 (n : Int) 1 t u v) (hn : n ≤ 100000) (hx : env.kindOf x = some .local)
    (hp : (env.scope.kind == .class || (env.scope.kind == .module && env.locals != env.globals)) = false)
    (F : Fr h₀ env.locals s.heap m) (N : News h₀ env.locals s.heap news) (hj : J 0 m news) (hG : GB G₀ s.gens)
    (turn : ∀ i tv m₁ news₁ h tk gs own, i < n → news₁.map (·.1) = news.map (·.1) → OwnOff own (news.map (·.1)) → J i m₁ news₁ → GB G₀ gs →
      Fr h₀ env.locals h (fun y => if y = x then some (.int (i : Int) tv) else m₁ y) → News h₀ env.locals h (news₁ ++ own) →
      wpAny (model prog w) A (execs body env) (TurnG h₀ env.locals (J (i + 1)) own (news.map (·.1)) G₀ { s with heap := s.heap.push { cls := .type "range_iterator", data := .fields #[rawInt 0, rawInt (n : Int), rawInt 1] } } R) (fun _ _ => False) { s with heap := h, toks := tk, gens := gs })
    (done : ∀ m₁ news₁ h tk gs, J n m₁ news₁ → news₁.map (·.1) = news.map (·.1) → GB G₀ gs → Fr h₀ env.locals h m₁ → News h₀ env.locals h news₁ → R (.ok .next) { s with heap := h, toks := tk, gens := gs }) :
    wpAny (model prog w) A (pyIter (.ref r)) (fun it s₂ => codeAny (model prog w) A (.forLoop (.Name x px) it body [] env) R s₂) (fun _ _ => False) s := by
  have hsz : Builtin.Range.rangeSize 0 (n : Int) 1 = (n : Int) := by rw [rangeSize_one]; split <;> omega
  refine wpAny_pyIter_range hr (small_one (by decide) (by decide) (by omega) (by omega)) ?_
  rw [hsz]
  have hLs : env.locals < s.heap.objs.size := F.ns.lt
  refine for_walk (G₀ := G₀) J (Walks.range (prog := prog) (w := w) hh s.heap.objs.size 0 1 n) hx hp ?_ ?_ ?_ ?_ (F.push _) (fun p hp => ⟨Heap.get?_push_of_some _ (N p hp).1, (N p hp).2⟩) hj hG ?_ ?_
  · intro hm
    exact Nat.ne_of_lt hLs (List.mem_singleton.mp hm)
  · intro b hb
    rw [List.mem_singleton.mp hb]
    exact h_none (Nat.le_trans F.above (Nat.le_of_lt hLs))
  · intro p hp hI
    exact Nat.ne_of_lt (Heap.lt_size (N p hp).1) (List.mem_singleton.mp hI)
  · show IsRangeIter _ _ _ _ _
    simpa using Heap.get?_push_size _ rfl
  · intro i v m₁ news₁ h tk gs own hi hP ha ho hJ hGB F₁ N₁
    obtain ⟨tv, rfl⟩ := hP
    have e : (0 : Int) + (i : Int) * 1 = (i : Int) := by omega
    rw [e] at F₁
    exact turn i tv m₁ news₁ h tk gs own hi ha ho hJ hGB F₁ N₁
  · intro m₁ news₁ h tk gs hJ ha hGB F₁ N₁ _
    exact done m₁ news₁ h tk gs hJ ha hGB F₁ N₁
end
end Mine
end
section
set_option maxHeartbeats 2000000
open PySem PySem.W PyProof.Rows PySem.Calls PySem.Spec
namespace Mine
/-- a turn's end where the lists of the state may be new ones -/
def TurnL (h₀ : Heap) (L : Addr) (J : (Str → Option Value) → List (Addr × Obj) → Prop) (own : List (Addr × Obj)) (G₀ : Array GenState) (s : Shared) (R : Result → Shared → Prop) (f : Flow) (s₂ : Shared) : Prop :=
  match f with
  | .ret v => R (.ok (.ret v)) s₂
  | .brk => R (.ok .next) s₂
  | _ => ∃ h' tk gs m' nx, s₂ = { s with heap := h', toks := tk, gens := gs } ∧ Fr h₀ L h' m' ∧ News h₀ L h' (nx ++ own) ∧ (∀ p ∈ nx, p.2.cls = .type "list") ∧ J m' nx ∧ GB G₀ gs
theorem turnL_end {h₀ h' : Heap} {L : Addr} {J : (Str → Option Value) → List (Addr × Obj) → Prop} {own nx : List (Addr × Obj)} {G₀ gs : Array GenState} {s : Shared} {R : Result → Shared → Prop} {m' : Str → Option Value} {tk : Nat} {s₂ : Shared}
    (e : s₂ = { s with heap := h', toks := tk, gens := gs }) (F : Fr h₀ L h' m') (N : News h₀ L h' (nx ++ own)) (ha : ∀ p ∈ nx, p.2.cls = .type "list") (hJ : J m' nx) (hG : GB G₀ gs) : TurnL h₀ L J own G₀ s R .next s₂ := ⟨h', tk, gs, m', nx, e, F, N, ha, hJ, hG⟩
section
variable {prog : Program} {w : World} {A : Around} {s : Shared} {env : Env} {h₀ : Heap} {R : Result → Shared → Prop}
/-- a for over range(n) whose state's lists may be new ones in each turn -/
theorem for_rangeL {x : Str} {px : Pos} {body : List Stmt} {r : Addr} {n : Nat} {t u v : Tok} {m : Str → Option Value} {news : List (Addr × Obj)} {G₀ : Array GenState}
    (J : Nat → (Str → Option Value) → List (Addr × Obj) → Prop) (hh : A.handled = none) (hr : IsRange s.heap r 0 (n : Int) 1 t u v) (hn : n ≤ 100000) (hx : env.kindOf x = some .local)
    (hp : (env.scope.kind == .class || (env.scope.kind == .module && env.locals != env.globals)) = false)
    (F : Fr h₀ env.locals s.heap m) (N : News h₀ env.locals s.heap news) (hcls : ∀ p ∈ news, p.2.cls = .type "list") (hj : J 0 m news) (hG : GB G₀ s.gens)
    (turn : ∀ i tv m₁ news₁ h tk gs I oI, i < n → J i m₁ news₁ → GB G₀ gs →
      Fr h₀ env.locals h (fun y => if y = x then some (.int (i : Int) tv) else m₁ y) → News h₀ env.locals h (news₁ ++ [(I, oI)]) →
      wpAny (model prog w) A (execs body env) (TurnL h₀ env.locals (J (i + 1)) [(I, oI)] G₀ { s with heap := s.heap.push { cls := .type "range_iterator", data := .fields #[rawInt 0, rawInt (n : Int), rawInt 1] } } R) (fun _ _ => False) { s with heap := h, toks := tk, gens := gs })
    (done : ∀ m₁ news₁ h tk gs, J n m₁ news₁ → GB G₀ gs → Fr h₀ env.locals h m₁ → News h₀ env.locals h news₁ → R (.ok .next) { s with heap := h, toks := tk, gens := gs }) :
    wpAny (model prog w) A (pyIter (.ref r)) (fun it s₂ => codeAny (model prog w) A (.forLoop (.Name x px) it body [] env) R s₂) (fun _ _ => False) s := by
  have hsz : Builtin.Range.rangeSize 0 (n : Int) 1 = (n : Int) := by rw [rangeSize_one]; split <;> omega
  refine wpAny_pyIter_range hr (small_one (by decide) (by decide) (by omega) (by omega)) ?_
  rw [hsz]
  have hLs : env.locals < s.heap.objs.size := F.ns.lt
  have hI₀ : h₀.get? s.heap.objs.size = none := h_none (Nat.le_trans F.above (Nat.le_of_lt hLs))
  have hIL : env.locals ≠ s.heap.objs.size := Nat.ne_of_lt hLs
  have W := Walks.range (prog := prog) (w := w) (A := A) hh s.heap.objs.size 0 1 n
  generalize hI : s.heap.objs.size = I at *
  obtain ⟨J', hJ'⟩ : ∃ J' : Nat → Shared → Prop, J' = (fun k s' => ∃ i h tk gs m₁ news₁, s' = { s with heap := h, toks := tk, gens := gs } ∧ IsRangeIter h I (0 + (i : Nat) * 1) ((n : Int) - (i : Nat)) 1 ∧ Fr h₀ env.locals h m₁ ∧ News h₀ env.locals h news₁ ∧ (∀ p ∈ news₁, p.2.cls = .type "list") ∧ J i m₁ news₁ ∧ GB G₀ gs ∧ i ≤ n ∧ k = n - i) := ⟨_, rfl⟩
  refine codeAny_forLoop_any J' ?_ n ?_
  · intro k s' hk
    rw [hJ'] at hk
    obtain ⟨i, h, tk, gs, m₁, news₁, rfl, hst₁, F₁, N₁, hc₁, hJ, hGB, hi, rfl⟩ := hk
    have far : ∀ p ∈ news₁, p.1 ≠ I := fun p hp e => by
      have h1 := (N₁ p hp).1
      have h2 : h.get? I = some _ := hst₁
      rw [e, h2] at h1
      have h3 := hc₁ p hp
      rw [← Option.some.inj h1] at h3
      have h4 : Value.type "range_iterator" = Value.type "list" := h3
      injection h4 with h4
      exact absurd h4 (by decide)
    have next : ∀ h₁ : Heap, (∀ b o, b ∉ [I] → h.get? b = some o → h₁.get? b = some o) → Fr h₀ env.locals h₁ m₁ ∧ News h₀ env.locals h₁ news₁ := fun h₁ hk₁ =>
      ⟨⟨F₁.ns.at' fun o e => hk₁ _ o (by simpa using hIL) e, fun b o e => hk₁ b o (fun hb => by rw [List.mem_singleton.mp hb, hI₀] at e; cases e) (F₁.keep b o e), F₁.above⟩, fun p hp => ⟨hk₁ _ _ (by simpa using far p hp) (N₁ p hp).1, (N₁ p hp).2⟩⟩
    by_cases hlt : i < n
    · refine W.item i _ _ _ hlt hst₁ fun v h₁ tk₁ hPv hst₂ hk₁ => ?_
      replace hk₁ : ∀ b o, b ∉ [I] → h.get? b = some o → h₁.get? b = some o := hk₁
      obtain ⟨F₂, N₂⟩ := next h₁ hk₁
      obtain ⟨tv, rfl⟩ := hPv
      dsimp only
      have hgo : ∀ (Q : Unit → Shared → Prop) (E : Value → Shared → Prop) (s₃ : Shared) (v : Value), Q () s₃ → wpAny (model prog w) A (letOwnedTupleGo (.Name x px) (.ref I) v) Q E s₃ := fun Q E s₃ v q => wpAny_pure q
      refine hgo _ _ _ _ ?_
      refine wpAny_assign_Name (wpAny_storeName_local hx F₂.ns (fun h₂ hn₂ hs₂ => ?_) hp)
      have F₃ := F₂.set hn₂ hs₂
      have hs₂' : Heap.SameBut env.locals h₁ h₂ := hs₂
      have N₃ : News h₀ env.locals h₂ news₁ := N₂.set hs₂'
      have hst₃ : IsRangeIter h₂ I (0 + ((i + 1 : Nat) : Int) * 1) ((n : Int) - ((i + 1 : Nat) : Int)) 1 := by
        have z : h₁.get? I = some _ := hst₂
        exact hs₂'.extBut _ _ (Ne.symm hIL) z
      have e : (0 : Int) + (i : Int) * 1 = (i : Int) := by omega
      rw [e] at F₃
      obtain ⟨oI, hoI, hoR⟩ : ∃ oI : Obj, h₂.get? I = some oI ∧ ∀ h : Heap, h.get? I = some oI → IsRangeIter h I (0 + ((i + 1 : Nat) : Int) * 1) ((n : Int) - ((i + 1 : Nat) : Int)) 1 := ⟨_, hst₃, fun _ e => e⟩
      have NI : News h₀ env.locals h₂ (news₁ ++ [(I, oI)]) := fun p hp => (List.mem_append.mp hp).elim (N₃ p) fun hp => by
        rw [List.mem_singleton.mp hp]
        exact ⟨hoI, Ne.symm hIL, hI₀⟩
      refine wpAny_mono (turn i tv m₁ news₁ h₂ _ gs I oI hlt hJ hGB F₃ NI) (fun f s₄ p => ?_) (fun _ _ e => False.elim e)
      have fin : TurnL h₀ env.locals (J (i + 1)) [(I, oI)] G₀ s R .next s₄ → ∃ k', k' < n - i ∧ J' k' s₄ := by
        rintro ⟨h₅, tk₅, gs₅, m₅, nx, rfl, F₅, N₅, hc₅, hJ₅, hG₅⟩
        rw [hJ']
        exact ⟨n - (i + 1), by omega, i + 1, h₅, tk₅, gs₅, m₅, nx, rfl, hoR _ (N₅ _ (List.mem_append_right _ (.head _))).1, F₅, (fun p hp => N₅ p (List.mem_append_left _ hp)), hc₅, hJ₅, hG₅, hlt, rfl⟩
      cases f with
      | ret v => exact p
      | brk => exact p
      | next => exact fin p
      | cont => exact fin p
    · have hin : i = n := by omega
      subst hin
      refine W.done _ _ _ hst₁ fun h₁ tk₁ hk₁ => ?_
      replace hk₁ : ∀ b o, b ∉ [I] → h.get? b = some o → h₁.get? b = some o := hk₁
      obtain ⟨F₂, N₂⟩ := next h₁ hk₁
      exact wpAny_execs_nil (done m₁ news₁ h₁ tk₁ gs hJ hGB F₂ N₂)
  · rw [hJ']
    refine ⟨0, _, s.toks, s.gens, m, news, rfl, ?_, F.push _, (fun p hp => ⟨Heap.get?_push_of_some _ (N p hp).1, (N p hp).2⟩), hcls, hj, hG, Nat.zero_le _, by simp⟩
    show IsRangeIter _ _ _ _ _
    rw [← hI]
    simpa using Heap.get?_push_size _ rfl
end
end Mine
end
section
set_option maxHeartbeats 2000000
open PySem PySem.W PyProof.Rows PySem.Calls PySem.Spec
namespace Mine
/-! a ledger in another order -/
def nth {α : Type} : List α → Nat → List α → List α
  | a :: _, 0, r => a :: r
  | _ :: l, n + 1, r => nth l n r
  | [], _, r => r
def picks {α : Type} (l : List α) : List Nat → List α → List α
  | [], r => r
  | i :: is, r => nth l i (picks l is r)
theorem nth_mem {α : Type} {p : α} : ∀ {l : List α} {i : Nat} {r : List α}, p ∈ nth l i r → p ∈ l ∨ p ∈ r
  | [], _, _, h => .inr h
  | _ :: _, 0, _, h => (List.mem_cons.mp h).elim (fun e => .inl (e ▸ .head _)) .inr
  | _ :: l, n + 1, r, h => (nth_mem (l := l) (i := n) h).elim (fun m => .inl (.tail _ m)) .inr
theorem picks_mem {α : Type} {p : α} {l r : List α} : ∀ {is : List Nat}, p ∈ picks l is r → p ∈ l ∨ p ∈ r
  | [], h => .inr h
  | _ :: _, h => (nth_mem h).elim .inl picks_mem
theorem picks_sub {α : Type} {l r : List α} (is : List Nat) (h : ∀ p ∈ r, p ∈ l) : ∀ p ∈ picks l is r, p ∈ l := fun p hp => (picks_mem hp).elim id (h p)
section
variable {h₀ h : Heap} {L : Addr} {l r : List (Addr × Obj)}
theorem picksN (N : News h₀ L h l) (M : News h₀ L h r) (is : List Nat) : News h₀ L h (picks l is r) := fun p hp => (picks_mem hp).elim (N p) (M p)
theorem dropN (k : Nat) (N : News h₀ L h l) : News h₀ L h (l.drop k) := fun p hp => N p (List.mem_of_mem_drop hp)
theorem filterN (f : Addr × Obj → Bool) (N : News h₀ L h l) : News h₀ L h (l.filter f) := fun p hp => N p (List.mem_filter.mp hp).1
theorem leftN (N : News h₀ L h (l ++ r)) : News h₀ L h l := fun p hp => N p (List.mem_append_left _ hp)
theorem rightN (N : News h₀ L h (l ++ r)) : News h₀ L h r := fun p hp => N p (List.mem_append_right _ hp)
theorem tailN {a : Addr × Obj} (N : News h₀ L h (a :: l)) : News h₀ L h l := fun p hp => N p (.tail _ hp)
end
/-- no iterator of a list -/
def NotIter (o : Obj) : Prop := o.cls ≠ .type "list_iterator" ∨ ∀ a, o.data ≠ .fields a
/-- a turn's end, its ledger free -/
def TurnP (h₀ : Heap) (L : Addr) (J : (Str → Option Value) → List (Addr × Obj) → Prop) (own : List (Addr × Obj)) (G₀ : Array GenState) (s : Shared) (R : Result → Shared → Prop) (f : Flow) (s₂ : Shared) : Prop :=
  match f with
  | .ret v => R (.ok (.ret v)) s₂
  | .brk => R (.ok .next) s₂
  | _ => ∃ h' tk gs m' nx, s₂ = { s with heap := h', toks := tk, gens := gs } ∧ Fr h₀ L h' m' ∧ News h₀ L h' (nx ++ own) ∧ (∀ p ∈ nx, NotIter p.2) ∧ J m' nx ∧ GB G₀ gs
theorem turnP_end {h₀ h' : Heap} {L : Addr} {J : (Str → Option Value) → List (Addr × Obj) → Prop} {own nx : List (Addr × Obj)} {G₀ gs : Array GenState} {s : Shared} {R : Result → Shared → Prop} {m' : Str → Option Value} {tk : Nat} {s₂ : Shared}
    (e : s₂ = { s with heap := h', toks := tk, gens := gs }) (F : Fr h₀ L h' m') (N : News h₀ L h' (nx ++ own)) (ha : ∀ p ∈ nx, NotIter p.2) (hJ : J m' nx) (hG : GB G₀ gs) : TurnP h₀ L J own G₀ s R .next s₂ := ⟨h', tk, gs, m', nx, e, F, N, ha, hJ, hG⟩
section
variable {prog : Program} {w : World} {A : Around} {s : Shared} {env : Env} {h₀ : Heap} {R : Result → Shared → Prop}
/-- a for over a list of pairs that stands, the assignment left to the turn -/
theorem for_pairs {elts : List Expr} {kk : Nat} {tp : Pos} {body : List Stmt} {l : Addr} {vs : List Value} {k : Nat} {ps : List (Int × Int)} {m : Str → Option Value} {news fixed : List (Addr × Obj)} {G₀ : Array GenState}
    (J : Nat → (Str → Option Value) → List (Addr × Obj) → Prop) (hh : A.handled = none) (hl : (l, PySem.W.listOf vs.toArray k) ∈ fixed) (hd : DatAll fixed vs (ps.map pd))
    (F : Fr h₀ env.locals s.heap m) (N : News h₀ env.locals s.heap (news ++ fixed)) (hni : ∀ p ∈ news, NotIter p.2) (hfi : ∀ p ∈ fixed, NotIter p.2) (hj : J 0 m news) (hG : GB G₀ s.gens)
    (turn : ∀ i q T u u' kq m₁ news₁ h tk gs I oI, ps[i]? = some q → (T, ({ cls := .type "tuple", data := .seq #[.int q.1 u, .int q.2 u'] kq } : Obj)) ∈ fixed → (∃ xs, oI.data = .fields xs) → (∀ p ∈ news₁, NotIter p.2) → J i m₁ news₁ → GB G₀ gs →
      Fr h₀ env.locals h m₁ → News h₀ env.locals h (news₁ ++ (fixed ++ [(I, oI)])) →
      wpAny (model prog w) A (assign (.Tuple elts kk tp) env (.ref T)) (fun _ s₂ => wpAny (model prog w) A (execs body env) (TurnP h₀ env.locals (J (i + 1)) (fixed ++ [(I, oI)]) G₀ { s with heap := s.heap.push { cls := .type "list_iterator", data := .fields #[.ref l, .int 0 0] } } R) (fun _ _ => False) s₂) (fun _ _ => False) { s with heap := h, toks := tk, gens := gs })
    (done : ∀ m₁ news₁ h tk gs, J ps.length m₁ news₁ → GB G₀ gs → Fr h₀ env.locals h m₁ → News h₀ env.locals h (news₁ ++ fixed) → R (.ok .next) { s with heap := h, toks := tk, gens := gs }) :
    wpAny (model prog w) A (pyIter (.ref l)) (fun it s₂ => codeAny (model prog w) A (.forLoop (.Tuple elts kk tp) it body [] env) R s₂) (fun _ _ => False) s := by
  have hll := (N _ (List.mem_append_right _ hl)).1
  have hlL : s.heap.IsList l vs.toArray := ⟨_, hll, rfl, _, rfl⟩
  have hne : l ≠ s.heap.objs.size := Nat.ne_of_lt (Heap.lt_size hll)
  have hlen : vs.length = ps.length := by have := hd.length; simpa using this
  refine wpAny_pyIter_list hlL ?_
  have hLs : env.locals < s.heap.objs.size := F.ns.lt
  have hI₀ : h₀.get? s.heap.objs.size = none := h_none (Nat.le_trans F.above (Nat.le_of_lt hLs))
  have hIL : env.locals ≠ s.heap.objs.size := Nat.ne_of_lt hLs
  have W := Walks.list (prog := prog) (w := w) (A := A) hh s.heap.objs.size l hne vs.toArray
  have hpi : (s.heap.push { cls := .type "list_iterator", data := .fields #[.ref l, .int 0 0] }).IsListIter s.heap.objs.size l 0 := ⟨_, Heap.get?_push_size _ rfl, rfl, rfl⟩
  generalize hI : s.heap.objs.size = I at *
  obtain ⟨J', hJ'⟩ : ∃ J' : Nat → Shared → Prop, J' = (fun n s' => ∃ i h tk gs m₁ news₁, s' = { s with heap := h, toks := tk, gens := gs } ∧ h.IsListIter I l i ∧ Fr h₀ env.locals h m₁ ∧ News h₀ env.locals h (news₁ ++ fixed) ∧ (∀ p ∈ news₁, NotIter p.2) ∧ J i m₁ news₁ ∧ GB G₀ gs ∧ i ≤ ps.length ∧ n = ps.length - i) := ⟨_, rfl⟩
  refine codeAny_forLoop_any J' ?_ ps.length ?_
  · intro n s' hk
    rw [hJ'] at hk
    obtain ⟨i, h, tk, gs, m₁, news₁, rfl, hst₁, F₁, N₁, hc₁, hJ, hGB, hi, rfl⟩ := hk
    have far : ∀ p ∈ news₁ ++ fixed, p.1 ≠ I := fun p hp e => by
      have h1 := (N₁ p hp).1
      obtain ⟨o, h2, h3, h4⟩ := hst₁
      rw [e, h2] at h1
      have hn : NotIter p.2 := (List.mem_append.mp hp).elim (hc₁ p) (hfi p)
      rw [← Option.some.inj h1] at hn
      rcases hn with hn | hn
      · exact hn h3
      · exact hn _ h4
    have next : ∀ h₁ : Heap, (∀ b o, b ∉ [I] → h.get? b = some o → h₁.get? b = some o) → Fr h₀ env.locals h₁ m₁ ∧ News h₀ env.locals h₁ (news₁ ++ fixed) := fun h₁ hk₁ =>
      ⟨⟨F₁.ns.at' fun o e => hk₁ _ o (by simpa using hIL) e, fun b o e => hk₁ b o (fun hb => by rw [List.mem_singleton.mp hb, hI₀] at e; cases e) (F₁.keep b o e), F₁.above⟩, fun p hp => ⟨hk₁ _ _ (by simpa using far p hp) (N₁ p hp).1, (N₁ p hp).2⟩⟩
    have hli : h.IsList l vs.toArray := ⟨_, (N₁ _ (List.mem_append_right _ hl)).1, rfl, _, rfl⟩
    by_cases hlt : i < ps.length
    · refine W.item i _ _ _ (by simpa [hlen] using hlt) ⟨hst₁, hli⟩ fun v h₁ tk₁ hPv hst₂ hk₁ => ?_
      replace hk₁ : ∀ b o, b ∉ [I] → h.get? b = some o → h₁.get? b = some o := hk₁
      obtain ⟨F₂, N₂⟩ := next h₁ hk₁
      obtain ⟨v', hv', hdv⟩ := hd.get (k := i) (by simpa using hlt)
      have ev : v = v' := by
        have : vs[i]? = some v := by simpa using hPv
        rw [hv'] at this; exact (Option.some.inj this).symm
      subst ev
      have hq : (ps.map pd)[i]'(by simpa using hlt) = pd ps[i] := by simp
      rw [hq] at hdv
      obtain ⟨T, u, u', kq, rfl, hT⟩ := datIn_pd hdv
      dsimp only
      refine wpAny_letOwnedTupleGo_listiter hst₂.1 ?_
      obtain ⟨oI, hoI, hoF, hoR⟩ : ∃ oI : Obj, h₁.get? I = some oI ∧ (∃ xs, oI.data = .fields xs) ∧ ∀ h : Heap, h.get? I = some oI → h.IsListIter I l (i + 1) := by
        obtain ⟨o, e1, e2, e3⟩ := hst₂.1
        exact ⟨o, e1, ⟨_, e3⟩, fun h e => ⟨o, e, e2, e3⟩⟩
      have NI : News h₀ env.locals h₁ (news₁ ++ (fixed ++ [(I, oI)])) := fun p hp => by
        rw [← List.append_assoc] at hp
        exact (List.mem_append.mp hp).elim (N₂ p) fun hp => by
          rw [List.mem_singleton.mp hp]
          exact ⟨hoI, Ne.symm hIL, hI₀⟩
      refine wpAny_mono (turn i ps[i] T u u' kq m₁ news₁ h₁ _ gs I oI (List.getElem?_eq_getElem hlt) hT hoF hc₁ hJ hGB F₂ NI) (fun _ s₂ p => wpAny_mono p (fun f s₄ p => ?_) (fun _ _ e => False.elim e)) (fun _ _ e => False.elim e)
      have fin : TurnP h₀ env.locals (J (i + 1)) (fixed ++ [(I, oI)]) G₀ s R .next s₄ → ∃ k', k' < ps.length - i ∧ J' k' s₄ := by
        rintro ⟨h₅, tk₅, gs₅, m₅, nx, rfl, F₅, N₅, hc₅, hJ₅, hG₅⟩
        rw [hJ']
        refine ⟨ps.length - (i + 1), by omega, i + 1, h₅, tk₅, gs₅, m₅, nx, rfl, hoR _ (N₅ (I, oI) (by simp)).1, F₅, (fun p hp => N₅ p (by rw [← List.append_assoc]; exact List.mem_append_left _ hp)), hc₅, hJ₅, hG₅, hlt, rfl⟩
      cases f with
      | ret v => exact p
      | brk => exact p
      | next => exact fin p
      | cont => exact fin p
    · have hin : i = ps.length := by omega
      subst hin
      refine W.done _ _ _ ⟨by simpa [hlen] using hst₁, hli⟩ fun h₁ tk₁ hk₁ => ?_
      replace hk₁ : ∀ b o, b ∉ [I] → h.get? b = some o → h₁.get? b = some o := hk₁
      obtain ⟨F₂, N₂⟩ := next h₁ hk₁
      exact wpAny_execs_nil (done m₁ news₁ h₁ tk₁ gs hJ hGB F₂ N₂)
  · rw [hJ']
    exact ⟨0, _, s.toks, s.gens, m, news, rfl, hpi, F.push _, (fun p hp => ⟨Heap.get?_push_of_some _ (N p hp).1, (N p hp).2⟩), hni, hj, hG, Nat.zero_le _, by simp⟩
end
section
variable {prog : Program} {w : World} {A : Around} {E : Value → Shared → Prop} {s : Shared} {env : Env} {h₀ : Heap} {L : Addr} {m : Str → Option Value} {a b : Str} {pa pb tp : Pos} {kk : Nat} {T ca cb : Addr} {x y : Value} {oa ob : Obj} {va vb : Option Value} {rest : List (Addr × Obj)} {Q : Unit → Shared → Prop}
/-- a pair unpacked into two cells -/
theorem assign_pairC (hh : A.handled = none) (hT : s.heap.IsTuple T #[x, y]) (hk : env.scope.kind = .function) (hla : env.kindOf a = some .cell) (hca : env.cells.lookup a = some ca) (hlb : env.kindOf b = some .cell) (hcb : env.cells.lookup b = some cb)
    (F : Fr h₀ L s.heap m) (N : News h₀ L s.heap ((ca, oa) :: (cb, ob) :: rest)) (hda : oa.data = .cell va) (hdb : ob.data = .cell vb) (hne : ca ≠ cb) (hra : ∀ p ∈ rest, p.1 ≠ ca ∧ p.1 ≠ cb)
    (h : ∀ h' tk oa' ob', Fr h₀ L h' m → oa'.data = .cell (some x) → ob'.data = .cell (some y) → News h₀ L h' ((ca, oa') :: (cb, ob') :: rest) → Q () { s with heap := h', toks := tk }) :
    wpAny (model prog w) A (assign (.Tuple [.Name a pa, .Name b pb] kk tp) env (.ref T)) Q E s := by
  refine wpAny_assign_Tuple hh hT rfl rfl fun h₁ hx₁ => ?_
  have up₁ : ∀ c o, s.heap.get? c = some o → h₁.get? c = some o := fun c o e => hx₁ c o (Nat.ne_of_lt (Heap.lt_size e)) e
  have F₁ := F.keeps up₁
  have N₁ := N.grown up₁
  show wpAny _ _ (assignInOrder [assign (.Name a pa) env, assign (.Name b pb) env] [x, y]) _ _ _
  refine assignInOrder_cons (wpAny_assign_Name (store_cell hk hla hca F₁ N₁ (.head _) hda fun h₂ oa' F₂ hoa Na Ns => ?_))
  have N₂ : News h₀ L h₂ ((ca, oa') :: (cb, ob) :: rest) := fun p hp => by
    rcases List.mem_cons.mp hp with rfl | hp
    · exact Na _ (.head _)
    · exact Ns ((cb, ob) :: rest) (fun q hq => ⟨.tail _ hq, by
        rcases List.mem_cons.mp hq with rfl | hq
        · exact Ne.symm hne
        · exact (hra q hq).1⟩) p hp
  refine assignInOrder_cons (wpAny_assign_Name (store_cell hk hlb hcb F₂ N₂ (.tail _ (.head _)) hdb fun h₃ ob' F₃ hob Nb Ns' => ?_))
  refine assignInOrder_nil (h h₃ _ oa' ob' F₃ hoa hob fun p hp => ?_)
  rcases List.mem_cons.mp hp with rfl | hp
  · exact Ns' [(ca, oa')] (fun q hq => by rw [List.mem_singleton.mp hq]; exact ⟨.head _, hne⟩) _ (.head _)
  · rcases List.mem_cons.mp hp with rfl | hp
    · exact Nb _ (.head _)
    · exact Ns' rest (fun q hq => ⟨.tail _ (.tail _ hq), (hra q hq).2⟩) p hp
end
end Mine
end
section
set_option maxHeartbeats 2000000
open PySem PySem.W PyProof.Rows PySem.Calls PySem.Spec
namespace Mine
local macro_rules | `(tactic| walk_at "exec Assign cons ListComp") => `(tactic| refine stop_intro ?_)
local macro_rules | `(tactic| walk_at "pyIter ref") => `(tactic| refine stop_intro ?_)
local macro_rules | `(tactic| walk_at "call builtin:list.append") => `(tactic| refine stop_intro ?_)
local macro_rules | `(tactic| walk_at "storeName taken") => `(tactic| refine stop_intro ?_)
local macro_rules | `(tactic| walk_at "EltEnd") => `(tactic| refine stop_intro ?_)
local macro_rules | `(tactic| walk_at "TestEnd") => `(tactic| refine stop_intro ?_)
local macro_rules | `(tactic| walk_at "CompAt") => `(tactic| refine stop_intro ?_)
local macro_rules | `(tactic| walk_at "eval ListComp") => `(tactic| refine stop_intro ?_)
local macro_rules | `(tactic| walk_at "subscriptTail") => `(tactic| refine stop_intro ?_)
local macro_rules | `(tactic| walk_at "subscriptTail Name Slice ref ref") => `(tactic| refine stop_intro ?_)
local macro_rules | `(tactic| walk_at "call builtin:str.join") => `(tactic| refine stop_intro ?_)
local macro_rules | `(tactic| walk_at "call builtin:str.index") => `(tactic| refine stop_intro ?_)
local macro_rules | `(tactic| walk_at "call type:list") => `(tactic| refine stop_intro ?_)
local macro_rules | `(tactic| walk_at "call type:zip") => `(tactic| refine stop_intro ?_)
local macro_rules | `(tactic| walk_at "compareOp NotIn int ref") => `(tactic| refine stop_intro ?_)
local macro_rules | `(tactic| walk_at "compareOp In ref ref") => `(tactic| refine stop_intro ?_)
local macro_rules | `(tactic| walk_at "compareOp NotIn") => `(tactic| refine stop_intro ?_)
local macro_rules | `(tactic| walk_at "compareOp In") => `(tactic| refine stop_intro ?_)
local macro_rules | `(tactic| walk_at "compareOp Eq ref ref") => `(tactic| refine stop_intro ?_)
local macro_rules | `(tactic| walk_at "call ref") => `(tactic| refine stop_intro ?_)

def sgn (i : Nat) : Str := match i with | 0 => Str.ofString "(" | 1 => Str.ofString "[" | 2 => Str.ofString "{" | 3 => Str.ofString ")" | 4 => Str.ofString "]" | _ => Str.ofString "}"
def pairsF (k : Int) : List Str :=
  let d (j : Int) : Str × Str := if k = 3 then (Str.ofString "(", Str.ofString ")") else if (j - k) % 3 = 0 then (Str.ofString "//(", Str.ofString "//)") else if (j - k) % 3 = 1 then (Str.ofString "/(", Str.ofString "/)") else (Str.ofString "'/'('", Str.ofString "')/''")
  [sgn 0, (d 0).1, sgn 3, (d 0).2, sgn 1, (d 1).1, sgn 4, (d 1).2, sgn 2, (d 2).1, sgn 5, (d 2).2, Str.ofString "/", Str.ofString "\\", Str.ofString "'", Str.ofString "\""]
def dressF (pls : List Nat) (k : Int) : List Str := Txt.split (replF (pairsF k) (Str.join (Str.ofString "|") (pls.map sgn))) (Str.ofString "|")
def DressC (w : World) (mean : ExcName → Option Value) (mg mb : Str → Option Value) : Prop :=
  ∀ {s : Shared} {R : Result → Shared → Prop} {l : Addr} {pls : List Nat} {k : Int} {t : Tok}, Gd w mean mg mb s.heap → ListH s.heap l ((pls.map sgn).map Dat.str) → (∀ i ∈ pls, i < 6) → pls.length ≤ 20 → 0 ≤ k → k ≤ 3 → ReplOk (pairsF k) (Str.join (Str.ofString "|") (pls.map sgn)) → (replF (pairsF k) (Str.join (Str.ofString "|") (pls.map sgn))).length ≤ 1000 →
    (∀ s' r vs n, Ext s s' → s.heap.get? r = none → s'.heap.get? r = some (PySem.W.listOf vs n) → StrsAre vs.toList (dressF pls k) → R (.ok (.ret (.ref r))) s') →
    codeAny (model PySem.Challenge.rw_pm0012_01.row.prog w) (rm 324 60) (.call (.ref 68) ⟨[.ref l, .int k t], []⟩) R s

/-- a stretch's text -/
def textF (pls : List Nat) (k : Int) (p : Int × Int) : Str := Str.join (Str.ofString "") (((dressF pls k).drop p.1.toNat).take (p.2.toNat - p.1.toNat))
def stepF (k : Int) (i : Int) : Int := if k = i % 3 ∨ k = 3 then (if i < 3 then 1 else -1) else 0
def stepD (k : Int) : Dat → Dat
  | .int i => .int (stepF k i)
  | d => d
def placeOf (y : Str) : Int := if y = sgn 0 then 0 else if y = sgn 1 then 1 else if y = sgn 2 then 2 else if y = sgn 3 then 3 else if y = sgn 4 then 4 else 5
def placeD : Dat → Dat
  | .str y => .int (placeOf y)
  | d => d
theorem placeOf_sgn : ∀ {i : Nat}, i < 6 → placeOf (sgn i) = i := by decide +kernel
theorem occ_sgn : ∀ {i : Nat}, i < 6 → Builtin.Str.occurrences (Str.ofString "([{)]}") (sgn i) 0 (Str.ofString "([{)]}").length 1 = [i] := by decide +kernel
theorem places_dat {pls : List Nat} (h : ∀ i ∈ pls, i < 6) : ((pls.map sgn).map Dat.str).map placeD = (pls.map fun i : Nat => (i : Int)).map Dat.int := by
  rw [List.map_map, List.map_map, List.map_map]
  refine List.map_congr_left fun i hi => ?_
  show Dat.int (placeOf (sgn i)) = Dat.int (i : Int)
  rw [placeOf_sgn (h i hi)]
def wholeP (pls : List Nat) (k : Int) (p : Int × Int) : Bool := wholeB ((((pls.map fun i : Nat => (i : Int)).map (stepF k)).drop p.1.toNat).take (p.2.toNat - p.1.toNat))

theorem ints_datAll {n : List (Addr × Obj)} {vs : List Value} {ys : List Int} (h : IntsAre vs ys) : DatAll n vs (ys.map Dat.int) := by
  induction h with
  | nil => exact .nil
  | cons y t _ ih => exact .cons (.int y t) ih
theorem allLt_mem {d : Nat} : ∀ {l : List (Addr × Obj)}, AllLt d l → ∀ p ∈ l, @LT.lt Nat _ p.1 d
  | [], _, _, h => nomatch h
  | _ :: _, x, p, h => by
    rcases List.mem_cons.mp h with rfl | h
    · exact x.1
    · exact allLt_mem x.2 p h
theorem EltEnd.mk1 {h₀ h' : Heap} {C D : Addr} {o : Obj} {m₃ : Str → Option Value} {news base rest : List (Addr × Obj)} {d : Dat} {s₃ : Shared} {y : Value} {tk : Nat} {gs : Array GenState} (F : Fr h₀ C h' m₃) (N : News h₀ C h' ((D, o) :: (news ++ rest))) (hd : DatIn ((D, o) :: base) y d) (hl : AllLt D (news ++ rest)) (hg : GB s₃.gens gs) :
    EltEnd h₀ C m₃ news base rest d s₃ y { s₃ with heap := h', toks := tk, gens := gs } := ⟨[(D, o)], h', tk, gs, rfl, F, N, hd, (fun p hp b hb => by
    rw [List.mem_singleton.mp hp]
    obtain ⟨q, hq, rfl⟩ := List.mem_map.mp hb
    exact Ne.symm (Nat.ne_of_lt (allLt_mem hl q hq))), hg⟩
theorem TestEnd.mk {h₀ h' : Heap} {C : Addr} {m₃ : Str → Option Value} {news rest : List (Addr × Obj)} {b : Bool} {s₃ : Shared} {tk : Nat} {gs : Array GenState} {dr : Drawn} {o : OsState} (h1 : o = s₃.os) (h2 : dr = s₃.drawn) (F : Fr h₀ C h' m₃) (N : News h₀ C h' (news ++ rest)) (hg : GB s₃.gens gs) :
    TestEnd h₀ C m₃ news rest b s₃ b { heap := h', gens := gs, drawn := dr, toks := tk, os := o } := by
  subst h1 h2
  exact ⟨rfl, h', tk, gs, rfl, F, N, hg⟩
open Classical in
/-- what is due of a stretch and its text -/
noncomputable def dueD (T : List Dat) (d e : Dat) : Dat := if d ∈ T then e else .str refused
theorem due_all {pls : List Nat} {k : Int} {ps : List (Int × Int)} (hch : ∀ p ∈ ps, checkF (textF pls k p).cps.toList = wholeP pls k p) :
    ((ps.map pd).zip ((ps.map (textF pls k)).map Dat.str)).map (fun q => dueD ((ps.filter (wholeP pls k)).map pd) q.1 q.2) = ((ps.map (textF pls k)).map preF).map Dat.str := by
  rw [List.map_map, List.map_map, List.map_map, List.zip_map', List.map_map]
  refine List.map_congr_left fun p hp => ?_
  show dueD _ (pd p) (Dat.str (textF pls k p)) = Dat.str (preF (textF pls k p))
  unfold dueD preF
  rw [hch p hp]
  cases hw : wholeP pls k p with
  | true =>
    rw [if_pos (List.mem_map.mpr ⟨p, List.mem_filter.mpr ⟨hp, hw⟩, rfl⟩), if_pos rfl]
  | false =>
    rw [if_neg, if_neg (by simp)]
    intro hm
    obtain ⟨q, hq, e⟩ := List.mem_map.mp hm
    have := (List.mem_filter.mp hq).2
    rw [pd_inj e, hw] at this; cases this
theorem strOk_of {x : Str} (h : ∀ c ∈ x.cps.toList, c < 128) : PyData.strOk x = true := by
  unfold PyData.strOk
  rw [Array.all_eq_true]
  intro i hi
  have := h x.cps[i] (by simp)
  exact decide_eq_true (by omega)
theorem strOk_pre {x : Str} (h : ∀ c ∈ x.cps.toList, c < 128) : PyData.strOk (preF x) = true := by
  unfold preF
  split
  · exact strOk_of h
  · decide +kernel
theorem sum_drop_take (l : List Nat) (a b : Nat) : ((l.drop a).take b).sum ≤ l.sum := by
  have h1 : ∀ (l : List Nat) (a : Nat), (l.drop a).sum ≤ l.sum := by
    intro l
    induction l with
    | nil => intro a; simp
    | cons x r ih => intro a; cases a with
      | zero => simp
      | succ a => simp only [List.drop_succ_cons, List.sum_cons]; have := ih a; omega
  have h2 : ∀ (l : List Nat) (a : Nat), (l.take a).sum ≤ l.sum := by
    intro l
    induction l with
    | nil => intro a; simp
    | cons x r ih => intro a; cases a with
      | zero => simp
      | succ a => simp only [List.take_succ_cons, List.sum_cons]; have := ih a; omega
  exact Nat.le_trans (h2 _ _) (h1 _ _)
section
variable {prog : Program} {w : World} {A : Around} {E : Value → Shared → Prop} {s : Shared} {h₀ : Heap} {L : Addr} {m : Str → Option Value} {news : List (Addr × Obj)}
/-- an int beside a pair of ints -/
theorem notIn_pair {T : Addr} {a b k : Int} {u u' t : Tok} {n : Nat} {Q : Value → Shared → Prop} (N : News h₀ L s.heap news) (hm : (T, ({ cls := .type "tuple", data := .seq #[.int a u, .int b u'] n } : Obj)) ∈ news) (hu : A.units + 64 < cLine)
    (h : Q (.bool (!(decide (a = k) || decide (b = k)))) s) : wpAny (model prog w) A (compareOp .NotIn (.int k t) (.ref T)) Q E s := by
  refine SeqAt.notIn_tuple_reads (xs := [.int a, .int b]) (d := .int k) (reads_tuple_at (N.get hm) rfl rfl (.cons (.int _ _) (.cons (.int _ _) .nil))) (.int _ _) rfl rfl ?_ ?_
  · have : PyData.depth (.int k) = 0 := rfl
    rw [this]; omega
  · have e : ([PyData.int a, PyData.int b].any fun y => PyData.eqv y (.int k)) = (decide (a = k) || decide (b = k)) := by simp [PyData.eqv]; rfl
    rw [e]; exact h
/-- a list's middle -/
theorem slice_mid {value slice : Expr} {l : Addr} {items : Array Value} {x y : Int} {u u' : Tok} {Q : Value → Shared → Prop}
    (F : Fr h₀ L s.heap m) (N : News h₀ L s.heap news) (hl : s.heap.IsList l items) (h0 : 0 ≤ x) (h1 : x ≤ y) (h2 : y ≤ items.size) (hsz : items.size ≤ sizeLine)
    (h : ∀ h', Fr h₀ L h' m → News h₀ L h' ((s.heap.objs.size + 1, PySem.W.listOf ((items.toList.drop x.toNat).take (y.toNat - x.toNat)).toArray 0) :: news) → h'.IsList (s.heap.objs.size + 1) ((items.toList.drop x.toNat).take (y.toNat - x.toNat)).toArray → OwnOff [(s.heap.objs.size + 1, PySem.W.listOf ((items.toList.drop x.toNat).take (y.toNat - x.toNat)).toArray 0)] (news.map (·.1)) → Q (.ref (s.heap.objs.size + 1)) { s with heap := h' })
    (hs : subscripted slice false (.ref l) (.ref s.heap.objs.size) = operate [.ref s.heap.objs.size, .ref l] (getItem (.ref l) (.ref s.heap.objs.size)) := by with_unfolding_all rfl)
    (ht : ∀ r, letTemporaryGo value (.ref l) r = pure () := by intro _; with_unfolding_all rfl) :
    wpAny (model prog w) A (subscriptTail value slice (.ref l) (.ref s.heap.objs.size)) Q E { s with heap := s.heap.push { cls := .type "slice", data := .fields #[.int x u, .int y u', .none] } } := by
  refine slice_list F N hl (.int x u) (.int y u') (fun h' F' N' => ?_) hs ht hsz
  have e : slicePick items (some x) (some y) none = ((items.toList.drop x.toNat).take (y.toNat - x.toNat)).toArray := by
    obtain ⟨a, rfl⟩ : ∃ a : Nat, x = a := ⟨x.toNat, by omega⟩
    obtain ⟨b, rfl⟩ : ∃ b : Nat, y = b := ⟨y.toNat, by omega⟩
    rw [slicePick_run items a b (by omega) (by omega)]
    simp
  rw [e] at N'
  refine h h' F' N' ⟨_, (N' _ (.head _)).1, rfl, _, rfl⟩ (fun p hp b hb => ?_)
  rw [List.mem_singleton.mp hp]
  obtain ⟨q, hq, rfl⟩ := List.mem_map.mp hb
  have z : @LT.lt Nat _ q.1 s.heap.objs.size := Heap.lt_size (N q hq).1
  show @Ne Nat _ _
  omega
end

theorem taken_c {w : World} {mean : ExcName → Option Value} {mg mb : Str → Option Value} (D : DressC w mean mg mb) {s : Shared} {R : Result → Shared → Prop} {lS lP : Addr} {pls : List Nat} {k : Int} {t : Tok} {ps : List (Int × Int)}
    (G : Gd w mean mg mb s.heap) (hS : ListH s.heap lS ((pls.map sgn).map Dat.str)) (hP : ListH s.heap lP (ps.map pd)) (hpl : ∀ i ∈ pls, i < 6) (hlen : pls.length ≤ 20) (hk0 : 0 ≤ k) (hk3 : k ≤ 3)
    (hps : ∀ p ∈ ps, 0 ≤ p.1 ∧ p.1 ≤ p.2 ∧ p.2 ≤ pls.length) (hpz : ps.length ≤ 1000)
    (hro : ReplOk (pairsF k) (Str.join (Str.ofString "|") (pls.map sgn))) (hrl : (replF (pairsF k) (Str.join (Str.ofString "|") (pls.map sgn))).length ≤ 1000)
    (hdl : (dressF pls k).length = pls.length) (htx : ∀ p ∈ ps, (∀ c ∈ (textF pls k p).cps.toList, c < 128) ∧ (textF pls k p).cps.size ≤ 1000) (hdw : ((dressF pls k).map (·.length)).sum ≤ 1000)
    (hch : ∀ p ∈ ps, checkF (textF pls k p).cps.toList = wholeP pls k p)
    (hR : ∀ s' r ys n obs, Ext s s' → Fresh s s' ((r, PySem.W.listOf ys.toArray n) :: obs) → DatAll obs ys ((ps.filter (wholeP pls k)).map pd) → R (.ok (.ret (.ref r))) s') :
    codeAny (model PySem.Challenge.rw_pm0012_01.row.prog w) (rm 318 40) (.call (.ref 80) ⟨[.ref lS, .int k t, .ref lP], []⟩) R s := by
  have X := G.X
  have T := G.T
  refine' enterC (binds := [(Str.ofString "signs", .ref lS), (Str.ofString "live", .int k t), (Str.ofString "stretches", .ref lP)]) G ?k6 ?k7 ?k8 ?k9 ?kB ?kD ?c2 ?c3 ?c4 ?_
  case k6 => k_is
  case k7 => k_is
  case k8 => decide
  case k9 => exact BindsTo.of_eq rfl
  case kB => exact rfl
  case kD => decide +kernel
  case c2 => rfl
  case c3 => rfl
  case c4 => rfl
  intro h₁ tk cells F N Y
  k_cells Y
  rename_i o1 o2 o3 o4 d1 d2 d3 d4
  replace d1 : o1.data = .cell none := d1
  replace d2 : o2.data = .cell none := d2
  replace d3 : o3.data = .cell none := d3
  replace d4 : o4.data = .cell (some (.int k t)) := d4
  have F₁ := fr_pin (y := Str.ofString "signs") (fr_pin (y := Str.ofString "stretches") F (u := .ref lP) rfl) (u := .ref lS) rfl
  generalize (bindL _ _ _) = m₀ at F₁
  clear F
  k_steps
  unfold Stop
  refine wpAny_call (code_rm rfl (Nat.le_of_ble_eq_true rfl) (Nat.le_of_ble_eq_true rfl) (D (pls := pls) (G.keeps F₁.keep) (hS.keeps F₁.keep) hpl hlen hk0 hk3 hro hrl fun s₂ r₂ vs₂ n₂ e₂ hr₂ hg₂ hs₂ => ?_))
  have F₂ := e₂.fr F₁
  have N₂ := e₂.news N
  have N₃ := news_cons F₁ hr₂ hg₂ N₂
  dsimp only
  clear F₁ N N₂
  k_steps
  rename_i c3 F₄ N₄ d3'
  simp only [List.cons_append, List.nil_append] at N₄
  unfold Stop
  refine comp_assign (by with_unfolding_all rfl) (by with_unfolding_all rfl) rfl (by decide) ?_
  k_steps
  unfold Stop
  have hvl : vs₂.size = (dressF pls k).length := by simpa using hs₂.len_eq
  refine comp_pairs (base := []) rfl (hP.keeps F₄.keep) (by omega) (fun _ => true) (fun p => .str (textF pls k p)) (by decide) rfl (by decide) rfl rfl F₄ N₄ (fun C q s₃ m₃ u u' rest hq ha hb F₅ N₅ ho hdr hg => wpAny_tests_nil (.same F₅ N₅)) (fun C q s₃ m₃ u u' rest hq _ ha hb F₅ N₅ ho hdr hg => ?_) ?_
  · have F₆ := fr_pin (y := Str.ofString "low") (fr_pin (y := Str.ofString "high") F₅ hb) ha
    have N₆ := N₅
    simp only [List.cons_append, List.nil_append] at N₆
    clear F₅ N₅
    have hqq := hps q hq
    k_steps
    all_goals try first | exact (0 : Addr) | exact Value.none | exact Str.ofString "" | exact ([] : List (Str × Addr))
    unfold Stop
    refine slice_mid F₆ N₆ ⟨_, (N₆ _ (.head _)).1, rfl, _, rfl⟩ hqq.1 hqq.2.1 (by omega) (by rw [sizeLine_eq]; omega) fun h₇ F₇ N₇ hl₇ ho₇ => ?_
    k_steps
    unfold Stop
    refine join_list (ys := ((dressF pls k).drop q.1.toNat).take (q.2.toNat - q.1.toNat)) hl₇ ?_ ?_ fun t' k' => ?_
    · simpa using (hs₂.drop' q.1.toNat).take' (q.2.toNat - q.1.toNat)
    · have h1 := sum_drop_take ((dressF pls k).map (·.length)) q.1.toNat (q.2.toNat - q.1.toNat)
      have h2 : (((dressF pls k).drop q.1.toNat).take (q.2.toNat - q.1.toNat)).length ≤ 20 := by simp; omega
      rw [List.map_take, List.map_drop]
      have h3 : (Str.ofString "").length = 0 := by decide +kernel
      rw [h3]; omega
    · have e : Txt.join (Str.ofString "") (((dressF pls k).drop q.1.toNat).take (q.2.toNat - q.1.toNat)) = textF pls k q := by
        show Builtin.Str.glued _ _ = _
        rw [StrLaws.glued_eq_join]; rfl
      rw [e]
      exact EltEnd.mk0 (fr_unpin (fr_unpin F₇ ((if_neg (by decide)).trans ha)) hb) (fun p hp => N₇ p (.tail _ hp)) (.str _ _) (.refl _)
  · intro D₅ C h tk gs m' ys obs F₅ N₅ hn' hCL hC₀ hoff hD hO hdat hgA
    refine' comp_fin_assign ?y1 ?y2 ?y3 F₅ N₅ hn' hCL hC₀ hoff ?_
    case y1 => rfl
    case y2 => rfl
    case y3 => rfl
    intro h₆ tk₆ F₆ N₆
    have hst : StrsAre ys (ps.map (textF pls k)) := datAll_strs (ys := ps.map (textF pls k)) (by
      have q : ps.filter (fun _ => true) = ps := List.filter_eq_self.mpr fun _ _ => rfl
      rw [q] at hdat
      rw [List.map_map]; exact hdat)
    have N₇ : News s.heap s.heap.objs.size h₆ ((D₅, PySem.W.listOf ys.toArray ys.length) :: _) := fun p hp => N₆ p (by
      rcases List.mem_cons.mp hp with rfl | hp
      · exact .head _
      · exact .tail _ (List.mem_append_right _ hp))
    clear N₆ N₅ F₅ hoff hO hD N₄ F₄ hn'
    k_steps
    unfold Stop
    refine kup_listOf F₆ N₇ (.head _) rfl (fun D₆ c₆ h₇ F₇ N₈ l₇ => ?_) (by rw [sizeLine_eq]; have := hst.len_eq; simp at this ⊢; omega)
    clear F₆ N₇
    k_steps
    rename_i h₈ F₈ N₉
    unfold Stop
    have hstl := hst.len_eq
    have hl₈ : h₈.IsList D₆ ys.toArray := ⟨_, (N₉ _ (.head _)).1, rfl, _, rfl⟩
    refine wpAny_call (code_rm rfl (Nat.le_of_ble_eq_true rfl) (Nat.le_of_ble_eq_true rfl) (pre_c (vs := ys) (ys := ps.map (textF pls k)) (G.keeps F₈.keep) hl₈ hst (by simp at hstl; omega) (fun y hy => by obtain ⟨p, hp, rfl⟩ := List.mem_map.mp hy; exact htx p hp) fun s₉ r₉ vs₉ n₉ e₉ hr₉ hg₉ hs₉ => ?_))
    have F₉ := e₉.fr F₈
    have x1 : D₆ ≠ r₉ := fun e => by
      have z := (N₉ _ (.head _)).1
      rw [e] at z
      rw [show h₈.get? r₉ = none from hr₉] at z; cases z
    have x2 : D₅ ≠ r₉ := fun e => by
      have z := (N₉ _ (.tail _ (.head _))).1
      rw [e] at z
      rw [show h₈.get? r₉ = none from hr₉] at z; cases z
    have N₁₀ := news_cons F₈ hr₉ hg₉ (e₉.news N₉)
    have hos₉ : s₉.os = s.os := e₉.os.trans e₂.os
    dsimp only
    clear F₈ N₉
    k_steps
    unfold Stop
    refine comp_assign (by with_unfolding_all rfl) (by with_unfolding_all rfl) rfl (by decide) ?_
    k_steps
    rename_i h₁₁ F₁₁ N₁₁
    unfold Stop
    obtain ⟨nS, vS, hnS, hlS, hdS⟩ := hS.isList
    refine comp_list (base := []) rfl (hlS.at fun o e => F₁₁.keep lS o e) hdS (by simp; omega) (fun _ => true) placeD (by decide) rfl rfl F₁₁ N₁₁ (fun C v d s₃ m₃ rest hd hv hx F₅ N₅ ho hdr hg => wpAny_tests_nil (.same F₅ N₅)) (fun C v d s₃ m₃ rest hd _ hv hx F₅ N₅ ho hdr hg => ?_) ?_
    · obtain ⟨y, hy, rfl⟩ := List.mem_map.mp hd
      obtain ⟨i, hi, rfl⟩ := List.mem_map.mp hy
      cases hv with
      | str _ tv =>
        have F₆ := fr_pin (y := Str.ofString "sign") F₅ hx
        have N₆ := N₅
        simp only [List.cons_append, List.nil_append] at N₆
        clear F₅ N₅
        k_steps
        all_goals try first | exact (0 : Addr) | exact Value.none | exact Str.ofString "" | exact ([] : List (Str × Addr))
        unfold Stop
        refine SC.index (occ_sgn (hpl i hi)) ?_
        k_steps
        unfold Stop
        rw [show placeD (Dat.str (sgn i)) = Dat.int (i : Int) from congrArg Dat.int (placeOf_sgn (hpl i hi))]
        exact EltEnd.mk0 (fr_unpin F₆ hx) (fun p hp => N₆ p hp) (.int _ _) (.refl _)
    · intro D₁₂ C₁₂ h tk₁₂ gs₁₂ m₁₂ ys₁₂ obs₁₂ F₅ N₅ hn' hCL hC₀ hoff hD hO hdat hgB
      refine' comp_fin_assign ?z1 ?z2 ?z3 F₅ N₅ hn' hCL hC₀ hoff ?_
      case z1 => rfl
      case z2 => rfl
      case z3 => rfl
      intro h₆ tk₆ F₆ N₆
      have hpla : IntsAre ys₁₂ (pls.map fun i : Nat => (i : Int)) := datAll_ints (by
        rw [List.filter_eq_self.mpr (fun _ _ => rfl), places_dat hpl] at hdat
        exact hdat)
      have N₇ : News s.heap s.heap.objs.size h₆ ((D₁₂, PySem.W.listOf ys₁₂.toArray ys₁₂.length) :: _) := fun p hp => N₆ p (by
        rcases List.mem_cons.mp hp with rfl | hp
        · exact .head _
        · exact .tail _ (List.mem_append_right _ hp))
      clear N₆ N₅ F₅ hoff hO hD hn'
      k_steps
      unfold Stop
      refine wpAny_Assign_Name ?_
      refine comp_eval (by with_unfolding_all rfl) rfl (by decide) ?_
      k_steps
      rename Fr _ _ _ _ => F₁₃
      rename News _ _ _ _ => N₁₃
      unfold Stop
      have hl₁₃ : Heap.IsList _ D₁₂ ys₁₂.toArray := ⟨_, (N₁₃ _ (.head _)).1, rfl, _, rfl⟩
      have hdi : DatAll [] ys₁₂ ((pls.map fun i : Nat => (i : Int)).map Dat.int) := ints_datAll hpla
      refine comp_list (base := []) rfl hl₁₃ hdi (by simp; omega) (fun _ => true) (stepD k) (by decide) rfl rfl F₁₃ N₁₃ (fun C v d s₃ m₃ rest hd hv hx F₅ N₅ ho hdr hg => wpAny_tests_nil (.same F₅ N₅)) (fun C v d s₃ m₃ rest hd _ hv hx F₅ N₅ ho hdr hg => ?_) ?_
      · obtain ⟨y, hy, rfl⟩ := List.mem_map.mp hd
        obtain ⟨i, hi, rfl⟩ := List.mem_map.mp hy
        cases hv with
        | int _ tv =>
          have hi6 := hpl i hi
          have F₆ := fr_pin (y := Str.ofString "place") F₅ hx
          have N₆ := N₅
          simp only [List.cons_append, List.nil_append] at N₆
          clear F₅ N₅
          k_steps
          all_goals try first | exact (0 : Addr) | exact Value.none | exact Str.ofString "" | exact ([] : List (Str × Addr))
          rename Fr _ _ _ _ => F₁₄
          rename News _ _ _ _ => N₁₄
          unfold Stop
          have hm3 : Int.fmod (i : Int) 3 = (i : Int) % 3 := Int.fmod_eq_emod_of_nonneg _ (by decide)
          refine notIn_pair N₁₄ (.head _) (Nat.le_of_ble_eq_true rfl) ?_
          rw [hm3]
          by_cases hk : k = (i : Int) % 3 ∨ k = 3
          · have e1 : (!(decide ((i : Int) % 3 = k) || decide ((3 : Int) = k))) = false := by rcases hk with h | h <;> simp [h]
            rw [e1]
            k_steps
            all_goals try first | exact (0 : Addr) | exact Value.none | exact Str.ofString "" | exact ([] : List (Str × Addr))
            · unfold Stop
              have e : stepF k (i : Int) = 1 := by unfold stepF; rw [if_pos hk, if_pos (by omega)]
              refine EltEnd.mk0 (fr_unpin F₁₄ hx) (fun p hp => N₁₄ p (.tail _ hp)) ?_ (.refl _)
              show DatIn _ _ (Dat.int (stepF k (i : Int)))
              rw [e]; exact .int _ _
            · unfold Stop
              have e : stepF k (i : Int) = -1 := by unfold stepF; rw [if_pos hk, if_neg (by omega)]
              refine EltEnd.mk0 (fr_unpin F₁₄ hx) (fun p hp => N₁₄ p (.tail _ hp)) ?_ (.refl _)
              show DatIn _ _ (Dat.int (stepF k (i : Int)))
              rw [e]; exact .int _ _
          · have e1 : (!(decide ((i : Int) % 3 = k) || decide ((3 : Int) = k))) = true := by
              rw [Bool.not_eq_true']
              rw [Bool.or_eq_false_iff, decide_eq_false_iff_not, decide_eq_false_iff_not]
              exact ⟨fun h => hk (.inl h.symm), fun h => hk (.inr h.symm)⟩
            rw [e1]
            k_steps
            all_goals try first | exact (0 : Addr) | exact Value.none | exact Str.ofString "" | exact ([] : List (Str × Addr))
            unfold Stop
            have e : stepF k (i : Int) = 0 := by unfold stepF; rw [if_neg hk]
            refine EltEnd.mk0 (fr_unpin F₁₄ hx) (fun p hp => N₁₄ p (.tail _ hp)) ?_ (.refl _)
            show DatIn _ _ (Dat.int (stepF k (i : Int)))
            rw [e]; exact .int _ _
      · intro D₁₄ C₁₄ h tk₁₄ gs₁₄ m₁₄ ys₁₄ obs₁₄ F₅ N₅ hn' hCL hC₀ hoff hD hO hdat hgC
        refine comp_fin_eval F₅ N₅ hn' hCL hC₀ hoff fun h₇ F₇ N₇ => ?_
        have hste : IntsAre ys₁₄ ((pls.map fun i : Nat => (i : Int)).map (stepF k)) := datAll_ints (by
          rw [List.filter_eq_self.mpr (fun _ _ => rfl), List.map_map] at hdat
          rw [List.map_map]
          exact hdat)
        have N₈ : News s.heap s.heap.objs.size h₇ ((D₁₄, PySem.W.listOf ys₁₄.toArray ys₁₄.length) :: _) := fun p hp => N₇ p (by
          rcases List.mem_cons.mp hp with rfl | hp
          · exact .head _
          · exact .tail _ (List.mem_append_right _ hp))
        clear N₇ N₅ F₅ hoff hO hD hn' F₁₃ N₁₃ F₁₁ N₁₁
        have q1 := ne_cell N₈ (.head _) (.tail _ (.tail _ (.tail _ (.tail _ (.tail _ (.tail _ (.tail _ (.head _)))))))) d2
        have q2 := ne_cell N₈ (.tail _ (.head _)) (.tail _ (.tail _ (.tail _ (.tail _ (.tail _ (.tail _ (.tail _ (.head _)))))))) d2
        have q3 := ne_cell N₈ (.tail _ (.tail _ (.head _))) (.tail _ (.tail _ (.tail _ (.tail _ (.tail _ (.tail _ (.tail _ (.head _)))))))) d2
        have q4 := ne_cell N₈ (.tail _ (.tail _ (.tail _ (.head _)))) (.tail _ (.tail _ (.tail _ (.tail _ (.tail _ (.tail _ (.tail _ (.head _)))))))) d2
        have q5 := ne_cell N₈ (.tail _ (.tail _ (.tail _ (.tail _ (.head _))))) (.tail _ (.tail _ (.tail _ (.tail _ (.tail _ (.tail _ (.tail _ (.head _)))))))) d2
        have q6 := ne_cell N₈ (.tail _ (.tail _ (.tail _ (.tail _ (.tail _ (.head _)))))) (.tail _ (.tail _ (.tail _ (.tail _ (.tail _ (.tail _ (.tail _ (.head _)))))))) d2
        k_steps
        unfold Stop
        refine wpAny_Assign_Name ?_
        refine comp_eval (by with_unfolding_all rfl) rfl (by decide) ?_
        k_steps
        rename Fr _ _ _ _ => F₁₅
        rename News _ _ _ _ => N₁₅
        unfold Stop
        have hstl2 : ys₁₄.length = pls.length := by simpa using hste.length
        refine comp_pairs (base := []) rfl (hP.keeps F₁₅.keep) (by omega) (wholeP pls k) pd (by decide) rfl (by decide) rfl rfl F₁₅ N₁₅ (fun C q s₃ m₃ u u' rest hq ha hb F₅ N₅ ho hdr hg => wpAny_tests_one ?_) (fun C q s₃ m₃ u u' rest hq hpq ha hb F₅ N₅ ho hdr hg => ?_) ?_
        · have F₆ := fr_pin (y := Str.ofString "low") (fr_pin (y := Str.ofString "high") F₅ hb) ha
          have N₆ := N₅
          simp only [List.cons_append, List.nil_append] at N₆
          clear F₅ N₅
          have hqq := hps q hq
          k_steps
          all_goals try first | exact (0 : Addr) | exact Value.none | exact Str.ofString "" | exact ([] : List (Str × Addr))
          unfold Stop
          refine slice_mid F₆ N₆ ⟨_, (N₆ _ (.head _)).1, rfl, _, rfl⟩ hqq.1 hqq.2.1 (by rw [List.size_toArray, hstl2]; exact hqq.2.2) (by rw [sizeLine_eq, List.size_toArray]; omega) fun h₇ F₇ N₇ hl₇ ho₇ => ?_
          k_steps
          unfold Stop
          refine wpAny_call (code_rm rfl (Nat.le_of_ble_eq_true rfl) (Nat.le_of_ble_eq_true rfl) (whole_c (ns := ((((pls.map fun i : Nat => (i : Int)).map (stepF k)).drop q.1.toNat).take (q.2.toNat - q.1.toNat))) (G.keeps F₇.keep) hl₇ (by simpa using (hste.drop q.1.toNat).take (q.2.toNat - q.1.toNat)) fun s₈ e₈ => ?_))
          have F₈ := e₈.fr F₇
          have N₈ := e₈.news N₇
          dsimp only
          clear F₇ N₇
          k_steps
          unfold Stop
          exact TestEnd.mk e₈.os e₈.drawn (fr_unpin (fr_unpin F₈ ((if_neg (by decide)).trans ha)) hb) (fun p hp => N₈ p (.tail _ hp)) e₈.gens
        · have F₆ := fr_pin (y := Str.ofString "low") (fr_pin (y := Str.ofString "high") F₅ hb) ha
          have N₆ := N₅
          simp only [List.cons_append, List.nil_append] at N₆
          clear F₅ N₅
          k_steps
          all_goals try first | exact (0 : Addr) | exact Value.none | exact Str.ofString "" | exact ([] : List (Str × Addr))
          rename Fr _ _ _ _ => F₇
          rename News _ _ _ _ => N₇
          rename (_ < _) ∧ _ => l₇'
          unfold Stop
          exact EltEnd.mk1 (fr_unpin (fr_unpin F₇ ((if_neg (by decide)).trans ha)) hb) N₇ (.tuple (.head _) (.cons (.int _ _) (.cons (.int _ _) .nil))) l₇' (.refl _)
        · intro D₁₆ C₁₆ h tk₁₆ gs₁₆ m₁₆ ys₁₆ obs₁₆ F₅ N₅ hn' hCL hC₀ hoff hD₁₆ hO hdt hgD
          refine comp_fin_eval F₅ N₅ hn' hCL hC₀ hoff fun h₇ F₇ N₇ => ?_
          have N₈ : News s.heap s.heap.objs.size h₇ ((D₁₆, PySem.W.listOf ys₁₆.toArray ys₁₆.length) :: (_ ++ obs₁₆)) := fun p hp => N₇ p (by
            rcases List.mem_cons.mp hp with rfl | hp
            · exact .head _
            · refine .tail _ ?_
              rcases List.mem_append.mp hp with hp | hp
              · exact List.mem_append_right _ hp
              · exact List.mem_append_left _ hp)
          simp only [List.cons_append, List.nil_append] at N₈
          clear N₇ N₅ F₅ hoff hn' F₁₅ N₁₅
          simp only [List.map_cons, List.map_nil] at hO
          refine store_cell rfl rfl rfl F₇ N₈ (.tail _ (.tail _ (.tail _ (.tail _ (.tail _ (.tail _ (.tail _ (.head _)))))))) d1 fun h₈ o₁' F₈ d1' Nc Ns => ?_
          have Na := Ns ((D₁₆, PySem.W.listOf ys₁₆.toArray ys₁₆.length) :: (r₉, PySem.W.listOf vs₉ n₉) :: (D₆, PySem.W.listOf ys.toArray c₆) :: (D₅, PySem.W.listOf ys.toArray ys.length) :: obs₁₆) (by
            have z1 := ne_cell N₈ (.head _) (.tail _ (.tail _ (.tail _ (.tail _ (.tail _ (.tail _ (.tail _ (.head _)))))))) d1
            have z2 := ne_cell N₈ (.tail _ (.tail _ (.tail _ (.head _)))) (.tail _ (.tail _ (.tail _ (.tail _ (.tail _ (.tail _ (.tail _ (.head _)))))))) d1
            have z3 := ne_cell N₈ (.tail _ (.tail _ (.tail _ (.tail _ (.head _))))) (.tail _ (.tail _ (.tail _ (.tail _ (.tail _ (.tail _ (.tail _ (.head _)))))))) d1
            have z4 := ne_cell N₈ (.tail _ (.tail _ (.tail _ (.tail _ (.tail _ (.head _)))))) (.tail _ (.tail _ (.tail _ (.tail _ (.tail _ (.tail _ (.tail _ (.head _)))))))) d1
            intro p hp
            rcases List.mem_cons.mp hp with rfl | hp
            · exact ⟨.head _, z1⟩
            rcases List.mem_cons.mp hp with rfl | hp
            · exact ⟨.tail _ (.tail _ (.tail _ (.head _))), z2⟩
            rcases List.mem_cons.mp hp with rfl | hp
            · exact ⟨.tail _ (.tail _ (.tail _ (.tail _ (.head _)))), z3⟩
            rcases List.mem_cons.mp hp with rfl | hp
            · exact ⟨.tail _ (.tail _ (.tail _ (.tail _ (.tail _ (.head _))))), z4⟩
            · exact ⟨.tail _ (.tail _ (.tail _ (.tail _ (.tail _ (.tail _ (.tail _ (.tail _ (.tail _ (.tail _ (.tail _ hp)))))))))), hO p hp _ (.tail _ (.tail _ (.tail _ (.tail _ (.tail _ (.tail _ (.tail _ (.head _))))))))⟩)
          have N₉ : News s.heap s.heap.objs.size h₈ ((s.heap.objs.size + 1 + 1 + 1 + 1, o₁') :: _) := fun p hp => (List.mem_cons.mp hp).elim (fun e => Nc p (e ▸ .head _)) (Na p)
          have hdt₂ : DatAll obs₁₆ ys₁₆ ((ps.filter (wholeP pls k)).map pd) := by simpa using hdt
          clear Na Ns Nc N₈ F₇
          k_steps
          unfold Stop
          refine comp_assign (by with_unfolding_all rfl) (by with_unfolding_all rfl) rfl (by decide) ?_
          k_steps
          unfold Stop
          obtain ⟨nP, vP, hnP, hlP, hdP⟩ := hP.isList
          have hl₅ : Heap.IsList h₈ D₅ ys.toArray := ⟨_, (N₉ _ (.tail _ (.tail _ (.tail _ (.tail _ (.head _)))))).1, rfl, _, rfl⟩
          have hde : DatAll [] ys ((ps.map (textF pls k)).map Dat.str) := strs_datAll hst
          refine comp_zip (base := []) rfl (hlP.at fun o e => F₈.keep lP o e) hdP hl₅ hde (by simp) (by simp; omega) (dueD ((ps.filter (wholeP pls k)).map pd)) (by decide) rfl (by decide) rfl rfl F₈ N₉ (fun C i v d u e s₃ m₃ rest hi hi2 hv hu ha hb F₅ N₅ ho hdr hg => ?_) ?_
          · obtain ⟨p, hp, rfl⟩ := List.mem_map.mp (List.mem_of_getElem? hi)
            obtain ⟨T₁, u₁, u₂, kk, rfl, hT₁⟩ := datIn_pd hv
            obtain ⟨y, hy, rfl⟩ := List.mem_map.mp (List.mem_of_getElem? hi2)
            cases hu with
            | str _ tv =>
              have F₆ := fr_pin (y := Str.ofString "stretch") (fr_pin (y := Str.ofString "text") F₅ hb) ha
              have N₆ := N₅
              simp only [List.cons_append, List.nil_append] at N₆
              k_steps
              all_goals try first | exact (0 : Addr) | exact Value.none | exact Str.ofString "" | exact ([] : List (Str × Addr))
              unfold Stop
              have hLT : ListH s₃.heap D₁₆ ((ps.filter (wholeP pls k)).map pd) := ListH.of_news' (n' := obs₁₆) N₆ (.tail _ (.head _)) (fun q hq => .tail _ (.tail _ (.tail _ (.tail _ (.tail _ (List.mem_append_left _ hq)))))) hdt₂
              have hTok : ∀ d ∈ (ps.filter (wholeP pls k)).map pd, kqdOk 8 d = true := fun d hd => by
                obtain ⟨q, _, rfl⟩ := List.mem_map.mp hd
                exact pd_ok 7 q
              by_cases hq : pd p ∈ (ps.filter (wholeP pls k)).map pd
              · refine in_h (n := nP) (d := pd p) hLT (hnP.keeps F₆.keep) hv hTok (pd_ok 7 p) (Nat.le_of_ble_eq_true rfl) (r := true) ⟨fun _ => hq, fun _ => rfl⟩ ?_
                k_steps
                all_goals try first | exact (0 : Addr) | exact Value.none | exact Str.ofString "" | exact ([] : List (Str × Addr))
                unfold Stop
                have e : dueD ((ps.filter (wholeP pls k)).map pd) (pd p) (.str y) = .str y := if_pos hq
                rw [e]
                exact EltEnd.mk0 F₅ N₅ (.str _ _) (.refl _)
              · refine in_h (n := nP) (d := pd p) hLT (hnP.keeps F₆.keep) hv hTok (pd_ok 7 p) (Nat.le_of_ble_eq_true rfl) (r := false) ⟨fun h => by (cases h), fun h => absurd h hq⟩ ?_
                k_steps
                all_goals try first | exact (0 : Addr) | exact Value.none | exact Str.ofString "" | exact ([] : List (Str × Addr))
                unfold Stop
                have e : dueD ((ps.filter (wholeP pls k)).map pd) (pd p) (.str y) = .str refused := if_neg hq
                rw [e]
                exact EltEnd.mk0 F₅ N₅ (.str _ _) (.refl _)
          · intro D₁₇ C₁₇ h tk₁₇ gs₁₇ m₁₇ ys₁₇ obs₁₇ F₅ N₅ hn' hCL hC₀ hoff hD hO2 hdue hgE
            refine' comp_fin_assign ?w1 ?w2 ?w3 F₅ N₅ hn' hCL hC₀ hoff ?_
            case w1 => rfl
            case w2 => rfl
            case w3 => rfl
            intro h₆ tk₆ F₆ N₆
            rw [due_all hch] at hdue
            have hdue' : StrsAre ys₁₇ (((ps.map (textF pls k)).map preF)) := datAll_strs hdue
            have N₇ : News s.heap s.heap.objs.size h₆ ((D₁₇, PySem.W.listOf ys₁₇.toArray ys₁₇.length) :: _) := fun p hp => N₆ p (by
              rcases List.mem_cons.mp hp with rfl | hp
              · exact .head _
              · exact .tail _ (List.mem_append_right _ hp))
            clear N₆ N₅ F₅ hn' N₉ F₈
            k_steps
            unfold Stop
            have hks : DatAll [] vs₉.toList (((ps.map (textF pls k)).map preF).map Dat.str) := strs_datAll hs₉
            have hds : DatAll [] ys₁₇ (((ps.map (textF pls k)).map preF).map Dat.str) := strs_datAll hdue'
            have hok : ∀ d ∈ ((ps.map (textF pls k)).map preF).map Dat.str, kqdOk 8 d = true := fun d hd => by
              obtain ⟨y, hy, rfl⟩ := List.mem_map.mp hd
              obtain ⟨z, hz, rfl⟩ := List.mem_map.mp hy
              obtain ⟨p, hp, rfl⟩ := List.mem_map.mp hz
              exact strOk_pre (htx p hp).1
            refine eq_h (ListH.of_news' (n' := []) (vs := vs₉.toList) (k := n₉) N₇ (.tail _ (.tail _ (.tail _ (.head _)))) (fun _ h => nomatch h) hks) (ListH.of_news' (n' := []) N₇ (.head _) (fun _ h => nomatch h) hds) hok hok (Nat.le_of_ble_eq_true rfl) (r := true) ⟨fun _ => rfl, fun _ => rfl⟩ ?_
            k_steps
            rename Fr _ _ _ _ => F₁₈
            rename News _ _ _ _ => N₁₈
            unfold Stop
            refine append_own F₁₈ N₁₈ (.tail _ (.tail _ (.tail _ (.head _)))) (by have := hs₉.len_eq; rw [sizeLine_eq]; simp at this; omega) fun h₁₉ F₁₉ _ Ns => ?_
            have N₁₉ := Ns ((s.heap.objs.size + 1 + 1 + 1 + 1, o₁') :: (D₁₆, PySem.W.listOf ys₁₆.toArray ys₁₆.length) :: (D₆, PySem.W.listOf ys.toArray c₆) :: (D₅, PySem.W.listOf ys.toArray ys.length) :: obs₁₆) (by
              have z1 := ne_cell N₁₈ (.tail _ (.tail _ (.tail _ (.head _)))) (.tail _ (.head _)) d1'
              have z2 : r₉ ≠ D₁₆ := hD₁₆ (r₉, PySem.W.listOf vs₉ n₉) (List.mem_append_right _ (.tail _ (.tail _ (.head _))))
              intro p hp
              rcases List.mem_cons.mp hp with rfl | hp
              · exact ⟨.tail _ (.head _), fun e => z1 e.symm⟩
              rcases List.mem_cons.mp hp with rfl | hp
              · exact ⟨.tail _ (.tail _ (.head _)), fun e => z2 e.symm⟩
              rcases List.mem_cons.mp hp with rfl | hp
              · exact ⟨.tail _ (.tail _ (.tail _ (.tail _ (.head _)))), x1⟩
              rcases List.mem_cons.mp hp with rfl | hp
              · exact ⟨.tail _ (.tail _ (.tail _ (.tail _ (.tail _ (.head _))))), x2⟩
              · exact ⟨.tail _ (.tail _ (.tail _ (.tail _ (.tail _ (.tail _ hp))))), hO p hp _ (.tail _ (.tail _ (.tail _ (.head _))))⟩)
            clear N₁₈ F₁₈ Ns
            k_steps
            unfold Stop
            have hok2 : ∀ d ∈ (ps.map (textF pls k)).map Dat.str, kqdOk 8 d = true := fun d hd => by
              obtain ⟨y, hy, rfl⟩ := List.mem_map.mp hd
              obtain ⟨p, hp, rfl⟩ := List.mem_map.mp hy
              exact strOk_of (htx p hp).1
            refine eq_h (ListH.of_news' (n' := []) (vs := ys) (k := c₆) N₁₉ (.tail _ (.tail _ (.head _))) (fun _ h => nomatch h) hde) (ListH.of_news' (n' := []) N₁₉ (.tail _ (.tail _ (.tail _ (.head _)))) (fun _ h => nomatch h) hde) hok2 hok2 (Nat.le_of_ble_eq_true rfl) (r := true) ⟨fun _ => rfl, fun _ => rfl⟩ ?_
            k_steps
            dsimp only
            have hgens : GB s.gens gs₁₇ := GB.trans (GB.trans (GB.trans (GB.trans (GB.trans (GB.trans e₂.gens hgA) e₉.gens) hgB) hgC) hgD) hgE
            have hdr₉ : s₉.drawn = s.drawn := e₉.drawn.trans e₂.drawn
            refine hR _ D₁₆ ys₁₆ ys₁₆.length obs₁₆ (Ext.of F₁₉ hos₉ hgens hdr₉) (Fresh.of_news (L := s.heap.objs.size) fun p hp => N₁₉ p (.tail _ ?_)) hdt₂
            rcases List.mem_cons.mp hp with rfl | hp
            · exact .head _
            · exact .tail _ (.tail _ (.tail _ hp))
end Mine
end
section
set_option maxHeartbeats 2000000
open PySem PySem.W PyProof.Rows PySem.Calls PySem.Spec
namespace Mine
local macro_rules | `(tactic| walk_at "exec For Name Call cons nil") => `(tactic| refine stop_intro ?_)
local macro_rules | `(tactic| walk_at "pyIter ref") => `(tactic| refine stop_intro ?_)
local macro_rules | `(tactic| walk_at "call builtin:str.join") => `(tactic| refine stop_intro ?_)
local macro_rules | `(tactic| walk_at "call ref") => `(tactic| refine stop_intro ?_)

def strikeP : List Str := [Str.ofString "()", Str.ofString "", Str.ofString "[]", Str.ofString "", Str.ofString "{}", Str.ofString ""]
def strike1 (x : Str) : Str := replF strikeP x
def struckF : Nat → Str → Str
  | 0, x => x
  | n + 1, x => if strike1 x = x then x else struckF n (strike1 x)
theorem struckF_stop {n : Nat} {x : Str} (h : strike1 x = x) : struckF n x = x := by
  cases n with
  | zero => rfl
  | succ n => exact if_pos h
theorem join_len0 : ∀ l : List Str, (Str.join (Str.ofString "") l).length = (l.map (·.length)).sum := by
  intro l
  cases l with
  | nil => rfl
  | cons a r =>
    rw [len_join_cons]
    have : (Str.ofString "").length = 0 := by decide +kernel
    rw [this]; simp
theorem split_short {x a : Str} (h : 1 ≤ a.length) : (Str.join (Str.ofString "") (Txt.split x a)).length ≤ x.length := by
  rw [join_len0]
  have := split_weight x a h
  by_cases hn : (Txt.split x a).length = 0
  · have : Txt.split x a = [] := List.length_eq_zero_iff.mp hn
    rw [this]; simp
  · omega
theorem strike_ok {x : Str} (h : x.length ≤ 1000) : ReplOk strikeP x ∧ (strike1 x).length ≤ x.length := by
  have l1 : 1 ≤ (Str.ofString "()").length := by decide +kernel
  have l2 : 1 ≤ (Str.ofString "[]").length := by decide +kernel
  have l3 : 1 ≤ (Str.ofString "{}").length := by decide +kernel
  have l0 : (Str.ofString "").length ≤ 100 := by decide +kernel
  have h1 := split_short (x := x) l1
  have h2 := split_short (x := Str.join (Str.ofString "") (Txt.split x (Str.ofString "()"))) l2
  have h3 := split_short (x := Str.join (Str.ofString "") (Txt.split (Str.join (Str.ofString "") (Txt.split x (Str.ofString "()"))) (Str.ofString "[]"))) l3
  refine ⟨⟨l1, h, l0, l2, by omega, l0, l3, by omega, l0, trivial⟩, ?_⟩
  show (Str.join _ _).length ≤ _
  omega

theorem struck_c {w : World} {mean : ExcName → Option Value} {mg mb : Str → Option Value} {s : Shared} {R : Result → Shared → Prop} {l : Addr} {vs : List Value} {ys : List Str}
    (G : Gd w mean mg mb s.heap) (hl : s.heap.IsList l vs.toArray) (hvs : StrsAre vs ys) (hlen : ys.length ≤ 20) (hy : (ys.map (·.length)).sum ≤ 100)
    (hR : ∀ s' t', Ext s s' → R (.ok (.ret (.str (struckF ys.length (Str.join (Str.ofString "") ys)) t'))) s') :
    codeAny (model PySem.Challenge.rw_pm0012_01.row.prog w) (rm 322 60) (.call (.ref 87) ⟨[.ref l], []⟩) R s := by
  have X := G.X
  have T := G.T
  refine' enterP (binds := [(Str.ofString "signs", .ref l)]) G ?k6 ?k7 ?k8 ?k9 ?kB ?c5 ?c2 ?c3 ?c4 ?_
  case k6 => k_is
  case k7 => k_is
  case k8 => decide
  case k9 => exact BindsTo.of_eq rfl
  case kB => exact locs rfl
  case c5 => decide
  case c2 => rfl
  case c3 => rfl
  case c4 => rfl
  intro h₁ F N
  k_steps
  unfold Stop
  have hl₁ : h₁.IsList l vs.toArray := hl.at fun o e => F.keep l o e
  have hz0 : (Str.ofString "").length = 0 := by decide +kernel
  refine join_list hl₁ hvs (by rw [hz0]; omega) fun t₂ k₂ => ?_
  have ej : Txt.join (Str.ofString "") ys = Str.join (Str.ofString "") ys := by
    show Builtin.Str.glued _ _ = _
    rw [StrLaws.glued_eq_join]
  rw [ej]
  have hjl : (Str.join (Str.ofString "") ys).length ≤ 100 := by rw [join_len0]; exact hy
  k_steps
  unfold Stop
  refine for_own ?_ (by intro _; rfl)
  k_steps
  rename IsRange _ _ _ _ _ _ _ _ => hr₃
  rename Fr _ _ _ _ => F₃
  rename News _ _ _ _ => N₃
  unfold Stop
  refine for_range (G₀ := s.gens) (fun i m nx => nx = [] ∧ ∃ x tx, m (Str.ofString "text") = some (.str x tx) ∧ x.length ≤ 100 ∧ struckF (ys.length - i) x = struckF ys.length (Str.join (Str.ofString "") ys)) rfl hr₃ (by omega) (by rfl) (by rfl) F₃ N₃ ⟨rfl, _, _, rfl, hjl, rfl⟩ (.refl _) ?_ ?_
  · rintro i tv m₁ nx h₅ tk₅ gs₅ own hi hadr hoff ⟨rfl, x, tx, hm1, hxl, hst⟩ hGB F₅ N₅
    have F₆ := fr_pin (y := Str.ofString "text") F₅ ((if_neg (by decide)).trans hm1)
    clear F₅ F₃ N₃
    have hsk := strike_ok (x := x) (by omega)
    k_steps
    unfold Stop
    refine wpAny_call (code_rm rfl (Nat.le_of_ble_eq_true rfl) (Nat.le_of_ble_eq_true rfl) (replace_c (x := x) (prs := strikeP) (G.keeps F₆.keep) (.cons _ _ (.cons _ _ (.cons _ _ (.cons _ _ (.cons _ _ (.cons _ _ .nil)))))) (by simp) hsk.1 fun s₆ t₆ e₆ => ?_))
    have F₇ := e₆.fr F₆
    have N₇ := e₆.news N₅
    have hos : s₆.os = s.os := e₆.os
    have hdr₆ : s₆.drawn = s.drawn := e₆.drawn
    have hG₆ := hGB.trans e₆.gens
    dsimp only
    clear F₆ N₅
    rw [show replF strikeP x = strike1 x from rfl]
    k_steps
    · rename (_ == _) = true => hq
      rename Fr _ _ _ _ => F₈
      dsimp only [TurnG]
      k_steps
      have hx : x = struckF ys.length (Str.join (Str.ofString "") ys) := by rw [← hst, struckF_stop (eq_of_beq hq)]
      rw [hx]
      exact hR _ _ (Ext.of F₈ hos hG₆ hdr₆)
    · rename (_ == _) = false => hq
      rename Fr _ _ _ _ => F₈
      rename News _ _ _ _ => N₈
      refine' turn_end (gs := s₆.gens) (nx := []) ?E1 F₈ N₈ rfl ?J1 hG₆
      case E1 => rw [hos, hdr₆]
      refine ⟨rfl, _, _, rfl, Nat.le_trans hsk.2 hxl, ?_⟩
      rw [← hst]
      obtain ⟨j, hj⟩ : ∃ j, ys.length - i = j + 1 := ⟨ys.length - i - 1, by omega⟩
      have hj2 : ys.length - (i + 1) = j := by omega
      rw [hj, hj2]
      exact (if_neg (fun e => by rw [e, beq_self_eq_true] at hq; cases hq)).symm
  · rintro m₁ nx h₅ tk₅ gs₅ ⟨rfl, x, tx, hm1, hxl, hst⟩ hadr hGB F₅ N₅
    have F₆ := fr_pin (y := Str.ofString "text") F₅ hm1
    clear F₅ F₃ N₃
    k_steps
    have hx : x = struckF ys.length (Str.join (Str.ofString "") ys) := by rw [← hst, Nat.sub_self]; rfl
    rw [hx]
    exact hR _ _ (Ext.of F₆ rfl hGB rfl)
end Mine
end
section
set_option maxHeartbeats 2000000
open PySem PySem.W PyProof.Rows PySem.Calls PySem.Spec
namespace Mine
local macro_rules | `(tactic| walk_at "exec For Name Name cons nil") => `(tactic| refine stop_intro ?_)
local macro_rules | `(tactic| walk_at "pyIter ref") => `(tactic| refine stop_intro ?_)
local macro_rules | `(tactic| walk_at "call builtin:list.append") => `(tactic| refine stop_intro ?_)
local macro_rules | `(tactic| walk_at "FnAt") => `(tactic| refine stop_intro ?_)
local macro_rules | `(tactic| walk_at "callWith ref") => `(tactic| refine stop_intro ?_)
local macro_rules | `(tactic| walk_at "call ref") => `(tactic| refine stop_intro ?_)

theorem fnAt_keeps {q : Addr} {h h' : Heap} (X : FnAt q h) (k : ∀ b o, h.get? b = some o → h'.get? b = some o) : FnAt q h' := by
  obtain ⟨oc, od, fd, sl, e⟩ := X
  exact ⟨oc, od, fd, sl, k _ _ e⟩

theorem split_c {w : World} {mean : ExcName → Option Value} {mg mb : Str → Option Value} {s : Shared} {R : Result → Shared → Prop} {l f : Addr} {n : List (Addr × Obj)} {vs : List Value} {ds : List Dat} (p : Dat → Bool)
    (G : Gd w mean mg mb s.heap) (hl : s.heap.IsList l vs.toArray) (hd : DatAll n vs ds) (hlen : ds.length ≤ 1000) (hf : FnAt f s.heap)
    (hp : ∀ (s₁ : Shared) (R' : Result → Shared → Prop) v d, d ∈ ds → DatIn n v d → Ext s s₁ → (∀ s₂, Ext s₁ s₂ → R' (.ok (.ret (.bool (p d)))) s₂) →
      codeAny (model PySem.Challenge.rw_pm0012_01.row.prog w) (rm 317 40) (.call (.ref f) ⟨[v], []⟩) R' s₁)
    (hR : ∀ s' T Y Z ya za ky kz, Ext s s' → Fresh s s' [(T, { cls := .type "tuple", data := .seq #[.ref Y, .ref Z] }), (Y, PySem.W.listOf ya ky), (Z, PySem.W.listOf za kz)] → Y ≠ Z →
      DatAll n ya.toList (ds.filter p) → DatAll n za.toList (ds.filter (fun d => !p d)) → R (.ok (.ret (.ref T))) s') :
    codeAny (model PySem.Challenge.rw_pm0012_01.row.prog w) (rm 316 30) (.call (.ref 56) ⟨[.ref l, .ref f], []⟩) R s := by
  have X := G.X
  have T := G.T
  refine' enterP (binds := [(Str.ofString "s", .ref l), (Str.ofString "predicate", .ref f)]) G ?k6 ?k7 ?k8 ?k9 ?kB ?c5 ?c2 ?c3 ?c4 ?_
  case k6 => k_is
  case k7 => k_is
  case k8 => decide
  case k9 => exact BindsTo.of_eq rfl
  case kB => exact locs rfl
  case c5 => decide
  case c2 => rfl
  case c3 => rfl
  case c4 => rfl
  intro h₁ F N
  k_steps
  unfold Stop
  refine for_own ?_ (by intro _; rfl)
  k_steps
  rename Fr _ _ _ _ => F₂
  rename News _ _ _ _ => N₂
  rename_i lYx _ _ _ lZx _ hYZ _
  unfold Stop
  obtain ⟨ol, hol, hcl⟩ := id hl
  have hne : ∀ q ∈ [(lZx, PySem.W.listOf #[] 0), (lYx, PySem.W.listOf #[] 0)], q.1 ≠ l := fun q hq e => by
    have := (N₂ q hq).2.2
    rw [e, hol] at this; cases this
  have hYZ' : lYx ≠ lZx := Nat.ne_of_lt hYZ
  have hdl := hd.length
  refine for_list (G₀ := s.gens) (fun i m nx => m (Str.ofString "no") = some (.ref lZx) ∧ m (Str.ofString "yes") = some (.ref lYx) ∧ m (Str.ofString "predicate") = some (.ref f) ∧ ∃ za kz ya ky, nx = [(lZx, PySem.W.listOf za kz), (lYx, PySem.W.listOf ya ky)] ∧
      DatAll n ya.toList ((ds.take i).filter p) ∧ DatAll n za.toList ((ds.take i).filter fun d => !p d))
    rfl (hl.at fun o e => F₂.keep l o e) rfl rfl (Nat.ne_of_lt (Heap.lt_size hol)) hne F₂ N₂ ⟨rfl, rfl, rfl, _, _, _, _, rfl, .nil, .nil⟩ (.refl _) ?_ ?_
  · rintro i v m₁ nx h₅ tk₅ gs₅ own hiv hadr hoff ⟨hm1, hm2, hm3, za, kz, ya, ky, rfl, hY, hZ⟩ hGB F₅ N₅
    have F₆ := (fr_pin (y := Str.ofString "predicate") (fr_pin (y := Str.ofString "yes") (fr_pin (y := Str.ofString "no") F₅ ((if_neg (by decide)).trans hm1)) ((if_neg (by decide)).trans hm2)) ((if_neg (by decide)).trans hm3))
    have hil : i < ds.length := by
      have := (List.getElem?_eq_some_iff.mp (by simpa using hiv : vs[i]? = some _)).1
      omega
    obtain ⟨v', hv', hdv⟩ := hd.get hil
    have ev : v = v' := by
      have : vs[i]? = some v := by simpa using hiv
      rw [hv'] at this; exact (Option.some.inj this).symm
    subst ev
    have htk : ds.take (i + 1) = ds.take i ++ [ds[i]'hil] := by rw [List.take_add_one, List.getElem?_eq_getElem hil]; rfl
    have hyl : ya.size ≤ sizeLine := by
      have := hY.length
      have h2 := List.length_filter_le p (ds.take i)
      rw [sizeLine_eq]; simp at this h2; omega
    have hzl : za.size ≤ sizeLine := by
      have := hZ.length
      have h2 := List.length_filter_le (fun d => !p d) (ds.take i)
      rw [sizeLine_eq]; simp at this h2; omega
    clear F₅
    k_steps
    unfold Stop
    refine callWith_F (fnAt_keeps hf F₆.keep) ?_
    k_steps
    all_goals unfold Stop
    · exact fnAt_keeps hf F₆.keep
    · refine wpAny_call (code_rm rfl (Nat.le_of_ble_eq_true rfl) (Nat.le_of_ble_eq_true rfl) (hp _ _ v (ds[i]'hil) (List.getElem_mem hil) hdv (Ext.of F₆ rfl hGB rfl) fun s₆ e₆ => ?_))
      have F₇ := e₆.fr F₆
      have N₇ := e₆.news N₅
      have hos : s₆.os = s.os := e₆.os
      have hdr₆ : s₆.drawn = s.drawn := e₆.drawn
      have hG₆ := hGB.trans e₆.gens
      simp only [List.cons_append, List.nil_append] at N₇
      dsimp only
      clear F₆ N₅
      cases hpd : p (ds[i]'hil) with
      | true =>
        k_steps
        unfold Stop
        refine append_own F₇ N₇ (.tail _ (.head _)) hyl fun h₈ F₈ N₈ Ns => ?_
        have N₉ : News s.heap s.heap.objs.size h₈ ((lZx, PySem.W.listOf za kz) :: (lYx, PySem.W.listOf (ya.push v) (ky + 1)) :: own) := by
          have Na := Ns ((lZx, PySem.W.listOf za kz) :: own) (by
            intro q hq
            rcases List.mem_cons.mp hq with rfl | hq
            · exact ⟨.head _, Ne.symm hYZ'⟩
            · exact ⟨.tail _ (.tail _ hq), hoff q hq _ (.tail _ (.head _))⟩)
          intro q hq
          rcases List.mem_cons.mp hq with rfl | hq
          · exact Na _ (.head _)
          rcases List.mem_cons.mp hq with rfl | hq
          · exact N₈ _ (.head _)
          · exact Na _ (.tail _ hq)
        clear Ns N₈ N₇ F₇
        k_steps
        refine' turn_end (gs := s₆.gens) (nx := [(lZx, PySem.W.listOf za kz), (lYx, PySem.W.listOf (ya.push v) (ky + 1))]) ?E1 F₈ N₉ rfl ?J1 hG₆
        case E1 => rw [hos, hdr₆]
        refine ⟨rfl, rfl, rfl, _, _, _, _, rfl, ?_, ?_⟩
        · rw [htk, List.filter_append, Array.toList_push]
          refine DatAll.append hY ?_
          simp only [List.filter_cons, List.filter_nil, hpd, if_true]
          exact .one hdv
        · rw [htk, List.filter_append]
          simp only [List.filter_cons, List.filter_nil, hpd, Bool.not_true, Bool.false_eq_true, if_false, List.append_nil]
          exact hZ
      | false =>
        k_steps
        unfold Stop
        refine append_own F₇ N₇ (.head _) hzl fun h₈ F₈ N₈ Ns => ?_
        have N₉ : News s.heap s.heap.objs.size h₈ ((lZx, PySem.W.listOf (za.push v) (kz + 1)) :: (lYx, PySem.W.listOf ya ky) :: own) := by
          have Na := Ns ((lYx, PySem.W.listOf ya ky) :: own) (by
            intro q hq
            rcases List.mem_cons.mp hq with rfl | hq
            · exact ⟨.tail _ (.head _), hYZ'⟩
            · exact ⟨.tail _ (.tail _ hq), hoff q hq _ (.head _)⟩)
          intro q hq
          rcases List.mem_cons.mp hq with rfl | hq
          · exact N₈ _ (.head _)
          · exact Na _ hq
        clear Ns N₈ N₇ F₇
        k_steps
        refine' turn_end (gs := s₆.gens) (nx := [(lZx, PySem.W.listOf (za.push v) (kz + 1)), (lYx, PySem.W.listOf ya ky)]) ?E2 F₈ N₉ rfl ?J2 hG₆
        case E2 => rw [hos, hdr₆]
        refine ⟨rfl, rfl, rfl, _, _, _, _, rfl, ?_, ?_⟩
        · rw [htk, List.filter_append]
          simp only [List.filter_cons, List.filter_nil, hpd, Bool.false_eq_true, if_false, List.append_nil]
          exact hY
        · rw [htk, List.filter_append, Array.toList_push]
          refine DatAll.append hZ ?_
          simp only [List.filter_cons, List.filter_nil, hpd, Bool.not_false, if_true]
          exact .one hdv
  · rintro m₁ nx h₅ tk₅ gs₅ ⟨hm1, hm2, hm3, za, kz, ya, ky, rfl, hY, hZ⟩ hadr hGB F₅ N₅ _
    have F₆ := fr_pin (y := Str.ofString "yes") (fr_pin (y := Str.ofString "no") F₅ hm1) hm2
    clear F₅
    k_steps
    rename Fr _ _ _ _ => F₇
    rename News _ _ _ _ => N₇
    rw [List.size_toArray, hdl, List.take_length] at hY hZ
    refine hR _ _ _ _ ya za ky kz (Ext.of F₇ rfl hGB rfl) (Fresh.of_news (L := s.heap.objs.size) fun q hq => N₇ q ?_) hYZ' hY hZ
    rcases List.mem_cons.mp hq with rfl | hq
    · exact .head _
    rcases List.mem_cons.mp hq with rfl | hq
    · exact .tail _ (.tail _ (.head _))
    · rw [List.mem_singleton.mp hq]
      exact .tail _ (.head _)
end Mine
end
section
set_option maxHeartbeats 2000000
open PySem PySem.W PyProof.Rows PySem.Calls PySem.Spec
namespace Mine
local macro_rules | `(tactic| walk_at "exec For Name Name cons nil") => `(tactic| refine stop_intro ?_)
local macro_rules | `(tactic| walk_at "exec Assign cons ListComp") => `(tactic| refine stop_intro ?_)
local macro_rules | `(tactic| walk_at "eval ListComp") => `(tactic| refine stop_intro ?_)
local macro_rules | `(tactic| walk_at "EltEnd") => `(tactic| refine stop_intro ?_)
local macro_rules | `(tactic| walk_at "TestEnd") => `(tactic| refine stop_intro ?_)
local macro_rules | `(tactic| walk_at "CompAt") => `(tactic| refine stop_intro ?_)
local macro_rules | `(tactic| walk_at "pyIter ref") => `(tactic| refine stop_intro ?_)
local macro_rules | `(tactic| walk_at "call builtin:list.append") => `(tactic| refine stop_intro ?_)
local macro_rules | `(tactic| walk_at "call builtin:list.pop") => `(tactic| refine stop_intro ?_)
local macro_rules | `(tactic| walk_at "compareOp Eq ref ref") => `(tactic| refine stop_intro ?_)
local macro_rules | `(tactic| walk_at "subscriptTail") => `(tactic| refine stop_intro ?_)
local macro_rules | `(tactic| walk_at "binaryOp Add ref ref") => `(tactic| refine stop_intro ?_)
local macro_rules | `(tactic| walk_at "call ref") => `(tactic| refine stop_intro ?_)

theorem ints_get {vs : List Value} {ns : List Int} (h : IntsAre vs ns) : ∀ {i : Nat} {v : Value}, vs[i]? = some v → ∃ x t, v = .int x t := by
  induction h with
  | nil => intro i v e; cases e
  | cons y t _ ih =>
    intro i v e
    cases i with
    | zero => cases e; exact ⟨y, t, rfl⟩
    | succ i => exact ih e
theorem news_cat {h₀ h : Heap} {L : Addr} {p : Addr × Obj} {l : List (Addr × Obj)} (a : News h₀ L h [p]) (b : News h₀ L h l) : News h₀ L h (p :: l) := fun q hq => (List.mem_cons.mp hq).elim (fun e => a q (e ▸ .head _)) (b q)
theorem news_mid {h₀ h : Heap} {L : Addr} {p r : Addr × Obj} {l : List (Addr × Obj)} (a : News h₀ L h [p]) (b : News h₀ L h (r :: l)) : News h₀ L h (r :: p :: l) := fun q hq => by
  rcases List.mem_cons.mp hq with rfl | hq
  · exact b _ (.head _)
  rcases List.mem_cons.mp hq with rfl | hq
  · exact a _ (.head _)
  · exact b _ (.tail _ hq)
theorem item_open {k : Int} (h0 : 0 ≤ k) (h3 : k < 3) : Txt.item (Str.ofString "([{") k = sgn k.toNat := by
  obtain rfl | rfl | rfl : k = 0 ∨ k = 1 ∨ k = 2 := by omega
  all_goals decide +kernel
theorem item_close {k : Int} (h0 : 0 ≤ k) (h3 : k < 3) : Txt.item (Str.ofString ")]}") k = sgn (k.toNat + 3) := by
  obtain rfl | rfl | rfl : k = 0 ∨ k = 1 ∨ k = 2 := by omega
  all_goals decide +kernel
def closeD : Dat → Dat
  | .int k => .str (sgn (k.toNat + 3))
  | d => d
theorem row_c {w : World} {mean : ExcName → Option Value} {mg mb : Str → Option Value} {s : Shared} {R : Result → Shared → Prop} {l : Addr} {vs : List Value} {ns : List Int}
    (G : Gd w mean mg mb s.heap) (hl : s.heap.IsList l vs.toArray) (hvs : IntsAre vs ns) (hlen : ns.length ≤ 10)
    (hR : ∀ s' r vs' n (pls : List Nat), Ext s s' → s.heap.get? r = none → s'.heap.get? r = some (PySem.W.listOf vs' n) → StrsAre vs'.toList (pls.map sgn) → (∀ i ∈ pls, i < 6) → pls.length ≤ 20 → ns.length ≤ pls.length → R (.ok (.ret (.ref r))) s') :
    codeAny (model PySem.Challenge.rw_pm0012_01.row.prog w) (rm 316 30) (.call (.ref 61) ⟨[.ref l], []⟩) R s := by
  have X := G.X
  have T := G.T
  refine' enterP (binds := [(Str.ofString "row", .ref l)]) G ?k6 ?k7 ?k8 ?k9 ?kB ?c5 ?c2 ?c3 ?c4 ?_
  case k6 => k_is
  case k7 => k_is
  case k8 => decide
  case k9 => exact BindsTo.of_eq rfl
  case kB => exact locs rfl
  case c5 => decide
  case c2 => rfl
  case c3 => rfl
  case c4 => rfl
  intro h₁ F N
  k_steps
  unfold Stop
  refine for_own ?_ (by intro _; rfl)
  k_steps
  rename Fr _ _ _ _ => F₂
  rename News _ _ _ _ => N₂
  rename_i lS _ _ lW _ hSW _ _ _ _ _ _
  unfold Stop
  obtain ⟨ol, hol, hcl⟩ := id hl
  have hne : ∀ q ∈ [(lW, PySem.W.listOf #[] 0), (lS, PySem.W.listOf #[] 0)], q.1 ≠ l := fun q hq e => by
    have := (N₂ q (.tail _ hq)).2.2
    rw [e, hol] at this; cases this
  have hSW' : lS ≠ lW := Nat.ne_of_lt hSW
  have hvl := hvs.length
  refine for_list (G₀ := s.gens) (news := [(lW, PySem.W.listOf #[] 0), (lS, PySem.W.listOf #[] 0)]) (fun i m nx => m (Str.ofString "signs") = some (.ref lS) ∧ m (Str.ofString "waiting") = some (.ref lW) ∧ ∃ wa kw sa ks, ∃ ws : List Int, ∃ pls : List Nat, nx = [(lW, PySem.W.listOf wa kw), (lS, PySem.W.listOf sa ks)] ∧
      IntsAre wa.toList ws ∧ (∀ k ∈ ws, 0 ≤ k ∧ k < 3) ∧ ws.length ≤ i ∧ StrsAre sa.toList (pls.map sgn) ∧ (∀ k ∈ pls, k < 6) ∧ pls.length = i)
    rfl (hl.at fun o e => F₂.keep l o e) rfl rfl (Nat.ne_of_lt (Heap.lt_size hol)) hne F₂ (fun q hq => N₂ q (.tail _ hq)) ⟨rfl, rfl, _, _, _, _, [], [], rfl, .nil, (fun _ h => nomatch h), Nat.le_refl _, .nil, (fun _ h => nomatch h), rfl⟩ (.refl _) ?_ ?_
  · rintro i v m₁ nx h₅ tk₅ gs₅ own hiv hadr hoff ⟨hm1, hm2, wa, kw, sa, ks, ws, pls, rfl, hws, hwk, hwl, hsa, hpl, hpn⟩ hGB F₅ N₅
    obtain ⟨x, tx, rfl⟩ := ints_get hvs (by simpa using hiv)
    have F₆ := (fr_pin (y := Str.ofString "waiting") (fr_pin (y := Str.ofString "signs") F₅ ((if_neg (by decide)).trans hm1)) ((if_neg (by decide)).trans hm2))
    have hil : i < ns.length := by
      have := (List.getElem?_eq_some_iff.mp (by simpa using hiv : vs[i]? = some _)).1
      omega
    clear F₅
    have hk0 := fmod_lo (x.fdiv 4) (n := 3) (by decide)
    have hk3 := fmod_hi (x.fdiv 4) (n := 3) (by decide)
    have hwz : wa.size ≤ sizeLine := by have := hws.length; rw [sizeLine_eq]; simp at this; omega
    have hsz : sa.size ≤ sizeLine := by have := hsa.len_eq; rw [sizeLine_eq]; simp at this; omega
    k_steps
    · generalize (x.fdiv 4).fmod 3 = kk at *
      rename Fr _ _ _ _ => F₇
      rename News _ _ _ _ => N₇
      simp only [List.cons_append, List.nil_append] at N₇
      unfold Stop
      refine append_own F₇ N₇ (.head _) hwz fun h₈ F₈ N₈ Ns => ?_
      have N₉ := news_cat N₈ (Ns ((lS, PySem.W.listOf sa ks) :: own) (by
        intro q hq
        rcases List.mem_cons.mp hq with rfl | hq
        · exact ⟨.tail _ (.head _), hSW'⟩
        · exact ⟨.tail _ (.tail _ hq), hoff q hq _ (.head _)⟩))
      clear Ns N₈ N₇ F₇
      k_steps
      unfold Stop
      refine KXi.item (n := 3) (by decide +kernel) (by omega) (by omega) (by decide) fun _ => ?_
      rw [item_open hk0 hk3]
      k_steps
      rename Fr _ _ _ _ => F₁₀
      rename News _ _ _ _ => N₁₀
      unfold Stop
      refine append_own F₁₀ N₁₀ (.tail _ (.head _)) hsz fun h₁₁ F₁₁ N₁₁ Ns => ?_
      have N₁₂ := news_mid N₁₁ (Ns ((lW, _) :: own) (by
        intro q hq
        rcases List.mem_cons.mp hq with rfl | hq
        · exact ⟨.head _, Ne.symm hSW'⟩
        · exact ⟨.tail _ (.tail _ hq), hoff q hq _ (.tail _ (.head _))⟩))
      clear Ns N₁₁ N₁₀ F₁₀
      k_steps
      refine' turn_end (gs := gs₅) (nx := [(lW, _), (lS, _)]) ?EA F₁₁ N₁₂ rfl ?JA hGB
      case EA => rfl
      refine ⟨rfl, rfl, _, _, _, _, ws ++ [kk], pls ++ [kk.toNat], rfl, ?_, ?_, ?_, ?_, ?_, ?_⟩
      · rw [Array.toList_push]; exact hws.append (.cons _ _ .nil)
      · intro z hz
        rcases List.mem_append.mp hz with hz | hz
        · exact hwk z hz
        · rw [List.mem_singleton.mp hz]; exact ⟨hk0, hk3⟩
      · rw [List.length_append]; exact Nat.succ_le_succ hwl
      · rw [List.map_append]; exact strsAre_push hsa _ _
      · intro z hz
        rcases List.mem_append.mp hz with hz | hz
        · exact hpl z hz
        · rw [List.mem_singleton.mp hz]; omega
      · rw [List.length_append]; exact congrArg Nat.succ hpn
    · rename Fr _ _ _ _ => F₇
      rename News _ _ _ _ => N₇
      simp only [List.cons_append, List.nil_append] at N₇
      unfold Stop
      have hW : ListH _ lW (ws.map Dat.int) := ListH.of_news' (n' := []) (vs := wa.toList) (k := kw) N₇ (.tail _ (.head _)) (fun _ h => nomatch h) (ints_datAll hws)
      have hE : ListH _ _ ([] : List Dat) := ListH.of_news' (n' := []) (vs := []) (k := 0) N₇ (.head _) (fun _ h => nomatch h) .nil
      have hWok : ∀ d ∈ ws.map Dat.int, kqdOk 8 d = true := fun d hd => by obtain ⟨z, _, rfl⟩ := List.mem_map.mp hd; rfl
      have N₈ : News s.heap s.heap.objs.size _ ((lW, PySem.W.listOf wa kw) :: (lS, PySem.W.listOf sa ks) :: own) := fun q hq => N₇ q (.tail _ hq)
      clear N₇
      cases hwe : ws with
      | nil =>
        refine eq_h hW hE hWok (fun _ h => nomatch h) (Nat.le_of_ble_eq_true rfl) (r := true) ⟨fun _ => by rw [hwe]; rfl, fun _ => rfl⟩ ?_
        clear hW hE
        generalize (x.fdiv 4).fmod 3 = kk at *
        k_steps
        rename Fr _ _ _ _ => F₇
        rename News _ _ _ _ => N₇
        unfold Stop
        refine append_own F₇ N₇ (.head _) hwz fun h₈ F₈ N₈ Ns => ?_
        have N₉ := news_cat N₈ (Ns ((lS, PySem.W.listOf sa ks) :: own) (by
          intro q hq
          rcases List.mem_cons.mp hq with rfl | hq
          · exact ⟨.tail _ (.head _), hSW'⟩
          · exact ⟨.tail _ (.tail _ hq), hoff q hq _ (.head _)⟩))
        clear Ns N₈ N₇ F₇
        k_steps
        unfold Stop
        refine KXi.item (n := 3) (by decide +kernel) (by omega) (by omega) (by decide) fun _ => ?_
        rw [item_open hk0 hk3]
        k_steps
        rename Fr _ _ _ _ => F₁₀
        rename News _ _ _ _ => N₁₀
        unfold Stop
        refine append_own F₁₀ N₁₀ (.tail _ (.head _)) hsz fun h₁₁ F₁₁ N₁₁ Ns => ?_
        have N₁₂ := news_mid N₁₁ (Ns ((lW, _) :: own) (by
          intro q hq
          rcases List.mem_cons.mp hq with rfl | hq
          · exact ⟨.head _, Ne.symm hSW'⟩
          · exact ⟨.tail _ (.tail _ hq), hoff q hq _ (.tail _ (.head _))⟩))
        clear Ns N₁₁ N₁₀ F₁₀
        k_steps
        refine' turn_end (gs := gs₅) (nx := [(lW, _), (lS, _)]) ?EB F₁₁ N₁₂ rfl ?JB hGB
        case EB => rfl
        refine ⟨rfl, rfl, _, _, _, _, ws ++ [kk], pls ++ [kk.toNat], rfl, ?_, ?_, ?_, ?_, ?_, ?_⟩
        · rw [Array.toList_push]; exact hws.append (.cons _ _ .nil)
        · intro z hz
          rcases List.mem_append.mp hz with hz | hz
          · exact hwk z hz
          · rw [List.mem_singleton.mp hz]; exact ⟨hk0, hk3⟩
        · rw [List.length_append]; exact Nat.succ_le_succ hwl
        · rw [List.map_append]; exact strsAre_push hsa _ _
        · intro z hz
          rcases List.mem_append.mp hz with hz | hz
          · exact hpl z hz
          · rw [List.mem_singleton.mp hz]; omega
        · rw [List.length_append]; exact congrArg Nat.succ hpn
      | cons w₀ wt =>
        refine eq_h hW hE hWok (fun _ h => nomatch h) (Nat.le_of_ble_eq_true rfl) (r := false) ⟨fun h => by (cases h), fun h => by rw [hwe] at h; cases h⟩ ?_
        clear hW hE
        obtain ⟨us, rfl⟩ : ∃ us : List Value, wa = us.toArray := ⟨wa.toList, by simp⟩
        rw [hwe] at hws hwk hwl
        replace hws : IntsAre us (w₀ :: wt) := by simpa using hws
        have hul : us.length = wt.length + 1 := by simpa using hws.length
        k_steps
        unfold Stop
        rename Fr _ _ _ _ => F₇
        rename News _ _ _ _ => N₇
        refine kpa_pop F₇ N₇ (.head fun q hq => ?_) hws (by omega) (by rw [sizeLine_eq]; simp at hwl; omega) fun h₈ t₈ F₈ N₉ hdl => ?_
        · rcases List.mem_cons.mp hq with rfl | hq
          · exact hSW'
          · exact hoff q hq _ (.head _)
        clear N₇ F₇
        have hr : 0 ≤ (w₀ :: wt).getLastD 0 ∧ (w₀ :: wt).getLastD 0 < 3 := by
          have : (w₀ :: wt).getLastD 0 ∈ w₀ :: wt := by rw [List.getLastD_eq_getLast?, List.getLast?_eq_some_getLast (by simp)]; exact List.getLast_mem _
          exact hwk _ this
        generalize (w₀ :: wt).getLastD 0 = rr at *
        obtain ⟨hr0, hr3⟩ := hr
        generalize (x.fdiv 4).fmod 3 = kk at *
        k_steps
        · unfold Stop
          refine KXi.item (n := 3) (by decide +kernel) (by omega) (by omega) (by decide) fun _ => ?_
          rw [item_close hr0 hr3]
          k_steps
          rename Fr _ _ _ _ => F₁₀
          rename News _ _ _ _ => N₁₀
          unfold Stop
          refine append_own F₁₀ N₁₀ (.tail _ (.head _)) hsz fun h₁₁ F₁₁ N₁₁ Ns => ?_
          have N₁₂ := news_mid N₁₁ (Ns ((lW, _) :: own) (by
            intro q hq
            rcases List.mem_cons.mp hq with rfl | hq
            · exact ⟨.head _, Ne.symm hSW'⟩
            · exact ⟨.tail _ (.tail _ hq), hoff q hq _ (.tail _ (.head _))⟩))
          clear Ns N₁₁ N₁₀ F₁₀
          k_steps
          refine' turn_end (gs := gs₅) (nx := [(lW, _), (lS, _)]) ?EC F₁₁ N₁₂ rfl ?JC hGB
          case EC => rfl
          refine ⟨rfl, rfl, _, _, _, _, (w₀ :: wt).dropLast, pls ++ [rr.toNat + 3], rfl, ?_, ?_, ?_, ?_, ?_, ?_⟩
          · simpa using hdl
          · intro z hz
            exact hwk z (List.dropLast_subset _ hz)
          · rw [List.length_dropLast]; omega
          · rw [List.map_append]; exact strsAre_push hsa _ _
          · intro z hz
            rcases List.mem_append.mp hz with hz | hz
            · exact hpl z hz
            · rw [List.mem_singleton.mp hz]; omega
          · rw [List.length_append]; exact congrArg Nat.succ hpn
        · unfold Stop
          refine KXi.item (n := 3) (by decide +kernel) (by omega) (by omega) (by decide) fun _ => ?_
          rw [item_close hk0 hk3]
          k_steps
          rename Fr _ _ _ _ => F₁₀
          rename News _ _ _ _ => N₁₀
          unfold Stop
          refine append_own F₁₀ N₁₀ (.tail _ (.head _)) hsz fun h₁₁ F₁₁ N₁₁ Ns => ?_
          have N₁₂ := news_mid N₁₁ (Ns ((lW, _) :: own) (by
            intro q hq
            rcases List.mem_cons.mp hq with rfl | hq
            · exact ⟨.head _, Ne.symm hSW'⟩
            · exact ⟨.tail _ (.tail _ hq), hoff q hq _ (.tail _ (.head _))⟩))
          clear Ns N₁₁ N₁₀ F₁₀
          k_steps
          refine' turn_end (gs := gs₅) (nx := [(lW, _), (lS, _)]) ?ED F₁₁ N₁₂ rfl ?JD hGB
          case ED => rfl
          refine ⟨rfl, rfl, _, _, _, _, (w₀ :: wt).dropLast, pls ++ [kk.toNat + 3], rfl, ?_, ?_, ?_, ?_, ?_, ?_⟩
          · simpa using hdl
          · intro z hz
            exact hwk z (List.dropLast_subset _ hz)
          · rw [List.length_dropLast]; omega
          · rw [List.map_append]; exact strsAre_push hsa _ _
          · intro z hz
            rcases List.mem_append.mp hz with hz | hz
            · exact hpl z hz
            · rw [List.mem_singleton.mp hz]; omega
          · rw [List.length_append]; exact congrArg Nat.succ hpn
  · rintro m₁ nx h₅ tk₅ gs₅ ⟨hm1, hm2, wa, kw, sa, ks, ws, pls, rfl, hws, hwk, hwl, hsa, hpl, hpn⟩ hadr hGB F₅ N₅ _
    have F₆ := fr_pin (y := Str.ofString "waiting") (fr_pin (y := Str.ofString "signs") F₅ hm1) hm2
    clear F₅
    k_steps
    unfold Stop
    refine comp_eval (by with_unfolding_all rfl) rfl (by decide) ?_
    k_steps
    rename Fr _ _ _ _ => F₇
    rename News _ _ _ _ => N₇
    rename IntsAre _ ws.reverse => hrev
    rw [List.size_toArray, hvl] at hwl hpn
    unfold Stop
    refine comp_list (base := []) rfl (News.isList N₇ (.head _)) (ints_datAll (n := []) hrev) (by simp; omega) (fun _ => true) closeD (by decide) rfl rfl F₇ N₇ (fun C v d s₃ m₃ rest hd hv hx F₅ N₅ ho hdr hg => wpAny_tests_nil (.same F₅ N₅)) (fun C v d s₃ m₃ rest hd _ hv hx F₅ N₅ ho hdr hg => ?_) ?_
    · obtain ⟨k, hk, rfl⟩ := List.mem_map.mp hd
      have hk' := hwk k (List.mem_reverse.mp hk)
      cases hv with
      | int _ tv =>
        have F₈ := fr_pin (y := Str.ofString "kind") F₅ hx
        have N₈ := N₅
        simp only [List.cons_append, List.nil_append] at N₈
        clear F₅
        k_steps
        all_goals try first | exact (0 : Addr) | exact Value.none | exact Str.ofString "" | exact ([] : List (Str × Addr))
        unfold Stop
        refine KXi.item (n := 3) (by decide +kernel) (by omega) (by omega) (by decide) fun _ => ?_
        rw [item_close hk'.1 hk'.2]
        k_steps
        unfold Stop
        exact EltEnd.mk0 (fr_unpin F₈ hx) N₅ (.str _ _) (.refl _)
    · intro D C h tk gs m' ys obs F₈ N₈ hn' hCL hC₀ hoff2 hD hO hdat hgA
      refine comp_fin_eval F₈ N₈ hn' hCL hC₀ hoff2 fun h₉ F₉ N₉ => ?_
      have hys : StrsAre ys ((ws.reverse.map fun k => k.toNat + 3).map sgn) := datAll_strs (by
        rw [List.filter_eq_self.mpr (fun _ _ => rfl), List.map_map] at hdat
        rw [List.map_map, List.map_map]
        exact hdat)
      have hyl := hys.len_eq
      have hsl := hsa.len_eq
      k_steps
      unfold Stop
      refine add_lists (vs := sa.toList) (ws := ys) F₉ N₉ ?_ (News.isList N₉ (.head _)) (fun h₁₀ F₁₀ N₁₀ => ?_) (by rw [sizeLine_eq]; simp at hyl hsl ⊢; omega)
      · have z := News.isList N₉ (a := lS) (items := sa) (n := ks) (.tail _ (List.mem_append_right _ (.tail _ (.tail _ (.head _)))))
        simpa using z
      k_steps
      refine hR _ _ _ _ (pls ++ ws.reverse.map fun k => k.toNat + 3) (Ext.of F₁₀ rfl (hGB.trans hgA) rfl) (N₁₀ _ (.head _)).2.2 (N₁₀ _ (.head _)).1 ?_ ?_ ?_ ?_
      · rw [List.map_append]
        exact StrsAre.append' hsa hys
      · intro z hz
        rcases List.mem_append.mp hz with hz | hz
        · exact hpl z hz
        · obtain ⟨k, hk, rfl⟩ := List.mem_map.mp hz
          have := hwk k (List.mem_reverse.mp hk)
          omega
      · simp; omega
      · simp; omega
end Mine
end
section
set_option maxHeartbeats 2000000
open PySem PySem.W PyProof.Rows PySem.Calls PySem.Spec
namespace Mine
local macro_rules | `(tactic| walk_at "JoinEnd") => `(tactic| refine stop_intro ?_)
local macro_rules | `(tactic| walk_at "exec For Name Call cons nil") => `(tactic| refine stop_intro ?_)
local macro_rules | `(tactic| walk_at "pyIter ref") => `(tactic| refine stop_intro ?_)
local macro_rules | `(tactic| walk_at "subscriptTail") => `(tactic| refine stop_intro ?_)
local macro_rules | `(tactic| walk_at "binaryOp Add ref ref") => `(tactic| refine stop_intro ?_)
local macro_rules | `(tactic| walk_at "call builtin:str.join") => `(tactic| refine stop_intro ?_)
local macro_rules | `(tactic| walk_at "call builtin:str.split") => `(tactic| refine stop_intro ?_)
local macro_rules | `(tactic| walk_at "call ref") => `(tactic| refine stop_intro ?_)

def dressD (k j : Int) : Str × Str := if k = 3 then (Str.ofString "(", Str.ofString ")") else if (j - k) % 3 = 0 then (Str.ofString "//(", Str.ofString "//)") else if (j - k) % 3 = 1 then (Str.ofString "/(", Str.ofString "/)") else (Str.ofString "'/'('", Str.ofString "')/''")
def pairsTo (k : Int) (i : Nat) : List Str := (List.range i).flatMap fun j => [sgn j, (dressD k j).1, sgn (j + 3), (dressD k j).2]
theorem pairsF_to (k : Int) : pairsF k = pairsTo k 3 ++ [Str.ofString "/", Str.ofString "\\", Str.ofString "'", Str.ofString "\""] := rfl
theorem pairsTo_succ (k : Int) (i : Nat) : pairsTo k (i + 1) = pairsTo k i ++ [sgn i, (dressD k i).1, sgn (i + 3), (dressD k i).2] := by
  unfold pairsTo
  rw [List.range_succ, List.flatMap_append]
  simp

theorem pairsTo_len (k : Int) : ∀ i, (pairsTo k i).length = 4 * i
  | 0 => rfl
  | i + 1 => by rw [pairsTo_succ, List.length_append, pairsTo_len k i]; simp; omega

theorem sgn_len : ∀ i : Nat, (sgn i).length = 1 := by
  intro i
  rcases i with _ | _ | _ | _ | _ | i <;> (show (Str.ofString _).length = 1; decide +kernel)
theorem sgn_sum {pls : List Nat} (h : ∀ i ∈ pls, i < 6) : ((pls.map sgn).map (·.length)).sum = pls.length := by
  induction pls with
  | nil => rfl
  | cons a r ih => simp only [List.map_cons, List.sum_cons, List.length_cons, sgn_len, ih (fun i hi => h i (.tail _ hi))]; omega

/-- a statement that runs on, and what holds behind it -/
def JoinEnd (P : Shared → Prop) (f : Flow) (s' : Shared) : Prop := f = .next ∧ P s'
theorem if_join {M : Model} {A : Around} {st : Stmt} {rest : List Stmt} {env : Env} {Q : Flow → Shared → Prop} {s : Shared} (P : Shared → Prop) (h1 : wpAny M A (exec st env) (JoinEnd P) (fun _ _ => False) s) (h2 : ∀ s', P s' → wpAny M A (execs rest env) Q (fun _ _ => False) s') :
    wpAny M A (execs (st :: rest) env) Q (fun _ _ => False) s := wpAny_execs_cons (wpAny_mono h1 (fun f s' h => by
      obtain ⟨rfl, hp⟩ := h
      exact h2 s' hp) fun _ _ x => x)
theorem dressed_c {w : World} {mean : ExcName → Option Value} {mg mb : Str → Option Value} : DressC w mean mg mb := by
  intro s R l pls k t G hS hpl hlen hk0 hk3 hro hrl hR
  have X := G.X
  have T := G.T
  refine' enterP (binds := [(Str.ofString "signs", .ref l), (Str.ofString "live", .int k t)]) G ?k6 ?k7 ?k8 ?k9 ?kB ?c5 ?c2 ?c3 ?c4 ?_
  case k6 => k_is
  case k7 => k_is
  case k8 => decide
  case k9 => exact BindsTo.of_eq rfl
  case kB => exact locs rfl
  case c5 => decide
  case c2 => rfl
  case c3 => rfl
  case c4 => rfl
  intro h₁ F N
  k_steps
  unfold Stop
  refine for_own ?_ (by intro _; rfl)
  k_steps
  rename IsRange _ _ _ _ _ _ _ _ => hr₃
  rename Fr _ _ _ _ => F₃
  rename News _ _ _ _ => N₃
  unfold Stop
  refine for_rangeL (n := 3) (G₀ := s.gens) (fun i m nx => m (Str.ofString "signs") = some (.ref l) ∧ m (Str.ofString "live") = some (.int k t) ∧ ∃ P pv pk, m (Str.ofString "pairs") = some (.ref P) ∧ nx = [(P, PySem.W.listOf pv pk)] ∧ StrsAre pv.toList (pairsTo k i))
    rfl hr₃ (by decide) (by rfl) (by rfl) F₃ N₃ (fun p hp => by rw [List.mem_singleton.mp hp]) ⟨rfl, rfl, _, _, _, rfl, rfl, .nil⟩ (.refl _) ?_ ?_
  · rintro i tv m₁ nx h₅ tk₅ gs₅ I oI hi ⟨hm1, hm2, P, pv, pk, hm3, rfl, hpv⟩ hGB F₅ N₅
    have F₆ := fr_pin (y := Str.ofString "signs") (fr_pin (y := Str.ofString "live") (fr_pin (y := Str.ofString "pairs") F₅ ((if_neg (by decide)).trans hm3)) ((if_neg (by decide)).trans hm2)) ((if_neg (by decide)).trans hm1)
    clear F₅ F₃ N₃
    simp only [List.cons_append, List.nil_append] at N₅
    refine if_join (fun s' => ∃ h₇ tk₇ TD t1 t2, s' = { s with heap := h₇, toks := tk₇, gens := gs₅ } ∧ Fr s.heap s.heap.objs.size h₇ (fun z => if z = Str.ofString "dress" then some (.ref TD) else if z = Str.ofString "signs" then some (.ref l) else if z = Str.ofString "live" then some (.int k t) else if z = Str.ofString "pairs" then some (.ref P) else (fun y => if y = Str.ofString "kind" then some (.int (i : Int) tv) else m₁ y) z) ∧
      News s.heap s.heap.objs.size h₇ ((TD, ({ cls := .type "tuple", data := .seq #[.str (dressD k i).1 t1, .str (dressD k i).2 t2] } : Obj)) :: (P, PySem.W.listOf pv pk) :: [(I, oI)])) ?_ ?_
    · k_steps
      · have hd : dressD k i = (Str.ofString "(", Str.ofString ")") := if_pos (by omega)
        k_steps
        rename Fr _ _ _ _ => FA
        rename News _ _ _ _ => NA
        unfold Stop
        exact ⟨rfl, _, _, _, _, _, rfl, FA, by rw [hd]; exact NA⟩
      · rename News _ _ _ _ => NZ
        unfold Stop
        have hf : Int.fmod ((i : Int) - k) 3 = ((i : Int) - k) % 3 := Int.fmod_eq_emod_of_nonneg _ (by decide)
        have hk3' : ¬ k = 3 := by omega
        rw [hf]
        obtain h3 | h3 | h3 : ((i : Int) - k) % 3 = 0 ∨ ((i : Int) - k) % 3 = 1 ∨ ((i : Int) - k) % 3 = 2 := by omega
        · have hd : dressD k i = (Str.ofString "//(", Str.ofString "//)") := (if_neg hk3').trans (if_pos h3)
          rw [h3]
          refine item_tupleT (j := 0) (News.isTup NZ (.head _)) (by decide) (by decide) (seqIx rfl (by simp)) rfl ?_
          k_steps
          rename Fr _ _ _ _ => FA
          rename News _ _ _ _ => NA
          unfold Stop
          exact ⟨rfl, _, _, _, _, _, rfl, FA, by rw [hd]; exact picksN NA (dropN 4 NA) [3]⟩
        · have hd : dressD k i = (Str.ofString "/(", Str.ofString "/)") := (if_neg hk3').trans ((if_neg (by omega)).trans (if_pos h3))
          rw [h3]
          refine item_tupleT (j := 1) (News.isTup NZ (.head _)) (by decide) (by decide) (seqIx rfl (by simp)) rfl ?_
          k_steps
          rename Fr _ _ _ _ => FA
          rename News _ _ _ _ => NA
          unfold Stop
          exact ⟨rfl, _, _, _, _, _, rfl, FA, by rw [hd]; exact picksN NA (dropN 4 NA) [2]⟩
        · have hd : dressD k i = (Str.ofString "'/'('", Str.ofString "')/''") := (if_neg hk3').trans ((if_neg (by omega)).trans (if_neg (by omega)))
          rw [h3]
          refine item_tupleT (j := 2) (News.isTup NZ (.head _)) (by decide) (by decide) (seqIx rfl (by simp)) rfl ?_
          k_steps
          rename Fr _ _ _ _ => FA
          rename News _ _ _ _ => NA
          unfold Stop
          exact ⟨rfl, _, _, _, _, _, rfl, FA, by rw [hd]; exact picksN NA (dropN 4 NA) [1]⟩
    · rintro _ ⟨h₇, tk₇, TD, t1, t2, rfl, F₇, NA⟩
      clear F₆ N₅
      k_steps
      unfold Stop
      refine KXi.item (n := 3) (by decide +kernel) (by omega) (by omega) (by decide) fun _ => ?_
      rw [item_open (by omega) (by omega)]
      k_steps
      unfold Stop
      refine item_tupleL (j := 0) (News.isTup NA (.head _)) (by decide) (by decide) (seqIx rfl (by simp)) rfl ?_
      k_steps
      unfold Stop
      refine KXi.item (n := 3) (by decide +kernel) (by omega) (by omega) (by decide) fun _ => ?_
      rw [item_close (by omega) (by omega)]
      k_steps
      unfold Stop
      refine item_tupleL (j := 1) (News.isTup NA (.head _)) (by decide) (by decide) (seqIx rfl (by simp)) rfl ?_
      k_steps
      rename Fr _ _ _ _ => FB
      rename News _ _ _ _ => NB
      unfold Stop
      refine add_lists (vs := pv.toList) FB NB ?_ (News.isList NB (.head _)) (fun h₁₀ F₁₀ N₁₀ => ?_) (by have := hpv.len_eq; rw [sizeLine_eq]; simp [pairsTo_len] at this ⊢; omega)
      · exact ⟨_, (NB (P, PySem.W.listOf pv pk) (by simp)).1, rfl, pk, by simp⟩
      clear FB NB
      k_steps
      rename Fr _ _ _ _ => FC
      rename News _ _ _ _ => NC
      refine' turnL_end (gs := gs₅) (nx := [(_, _)]) ?EA FC (fun p hp => NC p ?NA) ?CA ?JA hGB
      case EA => rfl
      case NA =>
        rcases List.mem_cons.mp hp with rfl | hp
        · exact .head _
        · rw [List.mem_singleton.mp hp]; simp
      case CA => intro p hp; rw [List.mem_singleton.mp hp]
      refine ⟨rfl, rfl, _, _, _, rfl, rfl, ?_⟩
      rw [pairsTo_succ]
      rw [show ((i : Int)).toNat = i from Int.toNat_natCast i]
      exact hpv.append' (.cons _ _ (.cons _ _ (.cons _ _ (.cons _ _ .nil))))
  · rintro m₁ nx h₅ tk₅ gs₅ ⟨hm1, hm2, P, pv, pk, hm3, rfl, hpv⟩ hGB F₅ N₅
    have F₆ := fr_pin (y := Str.ofString "signs") (fr_pin (y := Str.ofString "pairs") F₅ hm3) hm1
    clear F₅ F₃ N₃
    k_steps
    rename Fr _ _ _ _ => FB
    rename News _ _ _ _ => NB
    unfold Stop
    refine add_lists (vs := pv.toList) FB NB ?_ (News.isList NB (.head _)) (fun h₁₀ F₁₀ N₁₀ => ?_) (by have := hpv.len_eq; rw [sizeLine_eq]; simp [pairsTo_len] at this ⊢; omega)
    · exact ⟨_, (NB (P, PySem.W.listOf pv pk) (by simp)).1, rfl, pk, by simp⟩
    clear FB NB
    k_steps
    unfold Stop
    obtain ⟨nS, vS, hnS, hlS, hdS⟩ := hS.isList
    have hstS : StrsAre vS (pls.map sgn) := datAll_strs hdS
    rename Fr _ _ _ _ => FD
    rename News _ _ _ _ => ND
    have hsum : ((pls.map sgn).map (·.length)).sum = pls.length := sgn_sum hpl
    have hbar : (Str.ofString "|").length = 1 := by decide +kernel
    refine join_list (hlS.at fun o e => FD.keep l o e) hstS (by rw [hsum, hbar, List.length_map]; omega) fun t₁₁ k₁₁ => ?_
    k_steps
    rename Fr _ _ _ _ => FE
    rename News _ _ _ _ => NE
    refine star_seq FE NE (.head _) rfl rfl (.inl rfl) rfl (by have := hpv.len_eq; rw [sizeLine_eq]; simp [pairsTo_len] at this ⊢; omega) (fun h₁₂ F₁₂ N₁₂ => ?_)
    clear FE NE
    k_steps
    unfold Stop
    have hps : ∀ a b c d : Tok, StrsAre (pv.toList ++ [Value.str (Str.ofString "/") a, Value.str (Str.ofString "\\") b, Value.str (Str.ofString "'") c, Value.str (Str.ofString "\"") d]) (pairsF k) := fun a b c d => pairsF_to k ▸ hpv.append' (.cons _ a (.cons _ b (.cons _ c (.cons _ d .nil))))
    have hpl16 : ∀ a b c d : Tok, (pv.toList ++ [Value.str (Str.ofString "/") a, Value.str (Str.ofString "\\") b, Value.str (Str.ofString "'") c, Value.str (Str.ofString "\"") d]).length ≤ 1000 := fun a b c d => by have := hpv.len_eq; rw [pairsTo_len] at this; simp at this ⊢; omega
    have ej : Txt.join (Str.ofString "|") (pls.map sgn) = Str.join (Str.ofString "|") (pls.map sgn) := by
      show Builtin.Str.glued _ _ = _
      rw [StrLaws.glued_eq_join]
    rw [ej]
    simp only [List.append_nil]
    refine wpAny_call (code_rm rfl (Nat.le_of_ble_eq_true rfl) (Nat.le_of_ble_eq_true rfl) (replace_c (prs := pairsF k) (G.keeps F₁₂.keep) (hps _ _ _ _) (hpl16 _ _ _ _) hro fun s₁₃ t₁₃ e₁₃ => ?_))
    have F₁₃ := e₁₃.fr F₁₂
    have N₁₃ := e₁₃.news N₁₂
    have hos : s₁₃.os = s.os := e₁₃.os
    have hdr : s₁₃.drawn = s.drawn := e₁₃.drawn
    have hG₁₃ := hGB.trans e₁₃.gens
    dsimp only
    clear F₁₂ N₁₂
    k_steps
    unfold Stop
    refine splitN1A F₁₃ N₁₃ (by decide +kernel) (fun ls h₁₄ k₁₄ hls hsl _ _ F₁₄ N₁₄ => ?_) (by rw [sizeLine_eq]; omega)
    k_steps
    refine hR _ _ (strValues ls).toArray 0 (Ext.of F₁₄ hos hG₁₃ hdr) (N₁₄ _ (.head _)).2.2 (N₁₄ _ (.head _)).1 ?_
    have e : ls.map (·.1) = dressF pls k := hls
    rw [← e]
    exact hsl
end Mine
end
section
set_option maxHeartbeats 2000000
open PySem PySem.W PyProof.Rows PySem.Calls PySem.Spec
namespace Mine
/-- what the law leaves -/
def TrueEnd (s₁ : Shared) (tabs : List (Addr × Addr)) (r : Result) (s' : Shared) : Prop :=
  r = .ok (.ret (.bool true)) ∧ (∀ b o, (ghostOf s₁.heap tabs).get? b = some o → s'.heap.get? b = some o) ∧ s'.os = s₁.os ∧ GB s₁.gens s'.gens ∧ GrownAll tabs s'.heap
theorem post_true {M : Model} {A : Around} {cd : Code} {s s₁ : Shared} {cw : ClaimW} {cl : Str → Option Addr} {mean : ExcName → Option Value} {args : List WData} {tabs : List (Addr × Addr)} (hT : TabsAt tabs s₁.heap) (hr : ∀ a x, cw.raises a x = false)
    (hp : cw.post args (ofPy (.bool true)) args = true) (hg : s₁.gens = #[])
    (h : codeAny M A cd (TrueEnd s₁ tabs) s) : codeAny M A cd (GoodWG cw cl mean args s₁) s :=
  codeAny_mono h fun r s' ⟨hc, hk, hos, hgn, hgr⟩ => by
    have keep : ∀ b o, b ∉ tabs.map (·.2) → s₁.heap.get? b = some o → s'.heap.get? b = some o := fun b o hb e => hk b o (ghost_ne e hb)
    have grown : ∀ b o, b ∈ tabs.map (·.2) → s₁.heap.get? b = some o → isCodeTable s₁.heap b ∧ o = tabObj #[] ∧ ∃ ps, s'.heap.get? b = some (tabObj ps) := fun b o hb e => by
      obtain ⟨q, hq, rfl⟩ := List.mem_map.mp hb
      have e2 := (hT q hq).2
      rw [e] at e2
      exact ⟨((hT q hq).1.tab (hT q hq).2).isCodeTable, Option.some.inj e2, hgr.get q hq⟩
    refine ⟨.inl ⟨.bool true, ofPy (.bool true), [], hc, fun x => hr _ x, ?_, hp, fun _ => ⟨List.nodup_nil, fun a ha => nomatch ha⟩⟩, ⟨fun b o e => ?_, fun b o e => ?_⟩, hos, ?_⟩
    · exact .bool true
    · by_cases hb : b ∈ tabs.map (·.2)
      · obtain ⟨ht, rfl, ps, hP⟩ := grown b o hb e
        exact .inr (.inl ⟨ht, rfl, #[], ps, rfl, by rw [Array.empty_append]; exact hP⟩)
      · exact .inl (keep b o hb e)
    · by_cases hb : b ∈ tabs.map (·.2)
      · obtain ⟨_, _, ps, hP⟩ := grown b o hb e
        exact ⟨_, hP⟩
      · exact ⟨o, keep b o hb e⟩
    · obtain ⟨more, e, hm⟩ := hgn
      rw [e, hg, Array.empty_append]; exact hm
end Mine
end
section
set_option maxHeartbeats 2000000
open PySem PySem.W PyProof.Rows PySem.Calls PySem.Spec
namespace Mine
theorem compTurn_list1of2 (elt t0 i0 target iter : Expr) (ifs : List Expr) (scope : Scope) (pos : Pos) (it acc : Value) (env : Env) :
    compTurn (.ListComp elt [⟨t0, i0, [], 0⟩, ⟨target, iter, ifs, 0⟩] scope pos) 1 it acc env = (do
      standAt iter.pos
      match ← pyNext it with
      | none => pure (.done .next)
      | some v =>
        letOwnedTupleGo target it v
        assign target env v
        let mut ok := true
        for c in ifs do
          if ok then ok ← isTrue c env (eval c env)
        if ok then
          (do let _ ← call (.builtin "list.append") [acc, ← eval elt env])
        again (.compLoop (.ListComp elt [⟨t0, i0, [], 0⟩, ⟨target, iter, ifs, 0⟩] scope pos) 1 it acc env)) := by rfl
theorem compTurn_list0of2 (elt t0 i0 target iter : Expr) (ifs : List Expr) (scope : Scope) (pos : Pos) (it acc : Value) (env : Env) :
    compTurn (.ListComp elt [⟨t0, i0, [], 0⟩, ⟨target, iter, ifs, 0⟩] scope pos) 0 it acc env = (do
      standAt i0.pos
      match ← pyNext it with
      | none => pure (.done .next)
      | some v =>
        letOwnedTupleGo t0 it v
        assign t0 env v
        let mut ok := true
        for c in ([] : List Expr) do
          if ok then ok ← isTrue c env (eval c env)
        if ok then
          let x ← eval iter env
          standAt iter.pos
          let x ← if (0 : Nat) != 0 then foldedIterable iter x else foldedSetIterable iter env x
          let _ ← runOwn (.compStart (.ListComp elt [⟨t0, i0, [], 0⟩, ⟨target, iter, ifs, 0⟩] scope pos) 1 (← holding [x] (if (0 : Nat) != 0 then asyncIter x else pyIter x)) acc env) env
        again (.compLoop (.ListComp elt [⟨t0, i0, [], 0⟩, ⟨target, iter, ifs, 0⟩] scope pos) 0 it acc env)) := by rfl
section
variable {prog : Program} {w : World} {A : Around} {R : Result → Shared → Prop} {s : Shared}
theorem mark_none (hh : A.handled = none) : A.mark none = A := by
  cases A; cases hh; rfl
theorem comp_start1 {elt target iter t0 i0 : Expr} {ifs : List Expr} {scope : Scope} {pos : Pos} {it acc : Value} {env : Env}
    (h0 : codeAny (model prog w) A (.compLoop (.ListComp elt [⟨t0, i0, [], 0⟩, ⟨target, iter, ifs, 0⟩] scope pos) 1 it acc env) R s)
    (h : wpAny (model prog w) A (pyIter it) (fun it' s' => codeAny (model prog w) A (.compLoop (.ListComp elt [⟨t0, i0, [], 0⟩, ⟨target, iter, ifs, 0⟩] scope pos) 1 it' acc env) R s') (fun _ _ => False) s) :
    codeAny (model prog w) A (.compStart (.ListComp elt [⟨t0, i0, [], 0⟩, ⟨target, iter, ifs, 0⟩] scope pos) 1 it acc env) R s := by
  refine codeAny_of_tree ?_
  show wpAny _ _ ((compStart (.ListComp elt [⟨t0, i0, [], 0⟩, ⟨target, iter, ifs, 0⟩] scope pos) 1 it acc env).onRaise (fun x => do noteFrame x env; standAt theWindowsPlace)) _ _ s
  refine wpAny_notedAt ?_
  unfold compStart
  show wpAny _ _ (ask >>= _) _ _ s
  refine wpAny_bind (wpAny_askSetting (wpAny_ite ?_))
  split
  · first
      | exact wpAny_bind (wpAny_pure (wpAny_pure (And.intro rfl h0)))
      | exact wpAny_pure (And.intro rfl h0)
  · first
      | exact wpAny_bind (wpAny_rule (wpAny_bind (wpAny_standAt (wpAny_bind (wpAny_mono h (fun it' s' h' => wpAny_pure (And.intro rfl h')) fun _ _ x => x.elim)))))
      | (refine wpAny_bind (wpAny_rule ?_); show wpAny _ _ (standAt iter.pos >>= _) _ _ s; exact wpAny_bind (wpAny_standAt (wpAny_bind (wpAny_mono h (fun it' s' h' => wpAny_pure (And.intro rfl h')) fun _ _ x => x.elim))))
theorem comp_loop1 {elt target iter t0 i0 : Expr} {scope : Scope} {pos : Pos} {it acc : Value} {env : Env} (I : Nat → Shared → Prop)
    (turn : ∀ n s, I n s → wpAny (model prog w) A (pyNext it) (fun r s₁ => match r with
      | none => R (.ok .next) s₁
      | some v => wpAny (model prog w) A (letOwnedTupleGo target it v) (fun _ s₀ => wpAny (model prog w) A (assign target env v) (fun _ s₂ =>
          wpAny (model prog w) A (eval elt env) (fun x s₄ =>
      wpAny (model prog w) A (call (.builtin "list.append") [acc, x]) (fun _ s₅ => ∃ m, m < n ∧ I m s₅) (fun _ _ => False) s₄) (fun _ _ => False) s₂) (fun _ _ => False) s₀) (fun _ _ => False) s₁) (fun _ _ => False) s)
    (n : Nat) (h : I n s) : codeAny (model prog w) A (.compLoop (.ListComp elt [⟨t0, i0, [], 0⟩, ⟨target, iter, [], 0⟩] scope pos) 1 it acc env) R s := by
  refine codeAny_loop rfl I (fun n s hI => ?_) n h
  show wpAny _ A ((compTurn (.ListComp elt [⟨t0, i0, [], 0⟩, ⟨target, iter, [], 0⟩] scope pos) 1 it acc env).onRaise (fun x => do noteFrame x env; theTreesLotGoes x)) _ _ s
  refine wpAny_noted ?_
  rw [compTurn_list1of2]
  refine wpAny_bind (wpAny_standAt (wpAny_bind (wpAny_mono (turn n s hI) (fun r s₁ h₁ => ?_) fun _ _ h' => h'.elim)))
  cases r with
  | none => exact wpAny_pure h₁
  | some v =>
    refine wpAny_bind (wpAny_mono h₁ (fun _ s₀ h₀' => ?_) fun _ _ h' => h'.elim)
    refine wpAny_bind (wpAny_mono h₀' (fun _ s₂ h₃ => wpAny_bind (wpAny_tests_nil ?_)) fun _ _ h' => h'.elim)
    exact wpAny_bind (wpAny_bind (wpAny_mono h₃ (fun x s₄ h₄ => wpAny_bind (wpAny_mono h₄ (fun _ s₅ h₅ => wpAny_pure (wpAny_pure ⟨rfl, h₅⟩)) fun _ _ h' => h'.elim)) fun _ _ h' => h'.elim))
theorem comp_loop0 {elt target iter t0 i0 : Expr} {scope : Scope} {pos : Pos} {it acc : Value} {env : Env} (hh : A.handled = none) (hf : ∀ x, foldedSetIterable iter env x = pure x) (I : Nat → Shared → Prop)
    (turn : ∀ n s, I n s → wpAny (model prog w) A (pyNext it) (fun r s₁ => match r with
      | none => R (.ok .next) s₁
      | some v => wpAny (model prog w) A (letOwnedTupleGo t0 it v) (fun _ s₀ => wpAny (model prog w) A (assign t0 env v) (fun _ s₂ =>
          wpAny (model prog w) A (eval iter env) (fun x s₃ => wpAny (model prog w) A (pyIter x) (fun it1 s₄ =>
            codeAny (model prog w) A (.compStart (.ListComp elt [⟨t0, i0, [], 0⟩, ⟨target, iter, [], 0⟩] scope pos) 1 it1 acc env) (fun r s₅ => r = .ok .next ∧ ∃ m, m < n ∧ I m s₅) s₄) (fun _ _ => False) s₃) (fun _ _ => False) s₂) (fun _ _ => False) s₀) (fun _ _ => False) s₁) (fun _ _ => False) s)
    (n : Nat) (h : I n s) : codeAny (model prog w) A (.compLoop (.ListComp elt [⟨t0, i0, [], 0⟩, ⟨target, iter, [], 0⟩] scope pos) 0 it acc env) R s := by
  refine codeAny_loop rfl I (fun n s hI => ?_) n h
  show wpAny _ A ((compTurn (.ListComp elt [⟨t0, i0, [], 0⟩, ⟨target, iter, [], 0⟩] scope pos) 0 it acc env).onRaise (fun x => do noteFrame x env; theTreesLotGoes x)) _ _ s
  refine wpAny_noted ?_
  rw [compTurn_list0of2]
  refine wpAny_bind (wpAny_standAt (wpAny_bind (wpAny_mono (turn n s hI) (fun r s₁ h₁ => ?_) fun _ _ h' => h'.elim)))
  cases r with
  | none => exact wpAny_pure h₁
  | some v =>
    refine wpAny_bind (wpAny_mono h₁ (fun _ s₀ h₀' => ?_) fun _ _ h' => h'.elim)
    refine wpAny_bind (wpAny_mono h₀' (fun _ s₂ h₃ => wpAny_bind (wpAny_tests_nil ?_)) fun _ _ h' => h'.elim)
    refine wpAny_bind (wpAny_mono h₃ (fun x s₃ h₄ => wpAny_bind (wpAny_standAt ?_)) fun _ _ h' => h'.elim)
    refine wpAny_bind (wpAny_of_eq (hf x) ?_)
    refine wpAny_bind (wpAny_holding (wpAny_mono h₄ (fun it1 s₄ h₅ => ?_) fun _ _ h' => h'.elim))
    refine wpAny_bind (wpAny_runOwn (h := none) ?_)
    rw [mark_none hh]
    refine codeAny_mono h₅ fun r s₅ h₆ => ?_
    obtain ⟨rfl, h₆⟩ := h₆
    exact wpAny_pure ⟨rfl, h₆⟩
end
end Mine
end
section
set_option maxHeartbeats 2000000
open PySem PySem.W PyProof.Rows PySem.Calls PySem.Spec
namespace Mine
theorem EltEnd.turn {h₀ : Heap} {C : Addr} {m₃ : Str → Option Value} {news news' base base' rest rest' : List (Addr × Obj)} {d : Dat} {s₃ s₄ : Shared} {y : Value} (h : EltEnd h₀ C m₃ news base rest d s₃ y s₄)
    (h1 : ∀ q, q ∈ news' ++ rest' → q ∈ news ++ rest) (h2 : ∀ q ∈ base, q ∈ base') : EltEnd h₀ C m₃ news' base' rest' d s₃ y s₄ := by
  obtain ⟨obs, h', tk, gs, e, F, N, hd, ho, hg⟩ := h
  refine ⟨obs, h', tk, gs, e, F, fun q hq => ?_, hd.mono fun q hq => ?_, fun q hq b hb => ?_, hg⟩
  · rcases List.mem_append.mp hq with hq | hq
    · exact N q (List.mem_append_left _ hq)
    · exact N q (List.mem_append_right _ (h1 q hq))
  · rcases List.mem_append.mp hq with hq | hq
    · exact List.mem_append_left _ hq
    · exact List.mem_append_right _ (h2 q hq)
  · obtain ⟨r, hr, rfl⟩ := List.mem_map.mp hb
    exact ho q hq r.1 (List.mem_map.mpr ⟨r, h1 r hr, rfl⟩)
section
variable {prog : Program} {w : World} {A : Around} {R : Result → Shared → Prop} {s : Shared}
/-- the inner loop of two clauses, the second over a name -/
theorem comp_inner {elt iter t0 i0 : Expr} {x : Str} {px : Pos} {scope' : Scope} {pos : Pos} {cenv : Env} {I D : Addr} {fp wr : List Addr} {n : Nat} {P : Nat → Value → Prop} {St : Nat → Heap → Prop}
    {h₀ : Heap} {L : Addr} {m mC : Str → Option Value} {news base : List (Addr × Obj)} {ys0 : List Value} {ds0 : List Dat}
    (W : Walks prog w A I fp wr n P St) (hlive : ∀ i h, St i h → ∀ b ∈ wr, ∃ o, h.get? b = some o)
    (hx : cenv.kindOf x = some .local) (hp : (cenv.scope.kind == .class || (cenv.scope.kind == .module && cenv.locals != cenv.globals)) = false)
    (hsz : ys0.length + n ≤ sizeLine) (dat : Nat → Dat)
    (hst : St 0 s.heap) (hDf : D ∉ fp) (hCf : cenv.locals ∉ fp) (hDC : D ≠ cenv.locals) (hDL : D ≠ L) (hCL : cenv.locals ≠ L) (hD₀ : h₀.get? D = none) (hC₀ : h₀.get? cenv.locals = none) (hCa : h₀.objs.size ≤ cenv.locals)
    (F : Fr h₀ L s.heap m) (N : News h₀ L s.heap news) (hC : s.heap.Ns cenv.locals mC) (hD : s.heap.get? D = some (PySem.W.listOf ys0.toArray ys0.length)) (hoff : ∀ q ∈ news, q.1 ∉ wr ∧ q.1 ≠ cenv.locals ∧ q.1 ≠ D)
    (hwr : ∀ b ∈ wr, h₀.get? b = none ∧ b ≠ L) (hd0 : DatAll base ys0 ds0)
    (body : ∀ i s₃ m₃ rest v, i < n → P i v → m₃ x = some v → (∀ z, z ≠ x → m₃ z = mC z) → Fr h₀ cenv.locals s₃.heap m₃ → News h₀ cenv.locals s₃.heap (news ++ rest) → s₃.os = s.os → s₃.drawn = s.drawn → GB s.gens s₃.gens →
      wpAny (model prog w) A (eval elt cenv) (EltEnd h₀ cenv.locals m₃ news base rest (dat i) s₃) (fun _ _ => False) s₃)
    (fin : ∀ h tk gs m' ys obs, Fr h₀ L h m → News h₀ L h ((D, PySem.W.listOf (ys0 ++ ys).toArray (ys0 ++ ys).length) :: (obs ++ news)) → h.Ns cenv.locals m' → (∀ z, z ≠ x → m' z = mC z) → (∀ q ∈ obs, q.1 ∉ wr ∧ q.1 ≠ cenv.locals ∧ q.1 ≠ D ∧ ∀ r ∈ news, q.1 ≠ r.1) →
      (∀ b o, b ∉ wr → b ≠ cenv.locals → b ≠ D → s.heap.get? b = some o → h.get? b = some o) → (∀ q ∈ obs, s.heap.get? q.1 = none) →
      DatAll (obs ++ base) (ys0 ++ ys) (ds0 ++ (List.range n).map dat) → GB s.gens gs → R (.ok .next) { s with heap := h, toks := tk, gens := gs }) :
    codeAny (model prog w) A (.compLoop (.ListComp elt [⟨t0, i0, [], 0⟩, ⟨.Name x px, iter, [], 0⟩] scope' pos) 1 (.ref I) (.ref D) cenv) R s := by
  have hDw : D ∉ wr := fun h => hDf (W.sub _ h)
  have hCw : cenv.locals ∉ wr := fun h => hCf (W.sub _ h)
  have hLw : L ∉ wr := fun h => (hwr _ h).2 rfl
  obtain ⟨J, hJ⟩ : ∃ J : Nat → Shared → Prop, J = (fun k s' => ∃ i h' tk gs m' ys obs, s' = { s with heap := h', toks := tk, gens := gs } ∧ i ≤ n ∧ k = n + 1 - i ∧ St i h' ∧ Fr h₀ L h' m ∧ h'.Ns cenv.locals m' ∧ (∀ z, z ≠ x → m' z = mC z) ∧ News h₀ L h' ((D, PySem.W.listOf (ys0 ++ ys).toArray (ys0 ++ ys).length) :: (obs ++ news)) ∧
      (∀ q ∈ obs, q.1 ∉ wr ∧ q.1 ≠ cenv.locals ∧ q.1 ≠ D ∧ ∀ r ∈ news, q.1 ≠ r.1) ∧ (∀ b o, b ∉ wr → b ≠ cenv.locals → b ≠ D → s.heap.get? b = some o → h'.get? b = some o) ∧ (∀ q ∈ obs, s.heap.get? q.1 = none) ∧ ys.length = i ∧ DatAll (obs ++ base) (ys0 ++ ys) (ds0 ++ (List.range i).map dat) ∧ GB s.gens gs) := ⟨_, rfl⟩
  refine comp_loop1 J ?_ (n + 1) (hJ ▸ ⟨0, s.heap, s.toks, s.gens, mC, [], [], rfl, Nat.zero_le _, rfl, hst, F, hC, fun _ _ => rfl, fun q hq => ?_, (fun _ h => nomatch h), (fun _ _ _ _ _ e => e), (fun _ h => nomatch h), rfl, ?_, .refl _⟩)
  · intro k s' hk
    rw [hJ] at hk
    obtain ⟨i, h', tk, gs, m', ys, obs, rfl, hi, rfl, hst', F', hn', hm', N', hobs, hkp, hfr, hyl, hdat, hGB⟩ := hk
    have hND := (N' _ (.head _)).1
    dsimp only at hND
    by_cases hlt : i < n
    · refine W.item i _ _ _ hlt hst' fun v h₁ tk₁ hP hst₁ hk₁ => ?_
      dsimp only at hk₁ ⊢
      refine wpAny_pure (?_ : (fun _ s₀ => wpAny (model prog w) A (assign (.Name x px) cenv v) _ (fun _ _ => False) s₀) () _)
      refine wpAny_assign_Name (wpAny_storeName_local hx (hn'.at' fun o e => hk₁ _ o hCw e) (fun h₂ hn₂ hs₂ => ?_) hp)
      rw [hJ]
      dsimp only at hs₂ ⊢
      have hk₂ : ∀ b o, b ∉ wr → b ≠ cenv.locals → h'.get? b = some o → h₂.get? b = some o := fun b o hb hbC e => hs₂.extBut b o hbC (hk₁ b o hb e)
      have hst₂ : St (i + 1) h₂ := W.frame _ _ _ hst₁ fun b hb o e => hs₂.extBut b o (fun q => hCf (q ▸ hb)) e
      have FL : Fr h₀ L h₂ m := ⟨F'.ns.at' fun o e => hk₂ L o hLw (Ne.symm hCL) e, fun b o e => hk₂ b o (fun hb => by rw [(hwr b hb).1] at e; cases e) (fun q => by rw [q, hC₀] at e; cases e) (F'.keep b o e), F'.above⟩
      have FC : Fr h₀ cenv.locals h₂ (fun z => if z = x then some v else m' z) := ⟨hn₂, FL.keep, hCa⟩
      have off' : ∀ q ∈ (D, PySem.W.listOf (ys0 ++ ys).toArray (ys0 ++ ys).length) :: (obs ++ news), q.1 ∉ wr ∧ q.1 ≠ cenv.locals := fun q hq => by
        rcases List.mem_cons.mp hq with rfl | hq
        · exact ⟨hDw, hDC⟩
        · rcases List.mem_append.mp hq with hq | hq
          · exact ⟨(hobs q hq).1, (hobs q hq).2.1⟩
          · exact ⟨(hoff q hq).1, (hoff q hq).2.1⟩
      have N₂ : News h₀ L h₂ ((D, PySem.W.listOf (ys0 ++ ys).toArray (ys0 ++ ys).length) :: (obs ++ news)) := fun q hq => ⟨hk₂ _ _ (off' q hq).1 (off' q hq).2 (N' q hq).1, (N' q hq).2⟩
      have NC : News h₀ cenv.locals h₂ (news ++ allBut h₀ cenv.locals h₂) := News.append (fun q hq => ⟨(N₂ q (.tail _ (List.mem_append_right _ hq))).1, (hoff q hq).2.1, (N₂ q (.tail _ (List.mem_append_right _ hq))).2.2⟩) allBut_news
      refine wpAny_mono (body i { s with heap := h₂, toks := _, gens := gs } _ _ v hlt hP (if_pos rfl) (fun z hz => (if_neg hz).trans (hm' z hz)) FC NC rfl rfl hGB) (fun y s₄ hy => ?_) fun _ _ e => e
      obtain ⟨ob₁, h₄, tk₄, gs₄, rfl, FC₄, NC₄, hy, hown, hG₄⟩ := hy
      have up₄ := keep_but FC FC₄ (pre := ob₁ ++ news) (by rw [List.append_assoc]; exact NC₄)
      have N₄ : News h₀ L h₄ ((D, PySem.W.listOf (ys0 ++ ys).toArray (ys0 ++ ys).length) :: (obs ++ news)) := fun q hq => ⟨up₄ _ _ (off' q hq).2 (N₂ q hq).1, (N₂ q hq).2⟩
      have hD₄ : h₄.get? D = some (PySem.W.listOf (ys0 ++ ys).toArray (ys0 ++ ys).length) := (N₄ _ (.head _)).1
      have far : ∀ q ∈ ob₁, ∀ b o, h₂.get? b = some o → h₀.get? b = none → b ≠ cenv.locals → q.1 ≠ b := fun q hq b o e hn hb => hown q hq b (by
        rw [List.map_append]
        exact List.mem_append_right _ (List.mem_map.mpr ⟨(b, o), allBut_mem hn hb e, rfl⟩))
      have hLh : ∃ o, h₂.get? L = some o := by obtain ⟨o, es, ep, e, _⟩ := FL.ns; exact ⟨o, e⟩
      have ob_off : ∀ q ∈ ob₁, q.1 ∉ wr ∧ q.1 ≠ cenv.locals ∧ q.1 ≠ D ∧ ∀ r ∈ news, q.1 ≠ r.1 := fun q hq => by
        have hz := NC₄ q (List.mem_append_left _ hq)
        refine ⟨fun hw => ?_, hz.2.1, ?_, fun r hr => ?_⟩
        · obtain ⟨o, ho⟩ := hlive _ _ hst₂ _ hw
          exact far q hq _ o ho hz.2.2 hz.2.1 rfl
        · exact far q hq D _ (N₂ _ (.head _)).1 hD₀ hDC
        · exact far q hq _ _ (N₂ r (.tail _ (List.mem_append_right _ hr))).1 (N₂ r (.tail _ (List.mem_append_right _ hr))).2.2 (hoff r hr).2.1
      have Nob : News h₀ L h₄ ob₁ := fun q hq => by
        have hz := NC₄ q (List.mem_append_left _ hq)
        obtain ⟨o, ho⟩ := hLh
        have hL₀ : h₀.get? L = none := Heap.get?_none_of_le FL.above
        exact ⟨hz.1, far q hq L o ho hL₀ (Ne.symm hCL), hz.2.2⟩
      refine append_at (hsz := by rw [List.size_toArray, List.length_append]; omega) hD₄ fun h₅ hs₅ hD₅ => ?_
      refine ⟨n + 1 - (i + 1), by omega, i + 1, h₅, tk₄, gs₄, _, ys ++ [y], ob₁ ++ obs, rfl, hlt, rfl, W.frame _ _ _ hst₂ fun b hb o e => hs₅.extBut b o (fun q => hDf (q ▸ hb)) (up₄ b o (fun q => hCf (q ▸ hb)) e), (fr_butC FL up₄ (Ne.symm hCL) hC₀).change hs₅ hDL hD₀, FC₄.ns.sameBut hs₅ (Ne.symm hDC), (fun z hz => (if_neg hz).trans (hm' z hz)), fun q hq => ?_, fun q hq => ?_, (fun b o hb hbC hbD e => hs₅.extBut _ _ hbD (up₄ b o hbC (hk₂ b o hb hbC (hkp b o hb hbC hbD e)))), (fun q hq => ?_), ?_, ?_, hGB.trans hG₄⟩
      · rcases List.mem_cons.mp hq with rfl | hq
        · exact ⟨hD₅.trans (by rw [← List.append_assoc, List.length_append (bs := [y]), List.length_singleton]; simp [PySem.W.listOf]), hDL, hD₀⟩
        · rw [List.append_assoc] at hq
          rcases List.mem_append.mp hq with hq | hq
          · exact ⟨hs₅.extBut _ _ (ob_off q hq).2.2.1 (Nob q hq).1, (Nob q hq).2⟩
          · have z := N₄ q (.tail _ hq)
            refine ⟨hs₅.extBut _ _ ?_ z.1, z.2⟩
            rcases List.mem_append.mp hq with hq | hq
            · exact (hobs q hq).2.2.1
            · exact (hoff q hq).2.2
      · rcases List.mem_append.mp hq with hq | hq
        · exact ob_off q hq
        · exact hobs q hq
      · rcases List.mem_append.mp hq with hq | hq
        · cases e : s.heap.get? q.1 with
          | none => rfl
          | some o =>
            have hz := ob_off q hq
            exact absurd rfl (far q hq q.1 o (hk₂ _ _ hz.1 hz.2.1 (hkp _ _ hz.1 hz.2.1 hz.2.2.1 e)) (Nob q hq).2.2 hz.2.1)
        · exact hfr q hq
      · rw [List.length_append, hyl, List.length_singleton]
      · rw [List.range_succ, List.map_append, ← List.append_assoc, ← List.append_assoc, List.append_assoc (as := ob₁)]
        refine DatAll.append (hdat.mono fun q hq => List.mem_append_right _ hq) (.one (hy.mono fun q hq => ?_))
        rcases List.mem_append.mp hq with hq | hq
        · exact List.mem_append_left _ hq
        · exact List.mem_append_right _ (List.mem_append_right _ hq)
    · obtain rfl : i = n := Nat.le_antisymm hi (Nat.not_lt.mp hlt)
      refine W.done _ _ _ hst' fun h₁ tk₁ hk₁ => ?_
      dsimp only at hk₁ ⊢
      refine fin h₁ tk₁ gs m' ys obs ⟨F'.ns.at' fun o e => hk₁ L o hLw e, fun b o e => hk₁ b o (fun hb => by rw [(hwr b hb).1] at e; cases e) (F'.keep b o e), F'.above⟩ (fun q hq => ?_) (hn'.at' fun o e => hk₁ _ o hCw e) hm' hobs (fun b o hb hbC hbD e => hk₁ b o hb (hkp b o hb hbC hbD e)) hfr hdat hGB
      refine ⟨hk₁ _ _ ?_ (N' q hq).1, (N' q hq).2⟩
      rcases List.mem_cons.mp hq with rfl | hq
      · exact hDw
      · rcases List.mem_append.mp hq with hq | hq
        · exact (hobs q hq).1
        · exact (hoff q hq).1
  · rcases List.mem_cons.mp hq with rfl | hq
    · exact ⟨by simpa using hD, hDL, hD₀⟩
    · exact N q hq
  · simpa using hd0
end
end Mine
end
section
set_option maxHeartbeats 2000000
open PySem PySem.W PyProof.Rows PySem.Calls PySem.Spec
namespace Mine
theorem mem_swap {α : Type} {a b c : List α} {q : α} : q ∈ b ++ (a ++ c) ↔ q ∈ (a ++ b) ++ c := by
  simp only [List.mem_append]; rw [or_assoc, or_left_comm]
/-- the inner clause's iterator, made -/
def InnerAt (h₀ : Heap) (C : Addr) (m₃ : Str → Option Value) (news rest : List (Addr × Obj)) (a : Int) (cnt : Nat) (c : Int) (s₃ : Shared) (it : Value) (s₄ : Shared) : Prop :=
  ∃ I1 h' tk gs, it = .ref I1 ∧ s₄ = { s₃ with heap := h', toks := tk, gens := gs } ∧ Fr h₀ C h' m₃ ∧ News h₀ C h' (news ++ rest) ∧ IsRangeIter h' I1 (a + ((0 : Nat) : Int) * c) ((cnt : Int) - ((0 : Nat) : Int)) c ∧ I1 ≠ C ∧ h₀.get? I1 = none ∧ (∀ b ∈ (news ++ rest).map (·.1), I1 ≠ b) ∧ GB s₃.gens gs
section
variable {prog : Program} {w : World} {A : Around} {R : Result → Shared → Prop} {s : Shared}
theorem comp_two {elt iter i0 : Expr} {x0 x1 : Str} {px0 px1 : Pos} {scope' : Scope} {pos : Pos} {cenv : Env} {I D : Addr} {fp wr : List Addr} {n : Nat} {P : Nat → Value → Prop} {St : Nat → Heap → Prop}
    {h₀ : Heap} {L : Addr} {m mC : Str → Option Value} {news base : List (Addr × Obj)} (a : Nat → Int) (cnt : Nat → Nat) (c : Int) (dat : Nat → Nat → Dat)
    (hh : A.handled = none) (hf : ∀ x, foldedSetIterable iter cenv x = pure x)
    (W : Walks prog w A I fp wr n P St) (hlive : ∀ i h, St i h → ∀ b ∈ fp, ∃ o, h.get? b = some o)
    (hx0 : cenv.kindOf x0 = some .local) (hx1 : cenv.kindOf x1 = some .local) (hne : x0 ≠ x1) (hp : (cenv.scope.kind == .class || (cenv.scope.kind == .module && cenv.locals != cenv.globals)) = false)
    (hsz : ∀ i ≤ n, ((List.range i).map cnt).sum ≤ sizeLine)
    (hst : St 0 s.heap) (hDf : D ∉ fp) (hCf : cenv.locals ∉ fp) (hDC : D ≠ cenv.locals) (hDL : D ≠ L) (hCL : cenv.locals ≠ L) (hD₀ : h₀.get? D = none) (hC₀ : h₀.get? cenv.locals = none) (hCa : h₀.objs.size ≤ cenv.locals)
    (F : Fr h₀ L s.heap m) (N : News h₀ L s.heap news) (hC : s.heap.Ns cenv.locals mC) (hD : s.heap.get? D = some (PySem.W.listOf #[] 0)) (hoff : ∀ q ∈ news, q.1 ∉ wr ∧ q.1 ≠ cenv.locals ∧ q.1 ≠ D)
    (hwr : ∀ b ∈ wr, h₀.get? b = none ∧ b ≠ L)
    (inner : ∀ i s₃ m₃ rest v, i < n → P i v → m₃ x0 = some v → Fr h₀ cenv.locals s₃.heap m₃ → News h₀ cenv.locals s₃.heap (news ++ rest) → s₃.os = s.os → s₃.drawn = s.drawn → GB s.gens s₃.gens →
      wpAny (model prog w) A (eval iter cenv) (fun xv s₄ => wpAny (model prog w) A (pyIter xv) (InnerAt h₀ cenv.locals m₃ news rest (a i) (cnt i) c s₃) (fun _ _ => False) s₄) (fun _ _ => False) s₃)
    (body : ∀ i j s₃ m₃ rest v t, i < n → j < cnt i → P i v → m₃ x0 = some v → m₃ x1 = some (.int (a i + (j : Int) * c) t) → Fr h₀ cenv.locals s₃.heap m₃ → News h₀ cenv.locals s₃.heap (news ++ rest) → s₃.os = s.os → s₃.drawn = s.drawn → GB s.gens s₃.gens →
      wpAny (model prog w) A (eval elt cenv) (EltEnd h₀ cenv.locals m₃ news base rest (dat i j) s₃) (fun _ _ => False) s₃)
    (fin : ∀ h tk gs m' ys obs, Fr h₀ L h m → News h₀ L h ((D, PySem.W.listOf ys.toArray ys.length) :: (obs ++ news)) → h.Ns cenv.locals m' → (∀ q ∈ obs, q.1 ≠ cenv.locals ∧ q.1 ≠ D ∧ ∀ r ∈ news, q.1 ≠ r.1) →
      DatAll (obs ++ base) ys ((List.range n).flatMap fun i => (List.range (cnt i)).map (dat i)) → GB s.gens gs → R (.ok .next) { s with heap := h, toks := tk, gens := gs }) :
    codeAny (model prog w) A (.compLoop (.ListComp elt [⟨.Name x0 px0, i0, [], 0⟩, ⟨.Name x1 px1, iter, [], 0⟩] scope' pos) 0 (.ref I) (.ref D) cenv) R s := by
  have hDw : D ∉ wr := fun h => hDf (W.sub _ h)
  have hCw : cenv.locals ∉ wr := fun h => hCf (W.sub _ h)
  have hLw : L ∉ wr := fun h => (hwr _ h).2 rfl
  obtain ⟨J, hJ⟩ : ∃ J : Nat → Shared → Prop, J = (fun k s' => ∃ i h' tk gs m' ys obs, s' = { s with heap := h', toks := tk, gens := gs } ∧ i ≤ n ∧ k = n + 1 - i ∧ St i h' ∧ Fr h₀ L h' m ∧ h'.Ns cenv.locals m' ∧ News h₀ L h' ((D, PySem.W.listOf ys.toArray ys.length) :: (obs ++ news)) ∧
      (∀ q ∈ obs, q.1 ∉ wr ∧ q.1 ≠ cenv.locals ∧ q.1 ≠ D ∧ ∀ r ∈ news, q.1 ≠ r.1) ∧ DatAll (obs ++ base) ys ((List.range i).flatMap fun i => (List.range (cnt i)).map (dat i)) ∧ GB s.gens gs) := ⟨_, rfl⟩
  refine comp_loop0 hh hf J ?_ (n + 1) (hJ ▸ ⟨0, s.heap, s.toks, s.gens, mC, [], [], rfl, Nat.zero_le _, rfl, hst, F, hC, fun q hq => ?_, (fun _ h => nomatch h), .nil, .refl _⟩)
  · intro k s' hk
    rw [hJ] at hk
    obtain ⟨i, h', tk, gs, m', ys, obs, rfl, hi, rfl, hst', F', hn', N', hobs, hdat, hGB⟩ := hk
    by_cases hlt : i < n
    · refine W.item i _ _ _ hlt hst' fun v h₁ tk₁ hP hst₁ hk₁ => ?_
      dsimp only at hk₁ ⊢
      refine wpAny_pure (?_ : (fun _ s₀ => wpAny (model prog w) A (assign (.Name x0 px0) cenv v) _ (fun _ _ => False) s₀) () _)
      refine wpAny_assign_Name (wpAny_storeName_local hx0 (hn'.at' fun o e => hk₁ _ o hCw e) (fun h₂ hn₂ hs₂ => ?_) hp)
      rw [hJ]
      dsimp only at hs₂ ⊢
      have hk₂ : ∀ b o, b ∉ wr → b ≠ cenv.locals → h'.get? b = some o → h₂.get? b = some o := fun b o hb hbC e => hs₂.extBut b o hbC (hk₁ b o hb e)
      have hst₂ : St (i + 1) h₂ := W.frame _ _ _ hst₁ fun b hb o e => hs₂.extBut b o (fun q => hCf (q ▸ hb)) e
      have FL : Fr h₀ L h₂ m := ⟨F'.ns.at' fun o e => hk₂ L o hLw (Ne.symm hCL) e, fun b o e => hk₂ b o (fun hb => by rw [(hwr b hb).1] at e; cases e) (fun q => by rw [q, hC₀] at e; cases e) (F'.keep b o e), F'.above⟩
      have FC : Fr h₀ cenv.locals h₂ (fun z => if z = x0 then some v else m' z) := ⟨hn₂, FL.keep, hCa⟩
      have off' : ∀ q ∈ (D, PySem.W.listOf ys.toArray ys.length) :: (obs ++ news), q.1 ∉ wr ∧ q.1 ≠ cenv.locals := fun q hq => by
        rcases List.mem_cons.mp hq with rfl | hq
        · exact ⟨hDw, hDC⟩
        · rcases List.mem_append.mp hq with hq | hq
          · exact ⟨(hobs q hq).1, (hobs q hq).2.1⟩
          · exact ⟨(hoff q hq).1, (hoff q hq).2.1⟩
      have N₂ : News h₀ L h₂ ((D, PySem.W.listOf ys.toArray ys.length) :: (obs ++ news)) := fun q hq => ⟨hk₂ _ _ (off' q hq).1 (off' q hq).2 (N' q hq).1, (N' q hq).2⟩
      have NC : News h₀ cenv.locals h₂ (news ++ allBut h₀ cenv.locals h₂) := News.append (fun q hq => ⟨(N₂ q (.tail _ (List.mem_append_right _ hq))).1, (hoff q hq).2.1, (N₂ q (.tail _ (List.mem_append_right _ hq))).2.2⟩) allBut_news
      refine wpAny_mono (inner i { s with heap := h₂, toks := _, gens := gs } _ _ v hlt hP (if_pos rfl) FC NC rfl rfl hGB) (fun xv s₃ hxv => wpAny_mono hxv (fun it1 s₄ hit => ?_) fun _ _ e => e) fun _ _ e => e
      obtain ⟨I1, h₄, tk₄, gs₄, rfl, rfl, FC₄, NC₄, hI1, hI1C, hI1₀, hI1n, hG₄⟩ := hit
      have up₄ := keep_but FC FC₄ (pre := news) NC₄
      have I1ne : ∀ b o, h₂.get? b = some o → I1 ≠ b := fun b o e => by
        by_cases hbC : b = cenv.locals
        · rw [hbC]; exact hI1C
        · cases e0 : h₀.get? b with
          | some o' => intro q; rw [q, e0] at hI1₀; cases hI1₀
          | none => exact hI1n b (List.mem_map.mpr ⟨(b, o), List.mem_append_right _ (allBut_mem e0 hbC e), rfl⟩)
      have FL₄ := fr_butC FL up₄ (Ne.symm hCL) hC₀
      have N₄ : News h₀ L h₄ ((D, PySem.W.listOf ys.toArray ys.length) :: (obs ++ news)) := fun q hq => ⟨up₄ _ _ (off' q hq).2 (N₂ q hq).1, (N₂ q hq).2⟩
      have hst₄ : St (i + 1) h₄ := W.frame _ _ _ hst₂ fun b hb o e => up₄ b o (fun q => hCf (q ▸ hb)) e
      have hDI : D ≠ I1 := (I1ne D _ (N₂ _ (.head _)).1).symm
      have hLI : I1 ≠ L := by obtain ⟨o, es, ep, e, _⟩ := FL.ns; exact I1ne L o e
      have hlen : ys.length = ((List.range i).map cnt).sum := by
        rw [hdat.length]
        simp [List.length_flatMap]
      have hszi : ys.length + cnt i ≤ sizeLine := by
        have := hsz (i + 1) hlt
        rw [List.range_succ, List.map_append, List.sum_append] at this
        rw [hlen]; simpa using this
      have WI := Walks.range (prog := prog) (w := w) (A := A) hh I1 (a i) c (cnt i)
      have loop : ∀ s₅ : Shared, s₅ = { s with heap := h₄, toks := tk₄, gens := gs₄ } → codeAny (model prog w) A (.compLoop (.ListComp elt [⟨.Name x0 px0, i0, [], 0⟩, ⟨.Name x1 px1, iter, [], 0⟩] scope' pos) 1 (.ref I1) (.ref D) cenv) (fun r s₅ => r = .ok .next ∧ ∃ m_1, m_1 < n + 1 - i ∧ ∃ i h' tk gs m' ys obs, s₅ = { s with heap := h', toks := tk, gens := gs } ∧ i ≤ n ∧ m_1 = n + 1 - i ∧ St i h' ∧ Fr h₀ L h' m ∧ h'.Ns cenv.locals m' ∧ News h₀ L h' ((D, PySem.W.listOf ys.toArray ys.length) :: (obs ++ news)) ∧
      (∀ q ∈ obs, q.1 ∉ wr ∧ q.1 ≠ cenv.locals ∧ q.1 ≠ D ∧ ∀ r ∈ news, q.1 ≠ r.1) ∧ DatAll (obs ++ base) ys ((List.range i).flatMap fun i => (List.range (cnt i)).map (dat i)) ∧ GB s.gens gs) s₅ := by
        rintro _ rfl
        refine comp_inner (L := L) (m := m) (news := obs ++ news) (base := obs ++ base) (ys0 := ys) (ds0 := (List.range i).flatMap fun i => (List.range (cnt i)).map (dat i)) WI (fun j h hs b hb => ?_) hx1 hp hszi (dat i) hI1 ?_ ?_ hDC hDL hCL hD₀ hC₀ hCa FL₄ (fun q hq => N₄ q (.tail _ hq)) FC₄.ns (N₄ _ (.head _)).1 (fun q hq => ?_) (fun b hb => ?_) hdat (fun j s₃ m₃ rest u hj hu hm3 hmo F₃ N₃ ho hd hg => ?_) (fun h tk gs' m'' zs ob₂ F₅ N₅ hn₅ hm₅ hob₂ hkp₅ hfr₅ hdat₅ hG₅ => ?_)
        · rw [List.mem_singleton.mp hb]; exact ⟨_, hs⟩
        · exact fun hm => hDI (List.mem_singleton.mp hm)
        · exact fun hm => hI1C (List.mem_singleton.mp hm).symm
        · refine ⟨fun hm => I1ne q.1 _ (N₂ q (.tail _ hq)).1 (List.mem_singleton.mp hm).symm, (off' q (.tail _ hq)).2, ?_⟩
          rcases List.mem_append.mp hq with hq | hq
          · exact (hobs q hq).2.2.1
          · exact (hoff q hq).2.2
        · rw [List.mem_singleton.mp hb]; exact ⟨hI1₀, hLI⟩
        · obtain ⟨t, rfl⟩ := hu
          have hm0 : m₃ x0 = some v := (hmo x0 hne).trans (if_pos rfl)
          refine wpAny_mono (body i j s₃ m₃ (obs ++ rest) v t hlt hj hP hm0 hm3 F₃ (fun q hq => N₃ q ?_) ho hd ((hGB.trans hG₄).trans hg)) (fun y s₆ hy => hy.turn (fun q hq => ?_) (fun q hq => List.mem_append_right _ hq)) fun _ _ e => e
          · exact mem_swap.mp hq
          · exact mem_swap.mpr hq
        · refine ⟨rfl, n + 1 - (i + 1), by omega, i + 1, h, tk, gs', m'', ys ++ zs, ob₂ ++ obs, rfl, hlt, rfl, ?_, F₅, hn₅, fun q hq => N₅ q ?_, fun q hq => ?_, ?_, (hGB.trans hG₄).trans hG₅⟩
          · refine W.frame _ _ _ hst₄ fun b hb o e => hkp₅ b o (fun hm => ?_) (fun q => hCf (q ▸ hb)) (fun q => hDf (q ▸ hb)) e
            obtain ⟨o', e'⟩ := hlive _ _ hst₂ b hb
            exact I1ne b o' e' (List.mem_singleton.mp hm).symm
          · rw [List.append_assoc] at hq; exact hq
          · rcases List.mem_append.mp hq with hq | hq
            · have z := hob₂ q hq
              refine ⟨fun hw => ?_, z.2.1, z.2.2.1, fun r hr => z.2.2.2 r (List.mem_append_right _ hr)⟩
              obtain ⟨o', e'⟩ := hlive _ _ hst₄ _ (W.sub _ hw)
              have := hfr₅ q hq
              dsimp only at this
              rw [this] at e'; cases e'
            · exact hobs q hq
          · rw [List.range_succ, List.flatMap_append, List.append_assoc]
            simpa using hdat₅
      exact comp_start1 (loop _ rfl) (WI.self 0 _ _ _ hI1 (loop _ rfl))
    · obtain rfl : i = n := Nat.le_antisymm hi (Nat.not_lt.mp hlt)
      refine W.done _ _ _ hst' fun h₁ tk₁ hk₁ => ?_
      dsimp only at hk₁ ⊢
      refine fin h₁ tk₁ gs m' ys obs ⟨F'.ns.at' fun o e => hk₁ L o hLw e, fun b o e => hk₁ b o (fun hb => by rw [(hwr b hb).1] at e; cases e) (F'.keep b o e), F'.above⟩ (fun q hq => ?_) (hn'.at' fun o e => hk₁ _ o hCw e) (fun q hq => (hobs q hq).2) hdat hGB
      refine ⟨hk₁ _ _ ?_ (N' q hq).1, (N' q hq).2⟩
      rcases List.mem_cons.mp hq with rfl | hq
      · exact hDw
      · rcases List.mem_append.mp hq with hq | hq
        · exact (hobs q hq).1
        · exact (hoff q hq).1
  · rcases List.mem_cons.mp hq with rfl | hq
    · exact ⟨hD, hDL, hD₀⟩
    · exact N q hq
end
end Mine
end
section
set_option maxHeartbeats 2000000
open PySem PySem.W PyProof.Rows PySem.Calls PySem.Spec
namespace Mine
section
variable {prog : Program} {w : World} {A : Around} {s : Shared} {env : Env}
/-- the block of a comprehension of two clauses, both over names, no tests -/
theorem comp_at2 {elt iter i0 : Expr} {x0 x1 : Str} {px0 px1 : Pos} {scope : Scope} {cl : List (Str × Addr)} {pos : Pos} {RR : Value → Addr → Result → Shared → Prop}
    {I : Addr} {fp wr : List Addr} {n : Nat} {P : Nat → Value → Prop} {St : Nat → Heap → Prop}
    {h₀ : Heap} {L : Addr} {m : Str → Option Value} {news base : List (Addr × Obj)} (a : Nat → Int) (cnt : Nat → Nat) (c : Int) (dat : Nat → Nat → Dat)
    (hh : A.handled = none) (hf : ∀ C x, foldedSetIterable iter (compEnvC scope cl C env) x = pure x)
    (W : Walks prog w A I fp wr n P St) (hlive : ∀ i h, St i h → ∀ b ∈ fp, ∃ o, h.get? b = some o)
    (hx0 : ∀ C, (compEnvC scope cl C env).kindOf x0 = some .local) (hx1 : ∀ C, (compEnvC scope cl C env).kindOf x1 = some .local) (hne : x0 ≠ x1) (hp : ∀ C, ((compEnvC scope cl C env).scope.kind == .class || ((compEnvC scope cl C env).scope.kind == .module && (compEnvC scope cl C env).locals != (compEnvC scope cl C env).globals)) = false)
    (hsz : ∀ i ≤ n, ((List.range i).map cnt).sum ≤ sizeLine)
    (hcell : ∀ y ∈ scope.names, y.2 ≠ .cell) (hkind : scope.kind = .function)
    (hst : St 0 s.heap) (hfp : ∀ b ∈ fp, b < s.heap.objs.size)
    (F : Fr h₀ L s.heap m) (N : News h₀ L s.heap news) (hwr : ∀ b ∈ wr, h₀.get? b = none ∧ b ≠ L ∧ ∀ q ∈ news, q.1 ≠ b)
    (inner : ∀ C i s₃ m₃ rest v, i < n → P i v → m₃ x0 = some v → Fr h₀ C s₃.heap m₃ → News h₀ C s₃.heap (news ++ rest) → s₃.os = s.os → s₃.drawn = s.drawn → GB s.gens s₃.gens →
      wpAny (model prog w) A (eval iter (compEnvC scope cl C env)) (fun xv s₄ => wpAny (model prog w) A (pyIter xv) (InnerAt h₀ C m₃ news rest (a i) (cnt i) c s₃) (fun _ _ => False) s₄) (fun _ _ => False) s₃)
    (body : ∀ C i j s₃ m₃ rest v t, i < n → j < cnt i → P i v → m₃ x0 = some v → m₃ x1 = some (.int (a i + (j : Int) * c) t) → Fr h₀ C s₃.heap m₃ → News h₀ C s₃.heap (news ++ rest) → s₃.os = s.os → s₃.drawn = s.drawn → GB s.gens s₃.gens →
      wpAny (model prog w) A (eval elt (compEnvC scope cl C env)) (EltEnd h₀ C m₃ news base rest (dat i j) s₃) (fun _ _ => False) s₃)
    (fin : ∀ D C h tk gs m' ys obs, Fr h₀ L h m → News h₀ L h ((D, PySem.W.listOf ys.toArray ys.length) :: (obs ++ news)) → h.Ns C m' → C ≠ L → h₀.get? C = none → (∀ q ∈ (D, PySem.W.listOf ys.toArray ys.length) :: (obs ++ news), q.1 ≠ C) → (∀ q ∈ obs ++ news, q.1 ≠ D) → OwnOff obs (D :: news.map (·.1)) →
      DatAll (obs ++ base) ys ((List.range n).flatMap fun i => (List.range (cnt i)).map (dat i)) → GB s.gens gs → RR (.ref D) C (.ok .next) { s with heap := h, toks := tk, gens := gs }) :
    CompAt (model prog w) A env scope cl (.ListComp elt [⟨.Name x0 px0, i0, [], 0⟩, ⟨.Name x1 px1, iter, [], 0⟩] scope pos) RR (.ref I) s := by
  refine wpAny_newObj_type (wpAny_newFunctionEnv hcell (by intro y hy; simp at hy) (fun h₁ hns₁ hsb₁ => ?_) hkind)
  dsimp only at hns₁ hsb₁ ⊢
  generalize hH2 : s.heap.push { cls := .type "list", dict := none, data := .seq ([] : List Value).toArray } = H2 at hns₁ hsb₁ ⊢
  have hC : H2.objs.size = s.heap.objs.size + 1 := by rw [← hH2, Heap.size_push]
  have hDC : s.heap.objs.size ≠ H2.objs.size := by rw [hC]; exact Nat.ne_of_lt (Nat.lt_succ_self _)
  have below : ∀ b, b < s.heap.objs.size → b ≠ H2.objs.size ∧ b ≠ s.heap.objs.size := fun b hb => ⟨by rw [hC]; exact Nat.ne_of_lt (Nat.lt_succ_of_lt hb), Nat.ne_of_lt hb⟩
  have hDf : s.heap.objs.size ∉ fp := fun hm => Nat.lt_irrefl _ (hfp _ hm)
  have hCf : H2.objs.size ∉ fp := fun hm => by have := hfp _ hm; rw [hC] at this; exact Nat.lt_irrefl _ (Nat.lt_of_succ_lt this)
  have old : ∀ b o, s.heap.get? b = some o → h₁.get? b = some o := fun b o e => hsb₁.extBut b o (below b (Heap.lt_size e)).1 (Heap.get?_push_of_some _ (hH2 ▸ Heap.get?_push_of_some _ e))
  have hacc : h₁.get? s.heap.objs.size = some (PySem.W.listOf #[] 0) := hsb₁.extBut _ _ hDC (Heap.get?_push_of_some _ (hH2 ▸ Heap.get?_push_size _ rfl))
  have hst₁ : St 0 h₁ := W.frame _ _ _ hst fun b _ o e => old b o e
  have fresh : ∀ a, s.heap.objs.size ≤ a → s.heap.get? a = none := fun a ha => by
    cases e : s.heap.get? a with
    | none => rfl
    | some o' => exact absurd (Heap.lt_size e) (Nat.not_lt.mpr ha)
  have fresh₀ : ∀ a, s.heap.objs.size ≤ a → h₀.get? a = none := fun a ha => by
    cases e : h₀.get? a with
    | none => rfl
    | some o' => have := F.keep a o' e; rw [fresh a ha] at this; cases this
  have hD₀ : h₀.get? s.heap.objs.size = none := fresh₀ _ (Nat.le_refl _)
  have hC₀ : h₀.get? H2.objs.size = none := fresh₀ _ (by rw [hC]; exact Nat.le_succ _)
  have hLlt : L < s.heap.objs.size := F.ns.lt
  have hDL : s.heap.objs.size ≠ L := Ne.symm (below L hLlt).2
  have hCL : H2.objs.size ≠ L := Ne.symm (below L hLlt).1
  have hCa : h₀.objs.size ≤ H2.objs.size := by rw [hC]; exact Nat.le_trans F.above (Nat.le_of_lt (Nat.lt_succ_of_lt hLlt))
  have loop : ∀ s₃ : Shared, s₃ = { s with heap := h₁, toks := s.toks + ([] : List (Str × Value)).length } →
      codeAny (model prog w) A (.compLoop (.ListComp elt [⟨.Name x0 px0, i0, [], 0⟩, ⟨.Name x1 px1, iter, [], 0⟩] scope pos) 0 (.ref I) (.ref s.heap.objs.size) (compEnvC scope cl H2.objs.size env))
        (RR (.ref s.heap.objs.size) H2.objs.size) s₃ := by
    rintro s₃ rfl
    refine comp_two (scope' := scope) (cenv := compEnvC scope cl H2.objs.size env) (h₀ := h₀) (L := L) (m := m) (news := news) (base := base) a cnt c dat hh (hf _) W hlive (hx0 _) (hx1 _) hne (hp _) hsz hst₁ hDf hCf hDC hDL hCL hD₀ hC₀ hCa (F.keeps old) (N.grown old) hns₁ hacc (fun q hq => ?_) (fun b hb => ⟨(hwr b hb).1, (hwr b hb).2.1⟩)
      (fun i s₃ m₃ rest v hi hP hm F₃ N₃ ho hd hg => inner _ i s₃ m₃ rest v hi hP hm F₃ N₃ ho hd hg) (fun i j s₃ m₃ rest v t hi hj hP hm hm1 F₃ N₃ ho hd hg => body _ i j s₃ m₃ rest v t hi hj hP hm hm1 F₃ N₃ ho hd hg) (fun h tk gs m' ys obs F' N' hn' hob hdat hg => ?_)
    · have hq' := below _ (Heap.lt_size (N q hq).1)
      exact ⟨fun hw => (hwr _ hw).2.2 q hq rfl, hq'.1, hq'.2⟩
    · refine fin _ _ h tk gs m' ys obs F' N' hn' hCL hC₀ (fun q hq => ?_) (fun q hq => ?_) (fun q hq b hb => ?_) hdat hg
      · rcases List.mem_cons.mp hq with rfl | hq
        · exact hDC
        · rcases List.mem_append.mp hq with hq | hq
          · exact (hob q hq).1
          · exact (below _ (Heap.lt_size (N q hq).1)).1
      · rcases List.mem_append.mp hq with hq | hq
        · exact (hob q hq).2.1
        · exact (below _ (Heap.lt_size (N q hq).1)).2
      · rcases List.mem_cons.mp hb with rfl | hb
        · exact (hob q hq).2.1
        · obtain ⟨r, hr, rfl⟩ := List.mem_map.mp hb
          exact (hob q hq).2.2 r hr
  exact codeAny_compStart_list (loop _ rfl) (wpAny_mono (W.self 0 _ (fun it' s' => codeAny (model prog w) A (.compLoop (.ListComp elt [⟨.Name x0 px0, i0, [], 0⟩, ⟨.Name x1 px1, iter, [], 0⟩] scope pos) 0 it' (.ref s.heap.objs.size) (compEnvC scope cl H2.objs.size env)) (RR (.ref s.heap.objs.size) H2.objs.size) s') (fun _ _ => False) hst₁ (loop _ rfl)) (fun _ _ x => x) (fun _ _ x => x.elim))
end
end Mine
end
section
set_option maxHeartbeats 2000000
open PySem PySem.W PyProof.Rows PySem.Calls PySem.Spec
namespace Mine
/-- the law's own statements and names -/
def lawParts : List Stmt × Scope := match PySem.Challenge.pw_pm0012_01.main.body.getLast? with
  | some (.FunctionDef _ _ b _ _ _ sc _ _ _) => (b, sc)
  | _ => ([], ⟨.function, [], false, false, []⟩)
end Mine
end
section
set_option maxHeartbeats 2000000
open PySem PySem.W PyProof.Rows PySem.Calls PySem.Spec
namespace Mine
/-- a lambda's end -/
def LamEnd (g : Heap) (L' : Addr) (hid : List (Addr × Obj)) (s : Shared) (R : Result → Shared → Prop) (v : Value) (s' : Shared) : Prop :=
  (∃ m', Fr g L' s'.heap m') ∧ Held s'.heap hid ∧ s'.os = s.os ∧ s'.drawn = s.drawn ∧ GB s.gens s'.gens ∧ (Ext s s' → R (.ok (.ret v)) s')
section
variable {prog : Program} {w : World} {mean : ExcName → Option Value} {mg mb : Str → Option Value} {A : Around} {s : Shared} {R : Result → Shared → Prop}
/-- entering a lambda, with some things of the heap laid into the ledger -/
theorem enterL {name qual : Str} {params : Arguments} {body : Expr} {scope : Scope} {cl : List (Str × Addr)} {pm ctv : Value} {c' f : Addr} {args : Args} {binds : List (Str × Value)} {h₀ : Heap} {hid : List (Addr × Obj)}
    (G : Gd w mean mg mb h₀) (hk : ∀ b o, h₀.get? b = some o → s.heap.get? b = some o) (hh₀ : ∀ p ∈ hid, h₀.get? p.1 = none) (hheld : Held s.heap hid)
    (ho : s.heap.get? f = some (kla_obj name qual params body scope cl pm c' ctv)) (hcd : s.heap.CodeRec (.ref c') qual) (hroom : A.depth < recursionLimit)
    (hbind : bindArgs (kla_fn name qual params body scope cl pm (.ref c') ctv) args = pure binds) (hloc : ∀ y ∈ binds, scope.names.lookup y.1 = some .local)
    (hco : scope.isCoroutine = false) (hgen : scope.isGenerator = false) (hkd : scope.kind = .function) (hcell : ∀ x ∈ scope.names, x.2 ≠ .cell)
    (h : ∀ g L' h₁, Gd w mean mg mb g → Fr g L' h₁ (fun y => binds.reverse.lookup y) → News g L' h₁ hid →
      wpAny (model prog w) (A.deeper (envX qual scope L' f (.ref c') cl)) (eval body (envX qual scope L' f (.ref c') cl))
        (LamEnd g L' hid s R) (fun _ _ => False)
        { s with heap := h₁, toks := s.toks + binds.length }) :
    codeAny (model prog w) A (.call (.ref f) args) R s := by
  refine kla_callFunE hroom ho rfl hco hgen rfl hcd ?_
  rw [hbind]
  have GS : Gd w mean mg mb s.heap := G.keeps hk
  refine wpAny_pure (wpAny_newFunctionEnv hcell hloc (fun h₁ hns hsb => ⟨(GS.T.nolimit).fresh _ hsb, ?_⟩) hkd)
  show codeAny _ _ (.expr body (envX qual scope s.heap.objs.size f (.ref c') cl)) _ _
  have hk₁ : ∀ b o, s.heap.get? b = some o → h₁.get? b = some o := fun b o e => hsb.extBut b o (Nat.ne_of_lt (Heap.lt_size e)) (Heap.get?_push_of_some _ e)
  have hg : ∀ b o, h₀.get? b = some o → (hideAll s.heap (hid.map (·.1))).get? b = some o := fun b o e => hideAll_get _ (hk b o e) fun hm => by
    obtain ⟨p, hp, rfl⟩ := List.mem_map.mp hm
    rw [hh₀ p hp] at e; cases e
  refine kla_codeExpr (wpAny_mono (h (hideAll s.heap (hid.map (·.1))) s.heap.objs.size h₁ (G.keeps hg) ⟨hns, fun b o e => hk₁ b o (of_hideAll _ e), Nat.le_of_eq (hideAll_size _ _)⟩
    (fun p hp => ⟨hk₁ _ _ (hheld p hp), Nat.ne_of_lt (Heap.lt_size (hheld p hp)), hideAll_none _ (List.mem_map_of_mem hp)⟩)) (fun v s' ⟨⟨m', F'⟩, hh', h1, h2, h3, h4⟩ => h4 ⟨fun b o e => ?_, h1, h2, h3⟩) fun _ _ y => y.elim)
  by_cases hb : b ∈ hid.map (·.1)
  · obtain ⟨p, hp, rfl⟩ := List.mem_map.mp hb
    have := hheld p hp
    rw [e] at this
    rw [Option.some.inj this]
    exact hh' p hp
  · exact F'.keep b o (hideAll_get _ e hb)
end
section
variable {prog : Program} {w : World} {A : Around} {E : Value → Shared → Prop} {s : Shared} {Q : Value → Shared → Prop}
theorem ne_h {r : Bool} {a b : Addr} {d e : Dat} {n : List (Addr × Obj)} (hn : Held s.heap n) (hx : DatIn n (.ref a) d) (hy : DatIn n (.ref b) e) (h1 : kqdOk 8 d = true) (h2 : kqdOk 8 e = true) (hu : A.units + 64 < cLine) (hr : r = true ↔ d = e) (h : Q (.bool (!r)) s) : wpAny (model prog w) A (compareOp .NotEq (.ref a) (.ref b)) Q E s := by
  obtain ⟨h₀, L, N⟩ := hn.news
  obtain ⟨as, ra⟩ := kqd_in N 8 hx h1
  obtain ⟨bs, rb⟩ := kqd_in N 8 hy h2
  have la := kqd_lay 8 d h1
  have lb := kqd_lay 8 e h2
  have q := kqd_eqv 8 d e 8 h1 h2
  have e' : PyData.eqv (kqdP d) (kqdP e) = r := by
    cases r with
    | true => exact q.mpr (hr.mp rfl)
    | false => exact Bool.eq_false_iff.mpr fun x => by have := hr.mpr (q.mp x); cases this
  refine ne_dataH ra rb ?_ ?_ hu (by rw [e']; exact h)
  · unfold SeqAt.shaped; rw [la.1, Bool.true_and]; exact decide_eq_true (Nat.le_trans la.2 (by decide))
  · unfold SeqAt.shaped; rw [lb.1, Bool.true_and]; exact decide_eq_true (Nat.le_trans lb.2 (by decide))
end
end Mine
end
section
set_option maxHeartbeats 2000000
open PySem PySem.W PyProof.Rows PySem.Calls PySem.Spec
namespace Mine
local macro_rules | `(tactic| walk_at "call ref") => `(tactic| refine stop_intro ?_)
local macro_rules | `(tactic| walk_at "compareOp NotEq ref ref") => `(tactic| refine stop_intro ?_)
local macro_rules | `(tactic| walk_at "compareOp Eq ref ref") => `(tactic| refine stop_intro ?_)
local macro_rules | `(tactic| walk_at "eval Lambda") => `(tactic| refine stop_intro ?_)
local macro_rules | `(tactic| walk_at "LamEnd") => `(tactic| refine stop_intro ?_)
local macro_rules | `(tactic| walk_at "subscriptTail") => `(tactic| refine stop_intro ?_)
local macro_rules | `(tactic| walk_at "subscriptTail Name Slice ref ref") => `(tactic| refine stop_intro ?_)
theorem ne_of_obj {h₀ h : Heap} {L a b : Addr} {news : List (Addr × Obj)} {o o' : Obj} (N : News h₀ L h news) (hp : (a, o) ∈ news) (hq : (b, o') ∈ news) (hd : o ≠ o') : a ≠ b := fun e => by
  subst e
  have h1 := (N _ hp).1
  have h2 := (N _ hq).1
  rw [h1] at h2
  exact hd (Option.some.inj h2)
def pB (gd : Int × Int → Bool) : Dat → Bool
  | .tuple [.int a, .int b] => gd (a, b)
  | _ => false
theorem pB_filter (gd : Int × Int → Bool) (ps : List (Int × Int)) : (ps.map pd).filter (pB gd) = (ps.filter gd).map pd := by
  rw [List.filter_map]; rfl
theorem pB_filter' (gd : Int × Int → Bool) (ps : List (Int × Int)) : (ps.map pd).filter (fun d => !pB gd d) = (ps.filter (fun p => !gd p)).map pd := by
  rw [List.filter_map]; rfl
/-- what the law asks of a row of places, told without a program -/
structure Plain (pls : List Nat) : Prop where
  lt : ∀ i ∈ pls, i < 6
  len : pls.length ≤ 20
  ro : ∀ k : Int, 0 ≤ k → k ≤ 3 → ReplOk (pairsF k) (Str.join (Str.ofString "|") (pls.map sgn))
  rl : ∀ k : Int, 0 ≤ k → k ≤ 3 → (replF (pairsF k) (Str.join (Str.ofString "|") (pls.map sgn))).length ≤ 1000
  dl : ∀ k : Int, 0 ≤ k → k ≤ 3 → (dressF pls k).length = pls.length
  dw : ∀ k : Int, 0 ≤ k → k ≤ 3 → ((dressF pls k).map (·.length)).sum ≤ 1000
  tx : ∀ k : Int, 0 ≤ k → k ≤ 3 → ∀ p, (∀ c ∈ (textF pls k p).cps.toList, c < 128) ∧ (textF pls k p).cps.size ≤ 1000
  ch : ∀ k : Int, 0 ≤ k → k ≤ 3 → ∀ p : Int × Int, 0 ≤ p.1 → p.1 ≤ p.2 → p.2 ≤ pls.length → checkF (textF pls k p).cps.toList = wholeP pls k p
/-- the signs of a stretch -/
def cutS (pls : List Nat) (p : Int × Int) : List Str := ((pls.map sgn).drop p.1.toNat).take (p.2.toNat - p.1.toNat)
def matchB (pls : List Nat) (p : Int × Int) : Bool := struckF (cutS pls p).length (Str.join (Str.ofString "") (cutS pls p)) == Str.ofString ""
theorem sgn_len1 : ∀ {i : Nat}, i < 6 → (sgn i).length ≤ 1 := by decide +kernel
theorem law_end {w : World} {mean : ExcName → Option Value} {mg mb : Str → Option Value} {s : Shared} {h₀ : Heap} {L fa Sg Tk Du Y Z : Addr} {m : Str → Option Value} {body : List Stmt} {scope : Scope}
    {oS : Obj} {vs : Array Value} {ts ys zs : List Value} {n kt ky kz : Nat} {obs : List (Addr × Obj)} {pls : List Nat} {ps : List (Int × Int)} {first : Int} {tf : Tok} {gd : Int × Int → Bool} {Q : Flow → Shared → Prop}
    (e : lawParts = (body, scope)) (G : Gd w mean mg mb h₀) (hC : CodeHd h₀ 91 89) (F : Fr h₀ L s.heap m)
    (N : News h₀ L s.heap ((L + 1 + 1 + 1 + 1 + 1, oS) :: (89, tabObj #[]) :: (Du, { cls := .type "tuple", data := .seq #[.ref Y, .ref Z] }) :: (Sg, PySem.W.listOf vs n) :: (Tk, PySem.W.listOf ts.toArray kt) :: (Y, PySem.W.listOf ys.toArray ky) :: (Z, PySem.W.listOf zs.toArray kz) :: obs))
    (hoS : oS.data = .cell (some (.ref Sg))) (m1 : m (Str.ofString "taken") = some (.ref Tk)) (m2 : m (Str.ofString "due") = some (.ref Du)) (m3 : m (Str.ofString "first") = some (.int first tf))
    (hf0 : 0 ≤ first) (hf3 : first ≤ 2) (hvs : StrsAre vs.toList (pls.map sgn)) (hP : Plain pls) (hps : ∀ p ∈ ps, 0 ≤ p.1 ∧ p.1 ≤ p.2 ∧ p.2 ≤ pls.length) (hgd : ∀ p ∈ ps, matchB pls p = gd p) (hla : ∀ p ∈ ps, gd p = true → wholeP pls ((first + 2).fmod 3) p = true)
    (hts : DatAll obs ts (ps.map pd)) (hys : DatAll obs ys ((ps.filter gd).map pd)) (hzs : DatAll obs zs ((ps.filter (fun p => !gd p)).map pd))
    (hob : ∀ p ∈ obs, p.1 ≠ 89) (hpz : ps.length ≤ 1000)
    (hQ : ∀ s', (∀ b o, h₀.get? b = some o → s'.heap.get? b = some o) → s'.os = s.os → GB s.gens s'.gens → (∃ ps, s'.heap.get? 89 = some (tabObj ps)) → Q (.ret (.bool true)) s') :
    wpAny (model PySem.Challenge.rw_pm0012_01.row.prog w) (rm 314 20) (execs (body.drop 11) (envOfC (Str.ofString "law") scope L fa (.ref 91))) Q (fun _ _ => False) s := by
  injection e with e1 e2
  subst e1 e2
  simp only [List.drop_succ_cons, List.drop_zero]
  have X := G.X
  have T := G.T
  have F₁ := fr_pin (y := Str.ofString "taken") (fr_pin (y := Str.ofString "due") (fr_pin (y := Str.ofString "first") F m3) ((if_neg (by decide)).trans m2)) (u := .ref Tk) ((if_neg (by decide)).trans ((if_neg (by decide)).trans m1))
  clear F
  k_steps
  unfold Stop
  have hm89 : (89, tabObj #[]) ∈ (L + 1 + 1 + 1 + 1 + 1, oS) :: (89, tabObj #[]) :: (Du, ({ cls := .type "tuple", data := .seq #[.ref Y, .ref Z] } : Obj)) :: (Sg, PySem.W.listOf vs n) :: (Tk, PySem.W.listOf ts.toArray kt) :: (Y, PySem.W.listOf ys.toArray ky) :: (Z, PySem.W.listOf zs.toArray kz) :: obs := .tail _ (.head _)
  refine kla_eval rfl (kla_nest F₁ N T hC rfl (.tail ?_ (.head ?_)) ?_ ?_ rfl fun f c' oc vs' t ctv h' tk F₂ N₂ hcd hcv hlt1 hlt2 => ?_)
  · exact ne_of_obj N (.head _) hm89 fun h => by have := congrArg Obj.data h; rw [hoS] at this; cases this
  · intro p hp
    simp only [List.mem_cons] at hp
    rcases hp with rfl | rfl | rfl | rfl | rfl | hp
    · exact ne_of_obj N (.tail _ (.tail _ (.head _))) hm89 fun h => by cases congrArg Obj.data h
    · exact ne_of_obj N (.tail _ (.tail _ (.tail _ (.head _)))) hm89 fun h => by cases congrArg Obj.data h
    · exact ne_of_obj N (.tail _ (.tail _ (.tail _ (.tail _ (.head _))))) hm89 fun h => by cases congrArg Obj.data h
    · exact ne_of_obj N (.tail _ (.tail _ (.tail _ (.tail _ (.tail _ (.head _)))))) hm89 fun h => by cases congrArg Obj.data h
    · exact ne_of_obj N (.tail _ (.tail _ (.tail _ (.tail _ (.tail _ (.tail _ (.head _))))))) hm89 fun h => by cases congrArg Obj.data h
    · exact hob p hp
  · kn_triples
  · kn_among
  clear F₁
  dsimp only
  k_steps
  unfold Stop
  have memT := N₂ (Tk, PySem.W.listOf ts.toArray kt) (.tail _ (.tail _ (.tail _ (.tail _ (.tail _ (.tail _ (.head _)))))))
  have hlts := hts.length
  simp only [List.length_map] at hlts
  refine wpAny_call (code_rm rfl (Nat.le_of_ble_eq_true rfl) (Nat.le_of_ble_eq_true rfl) (split_c (n := obs) (vs := ts) (ds := ps.map pd) (pB gd) (G.keeps F₂.keep) ⟨_, memT.1, rfl, _, rfl⟩ hts (by simpa using hpz) ⟨_, _, _, _, (N₂ _ (.head _)).1⟩ ?hp ?hR))
  case hp =>
    intro s₁ R' v d hd hv e₁ hR'
    obtain ⟨q, hq, rfl⟩ := List.mem_map.mp hd
    obtain ⟨Tq, u, u', kq, rfl, hTq⟩ := datIn_pd hv
    have hqq := hps q hq
    have hfO := e₁.heap _ _ (N₂ _ (.head _)).1
    have N₃ := e₁.news N₂
    refine enterL (A := rm 317 40) (h₀ := h₀) (hid := [(L + 1 + 1 + 1 + 1 + 1, oS), (Sg, PySem.W.listOf vs n), (Tq, { cls := .type "tuple", data := .seq #[.int q.1 u, .int q.2 u'] kq })]) (binds := [(Str.ofString "stretch", .ref Tq)]) G (fun b o e => e₁.heap b o (F₂.keep b o e)) ?_ ?_ hfO ?_ (by decide) (by rfl) (locs rfl) rfl rfl rfl (by decide) fun g L' h₁ Gg F₄ N₄ => ?_
    · intro p hp
      simp only [List.mem_cons, List.not_mem_nil, or_false] at hp
      rcases hp with rfl | rfl | rfl
      · exact (N _ (.head _)).2.2
      · exact (N _ (.tail _ (.tail _ (.tail _ (.head _))))).2.2
      · exact (N _ (.tail _ (.tail _ (.tail _ (.tail _ (.tail _ (.tail _ (.tail _ hTq)))))))).2.2
    · intro p hp
      simp only [List.mem_cons, List.not_mem_nil, or_false] at hp
      rcases hp with rfl | rfl | rfl
      · exact (N₃ _ (.tail _ (.tail _ (.head _)))).1
      · exact (N₃ _ (.tail _ (.tail _ (.tail _ (.tail _ (.tail _ (.head _))))))).1
      · exact (N₃ _ (.tail _ (.tail _ (.tail _ (.tail _ (.tail _ (.tail _ (.tail _ (.tail _ (.tail _ hTq)))))))))).1
    · exact codeRec_news N₃ (.tail _ (.head _)) hcd hcv
    clear F₂ N₂ N₃ N X T
    have X := Gg.X
    have T := Gg.T
    have F₅ := fr_pin (y := Str.ofString "stretch") F₄ (u := .ref Tq) rfl
    clear F₄ hfO hcd hcv hlt1 hlt2 memT
    generalize hqual : (envOfC _ _ _ _ _).qual ++ _ = qual
    clear hqual
    have hvl : vs.size = pls.length := by simpa using hvs.len_eq
    k_steps
    unfold Stop
    refine item_tupleL (j := 0) (News.isTup N₄ (.tail _ (.tail _ (.head _)))) (by decide) (by decide) (seqIx rfl (by simp)) rfl ?_
    k_steps
    unfold Stop
    refine item_tupleL (j := 1) (News.isTup N₄ (.tail _ (.tail _ (.head _)))) (by decide) (by decide) (seqIx rfl (by simp)) rfl ?_
    k_steps
    unfold Stop
    refine slice_mid F₅ N₄ ⟨_, (N₄ _ (.tail _ (.head _))).1, rfl, _, rfl⟩ hqq.1 hqq.2.1 (by omega) (by rw [sizeLine_eq]; have := hP.len; omega) fun h₇ F₇ N₇ hl₇ ho₇ => ?_
    clear F₅ N₄
    k_steps
    unfold Stop
    dsimp only at F₇ N₇ hl₇
    have hcut : StrsAre (((vs.toList.drop q.1.toNat).take (q.2.toNat - q.1.toNat))) (cutS pls q) := (hvs.drop' q.1.toNat).take' (q.2.toNat - q.1.toNat)
    have hcl : (cutS pls q).length ≤ 20 := by
      have := hP.len
      unfold cutS
      rw [List.length_take, List.length_drop, List.length_map]; omega
    have hone : ∀ y ∈ cutS pls q, y.length ≤ 1 := fun y hy => by
      have hy' := List.mem_of_mem_drop (List.mem_of_mem_take hy)
      obtain ⟨i, hi, rfl⟩ := List.mem_map.mp hy'
      exact sgn_len1 (hP.lt i hi)
    refine wpAny_call (code_rm rfl (Nat.le_of_ble_eq_true rfl) (Nat.le_of_ble_eq_true rfl) (struck_c (ys := cutS pls q) (Gg.keeps F₇.keep) hl₇ hcut hcl (Nat.le_trans (StrLaws.sumLen_le _ hone) (by omega)) fun s₈ t₈ e₈ => ?_))
    have F₈ := e₈.fr F₇
    have N₈ := e₈.news N₇
    have ho₈ := e₈.os
    have hd₈ := e₈.drawn
    have hg₈ := e₈.gens
    dsimp only at ho₈ hd₈ hg₈ ⊢
    clear F₇ N₇ ho₇
    k_steps
    unfold Stop
    have hb : (struckF (cutS pls q).length (Str.join (Str.ofString "") (cutS pls q)) == Str.ofString "") = pB gd (pd q) := hgd q hq
    refine ⟨⟨_, F₈⟩, fun p hp => (N₈ p (.tail _ hp)).1, ho₈, hd₈, hg₈, fun e₉ => ?_⟩
    have z := hR' _ e₉
    rw [← hb] at z
    exact z
  case hR =>
    intro s₃ Tp Y' Z' ya za ky' kz' e₃ hfr hYZ hya hza
    have F₃ := e₃.fr F₂
    have Nf := Fresh.news hfr F₂
    have N₃ := News.append Nf (e₃.news N₂)
    have ho₃ := e₃.os
    have hd₃ := e₃.drawn
    have hg₃ := e₃.gens
    dsimp only at ho₃ hd₃ hg₃ ⊢
    simp only [List.cons_append, List.nil_append] at N₃
    clear F₂ N₂ Nf N X
    have X := G.X
    k_steps
    rename Fr _ _ _ _ => F₄
    rename News _ _ _ _ => N₄
    unfold Stop
    clear hfr e₃ memT
    rw [pB_filter] at hya
    rw [pB_filter'] at hza
    have sub := fun (p : Addr × Obj) (hp : p ∈ obs) => N₄ p (by repeat' first | exact hp | refine List.mem_cons_of_mem _ ?_)
    have sub2 : Held _ (((Tp, { cls := .type "tuple", data := .seq #[.ref Y', .ref Z'] }) : Addr × Obj) :: (Y', PySem.W.listOf ya.toList.toArray ky') :: (Z', PySem.W.listOf za.toList.toArray kz') :: (Du, { cls := .type "tuple", data := .seq #[.ref Y, .ref Z] }) :: (Y, PySem.W.listOf ys.toArray ky) :: (Z, PySem.W.listOf zs.toArray kz) :: obs) := fun p hp => by
      simp only [List.mem_cons] at hp
      rcases hp with rfl | rfl | rfl | rfl | rfl | rfl | hp
      · exact (N₄ _ (by k_mem)).1
      · rw [Array.toArray_toList]; exact (N₄ _ (by k_mem)).1
      · rw [Array.toArray_toList]; exact (N₄ _ (by k_mem)).1
      · exact (N₄ _ (by k_mem)).1
      · exact (N₄ _ (by k_mem)).1
      · exact (N₄ _ (by k_mem)).1
      · exact (sub p hp).1
    have obm := fun (p : Addr × Obj) (hp : p ∈ obs) => (List.mem_cons_of_mem (Tp, ({ cls := .type "tuple", data := .seq #[.ref Y', .ref Z'] } : Obj)) (List.mem_cons_of_mem (Y', PySem.W.listOf ya.toList.toArray ky') (List.mem_cons_of_mem (Z', PySem.W.listOf za.toList.toArray kz') (List.mem_cons_of_mem (Du, ({ cls := .type "tuple", data := .seq #[.ref Y, .ref Z] } : Obj)) (List.mem_cons_of_mem (Y, PySem.W.listOf ys.toArray ky) (List.mem_cons_of_mem (Z, PySem.W.listOf zs.toArray kz) hp))))))
    have dT := DatIn.tuple (vs := [.ref Y', .ref Z']) (n := 0) (.head _) (.cons (.list (.tail _ (.head _)) (hya.mono obm)) (.cons (.list (.tail _ (.tail _ (.head _))) (hza.mono obm)) .nil))
    have dD := DatIn.tuple (vs := [.ref Y, .ref Z]) (n := 0) (.tail _ (.tail _ (.tail _ (.head _)))) (.cons (.list (.tail _ (.tail _ (.tail _ (.tail _ (.head _))))) (hys.mono obm)) (.cons (.list (.tail _ (.tail _ (.tail _ (.tail _ (.tail _ (.head _)))))) (hzs.mono obm)) .nil))
    refine ne_h (r := true) sub2 dT dD (by simp [kqdOk, pd]) (by simp [kqdOk, pd]) (Nat.le_of_ble_eq_true rfl) ⟨fun _ => rfl, fun _ => rfl⟩ ?_
    k_steps
    unfold Stop
    dsimp only
    refine item_tupleL (j := 0) (News.isTup N₄ (.head _)) (by decide) (by decide) (seqIx rfl (by simp)) rfl ?_
    k_steps
    unfold Stop
    have hk : 0 ≤ (first + 2).fmod 3 ∧ (first + 2).fmod 3 ≤ 3 := by
      rw [Int.fmod_eq_emod_of_nonneg _ (by decide)]; omega
    have hS : ListH _ Sg ((pls.map sgn).map Dat.str) := ⟨[], vs.toList, n, (fun _ h => nomatch h), by rw [Array.toArray_toList]; exact (N₄ (Sg, PySem.W.listOf vs n) (by k_mem)).1, strs_datAll hvs⟩
    have hLY : ListH _ Y' ((ps.filter gd).map pd) := ⟨obs, ya.toList, ky', fun p hp => (sub p hp).1, by rw [Array.toArray_toList]; exact (N₄ (Y', PySem.W.listOf ya ky') (by k_mem)).1, hya⟩
    have hpsf : ∀ p ∈ ps.filter gd, 0 ≤ p.1 ∧ p.1 ≤ p.2 ∧ p.2 ≤ pls.length := fun p hp => hps p (List.mem_filter.mp hp).1
    refine wpAny_call (code_rm rfl (Nat.le_of_ble_eq_true rfl) (Nat.le_of_ble_eq_true rfl) (taken_c (pls := pls) (ps := ps.filter gd) dressed_c (G.keeps F₄.keep) hS hLY hP.lt hP.len hk.1 hk.2 hpsf (Nat.le_trans (List.length_filter_le _ _) hpz) (hP.ro _ hk.1 hk.2) (hP.rl _ hk.1 hk.2) (hP.dl _ hk.1 hk.2) (fun p _ => hP.tx _ hk.1 hk.2 p) (hP.dw _ hk.1 hk.2) (fun p hp => hP.ch _ hk.1 hk.2 p (hpsf p hp).1 (hpsf p hp).2.1 (hpsf p hp).2.2) fun s₅ r₅ ys₅ n₅ obs₅ e₅ hfr₅ hd₅ => ?_))
    rw [List.filter_eq_self.mpr (fun p hp => hla p (List.mem_filter.mp hp).1 (List.mem_filter.mp hp).2)] at hd₅
    have F₅ := e₅.fr F₄
    have N₅ := e₅.news N₄
    have hLr : ListH s₅.heap r₅ ((ps.filter gd).map pd) := ⟨obs₅, ys₅, n₅, fun p hp => (hfr₅ p (.tail _ hp)).2, (hfr₅ _ (.head _)).2, hd₅⟩
    have hLY₅ := hLY.keeps e₅.heap
    have e89 := (N₅ (89, _) (by k_mem)).1
    have ho₅ := e₅.os
    have hg₅ := e₅.gens
    dsimp only at ho₅ hg₅ ⊢
    clear F₄ N₄ sub sub2 obm dT dD hS hLY
    k_steps
    unfold Stop
    refine item_tupleL (j := 0) (News.isTup N₅ (.head _)) (by decide) (by decide) (seqIx rfl (by simp)) rfl ?_
    k_steps
    unfold Stop
    refine eq_h (r := true) hLr hLY₅ (fun d hd => by obtain ⟨p, _, rfl⟩ := List.mem_map.mp hd; exact pd_ok _ _) (fun d hd => by obtain ⟨p, _, rfl⟩ := List.mem_map.mp hd; exact pd_ok _ _) (Nat.le_of_ble_eq_true rfl) ⟨fun _ => rfl, fun _ => rfl⟩ ?_
    k_steps
    exact hQ _ F₅.keep (ho₅.trans ho₃) (hg₃.trans hg₅) ⟨_, e89⟩
end Mine
end
section
set_option maxHeartbeats 4000000
open PySem PySem.W PyProof.Rows PySem.Calls PySem.Spec
namespace Mine
local macro_rules | `(tactic| walk_at "call ref") => `(tactic| refine stop_intro ?_)
local macro_rules | `(tactic| walk_at "pyIter ref") => `(tactic| refine stop_intro ?_)
local macro_rules | `(tactic| walk_at "exec Assign cons ListComp") => `(tactic| refine stop_intro ?_)
local macro_rules | `(tactic| walk_at "exec For Tuple Name cons nil") => `(tactic| refine stop_intro ?_)
local macro_rules | `(tactic| walk_at "TurnP") => `(tactic| refine stop_intro ?_)
local macro_rules | `(tactic| walk_at "EltEnd") => `(tactic| refine stop_intro ?_)
local macro_rules | `(tactic| walk_at "TestEnd") => `(tactic| refine stop_intro ?_)
local macro_rules | `(tactic| walk_at "compareOp NotIn ref ref") => `(tactic| refine stop_intro ?_)
local macro_rules | `(tactic| walk_at "compareOp NotIn") => `(tactic| refine stop_intro ?_)
local macro_rules | `(tactic| walk_at "compareOp Eq ref ref") => `(tactic| refine stop_intro ?_)
local macro_rules | `(tactic| walk_at "subscriptTail") => `(tactic| refine stop_intro ?_)
local macro_rules | `(tactic| walk_at "call builtin:list.append") => `(tactic| refine stop_intro ?_)
/-- what is a sequence is neither a cell nor a table nor an iterator -/
def AllSeq (obs : List (Addr × Obj)) : Prop := ∀ p ∈ obs, p.2.cls = .type "tuple" ∧ ∃ xs k, p.2.data = .seq xs k
def oddB (w1 w2 : Int × Int → Bool) (q : Int × Int) : Bool := !(w1 q && w2 q)
theorem mem_filter_pd {ps : List (Int × Int)} {f : Int × Int → Bool} {q : Int × Int} (hq : q ∈ ps) : f q = true ↔ pd q ∈ (ps.filter f).map pd := by
  constructor
  · intro h; exact List.mem_map.mpr ⟨q, List.mem_filter.mpr ⟨hq, h⟩, rfl⟩
  · intro h
    obtain ⟨p, hp, e⟩ := List.mem_map.mp h
    rw [← pd_inj e]; exact (List.mem_filter.mp hp).2
open Classical in
noncomputable def isSeqP (p : Addr × Obj) : Bool := decide (p.2.cls = .type "tuple" ∧ ∃ xs k, p.2.data = .seq xs k)
open Classical in
theorem allSeq_filter (obs : List (Addr × Obj)) : AllSeq (obs.filter isSeqP) := fun p hp => of_decide_eq_true (List.mem_filter.mp hp).2
open Classical in
theorem datAll_seq {n : List (Addr × Obj)} {vs : List Value} {ps : List (Int × Int)} (hd : DatAll n vs (ps.map pd)) : DatAll (n.filter isSeqP) vs (ps.map pd) := by
  induction ps generalizing vs with
  | nil =>
    have h' : DatAll n vs [] := hd
    cases h'; exact .nil
  | cons p ps ih =>
    have h' : DatAll n vs (pd p :: ps.map pd) := hd
    cases h' with
    | cons h1 h2 =>
      refine .cons ?_ (ih h2)
      obtain ⟨T, u, u', k, rfl, hm⟩ := datIn_pd h1
      exact .tuple (vs := [.int p.1 u, .int p.2 u']) (n := k) (List.mem_filter.mpr ⟨hm, decide_eq_true ⟨rfl, _, _, rfl⟩⟩) (.cons (.int _ _) (.cons (.int _ _) .nil))
theorem cell_ne {h₀ h : Heap} {L a c : Addr} {news : List (Addr × Obj)} {o oc : Obj} {v : Option Value} (N : News h₀ L h news) (hp : (a, o) ∈ news) (hq : (c, oc) ∈ news) (hd : oc.data = .cell v) (ho : ∀ v, o.data ≠ .cell v) : a ≠ c :=
  ne_of_obj N hp hq fun e => ho v (e ▸ hd)
theorem AllSeq.noCell {obs : List (Addr × Obj)} (h : AllSeq obs) {p : Addr × Obj} (hp : p ∈ obs) : ∀ v, p.2.data ≠ .cell v := fun v e => by
  obtain ⟨_, xs, k, e'⟩ := h p hp
  rw [e] at e'; cases e'
theorem AllSeq.notIter {obs : List (Addr × Obj)} (h : AllSeq obs) {p : Addr × Obj} (hp : p ∈ obs) : NotIter p.2 := .inr fun a e => by
  obtain ⟨_, xs, k, e'⟩ := h p hp
  rw [e] at e'; cases e'
/-- the ledger of the for's state -/
def midSt (L Du Sg D Y Z : Addr) (oL oH oS : Obj) (vs : Array Value) (n : Nat) (ys : List Value) (ky' : Nat) (ya za : Array Value) (ky kz : Nat) (obY : List (Addr × Obj)) : List (Addr × Obj) :=
  (L + 1, oL) :: (L + 1 + 1, oH) :: (L + 1 + 1 + 1 + 1 + 1, oS) :: (89, tabObj #[]) :: (Du, ({ cls := .type "tuple", data := .seq #[.ref Y, .ref Z] } : Obj)) :: (Sg, PySem.W.listOf vs n) :: (D, PySem.W.listOf ys.toArray ky') :: (Y, PySem.W.listOf ya ky) :: (Z, PySem.W.listOf za kz) :: obY
def midJ (L Du Sg D Y Z Tk : Addr) (first : Int) (tf : Tok) (oS : Obj) (vs : Array Value) (n : Nat) (ys : List Value) (ky' : Nat) (ps : List (Int × Int)) (gd : Int × Int → Bool) (i : Nat) (m : Str → Option Value) (nx : List (Addr × Obj)) : Prop :=
  m (Str.ofString "taken") = some (.ref Tk) ∧ m (Str.ofString "first") = some (.int first tf) ∧ m (Str.ofString "due") = some (.ref Du) ∧ m (Str.ofString "odd") = some (.ref D) ∧
  ∃ oL oH vL vH ya ky za kz obY, nx = midSt L Du Sg D Y Z oL oH oS vs n ys ky' ya za ky kz obY ∧ oL.data = .cell vL ∧ oH.data = .cell vH ∧ DatAll obY ya.toList (((ps.take i).filter gd).map pd) ∧ DatAll obY za.toList (((ps.take i).filter fun p => !gd p).map pd) ∧ AllSeq obY
theorem AllSeq.noList {obs : List (Addr × Obj)} (h : AllSeq obs) {p : Addr × Obj} (hp : p ∈ obs) : p.2.cls ≠ .type "list" := fun e => by
  have := (h p hp).1
  rw [e] at this
  injection this with this
  exact absurd this (by decide)
theorem list_ne {h₀ h : Heap} {L a c : Addr} {news : List (Addr × Obj)} {o : Obj} {its : Array Value} {k : Nat} (N : News h₀ L h news) (hp : (a, o) ∈ news) (hq : (c, PySem.W.listOf its k) ∈ news) (ho : o.cls ≠ .type "list") : a ≠ c :=
  ne_of_obj N hp hq fun e => ho (by rw [e])
theorem list_ne' {h₀ h : Heap} {L a c : Addr} {news : List (Addr × Obj)} {o : Obj} {its : Array Value} {k : Nat} (N : News h₀ L h news) (hp : (a, o) ∈ news) (hq : (c, PySem.W.listOf its k) ∈ news) (ho : ∀ xs k, o.data ≠ .seq xs k) : a ≠ c :=
  ne_of_obj N hp hq fun e => ho its k (by rw [e])
theorem tuple_ne_list : Value.type "tuple" ≠ Value.type "list" := by decide
theorem midSt_iter {L Du Sg D Y Z : Addr} {oL oH oS : Obj} {vs : Array Value} {n : Nat} {ys : List Value} {ky' : Nat} {ya za : Array Value} {ky kz : Nat} {obY : List (Addr × Obj)} {vL vH vS : Option Value} (hL : oL.data = .cell vL) (hH : oH.data = .cell vH) (hS : oS.data = .cell vS) (hq : AllSeq obY) :
    ∀ p ∈ midSt L Du Sg D Y Z oL oH oS vs n ys ky' ya za ky kz obY, NotIter p.2 := fun p hp => by
  unfold midSt at hp
  simp only [List.mem_cons] at hp
  rcases hp with rfl | rfl | rfl | rfl | rfl | rfl | rfl | rfl | rfl | hp
  · exact .inr fun a e => by rw [hL] at e; cases e
  · exact .inr fun a e => by rw [hH] at e; cases e
  · exact .inr fun a e => by rw [hS] at e; cases e
  · exact .inl (by decide)
  · exact .inr fun a e => by cases e
  · exact .inr fun a e => by cases e
  · exact .inr fun a e => by cases e
  · exact .inr fun a e => by cases e
  · exact .inr fun a e => by cases e
  · exact hq.notIter hp
theorem law_mid {w : World} {mean : ExcName → Option Value} {mg mb : Str → Option Value} {s : Shared} {h₀ : Heap} {L fa Sg Tk O1 O2 : Addr} {m : Str → Option Value} {body : List Stmt} {scope : Scope}
    {oL oH o1 o2 oS : Obj} {vs : Array Value} {ts as bs : List Value} {n kt ka kb : Nat} {obs : List (Addr × Obj)} {pls : List Nat} {ps : List (Int × Int)} {first : Int} {tf : Tok} {w1 w2 gd : Int × Int → Bool} {Q : Flow → Shared → Prop}
    (e : lawParts = (body, scope)) (G : Gd w mean mg mb h₀) (hC : CodeHd h₀ 91 89) (F : Fr h₀ L s.heap m)
    (N : News h₀ L s.heap ((L + 1, oL) :: (L + 1 + 1, oH) :: (L + 1 + 1 + 1, o1) :: (L + 1 + 1 + 1 + 1, o2) :: (L + 1 + 1 + 1 + 1 + 1, oS) :: (89, tabObj #[]) :: (Sg, PySem.W.listOf vs n) :: (Tk, PySem.W.listOf ts.toArray kt) :: (O1, PySem.W.listOf as.toArray ka) :: (O2, PySem.W.listOf bs.toArray kb) :: obs))
    (hoL : oL.data = .cell none) (hoH : oH.data = .cell none) (ho1 : o1.data = .cell (some (.ref O1))) (ho2 : o2.data = .cell (some (.ref O2))) (hoS : oS.data = .cell (some (.ref Sg)))
    (m1 : m (Str.ofString "taken") = some (.ref Tk)) (m3 : m (Str.ofString "first") = some (.int first tf))
    (hf0 : 0 ≤ first) (hf3 : first ≤ 2) (hvs : StrsAre vs.toList (pls.map sgn)) (hP : Plain pls) (hps : ∀ p ∈ ps, 0 ≤ p.1 ∧ p.1 ≤ p.2 ∧ p.2 ≤ pls.length) (hgd : ∀ p ∈ ps, matchB pls p = gd p) (hla : ∀ p ∈ ps, gd p = true → wholeP pls ((first + 2).fmod 3) p = true)
    (hge : ∀ p ∈ ps, gd p = !(ps.any fun q => oddB w1 w2 q && (decide (p.1 ≤ q.1) && decide (q.2 ≤ p.2))))
    (hts : DatAll obs ts (ps.map pd)) (has : DatAll obs as ((ps.filter w1).map pd)) (hbs : DatAll obs bs ((ps.filter w2).map pd))
    (hob : AllSeq obs) (hpz : ps.length ≤ 1000)
    (hQ : ∀ s', (∀ b o, h₀.get? b = some o → s'.heap.get? b = some o) → s'.os = s.os → GB s.gens s'.gens → (∃ ps, s'.heap.get? 89 = some (tabObj ps)) → Q (.ret (.bool true)) s') :
    wpAny (model PySem.Challenge.rw_pm0012_01.row.prog w) (rm 314 20) (execs (body.drop 8) (envOfC (Str.ofString "law") scope L fa (.ref 91))) Q (fun _ _ => False) s := by
  have e0 := e
  injection e with e1 e2
  have hdrop : body.drop 11 = (body.drop 8).drop 3 := by rw [List.drop_drop]
  have tail11 := fun (s : Shared) (hh : wpAny (model PySem.Challenge.rw_pm0012_01.row.prog w) (rm 314 20) (execs (body.drop 11) (envOfC (Str.ofString "law") scope L fa (.ref 91))) Q (fun _ _ => False) s) => hh
  subst e1 e2
  simp only [List.drop_succ_cons, List.drop_zero]
  simp only [List.drop_succ_cons, List.drop_zero] at tail11
  have X := G.X
  have T := G.T
  have F₁ := fr_pin (y := Str.ofString "taken") (fr_pin (y := Str.ofString "first") F m3) ((if_neg (by decide)).trans m1)
  clear F
  k_steps
  unfold Stop
  refine comp_assign (by with_unfolding_all rfl) (by with_unfolding_all rfl) rfl (by decide) ?_
  k_steps
  unfold Stop
  have hlT : Heap.IsList _ Tk ts.toArray := ⟨_, (N _ (.tail _ (.tail _ (.tail _ (.tail _ (.tail _ (.tail _ (.tail _ (.head _))))))))).1, rfl, _, rfl⟩
  refine comp_list (base := obs) rfl hlT hts (by simpa using Nat.le_trans hpz (by decide)) (pB (oddB w1 w2)) id (by decide) rfl rfl F₁ N (fun C v d s₃ m₃ rest hd hv hx F₅ N₅ ho hdr hg => ?_) (fun C v d s₃ m₃ rest hd _ hv hx F₅ N₅ ho hdr hg => ?_) ?_
  · obtain ⟨q, hq, rfl⟩ := List.mem_map.mp hd
    have F₆ := fr_pin (y := Str.ofString "stretch") F₅ hx
    have N₆ := N₅
    simp only [List.cons_append] at N₆
    clear F₅ N F₁
    k_steps
    all_goals try first | exact (0 : Addr) | exact Value.none | exact Str.ofString "" | exact ([] : List (Str × Addr))
    unfold Stop
    have obm := fun (p : Addr × Obj) (hp : p ∈ obs) => N₆ p (by repeat' first | exact List.mem_append_left _ hp | refine List.mem_cons_of_mem _ ?_)
    have hO1 : ListH s₃.heap O1 ((ps.filter w1).map pd) := ⟨obs, as, ka, fun p hp => (obm p hp).1, (N₆ (O1, PySem.W.listOf as.toArray ka) (by k_mem)).1, has⟩
    have hO2 : ListH s₃.heap O2 ((ps.filter w2).map pd) := ⟨obs, bs, kb, fun p hp => (obm p hp).1, (N₆ (O2, PySem.W.listOf bs.toArray kb) (by k_mem)).1, hbs⟩
    have allok : ∀ (f : Int × Int → Bool), ∀ d ∈ (ps.filter f).map pd, kqdOk 8 d = true := fun f d hd => by obtain ⟨p, _, rfl⟩ := List.mem_map.mp hd; exact pd_ok _ _
    have hheld : Held s₃.heap obs := fun p hp => (obm p hp).1
    have eodd : pB (oddB w1 w2) (pd q) = (!(w1 q && w2 q)) := rfl
    refine notIn_h (r := w1 q) hO1 hheld hv (allok _) (pd_ok _ _) (Nat.le_of_ble_eq_true rfl) (mem_filter_pd hq) ?_
    cases hw1 : w1 q with
    | false =>
      k_steps
      all_goals try first | exact (0 : Addr) | exact Value.none | exact Str.ofString "" | exact ([] : List (Str × Addr))
      unfold Stop
      rw [eodd, hw1]
      exact TestEnd.same (fr_unpin F₆ hx) (fun p hp => N₆ p hp)
    | true =>
      k_steps
      all_goals try first | exact (0 : Addr) | exact Value.none | exact Str.ofString "" | exact ([] : List (Str × Addr))
      unfold Stop
      refine notIn_h (r := w2 q) hO2 hheld hv (allok _) (pd_ok _ _) (Nat.le_of_ble_eq_true rfl) (mem_filter_pd hq) ?_
      cases hw2 : w2 q with
      | false =>
        k_steps
        all_goals try first | exact (0 : Addr) | exact Value.none | exact Str.ofString "" | exact ([] : List (Str × Addr))
        unfold Stop
        rw [eodd, hw1, hw2]
        exact TestEnd.same (fr_unpin F₆ hx) (fun p hp => N₆ p hp)
      | true =>
        k_steps
        all_goals try first | exact (0 : Addr) | exact Value.none | exact Str.ofString "" | exact ([] : List (Str × Addr))
        unfold Stop
        rw [eodd, hw1, hw2]
        exact TestEnd.same (fr_unpin F₆ hx) (fun p hp => N₆ p hp)
  · obtain ⟨q, hq, rfl⟩ := List.mem_map.mp hd
    have F₆ := fr_pin (y := Str.ofString "stretch") F₅ hx
    have N₆ := N₅
    simp only [List.cons_append] at N₆
    clear F₅ N F₁ N₅
    k_steps
    all_goals try first | exact (0 : Addr) | exact Value.none | exact Str.ofString "" | exact ([] : List (Str × Addr))
    unfold Stop
    exact EltEnd.mk0 (fr_unpin F₆ hx) (fun p hp => N₆ p hp) hv (.refl _)
  · intro D C h tk gs m' ys obs' F₅ N₅ hn' hCL hC₀ hoff hD hO hdat hgA
    refine' comp_fin_assign ?y1 ?y2 ?y3 F₅ N₅ hn' hCL hC₀ hoff ?_
    case y1 => rfl
    case y2 => rfl
    case y3 => rfl
    intro h₆ tk₆ F₆ N₆
    rw [pB_filter, List.map_id] at hdat
    have hys := datAll_seq hdat
    have hts' := datAll_seq (hts.mono fun p hp => (List.mem_append_right obs' hp : p ∈ obs' ++ obs))
    have hsq := allSeq_filter (obs' ++ obs)
    have N₇ : News h₀ L h₆ ((D, PySem.W.listOf ys.toArray ys.length) :: (L + 1, oL) :: (L + 1 + 1, oH) :: (L + 1 + 1 + 1, o1) :: (L + 1 + 1 + 1 + 1, o2) :: (L + 1 + 1 + 1 + 1 + 1, oS) :: (89, tabObj #[]) :: (Sg, PySem.W.listOf vs n) :: (Tk, PySem.W.listOf ts.toArray kt) :: ((obs' ++ obs).filter isSeqP)) :=
      picksN N₆ (picksN (rightN (tailN N₆)) (filterN isSeqP (News.append (leftN (tailN N₆)) (dropN 10 (rightN (tailN N₆))))) [0, 1, 2, 3, 4, 5, 6, 7]) [0]
    generalize (obs' ++ obs).filter isSeqP = ob at hys hts' hsq N₇
    clear N₆ N₅ F₅ hoff hO hD hn' N F₁ hdat hts has hbs hob
    k_steps
    unfold Stop
    refine for_own ?_ (by intro _; rfl)
    k_steps
    rename Fr _ _ _ _ => F₈
    rename News _ _ _ _ => N₈
    rename_i Y _ hY Z _ hYZ Du _ _ _
    unfold Stop
    have hYZ' : Y ≠ Z := Nat.ne_of_lt hYZ.1
    have hDY : D ≠ Y := Nat.ne_of_lt hY.1
    have hSY : Sg ≠ Y := Nat.ne_of_lt hY.2.2.2.2.2.2.2.1
    have hTY : Tk ≠ Y := Nat.ne_of_lt hY.2.2.2.2.2.2.2.2.1
    have hDZ : D ≠ Z := Nat.ne_of_lt hYZ.2.1
    have hSZ : Sg ≠ Z := Nat.ne_of_lt hYZ.2.2.2.2.2.2.2.2.1
    have hTZ : Tk ≠ Z := Nat.ne_of_lt hYZ.2.2.2.2.2.2.2.2.2.1
    have N₉ : News h₀ L _ (midSt L Du Sg D Y Z oL oH oS vs n ys ys.length #[] #[] 0 0 [] ++ ((Tk, PySem.W.listOf ts.toArray kt) :: ob)) := picksN N₈ (dropN 11 N₈) [4, 5, 8, 9, 0, 10, 3, 2, 1]
    clear N₈
    refine for_pairs (G₀ := s.gens) (midJ L Du Sg D Y Z Tk first tf oS vs n ys ys.length ps gd) rfl (.head _) (hts'.mono fun p hp => .tail _ hp) F₈ N₉ (midSt_iter hoL hoH hoS (fun _ h => nomatch h)) (fun p hp => ?_) ⟨rfl, rfl, rfl, rfl, _, _, _, _, _, _, _, _, _, rfl, hoL, hoH, .nil, .nil, fun _ h => nomatch h⟩ hgA ?_ ?_
    · rcases List.mem_cons.mp hp with rfl | hp
      · exact .inr fun a e => by cases e
      · exact hsq.notIter hp
    · rintro i q T' u u' kq m₁ nx h tk gs I oI hiq hT' ⟨xI, hoI⟩ hni ⟨hm1, hm2, hm3, hm4, oL', oH', vL, vH, ya, ky, za, kz, obY, rfl, hL', hH', hya, hza, hsY⟩ hGB F₁₀ N₁₀
      have hqi : q ∈ ps := List.mem_of_getElem? hiq
      have hTt : h.IsTuple T' #[.int q.1 u, .int q.2 u'] := ⟨_, (N₁₀ _ (List.mem_append_right _ (List.mem_append_left _ hT'))).1, rfl, _, rfl⟩
      unfold midSt at N₁₀
      simp only [List.cons_append] at N₁₀
      clear F₈ N₉
      have F₁₁ := fr_pin (y := Str.ofString "odd") (fr_pin (y := Str.ofString "due") (fr_pin (y := Str.ofString "taken") (fr_pin (y := Str.ofString "first") F₁₀ hm2) ((if_neg (by decide)).trans hm1)) ((if_neg (by decide)).trans ((if_neg (by decide)).trans hm3))) ((if_neg (by decide)).trans ((if_neg (by decide)).trans ((if_neg (by decide)).trans hm4)))
      clear F₁₀
      have nocell : ∀ p, p ∈ obY ++ ((Tk, PySem.W.listOf ts.toArray kt) :: ob ++ [(I, oI)]) → ∀ v, p.2.data ≠ .cell v := fun p hp v e => by
        simp only [List.mem_append, List.mem_cons, List.not_mem_nil, or_false] at hp
        rcases hp with hp | (rfl | hp) | rfl
        · exact hsY.noCell hp v e
        · cases e
        · exact hsq.noCell hp v e
        · rw [hoI] at e; cases e
      refine assign_pairC rfl hTt rfl rfl (by with_unfolding_all rfl) rfl (by with_unfolding_all rfl) F₁₁ N₁₀ hL' hH' (Nat.ne_of_lt (Nat.lt_succ_self _)) (fun p hp => ?_) fun h₂ tk₂ oL₂ oH₂ F₁₂ hL₂ hH₂ N₁₂ => ?_
      · have key : (∀ v, p.2.data ≠ .cell v) → p.1 ≠ L + 1 ∧ p.1 ≠ L + 1 + 1 := fun hv => ⟨cell_ne N₁₀ (.tail _ (.tail _ hp)) (.head _) hL' hv, cell_ne N₁₀ (.tail _ (.tail _ hp)) (.tail _ (.head _)) hH' hv⟩
        simp only [List.mem_cons] at hp
        rcases hp with rfl | rfl | rfl | rfl | rfl | rfl | rfl | hp'
        · constructor <;> (show @Ne Nat _ _; omega)
        · exact key fun v e => by cases e
        · exact key fun v e => by cases e
        · exact key fun v e => by cases e
        · exact key fun v e => by cases e
        · exact key fun v e => by cases e
        · exact key fun v e => by cases e
        · exact key (nocell p hp')
      clear F₁₁ N₁₀
      k_steps
      unfold Stop
      refine comp_assign (by with_unfolding_all rfl) (by with_unfolding_all rfl) rfl (by decide) ?_
      k_steps
      unfold Stop
      have hlD : Heap.IsList _ D ys.toArray := ⟨_, (N₁₂ (D, PySem.W.listOf ys.toArray ys.length) (by k_mem)).1, rfl, _, rfl⟩
      have hylen : (ps.filter (oddB w1 w2)).length ≤ 1000 := Nat.le_trans (List.length_filter_le _ _) hpz
      refine comp_list (base := ob) rfl hlD hys (by simpa using Nat.le_trans hylen (by decide)) (pB fun r => decide (q.1 ≤ r.1) && decide (r.2 ≤ q.2)) id (by decide) rfl rfl F₁₂ N₁₂ (fun C v d s₃ m₃ rest hd hv hx F₅ N₅ ho hdr hg => ?_) (fun C v d s₃ m₃ rest hd _ hv hx F₅ N₅ ho hdr hg => ?_) ?_
      · obtain ⟨r, hr, rfl⟩ := List.mem_map.mp hd
        obtain ⟨Tr, y, y', kr, rfl, hTr⟩ := datIn_pd hv
        have F₆ := fr_pin (y := Str.ofString "stretch") F₅ hx
        have N₆ := N₅
        simp only [List.cons_append] at N₆
        clear F₅ F₁₂ N₁₂
        have hTrr : IsTup s₃.heap Tr #[.int r.1 y, .int r.2 y'] := by
          refine ⟨_, (N₅ (Tr, { cls := .type "tuple", data := .seq #[.int r.1 y, .int r.2 y'] kr }) (List.mem_append_left _ ?_)).1, rfl, _, rfl⟩
          repeat' first | exact List.mem_append_right _ (List.mem_append_left _ (.tail _ hTr)) | refine List.mem_cons_of_mem _ ?_
        clear N₅
        k_steps
        all_goals try first | exact (0 : Addr) | exact Value.none | exact Str.ofString "" | exact ([] : List (Str × Addr))
        unfold Stop
        refine item_tuple (x := .int r.1 y) (j := 0) hTrr (by decide) (by decide) (seqIx rfl (by simp)) rfl ?_
        k_steps
        all_goals try first | exact (0 : Addr) | exact Value.none | exact Str.ofString "" | exact ([] : List (Str × Addr))
        · rename_i hle1
          unfold Stop
          refine item_tuple (x := .int r.2 y') (j := 1) hTrr (by decide) (by decide) (seqIx rfl (by simp)) rfl ?_
          k_steps
          all_goals try first | exact (0 : Addr) | exact Value.none | exact Str.ofString "" | exact ([] : List (Str × Addr))
          · rename_i hle2
            unfold Stop
            have hb : pB (fun r => decide (q.1 ≤ r.1) && decide (r.2 ≤ q.2)) (pd r) = true := by
              show (decide (q.1 ≤ r.1) && decide (r.2 ≤ q.2)) = true
              simp [hle1, hle2]
            rw [hb]
            exact TestEnd.mk rfl rfl (fr_unpin F₆ hx) (fun p hp => N₆ p hp) (.refl _)
          · rename_i hle2
            unfold Stop
            have hb : pB (fun r => decide (q.1 ≤ r.1) && decide (r.2 ≤ q.2)) (pd r) = false := by
              show (decide (q.1 ≤ r.1) && decide (r.2 ≤ q.2)) = false
              simp [hle1, hle2]
            rw [hb]
            exact TestEnd.mk rfl rfl (fr_unpin F₆ hx) (fun p hp => N₆ p hp) (.refl _)
        · rename_i hle1
          unfold Stop
          have hb : pB (fun r => decide (q.1 ≤ r.1) && decide (r.2 ≤ q.2)) (pd r) = false := by
            show (decide (q.1 ≤ r.1) && decide (r.2 ≤ q.2)) = false
            simp [hle1]
          rw [hb]
          exact TestEnd.mk rfl rfl (fr_unpin F₆ hx) (fun p hp => N₆ p hp) (.refl _)
      · obtain ⟨r, hr, rfl⟩ := List.mem_map.mp hd
        have F₆ := fr_pin (y := Str.ofString "stretch") F₅ hx
        have N₆ := N₅
        simp only [List.cons_append] at N₆
        clear F₅ F₁₂ N₁₂ N₅
        k_steps
        all_goals try first | exact (0 : Addr) | exact Value.none | exact Str.ofString "" | exact ([] : List (Str × Addr))
        unfold Stop
        exact EltEnd.mk0 (fr_unpin F₆ hx) (fun p hp => N₆ p hp) hv (.refl _)
      · intro Dw C h₃ tk₃ gs₃ m₃ wi obs' F₅ N₅ hn' hCL hC₀ hoff hD hO hdat hgA
        refine' comp_fin_assign ?z1 ?z2 ?z3 F₅ N₅ hn' hCL hC₀ hoff ?_
        case z1 => rfl
        case z2 => rfl
        case z3 => rfl
        intro h₆ tk₆ F₆ N₆
        rw [pB_filter, List.map_id] at hdat
        obtain ⟨tl, htl⟩ : ∃ tl, tl = obs' ++ (obY ++ ((Tk, PySem.W.listOf ts.toArray kt) :: ob ++ [(I, oI)])) := ⟨_, rfl⟩
        have Ntl : News h₀ L h₆ tl := htl ▸ News.append (leftN (tailN N₆)) (dropN 9 (rightN (tailN N₆)))
        have N₇ : News h₀ L h₆ ((Dw, PySem.W.listOf wi.toArray wi.length) :: (L + 1, oL₂) :: (L + 1 + 1, oH₂) :: (L + 1 + 1 + 1 + 1 + 1, oS) :: (89, tabObj #[]) :: (Du, ({ cls := .type "tuple", data := .seq #[.ref Y, .ref Z] } : Obj)) :: (Sg, PySem.W.listOf vs n) :: (D, PySem.W.listOf ys.toArray ys.length) :: (Y, PySem.W.listOf ya ky) :: (Z, PySem.W.listOf za kz) :: tl) := picksN N₆ (picksN (rightN (tailN N₆)) Ntl [0, 1, 2, 3, 4, 5, 6, 7, 8]) [0]
        have hsub : ∀ p ∈ obs' ++ ob, p ∈ tl := fun p hp => by
          rw [htl]
          exact (List.mem_append.mp hp).elim (fun h => List.mem_append_left _ h) fun h => List.mem_append_right _ (List.mem_append_right _ (List.mem_append_left _ (.tail _ h)))
        clear Ntl N₆ N₅ F₅ hoff hO hD hn' F₁₂ N₁₂
        k_steps
        rename Fr _ _ _ _ => F₈
        rename News _ _ _ _ => N₈
        rename_i lE _ hlE
        unfold Stop
        have htl8 : ∀ p ∈ tl, Heap.get? _ p.1 = some p.2 := fun p hp => (N₈ p (by repeat' first | exact hp | refine List.mem_cons_of_mem _ ?_)).1
        have hwi : ListH _ Dw (((ps.filter (oddB w1 w2)).filter fun r => decide (q.1 ≤ r.1) && decide (r.2 ≤ q.2)).map pd) := ⟨obs' ++ ob, wi, wi.length, fun p hp => htl8 p (hsub p hp), (N₈ (Dw, PySem.W.listOf wi.toArray wi.length) (.tail _ (.head _))).1, hdat⟩
        have hwe : ListH _ lE (([] : List (Int × Int)).map pd) := ⟨[], [], 0, (fun _ h => nomatch h), (N₈ _ (.head _)).1, .nil⟩
        have hgq : ((ps.filter (oddB w1 w2)).filter fun r => decide (q.1 ≤ r.1) && decide (r.2 ≤ q.2)).isEmpty = gd q := by
          rw [hge q hqi]
          rw [Bool.eq_iff_iff]
          simp only [List.isEmpty_iff, List.filter_eq_nil_iff, List.mem_filter, Bool.not_eq_true', List.any_eq_false, Bool.and_eq_true]
          constructor
          · intro hh r hr hc
            exact hh r ⟨hr, hc.1⟩ hc.2
          · intro hh r hr hc
            exact hh r hr.1 ⟨hr.2, hc⟩
        refine eq_h (r := gd q) hwi hwe (fun d hd => by obtain ⟨p, _, rfl⟩ := List.mem_map.mp hd; exact pd_ok _ _) (fun d hd => by cases hd) (Nat.le_of_ble_eq_true rfl) ⟨fun hr => ?_, fun hr => ?_⟩ ?_
        · rw [← hgq] at hr
          rw [List.isEmpty_iff.mp hr]
        · rw [← hgq]
          exact List.isEmpty_iff.mpr (List.map_eq_nil_iff.mp hr)
        clear hwi hwe
        cases hgb : gd q with
        | true =>
          k_steps
          unfold Stop
          refine item_tupleL (l := [.ref Y, .ref Z]) (j := 0) (News.isTup N₈ (by k_mem)) (by decide) (by decide) (seqIx rfl (by simp)) rfl ?_
          dsimp only
          k_steps
          rename Fr _ _ _ _ => F₁₃
          rename News _ _ _ _ => N₁₃
          rename_i Dt _ hDt
          unfold Stop
          have hmX : (Y, PySem.W.listOf ya ky) ∈ (Dt, ({ cls := .type "tuple", data := .seq #[.int q.1 u, .int q.2 u'] } : Obj)) :: (lE, PySem.W.listOf #[] 0) :: (Dw, PySem.W.listOf wi.toArray wi.length) :: (L + 1, oL₂) :: (L + 1 + 1, oH₂) :: (L + 1 + 1 + 1 + 1 + 1, oS) :: (89, tabObj #[]) :: (Du, ({ cls := .type "tuple", data := .seq #[.ref Y, .ref Z] } : Obj)) :: (Sg, PySem.W.listOf vs n) :: (D, PySem.W.listOf ys.toArray ys.length) :: (Y, PySem.W.listOf ya ky) :: (Z, PySem.W.listOf za kz) :: tl := by k_mem
          have htk : (ps.take (i + 1)) = ps.take i ++ [q] := by rw [List.take_add_one, hiq]; rfl
          refine append_own F₁₃ N₁₃ hmX (by have h1 := hya.length; have h2 := List.length_filter_le (gd) (ps.take i); rw [sizeLine_eq]; simp at h1 h2; omega) fun h₁₄ F₁₄ N₁₄ Ns => ?_
          have htlm : ∀ p ∈ obY ++ ((Tk, PySem.W.listOf ts.toArray kt) :: ob ++ [(I, oI)]), p ∈ tl := fun p hp => by rw [htl]; exact List.mem_append_right _ hp
          have N₁₅ := Ns ((L + 1, oL₂) :: (L + 1 + 1, oH₂) :: (L + 1 + 1 + 1 + 1 + 1, oS) :: (89, tabObj #[]) :: (Du, ({ cls := .type "tuple", data := .seq #[.ref Y, .ref Z] } : Obj)) :: (Sg, PySem.W.listOf vs n) :: (D, PySem.W.listOf ys.toArray ys.length) :: (Z, PySem.W.listOf za kz) :: (Dt, ({ cls := .type "tuple", data := .seq #[.int q.1 u, .int q.2 u'] } : Obj)) :: (obY ++ ((Tk, PySem.W.listOf ts.toArray kt) :: ob ++ [(I, oI)]))) (fun p hp => by
            have hmem : p ∈ (Dt, ({ cls := .type "tuple", data := .seq #[.int q.1 u, .int q.2 u'] } : Obj)) :: (lE, PySem.W.listOf #[] 0) :: (Dw, PySem.W.listOf wi.toArray wi.length) :: (L + 1, oL₂) :: (L + 1 + 1, oH₂) :: (L + 1 + 1 + 1 + 1 + 1, oS) :: (89, tabObj #[]) :: (Du, ({ cls := .type "tuple", data := .seq #[.ref Y, .ref Z] } : Obj)) :: (Sg, PySem.W.listOf vs n) :: (D, PySem.W.listOf ys.toArray ys.length) :: (Y, PySem.W.listOf ya ky) :: (Z, PySem.W.listOf za kz) :: tl := picks_sub (r := obY ++ ((Tk, PySem.W.listOf ts.toArray kt) :: ob ++ [(I, oI)])) [3, 4, 5, 6, 7, 8, 9, 11, 0] (fun p hp => by repeat' first | exact htlm p hp | refine List.mem_cons_of_mem _ ?_) p hp
            refine ⟨hmem, ?_⟩
            simp only [List.mem_cons, List.mem_append, List.not_mem_nil, or_false] at hp
            rcases hp with rfl | rfl | rfl | rfl | rfl | rfl | rfl | rfl | rfl | hp | (rfl | hp) | rfl
            · exact list_ne' N₁₃ hmem hmX fun xs k e => by rw [hL₂] at e; cases e
            · exact list_ne' N₁₃ hmem hmX fun xs k e => by rw [hH₂] at e; cases e
            · exact list_ne' N₁₃ hmem hmX fun xs k e => by rw [hoS] at e; cases e
            · exact list_ne' N₁₃ hmem hmX fun xs k e => by cases e
            · exact list_ne N₁₃ hmem hmX tuple_ne_list
            · exact hSY
            · exact hDY
            · exact Ne.symm hYZ'
            · exact list_ne N₁₃ hmem hmX tuple_ne_list
            · exact list_ne N₁₃ hmem hmX (hsY.noList hp)
            · exact hTY
            · exact list_ne N₁₃ hmem hmX (hsq.noList hp)
            · exact list_ne' N₁₃ hmem hmX fun xs k e => by rw [hoI] at e; cases e)
          clear Ns N₁₃ F₁₃ htl8
          k_steps
          unfold Stop
          refine' turnP_end (gs := gs₃) (nx := midSt L Du Sg D Y Z oL₂ oH₂ oS vs n ys ys.length (ya.push (.ref Dt)) za (ky + 1) kz ((Dt, ({ cls := .type "tuple", data := .seq #[.int q.1 u, .int q.2 u'] } : Obj)) :: obY)) ?E1 F₁₄ ?N1 (midSt_iter hL₂ hH₂ hoS (fun p hp => ?S1)) ⟨?P1, ?P2, ?P3, ?P4, _, _, _, _, _, _, _, _, _, rfl, hL₂, hH₂, ?D1, ?D2, fun p hp => ?S2⟩ (hGB.trans hgA)
          case E1 => rfl
          case N1 => exact picksN N₁₅ (picksN N₁₄ (dropN 7 N₁₅) [0]) [0, 1, 2, 3, 4, 5, 6]
          case S1 =>
            rcases List.mem_cons.mp hp with rfl | hp
            · exact ⟨rfl, _, _, rfl⟩
            · exact hsY p hp
          case S2 =>
            rcases List.mem_cons.mp hp with rfl | hp
            · exact ⟨rfl, _, _, rfl⟩
            · exact hsY p hp
          case P1 => rfl
          case P2 => rfl
          case P3 => rfl
          case P4 => rfl
          case D1 => 
            rw [htk, List.filter_append, List.map_append, Array.toList_push]
            refine DatAll.append (hya.mono fun p hp => .tail _ hp) ?_
            simp only [List.filter_cons, List.filter_nil, hgb, Bool.not_false, if_true, List.map_cons, List.map_nil]
            exact .one (.tuple (vs := [.int q.1 u, .int q.2 u']) (n := 0) (.head _) (.cons (.int _ _) (.cons (.int _ _) .nil)))
          case D2 => 
            rw [htk, List.filter_append]
            simp only [List.filter_cons, List.filter_nil, hgb, Bool.not_true, Bool.false_eq_true, if_false, List.append_nil]
            exact hza.mono fun p hp => .tail _ hp
        | false =>
          k_steps
          unfold Stop
          refine item_tupleL (l := [.ref Y, .ref Z]) (j := 1) (News.isTup N₈ (by k_mem)) (by decide) (by decide) (seqIx rfl (by simp)) rfl ?_
          dsimp only
          k_steps
          rename Fr _ _ _ _ => F₁₃
          rename News _ _ _ _ => N₁₃
          rename_i Dt _ hDt
          unfold Stop
          have hmX : (Z, PySem.W.listOf za kz) ∈ (Dt, ({ cls := .type "tuple", data := .seq #[.int q.1 u, .int q.2 u'] } : Obj)) :: (lE, PySem.W.listOf #[] 0) :: (Dw, PySem.W.listOf wi.toArray wi.length) :: (L + 1, oL₂) :: (L + 1 + 1, oH₂) :: (L + 1 + 1 + 1 + 1 + 1, oS) :: (89, tabObj #[]) :: (Du, ({ cls := .type "tuple", data := .seq #[.ref Y, .ref Z] } : Obj)) :: (Sg, PySem.W.listOf vs n) :: (D, PySem.W.listOf ys.toArray ys.length) :: (Y, PySem.W.listOf ya ky) :: (Z, PySem.W.listOf za kz) :: tl := by k_mem
          have htk : (ps.take (i + 1)) = ps.take i ++ [q] := by rw [List.take_add_one, hiq]; rfl
          refine append_own F₁₃ N₁₃ hmX (by have h1 := hza.length; have h2 := List.length_filter_le (fun p => !gd p) (ps.take i); rw [sizeLine_eq]; simp at h1 h2; omega) fun h₁₄ F₁₄ N₁₄ Ns => ?_
          have htlm : ∀ p ∈ obY ++ ((Tk, PySem.W.listOf ts.toArray kt) :: ob ++ [(I, oI)]), p ∈ tl := fun p hp => by rw [htl]; exact List.mem_append_right _ hp
          have N₁₅ := Ns ((L + 1, oL₂) :: (L + 1 + 1, oH₂) :: (L + 1 + 1 + 1 + 1 + 1, oS) :: (89, tabObj #[]) :: (Du, ({ cls := .type "tuple", data := .seq #[.ref Y, .ref Z] } : Obj)) :: (Sg, PySem.W.listOf vs n) :: (D, PySem.W.listOf ys.toArray ys.length) :: (Y, PySem.W.listOf ya ky) :: (Dt, ({ cls := .type "tuple", data := .seq #[.int q.1 u, .int q.2 u'] } : Obj)) :: (obY ++ ((Tk, PySem.W.listOf ts.toArray kt) :: ob ++ [(I, oI)]))) (fun p hp => by
            have hmem : p ∈ (Dt, ({ cls := .type "tuple", data := .seq #[.int q.1 u, .int q.2 u'] } : Obj)) :: (lE, PySem.W.listOf #[] 0) :: (Dw, PySem.W.listOf wi.toArray wi.length) :: (L + 1, oL₂) :: (L + 1 + 1, oH₂) :: (L + 1 + 1 + 1 + 1 + 1, oS) :: (89, tabObj #[]) :: (Du, ({ cls := .type "tuple", data := .seq #[.ref Y, .ref Z] } : Obj)) :: (Sg, PySem.W.listOf vs n) :: (D, PySem.W.listOf ys.toArray ys.length) :: (Y, PySem.W.listOf ya ky) :: (Z, PySem.W.listOf za kz) :: tl := picks_sub (r := obY ++ ((Tk, PySem.W.listOf ts.toArray kt) :: ob ++ [(I, oI)])) [3, 4, 5, 6, 7, 8, 9, 10, 0] (fun p hp => by repeat' first | exact htlm p hp | refine List.mem_cons_of_mem _ ?_) p hp
            refine ⟨hmem, ?_⟩
            simp only [List.mem_cons, List.mem_append, List.not_mem_nil, or_false] at hp
            rcases hp with rfl | rfl | rfl | rfl | rfl | rfl | rfl | rfl | rfl | hp | (rfl | hp) | rfl
            · exact list_ne' N₁₃ hmem hmX fun xs k e => by rw [hL₂] at e; cases e
            · exact list_ne' N₁₃ hmem hmX fun xs k e => by rw [hH₂] at e; cases e
            · exact list_ne' N₁₃ hmem hmX fun xs k e => by rw [hoS] at e; cases e
            · exact list_ne' N₁₃ hmem hmX fun xs k e => by cases e
            · exact list_ne N₁₃ hmem hmX tuple_ne_list
            · exact hSZ
            · exact hDZ
            · exact hYZ'
            · exact list_ne N₁₃ hmem hmX tuple_ne_list
            · exact list_ne N₁₃ hmem hmX (hsY.noList hp)
            · exact hTZ
            · exact list_ne N₁₃ hmem hmX (hsq.noList hp)
            · exact list_ne' N₁₃ hmem hmX fun xs k e => by rw [hoI] at e; cases e)
          clear Ns N₁₃ F₁₃ htl8
          k_steps
          unfold Stop
          refine' turnP_end (gs := gs₃) (nx := midSt L Du Sg D Y Z oL₂ oH₂ oS vs n ys ys.length ya (za.push (.ref Dt)) ky (kz + 1) ((Dt, ({ cls := .type "tuple", data := .seq #[.int q.1 u, .int q.2 u'] } : Obj)) :: obY)) ?E1 F₁₄ ?N1 (midSt_iter hL₂ hH₂ hoS (fun p hp => ?S1)) ⟨?P1, ?P2, ?P3, ?P4, _, _, _, _, _, _, _, _, _, rfl, hL₂, hH₂, ?D1, ?D2, fun p hp => ?S2⟩ (hGB.trans hgA)
          case E1 => rfl
          case N1 => exact picksN N₁₅ (picksN N₁₄ (dropN 8 N₁₅) [0]) [0, 1, 2, 3, 4, 5, 6, 7]
          case S1 =>
            rcases List.mem_cons.mp hp with rfl | hp
            · exact ⟨rfl, _, _, rfl⟩
            · exact hsY p hp
          case S2 =>
            rcases List.mem_cons.mp hp with rfl | hp
            · exact ⟨rfl, _, _, rfl⟩
            · exact hsY p hp
          case P1 => rfl
          case P2 => rfl
          case P3 => rfl
          case P4 => rfl
          case D1 => 
            rw [htk, List.filter_append]
            simp only [List.filter_cons, List.filter_nil, hgb, Bool.not_true, Bool.false_eq_true, if_false, List.append_nil]
            exact hya.mono fun p hp => .tail _ hp
          case D2 => 
            rw [htk, List.filter_append, List.map_append, Array.toList_push]
            refine DatAll.append (hza.mono fun p hp => .tail _ hp) ?_
            simp only [List.filter_cons, List.filter_nil, hgb, Bool.not_false, if_true, List.map_cons, List.map_nil]
            exact .one (.tuple (vs := [.int q.1 u, .int q.2 u']) (n := 0) (.head _) (.cons (.int _ _) (.cons (.int _ _) .nil)))
    · rintro m₁ nx h tk gs ⟨hm1, hm2, hm3, hm4, oL', oH', vL, vH, ya, ky, za, kz, obY, rfl, hL', hH', hya, hza, hsY⟩ hGB F₁₀ N₁₀
      unfold midSt at N₁₀
      simp only [List.cons_append] at N₁₀
      rw [List.take_length] at hya hza
      have hsYb : AllSeq (obY ++ ob) := fun p hp => (List.mem_append.mp hp).elim (hsY p) (hsq p)
      have h89 : ∀ p ∈ obY ++ ob, p.1 ≠ 89 := fun p hp => ne_of_obj (o := p.2) (o' := tabObj #[]) N₁₀ (by
        have hp' : (p.1, p.2) = p := rfl
        rw [hp']
        simp only [List.mem_cons, List.mem_append]
        rcases List.mem_append.mp hp with h | h <;> simp [h]) (.tail _ (.tail _ (.tail _ (.head _)))) (fun e => by
        obtain ⟨_, xs, k, e'⟩ := hsYb p hp
        rw [e] at e'; cases e')
      dsimp only
      refine law_end (Du := Du) (Sg := Sg) (Tk := Tk) (Y := Y) (Z := Z) (oS := oS) (vs := vs) (n := n) (ts := ts) (kt := kt) (ys := ya.toList) (ky := ky) (zs := za.toList) (kz := kz) (obs := obY ++ ob) (gd := gd) e0 G hC F₁₀ (picksN N₁₀ (picksN (rightN (dropN 9 N₁₀)) (picksN N₁₀ (News.append (leftN (dropN 9 N₁₀)) (tailN (rightN (dropN 9 N₁₀)))) [7, 8]) [0]) [2, 3, 4, 5]) hoS hm1 hm3 hm2 hf0 hf3 hvs hP hps hgd hla (hts'.mono fun p hp => List.mem_append_right _ hp) (hya.mono fun p hp => List.mem_append_left _ hp) (hza.mono fun p hp => List.mem_append_left _ hp) h89 hpz fun s' h1 h2 h3 h4 => hQ s' h1 h2 (hGB.trans h3) h4
end Mine
end
section
set_option maxHeartbeats 2000000
open PySem PySem.W PyProof.Rows PySem.Calls PySem.Spec
namespace Mine
/-! texts as lists of signs -/
def toL (x : Str) : List Nat := x.cps.toList
def joinL (sep : List Nat) : List (List Nat) → List Nat
  | [] => []
  | [a] => a
  | a :: b :: r => a ++ sep ++ joinL sep (b :: r)
theorem toL_inj {x y : Str} (h : toL x = toL y) : x = y := Str.ext' (Array.toList_inj.mp h)
theorem toL_mk (l : List Nat) : toL ⟨l.toArray⟩ = l := by simp [toL]
theorem toL_length (x : Str) : (toL x).length = x.length := by simp [toL, Str.length]
theorem join_toL (y : Str) : ∀ l : List Str, toL (Str.join y l) = joinL (toL y) (l.map toL)
  | [] => rfl
  | [a] => rfl
  | a :: b :: r => by
    show toL (a ++ y ++ Str.join y (b :: r)) = _
    have ih := join_toL y (b :: r)
    unfold toL at ih ⊢
    simp only [Str.cps_append, Array.toList_append, ih]
    rfl
def rep1 (c : Nat) (b l : List Nat) : List Nat := l.flatMap fun k => if k = c then b else [k]
theorem rep1_free {c : Nat} {b : List Nat} : ∀ {l : List Nat}, c ∉ l → rep1 c b l = l
  | [], _ => rfl
  | k :: r, h => by
    have h1 : ¬ k = c := fun e => h (e ▸ .head _)
    have ih := rep1_free (b := b) (l := r) fun m => h (.tail _ m)
    unfold rep1 at ih ⊢
    rw [List.flatMap_cons, if_neg h1, ih]; rfl
theorem rep1_append (c : Nat) (b l m : List Nat) : rep1 c b (l ++ m) = rep1 c b l ++ rep1 c b m := List.flatMap_append
theorem rep1_one (c : Nat) (b : List Nat) : rep1 c b [c] = b := by simp [rep1]
theorem rep1_join (c : Nat) (b : List Nat) : ∀ {parts : List (List Nat)}, (∀ p ∈ parts, c ∉ p) → rep1 c b (joinL [c] parts) = joinL b parts
  | [], _ => rfl
  | [p], h => rep1_free (h p (.head _))
  | p :: q :: r, h => by
    show rep1 c b (p ++ [c] ++ joinL [c] (q :: r)) = p ++ b ++ joinL b (q :: r)
    rw [rep1_append, rep1_append, rep1_one, rep1_free (h p (.head _)), rep1_join c b fun x hx => h x (.tail _ hx)]
theorem replace1 (x b : Str) (c : Nat) : toL (Str.join b (Txt.split x ⟨#[c]⟩)) = rep1 c (toL b) (toL x) := by
  have h := StrLaws.join_split x ⟨#[c]⟩
  have hf := StrLaws.split_free x c
  have h2 : toL x = joinL [c] ((Txt.split x ⟨#[c]⟩).map toL) := by
    conv => lhs; rw [← h]
    exact join_toL _ _
  rw [join_toL, h2, rep1_join]
  intro p hp
  obtain ⟨q, hq, rfl⟩ := List.mem_map.mp hp
  exact hf q hq
theorem split_ne (x y : Str) : Txt.split x y ≠ [] := by
  unfold Txt.split
  split
  · simp
  · split
    · simp
    · rw [StrLaws.partsBetween_eq]
      obtain ⟨p, r, e⟩ := StrLaws.partsFrom_ne x y.length 0 (Builtin.Str.occurrences x y 0 x.length (x.length + 1))
      rw [e]; simp
/-- parts without the sign are told from their join -/
theorem joinL_inj {c : Nat} : ∀ {l m : List (List Nat)}, l ≠ [] → m ≠ [] → (∀ p ∈ l, c ∉ p) → (∀ p ∈ m, c ∉ p) → joinL [c] l = joinL [c] m → l = m := by
  have cut : ∀ {a b r s : List Nat}, c ∉ a → c ∉ b → a ++ c :: r = b ++ c :: s → a = b ∧ r = s := by
    intro a
    induction a with
    | nil =>
      intro b r s _ hb h
      cases b with
      | nil => simpa using h
      | cons y b => simp at h; exact absurd (h.1 ▸ List.Mem.head _) hb
    | cons x a ih =>
      intro b r s ha hb h
      cases b with
      | nil => simp at h; exact absurd (h.1 ▸ List.Mem.head _) ha
      | cons y b =>
        simp at h
        obtain ⟨h1, h2⟩ := ih (fun m => ha (.tail _ m)) (fun m => hb (.tail _ m)) h.2
        exact ⟨by rw [h.1, h1], h2⟩
  intro l
  induction l with
  | nil => intro m h; exact absurd rfl h
  | cons a l ih =>
    intro m _ hm hl hm' h
    cases m with
    | nil => exact absurd rfl hm
    | cons b m =>
      cases l with
      | nil =>
        cases m with
        | nil => have h' : a = b := h; rw [h']
        | cons d m =>
          have h' : a = b ++ [c] ++ joinL [c] (d :: m) := h
          exact absurd (by rw [h']; simp) (hl a (.head _))
      | cons e l =>
        cases m with
        | nil =>
          have h' : a ++ [c] ++ joinL [c] (e :: l) = b := h
          exact absurd (by rw [← h']; simp) (hm' b (.head _))
        | cons d m =>
          have h' : a ++ [c] ++ joinL [c] (e :: l) = b ++ [c] ++ joinL [c] (d :: m) := h
          rw [List.append_assoc, List.append_assoc] at h'
          obtain ⟨h1, h2⟩ := cut (hl a (.head _)) (hm' b (.head _)) h'
          rw [h1, ih (by simp) (by simp) (fun p hp => hl p (.tail _ hp)) (fun p hp => hm' p (.tail _ hp)) h2]
theorem joinL_nil : ∀ l : List (List Nat), joinL [] l = l.flatten
  | [] => rfl
  | [a] => by simp [joinL]
  | a :: b :: r => by
    show a ++ [] ++ joinL [] (b :: r) = _
    rw [joinL_nil (b :: r)]; simp
theorem joinL_flatMap (f : Nat → List Nat) (sep : List Nat) : ∀ l : List (List Nat), (joinL sep l).flatMap f = joinL (sep.flatMap f) (l.map fun p => p.flatMap f)
  | [] => rfl
  | [a] => rfl
  | a :: b :: r => by
    show (a ++ sep ++ joinL sep (b :: r)).flatMap f = _
    rw [List.flatMap_append, List.flatMap_append, joinL_flatMap f sep (b :: r)]; rfl
theorem joinL_mem {sep : List Nat} {c : Nat} : ∀ {l : List (List Nat)}, c ∈ joinL sep l → c ∈ sep ∨ ∃ p ∈ l, c ∈ p
  | [], h => by cases h
  | [a], h => .inr ⟨a, .head _, h⟩
  | a :: b :: r, h => by
    have h' : c ∈ a ++ sep ++ joinL sep (b :: r) := h
    rcases List.mem_append.mp h' with h' | h'
    · rcases List.mem_append.mp h' with h' | h'
      · exact .inr ⟨a, .head _, h'⟩
      · exact .inl h'
    · rcases joinL_mem h' with h' | ⟨p, hp, h'⟩
      · exact .inl h'
      · exact .inr ⟨p, .tail _ hp, h'⟩
theorem joinL_len {sep : List Nat} : ∀ (l : List (List Nat)), (joinL sep l).length ≤ (l.map (·.length)).sum + l.length * sep.length
  | [] => by simp [joinL]
  | [a] => by simp [joinL]
  | a :: b :: r => by
    have ih := joinL_len (sep := sep) (b :: r)
    have e : joinL sep (a :: b :: r) = a ++ sep ++ joinL sep (b :: r) := rfl
    rw [e, List.length_append, List.length_append]
    simp only [List.map_cons, List.sum_cons, List.length_cons] at ih ⊢
    rw [Nat.add_mul (r.length + 1) 1]
    omega
/-- the signs that the law's row is made of -/
def base7 : List Nat := [124, 40, 91, 123, 41, 93, 125]
/-- the pairs are sound: single signs, short texts at every stage -/
def okPrs : List Str → (Nat → List Nat) → Bool
  | a :: b :: r, f => (a.cps.size == 1) && base7.all (fun c => decide ((f c).length ≤ 5)) && decide (b.length ≤ 100) && okPrs r (fun c => rep1 (a.cps.getD 0 0) (toL b) (f c))
  | [], _ => true
  | _, _ => false
def endPrs : List Str → (Nat → List Nat) → (Nat → List Nat)
  | a :: b :: r, f => endPrs r (fun c => rep1 (a.cps.getD 0 0) (toL b) (f c))
  | _, f => f
theorem one_of_size {a : Str} (h : (a.cps.size == 1) = true) : a = ⟨#[a.cps.getD 0 0]⟩ := by
  obtain ⟨⟨l⟩⟩ := a
  match l, h with
  | [c], _ => rfl
theorem flat_len (f : Nat → List Nat) (B : Nat) : ∀ (l : List Nat), (∀ c ∈ l, (f c).length ≤ B) → (l.flatMap f).length ≤ l.length * B
  | [], _ => by simp
  | c :: r, h => by
    have ih := flat_len f B r fun x hx => h x (.tail _ hx)
    have h1 := h c (.head _)
    rw [List.flatMap_cons, List.length_append, List.length_cons, Nat.add_mul]
    omega
theorem okPrs_sound {base : List Nat} (hb : ∀ c ∈ base, c ∈ base7) (hn : base.length ≤ 40) : ∀ (prs : List Str) (f : Nat → List Nat) (x : Str), okPrs prs f = true → toL x = base.flatMap f →
    ReplOk prs x ∧ toL (replF prs x) = base.flatMap (endPrs prs f)
  | [], f, x, _, hx => ⟨trivial, hx⟩
  | [_], _, _, h, _ => by simp [okPrs] at h
  | a :: b :: r, f, x, h, hx => by
    simp only [okPrs, Bool.and_eq_true] at h
    obtain ⟨⟨⟨h1, h2⟩, h3⟩, h4⟩ := h
    have ea := one_of_size h1
    have hx' : toL (Str.join b (Txt.split x a)) = base.flatMap (fun c => rep1 (a.cps.getD 0 0) (toL b) (f c)) := by
      conv => lhs; rw [ea]
      rw [replace1, hx]
      unfold rep1
      rw [List.flatMap_assoc]
    have ih := okPrs_sound hb hn r _ _ h4 hx'
    refine ⟨⟨?_, ?_, of_decide_eq_true h3, ih.1⟩, ih.2⟩
    · rw [ea]; exact Nat.le_refl _
    · rw [← toL_length, hx]
      have := flat_len f 5 base fun c hc => of_decide_eq_true (List.all_eq_true.mp h2 c (hb c hc))
      omega
theorem ok_pairs : ∀ k : Fin 4, okPrs (pairsF (k.val : Int)) (fun c => [c]) = true := by decide +kernel
end Mine
end
section
set_option maxHeartbeats 2000000
open PySem PySem.W PyProof.Rows PySem.Calls PySem.Spec
namespace Mine
/-- a sign, dressed -/
def pcL : Nat → Bool → List Nat
  | 0, true => [92, 92, 40]
  | 0, false => [92, 92, 41]
  | 1, true => [92, 40]
  | 1, false => [92, 41]
  | 2, true => [34, 92, 34, 40, 34]
  | 2, false => [34, 41, 92, 34, 34]
  | _, true => [40]
  | _, false => [41]
def dk (k i : Nat) : Nat := if k = 3 then 3 else (i % 3 + 3 - k) % 3
def pc (k i : Nat) : List Nat := pcL (dk k i) (decide (i < 3))
theorem pc_ok : ∀ k : Fin 4, ∀ i : Fin 6, (toL (sgn i)).flatMap (endPrs (pairsF (k.val : Int)) fun c => [c]) = pc k i := by decide +kernel
theorem bar_ok : ∀ k : Fin 4, endPrs (pairsF (k.val : Int)) (fun c => [c]) 124 = [124] := by decide +kernel
theorem sgn_base : ∀ i : Fin 6, (∀ c ∈ toL (sgn i), c ∈ base7) ∧ (toL (sgn i)).length = 1 := by decide +kernel
theorem pc_facts : ∀ k : Fin 4, ∀ i : Fin 6, (∀ c ∈ pc k i, c < 124) ∧ (pc k i).length ≤ 5 := by decide +kernel
theorem bar_toL : toL (Str.ofString "|") = [124] := by decide +kernel
theorem bar_str : Str.ofString "|" = ⟨#[124]⟩ := by decide +kernel
theorem nil_toL : toL (Str.ofString "") = [] := by decide +kernel
section
variable {k : Nat} {pls : List Nat} (hk : k < 4) (hpl : ∀ i ∈ pls, i < 6) (hlen : pls.length ≤ 20) (hne : pls ≠ [])
theorem sum_le_mul {B : Nat} : ∀ (l : List Nat), (∀ c ∈ l, c ≤ B) → l.sum ≤ l.length * B
  | [], _ => by simp
  | c :: r, h => by
    have ih := sum_le_mul r fun x hx => h x (.tail _ hx)
    have h1 := h c (.head _)
    rw [List.sum_cons, List.length_cons, Nat.add_mul]; omega
include hpl in
theorem row_toL : toL (Str.join (Str.ofString "|") (pls.map sgn)) = joinL [124] (pls.map fun i => toL (sgn i)) := by
  rw [join_toL, bar_toL, List.map_map]; rfl
include hpl in
theorem row_base : ∀ c ∈ joinL [124] (pls.map fun i => toL (sgn i)), c ∈ base7 := fun c hc => by
  rcases joinL_mem hc with h | ⟨p, hp, h⟩
  · rw [List.mem_singleton.mp h]; exact .head _
  · obtain ⟨i, hi, rfl⟩ := List.mem_map.mp hp
    exact (sgn_base ⟨i, hpl i hi⟩).1 c h
include hpl hlen in
theorem row_len : (joinL [124] (pls.map fun i => toL (sgn i))).length ≤ 40 := by
  have h := joinL_len (sep := [124]) (pls.map fun i => toL (sgn i))
  have h2 : ((pls.map fun i => toL (sgn i)).map (·.length)).sum ≤ pls.length * 1 := by
    have := sum_le_mul (B := 1) ((pls.map fun i => toL (sgn i)).map (·.length)) (fun c hc => by
      rw [List.map_map] at hc
      obtain ⟨i, hi, rfl⟩ := List.mem_map.mp hc
      exact Nat.le_of_eq (sgn_base ⟨i, hpl i hi⟩).2)
    simpa using this
  simp only [List.length_map, List.length_singleton] at h
  omega
include hk hpl hlen in
theorem repl_sound : ReplOk (pairsF (k : Int)) (Str.join (Str.ofString "|") (pls.map sgn)) ∧ toL (replF (pairsF (k : Int)) (Str.join (Str.ofString "|") (pls.map sgn))) = joinL [124] (pls.map (pc k)) := by
  have h := okPrs_sound (row_base hpl) (row_len hpl hlen) (pairsF (k : Int)) (fun c => [c]) (Str.join (Str.ofString "|") (pls.map sgn)) (ok_pairs ⟨k, hk⟩) (by rw [row_toL hpl]; simp)
  refine ⟨h.1, h.2.trans ?_⟩
  rw [joinL_flatMap]
  have e1 : [124].flatMap (endPrs (pairsF (k : Int)) fun c => [c]) = [124] := by
    rw [List.flatMap_cons, bar_ok ⟨k, hk⟩]; rfl
  rw [e1, List.map_map]
  congr 1
  refine List.map_congr_left fun i hi => ?_
  exact pc_ok ⟨k, hk⟩ ⟨i, hpl i hi⟩
include hk hpl in
theorem pc_mem : ∀ p ∈ pls.map (pc k), (∀ c ∈ p, c < 124) ∧ p.length ≤ 5 := fun p hp => by
  obtain ⟨i, hi, rfl⟩ := List.mem_map.mp hp
  exact pc_facts ⟨k, hk⟩ ⟨i, hpl i hi⟩
include hk hpl hlen hne in
theorem dress_toL : (dressF pls (k : Int)).map toL = pls.map (pc k) := by
  have h := (repl_sound hk hpl hlen).2
  unfold dressF
  have hj := StrLaws.join_split (replF (pairsF (k : Int)) (Str.join (Str.ofString "|") (pls.map sgn))) (Str.ofString "|")
  have h2 : joinL [124] ((Txt.split (replF (pairsF (k : Int)) (Str.join (Str.ofString "|") (pls.map sgn))) (Str.ofString "|")).map toL) = joinL [124] (pls.map (pc k)) := by
    rw [← h, ← bar_toL, ← join_toL, hj]
  refine joinL_inj (fun e => split_ne _ _ (List.map_eq_nil_iff.mp e)) (fun e => hne (List.map_eq_nil_iff.mp e)) (fun p hp => ?_) (fun p hp hm => ?_) h2
  · obtain ⟨q, hq, rfl⟩ := List.mem_map.mp hp
    rw [bar_str] at hq
    exact StrLaws.split_free _ 124 q hq
  · have := (pc_mem hk hpl p hp).1 124 hm
    omega

include hk hpl hlen hne in
theorem text_toL (p : Int × Int) : toL (textF pls (k : Int) p) = ((pls.drop p.1.toNat).take (p.2.toNat - p.1.toNat)).flatMap (pc k) := by
  unfold textF
  rw [join_toL, nil_toL, joinL_nil, List.map_take, List.map_drop, dress_toL hk hpl hlen hne, ← List.map_drop, ← List.map_take, List.flatMap_def]
end
end Mine
end
section
set_option maxHeartbeats 2000000
open PySem PySem.W PyProof.Rows PySem.Calls PySem.Spec
namespace Mine
/-- a dressed sign: how, and whether it opens -/
abbrev Pc := Nat × Bool
def pL (q : Pc) : List Nat := pcL q.1 q.2
/-- .. without its quoted part -/
def bare (q : Pc) : List Nat := if q.1 = 2 then [] else pL q
/-- .. what it weighs -/
def wL (q : Pc) : Int := if q.1 = 0 ∨ 3 ≤ q.1 then (if q.2 then 1 else -1) else 0
/-- the four kinds -/
theorem pc_cases (q : Pc) : q = (0, true) ∨ q = (0, false) ∨ q = (1, true) ∨ q = (1, false) ∨ q = (2, true) ∨ q = (2, false) ∨ (3 ≤ q.1 ∧ pL q = [40] ∧ bare q = [40] ∧ wL q = 1) ∨ (3 ≤ q.1 ∧ pL q = [41] ∧ bare q = [41] ∧ wL q = -1) := by
  obtain ⟨d, b⟩ := q
  match d, b with
  | 0, true => simp
  | 0, false => simp
  | 1, true => simp
  | 1, false => simp
  | 2, true => simp
  | 2, false => simp
  | d + 3, true => simp [pL, bare, pcL, wL]
  | d + 3, false => simp [pL, bare, pcL, wL]
/-- the items of a dressed sign -/
theorem esc_piece (q : Pc) (r : List Nat) (i : Nat) : escI (pL q ++ r) i false =
    (if q.1 = 0 then [(i + 1, [92, 92]), (i + 2, [if q.2 then 40 else 41])] else if q.1 = 1 then [(i + 1, [92, if q.2 then 40 else 41])]
     else if q.1 = 2 then (if q.2 then [(i, [34]), (i + 2, [92, 34]), (i + 3, [40]), (i + 4, [34])] else [(i, [34]), (i + 1, [41]), (i + 3, [92, 34]), (i + 4, [34])])
     else [(i, [if q.2 then 40 else 41])]) ++ escI r (i + (pL q).length) false := by
  rcases pc_cases q with rfl | rfl | rfl | rfl | rfl | rfl | ⟨h, e, _⟩ | ⟨h, e, _⟩
  · simp [pL, pcL, escI]
  · simp [pL, pcL, escI]
  · simp [pL, pcL, escI]
  · simp [pL, pcL, escI]
  · simp [pL, pcL, escI]
  · simp [pL, pcL, escI]
  · obtain ⟨d, b⟩ := q
    match d, b with
    | d + 3, true => simp [pL, pcL, escI]
    | d + 3, false => simp [pL, pcL] at e
  · obtain ⟨d, b⟩ := q
    match d, b with
    | d + 3, false => simp [pL, pcL, escI]
    | d + 3, true => simp [pL, pcL] at e
/-- the count of opened ones -/
def chk : List Int → Int → Bool
  | [], o => decide (o = 0)
  | n :: r, o => if o + n < 0 then false else chk r (o + n)
theorem chk_bare : ∀ (l : List Pc) (i : Nat) (o : Int), 0 ≤ o → chkF (escI (l.flatMap bare) i false) o = chk (l.map wL) o
  | [], i, o, h => rfl
  | q :: l, i, o, h => by
    rw [List.flatMap_cons, List.map_cons]
    have skip : ∀ (o' : Int), 0 ≤ o' → chk (0 :: l.map wL) o' = chk (l.map wL) o' := fun o' h' => by
      unfold chk; rw [Int.add_zero, if_neg (by omega)]
      cases l.map wL <;> rfl
    rcases pc_cases q with rfl | rfl | rfl | rfl | rfl | rfl | ⟨h3, e1, e2, e3⟩ | ⟨h3, e1, e2, e3⟩
    · have hb : bare (0, true) = pL (0, true) := rfl
      rw [hb, esc_piece]
      have hw : wL (0, true) = 1 := rfl
      rw [hw]
      show chkF ((i + 1, [92, 92]) :: (i + 2, [40]) :: escI (l.flatMap bare) _ false) o = chk (1 :: l.map wL) o
      unfold chkF; rw [if_neg (by simp), if_neg (by simp)]
      unfold chkF; rw [if_pos rfl]
      rw [chk_bare l _ _ (by omega)]
      conv => rhs; unfold chk
      rw [if_neg (by omega)]
    · have hb : bare (0, false) = pL (0, false) := rfl
      rw [hb, esc_piece]
      have hw : wL (0, false) = -1 := rfl
      rw [hw]
      show chkF ((i + 1, [92, 92]) :: (i + 2, [41]) :: escI (l.flatMap bare) _ false) o = chk (-1 :: l.map wL) o
      unfold chkF; rw [if_neg (by simp), if_neg (by simp)]
      unfold chkF; rw [if_neg (by simp), if_pos rfl]
      conv => rhs; unfold chk
      rw [← Int.sub_eq_add_neg]
      by_cases ho : o - 1 < 0
      · rw [if_pos ho, if_pos ho]
      · rw [if_neg ho, if_neg ho, chk_bare l _ _ (by omega)]
    · have hb : bare (1, true) = pL (1, true) := rfl
      rw [hb, esc_piece]
      have hw : wL (1, true) = 0 := rfl
      rw [hw, skip o h]
      show chkF ((i + 1, [92, 40]) :: escI (l.flatMap bare) _ false) o = _
      unfold chkF; rw [if_neg (by simp), if_neg (by simp)]
      exact chk_bare l _ _ h
    · have hb : bare (1, false) = pL (1, false) := rfl
      rw [hb, esc_piece]
      have hw : wL (1, false) = 0 := rfl
      rw [hw, skip o h]
      show chkF ((i + 1, [92, 41]) :: escI (l.flatMap bare) _ false) o = _
      unfold chkF; rw [if_neg (by simp), if_neg (by simp)]
      exact chk_bare l _ _ h
    · have hw : wL (2, true) = 0 := rfl
      rw [hw, skip o h]
      exact chk_bare l i o h
    · have hw : wL (2, false) = 0 := rfl
      rw [hw, skip o h]
      exact chk_bare l i o h
    · rw [e2, e3]
      show chkF ((i, [40]) :: escI (l.flatMap bare) (i + 1) false) o = chk (1 :: l.map wL) o
      unfold chkF; rw [if_pos rfl, chk_bare l _ _ (by omega)]
      conv => rhs; unfold chk
      rw [if_neg (by omega)]
    · rw [e2, e3]
      show chkF ((i, [41]) :: escI (l.flatMap bare) (i + 1) false) o = chk (-1 :: l.map wL) o
      unfold chkF; rw [if_neg (by simp), if_pos rfl]
      conv => rhs; unfold chk
      rw [← Int.sub_eq_add_neg]
      by_cases ho : o - 1 < 0
      · rw [if_pos ho, if_pos ho]
      · rw [if_neg ho, if_neg ho, chk_bare l _ _ (by omega)]
/-- the quoted parts go -/
theorem strip_fold (x : List Nat) : ∀ (l : List Pc) (pre : List Nat) (st : Nat) (res : List (List Nat)), x = pre ++ l.flatMap pL → st ≤ pre.length →
    ∃ st' res', (escI (l.flatMap pL) pre.length false).foldl (stripS x) (st, none, res) = (st', none, res') ∧ st' ≤ x.length ∧
      res'.flatten ++ x.drop st' = res.flatten ++ (x.drop st).take (pre.length - st) ++ l.flatMap bare
  | [], pre, st, res, hx, hs => by
    refine ⟨st, res, rfl, by rw [hx]; simp; omega, ?_⟩
    have : x = pre := by simpa using hx
    subst this
    rw [List.take_of_length_le (by simp)]; simp
  | q :: l, pre, st, res, hx, hs => by
    have hx' : x = (pre ++ pL q) ++ l.flatMap pL := by rw [hx, List.flatMap_cons, List.append_assoc]
    have hlen : (pre ++ pL q).length = pre.length + (pL q).length := List.length_append
    -- what stands between the start and the end of this sign
    have hmid : (x.drop st).take (pre.length + (pL q).length - st) = (x.drop st).take (pre.length - st) ++ pL q := by
      have hd1 : x.drop st = pre.drop st ++ (pL q ++ l.flatMap pL) := by
        rw [hx', List.append_assoc, List.drop_append_of_le_length hs]
      have hd2 : x.drop st = (pre.drop st ++ pL q) ++ l.flatMap pL := by rw [hd1, List.append_assoc]
      have t1 : (x.drop st).take (pre.length + (pL q).length - st) = pre.drop st ++ pL q := by
        rw [hd2]; exact List.take_left' (by simp; omega)
      have t2 : (x.drop st).take (pre.length - st) = pre.drop st := by
        rw [hd1]; exact List.take_left' (by simp)
      rw [t1, t2]
    have plain : (∀ it ∈ (escI (pL q ++ []) pre.length false), it.2 ≠ [34]) → bare q = pL q →
        (escI (pL q ++ l.flatMap pL) pre.length false).foldl (stripS x) (st, none, res) = (escI (l.flatMap pL) (pre ++ pL q).length false).foldl (stripS x) (st, none, res) := by
      intro h _
      rw [esc_piece] at h ⊢
      rw [hlen, List.foldl_append]
      congr 1
      have : escI [] (pre.length + (pL q).length) false = [] := rfl
      rw [this, List.append_nil] at h
      generalize (if q.1 = 0 then _ else _ : List (Nat × List Nat)) = its at h ⊢
      induction its with
      | nil => rfl
      | cons it r ih =>
        rw [List.foldl_cons]
        have : stripS x (st, none, res) it = (st, none, res) := by unfold stripS; rw [if_neg (h it (.head _))]
        rw [this]
        exact ih fun y hy => h y (.tail _ hy)
    have goplain : (∀ it ∈ (escI (pL q ++ []) pre.length false), it.2 ≠ [34]) → bare q = pL q → ∃ st' res', (escI ((q :: l).flatMap pL) pre.length false).foldl (stripS x) (st, none, res) = (st', none, res') ∧ st' ≤ x.length ∧
        res'.flatten ++ x.drop st' = res.flatten ++ (x.drop st).take (pre.length - st) ++ (q :: l).flatMap bare := fun h hb => by
      obtain ⟨st', res', h1, h2, h3⟩ := strip_fold x l (pre ++ pL q) st res hx' (by rw [hlen]; omega)
      have h4 : res'.flatten ++ x.drop st' = res.flatten ++ (x.drop st).take (pre.length - st) ++ (q :: l).flatMap bare := by
        rw [h3, hlen, hmid, List.flatMap_cons, hb]; simp
      exact (⟨st', res', by rw [List.flatMap_cons, plain h hb, h1], h2, h4⟩ : ∃ st' res', (escI ((q :: l).flatMap pL) pre.length false).foldl (stripS x) (st, none, res) = (st', none, res') ∧ st' ≤ x.length ∧
        res'.flatten ++ x.drop st' = res.flatten ++ (x.drop st).take (pre.length - st) ++ (q :: l).flatMap bare)
    have quoted : q.1 = 2 → ∃ st' res', (escI ((q :: l).flatMap pL) pre.length false).foldl (stripS x) (st, none, res) = (st', none, res') ∧ st' ≤ x.length ∧
        res'.flatten ++ x.drop st' = res.flatten ++ (x.drop st).take (pre.length - st) ++ (q :: l).flatMap bare := by
      intro h2
      have hl5 : (pL q).length = 5 := by
        obtain ⟨d, b⟩ := q
        cases h2
        cases b <;> rfl
      have hb : bare q = [] := by unfold bare; rw [if_pos h2]
      obtain ⟨st', res', h1, h3, h4⟩ := strip_fold x l (pre ++ pL q) (pre.length + 5) (if st ≠ pre.length then res ++ [(x.drop st).take (pre.length - st)] else res) hx' (by rw [hlen]; omega)
      refine ⟨st', res', ?_, h3, ?_⟩
      · rw [List.flatMap_cons, esc_piece, if_neg (by omega), if_neg (by omega), if_pos h2, hl5]
        rw [hlen, hl5] at h1
        rw [List.foldl_append]
        have : ((if q.2 = true then [(pre.length, [34]), (pre.length + 2, [92, 34]), (pre.length + 3, [40]), (pre.length + 4, [34])] else [(pre.length, [34]), (pre.length + 1, [41]), (pre.length + 3, [92, 34]), (pre.length + 4, [34])]).foldl (stripS x) (st, none, res)) = (pre.length + 5, none, if st ≠ pre.length then res ++ [(x.drop st).take (pre.length - st)] else res) := by
          cases q.2 <;> rfl
        rw [this, h1]
      · rw [h4, hlen, hl5, Nat.sub_self, List.take_zero, List.append_nil, List.flatMap_cons, hb, List.nil_append]
        congr 1
        by_cases hse : st = pre.length
        · rw [if_neg (by simpa using hse), hse, Nat.sub_self, List.take_zero, List.append_nil]
        · rw [if_pos hse, List.flatten_append]; simp
    rcases pc_cases q with rfl | rfl | rfl | rfl | rfl | rfl | ⟨h3, e1, e2, e3⟩ | ⟨h3, e1, e2, e3⟩
    · exact goplain (by rw [esc_piece]; simp [escI]) rfl
    · exact goplain (by rw [esc_piece]; simp [escI]) rfl
    · exact goplain (by rw [esc_piece]; simp [escI]) rfl
    · exact goplain (by rw [esc_piece]; simp [escI]) rfl
    · exact quoted rfl
    · exact quoted rfl
    · exact goplain (by rw [e1]; simp [escI]) (by rw [e1, e2])
    · exact goplain (by rw [e1]; simp [escI]) (by rw [e1, e2])
theorem strip_all (l : List Pc) : stripF (l.flatMap pL) = l.flatMap bare := by
  unfold stripF
  split
  · obtain ⟨st', res', h1, h2, h3⟩ := strip_fold (l.flatMap pL) l [] 0 [] rfl (Nat.le_refl _)
    have h1' : (escI (l.flatMap pL) 0 false).foldl (stripS (l.flatMap pL)) (0, none, []) = (st', none, res') := h1
    simp only [h1']
    have h3' : res'.flatten ++ (l.flatMap pL).drop st' = l.flatMap bare := by simpa using h3
    rw [← h3', List.flatten_append]
    congr 1
    split
    · simp
    · rw [List.drop_of_length_le (by omega)]; rfl
  · rename_i h
    have : ∀ (l : List Pc), 34 ∉ l.flatMap pL → l.flatMap pL = l.flatMap bare := by
      intro l
      induction l with
      | nil => intro _; rfl
      | cons q l ih =>
        intro h
        rw [List.flatMap_cons] at h ⊢
        rw [List.flatMap_cons, ih fun m => h (List.mem_append_right _ m)]
        have h1 : 34 ∉ pL q := fun m => h (List.mem_append_left _ m)
        have : bare q = pL q := by
          unfold bare
          rw [if_neg]
          intro h2
          obtain ⟨d, b⟩ := q
          cases h2
          cases b <;> simp [pL, pcL] at h1
        rw [this]
    exact this l h
theorem check_pieces (l : List Pc) : checkF (l.flatMap pL) = chk (l.map wL) 0 := by
  unfold checkF
  rw [strip_all]
  exact chk_bare l 0 0 (Int.le_refl _)
theorem chk_whole : ∀ (ns : List Int) (o : Int), 0 ≤ o → chk ns o = (((List.range (ns.length + 1)).all fun j => decide (0 ≤ o + (ns.take j).sum)) && decide (o + ns.sum = 0))
  | [], o, h => by simp [chk, h]
  | n :: r, o, h => by
    unfold chk
    have hr : List.range ((n :: r).length + 1) = 0 :: (List.range (r.length + 1)).map Nat.succ := by
      rw [List.length_cons, List.range_succ_eq_map]
    rw [hr, List.all_cons, List.all_map]
    have h0 : decide (0 ≤ o + ((n :: r).take 0).sum) = true := by simp [h]
    rw [h0, Bool.true_and]
    have hs : o + (n :: r).sum = (o + n) + r.sum := by rw [List.sum_cons]; omega
    rw [hs]
    have hf : ((fun j => decide (0 ≤ o + ((n :: r).take j).sum)) ∘ Nat.succ) = fun j => decide (0 ≤ (o + n) + (r.take j).sum) := by
      funext j
      show decide (0 ≤ o + ((n :: r).take (j + 1)).sum) = _
      rw [List.take_succ_cons, List.sum_cons, Int.add_assoc]
    rw [hf]
    by_cases ho : o + n < 0
    · rw [if_pos ho]
      have : (List.range (r.length + 1)).all (fun j => decide (0 ≤ o + n + (r.take j).sum)) = false := by
        rw [List.all_eq_false]
        exact ⟨0, by simp, by simp; omega⟩
      rw [this]; rfl
    · rw [if_neg ho]
      exact chk_whole r (o + n) (by omega)
theorem chk_wholeB (ns : List Int) : chk ns 0 = wholeB ns := by
  rw [chk_whole ns 0 (Int.le_refl _)]
  unfold wholeB
  simp
end Mine
end
section
set_option maxHeartbeats 2000000
open PySem PySem.W PyProof.Rows PySem.Calls PySem.Spec
namespace Mine
/-- the matching of signs by a stack -/
def run : List Nat → List Nat → Option (List Nat)
  | [], st => some st
  | c :: r, st => if c < 3 then run r (c :: st) else match st with
    | [] => none
    | k :: st' => if k = c - 3 then run r st' else none
theorem run_append : ∀ (l m st : List Nat), run (l ++ m) st = (run l st).bind (run m)
  | [], _, _ => rfl
  | c :: r, m, st => by
    show run (c :: (r ++ m)) st = _
    unfold run
    split
    · exact run_append r m _
    · cases st with
      | nil => rfl
      | cons k st' =>
        show (if k = c - 3 then run (r ++ m) st' else none) = (if k = c - 3 then run r st' else none).bind (run m)
        split
        · exact run_append r m _
        · rfl
theorem run_some {l m st st' : List Nat} (h : run (l ++ m) st = some st') : ∃ s1, run l st = some s1 ∧ run m s1 = some st' := by
  rw [run_append] at h
  cases e : run l st with
  | none => rw [e] at h; cases h
  | some s1 => rw [e] at h; exact ⟨s1, rfl, h⟩
theorem run_pair {k : Nat} (hk : k < 3) (st : List Nat) : run [k, k + 3] st = some st := by
  unfold run
  rw [if_pos hk]
  unfold run
  rw [if_neg (by omega)]
  show (if k = k + 3 - 3 then run [] st else none) = some st
  rw [if_pos (by omega)]; rfl
/-- two neighbours that close each other -/
def adj (l : List Nat) : Prop := ∃ u k v, k < 3 ∧ l = u ++ k :: (k + 3) :: v
theorem adj_cons {l : List Nat} (c : Nat) (h : adj l) : adj (c :: l) := by
  obtain ⟨u, k, v, hk, e⟩ := h
  exact ⟨c :: u, k, v, hk, by rw [e]; rfl⟩
theorem run_pops : ∀ (l : List Nat) (k : Nat) (st st' : List Nat), k < 3 → run l (k :: st) = some st' → st'.length ≤ st.length → (∃ r, l = (k + 3) :: r) ∨ adj l
  | [], k, st, st', _, h, hl => by
    have : k :: st = st' := Option.some.inj h
    rw [← this] at hl
    simp at hl; omega
  | c :: r, k, st, st', hk, h, hl => by
    unfold run at h
    by_cases hc : c < 3
    · rw [if_pos hc] at h
      rcases run_pops r c (k :: st) st' hc h (by simp; omega) with ⟨r', e⟩ | e
      · exact .inr ⟨[], c, r', hc, by rw [e]; rfl⟩
      · exact .inr (adj_cons c e)
    · rw [if_neg hc] at h
      have h' : (if k = c - 3 then run r st else none) = some st' := h
      by_cases hkc : k = c - 3
      · exact .inl ⟨r, by rw [hkc]; congr 1; omega⟩
      · rw [if_neg hkc] at h'; cases h'
theorem run_adj {l : List Nat} (hne : l ≠ []) (h : run l [] = some []) : adj l := by
  cases l with
  | nil => exact absurd rfl hne
  | cons c r =>
    unfold run at h
    by_cases hc : c < 3
    · rw [if_pos hc] at h
      rcases run_pops r c [] [] hc h (Nat.le_refl _) with ⟨r', e⟩ | e
      · exact ⟨[], c, r', hc, by rw [e]; rfl⟩
      · exact adj_cons c e
    · rw [if_neg hc] at h; cases h
/-- places and their signs -/
def plc (c : Nat) : Nat := if c = 40 then 0 else if c = 91 then 1 else if c = 123 then 2 else if c = 41 then 3 else if c = 93 then 4 else if c = 125 then 5 else 9
def cod (i : Nat) : Nat := match i with | 0 => 40 | 1 => 91 | 2 => 123 | 3 => 41 | 4 => 93 | _ => 125
theorem plc_cod : ∀ i : Fin 6, plc (cod i) = i := by decide
theorem cod_of {c i : Nat} (h : plc c = i) (hi : i < 6) : c = cod i := by
  unfold plc at h
  split at h
  · subst h; assumption
  split at h
  · subst h; assumption
  split at h
  · subst h; assumption
  split at h
  · subst h; assumption
  split at h
  · subst h; assumption
  split at h
  · subst h; assumption
  omega
theorem sgn_cod : ∀ i : Fin 6, toL (sgn i) = [cod i] := by decide +kernel
def runT (x : Str) : Option (List Nat) := run ((toL x).map plc) []
theorem run_joinL {sep : List Nat} (hs : ∀ st, run sep st = some st) : ∀ (l : List (List Nat)) (st : List Nat), run (joinL sep l) st = run (joinL [] l) st
  | [], _ => rfl
  | [a], _ => rfl
  | a :: b :: r, st => by
    show run (a ++ sep ++ joinL sep (b :: r)) st = run (a ++ [] ++ joinL [] (b :: r)) st
    rw [List.append_nil, run_append, run_append, run_append]
    cases e : run a st with
    | none => rfl
    | some s1 =>
      show ((run sep s1).bind fun s => run (joinL sep (b :: r)) s) = run (joinL [] (b :: r)) s1
      rw [hs]
      exact run_joinL hs (b :: r) s1
theorem joinL_map (f : Nat → Nat) (sep : List Nat) : ∀ l : List (List Nat), (joinL sep l).map f = joinL (sep.map f) (l.map fun p => p.map f)
  | [] => rfl
  | [a] => rfl
  | a :: b :: r => by
    show (a ++ sep ++ joinL sep (b :: r)).map f = _
    rw [List.map_append, List.map_append, joinL_map f sep (b :: r)]; rfl
theorem strike_run {x y : Str} (hy : ∀ st, run ((toL y).map plc) st = some st) : runT (Str.join (Str.ofString "") (Txt.split x y)) = runT x := by
  unfold runT
  have e0 : toL (Str.ofString "") = [] := by decide +kernel
  have hx : toL x = joinL (toL y) ((Txt.split x y).map toL) := by
    conv => lhs; rw [← StrLaws.join_split x y]
    exact join_toL _ _
  rw [join_toL, e0, hx, joinL_map, joinL_map, run_joinL hy]; rfl
theorem join_len (y : Str) : ∀ l : List Str, l ≠ [] → (Str.join y l).length + y.length = (l.map (·.length)).sum + l.length * y.length
  | [], h => absurd rfl h
  | [a], _ => by show a.length + _ = _; simp
  | a :: b :: r, _ => by
    have ih := join_len y (b :: r) (by simp)
    show (a ++ y ++ Str.join y (b :: r)).length + y.length = _
    rw [Str.length_append, Str.length_append]
    simp only [List.map_cons, List.sum_cons, List.length_cons] at ih ⊢
    rw [Nat.add_mul (r.length + 1) 1]
    omega
/-- a strike leaves the text or shortens it -/
theorem strike_step {x y : Str} (hy : 1 ≤ y.length) : Txt.split x y = [x] ∨ (Str.join (Str.ofString "") (Txt.split x y)).length < x.length := by
  have hj := StrLaws.join_split x y
  have h1 := join_len y (Txt.split x y) (split_ne x y)
  rw [hj] at h1
  have h2 : (Str.join (Str.ofString "") (Txt.split x y)).length = ((Txt.split x y).map (·.length)).sum := join_len0 _
  match hs : Txt.split x y with
  | [] => exact absurd hs (split_ne x y)
  | [p] =>
    rw [hs] at hj
    have : p = x := hj
    rw [this]; exact .inl rfl
  | p :: q :: r =>
    right
    rw [hs] at h1 h2
    rw [h2]
    simp only [List.length_cons] at h1
    have : 2 * y.length ≤ (r.length + 1 + 1) * y.length := Nat.mul_le_mul_right _ (by omega)
    omega
theorem kind_pos (x : Str) : 1 ≤ Builtin.Str.strKind x := by
  unfold Builtin.Str.strKind
  split
  · omega
  · split <;> omega
/-- what stays whole does not hold it -/
theorem split_whole {x y : Str} (hy : 1 ≤ y.length) (hk : Builtin.Str.strKind y = 1) (h : Txt.split x y = [x]) (u v : List Nat) : toL x ≠ u ++ toL y ++ v := fun e => by
  have hlen : x.length = u.length + y.length + v.length := by
    rw [← toL_length, e]; simp [toL_length]; omega
  have hat : StrLaws.At x y x.length u.length := by
    refine ⟨by omega, ?_⟩
    rw [StrLaws.subAt_eq]
    have : x.cps.toList = u ++ toL y ++ v := e
    rw [this, List.append_assoc, List.drop_left, List.take_left' (by rw [toL_length])]
    simp [toL]
  obtain ⟨f, hc, hf⟩ := StrLaws.occ_tight x y hy
  unfold Txt.split at h
  rw [if_neg] at h
  · cases ho : Builtin.Str.occurrences x y 0 x.length (x.length + 1) with
    | nil =>
      rw [ho] at hc
      have : f = 0 := hc
      exact hf u.length (by omega) hat
    | cons c r =>
      rw [ho, if_neg (by simp)] at h
      have := congrArg List.length h
      unfold Builtin.Str.partsBetween at this
      simp at this
  · have := kind_pos x
    simp; omega
theorem strikeP_run : ∀ k : Fin 3, toL (strikeP.getD (2 * k) (Str.ofString "")) = [cod k, cod (k + 3)] ∧ Builtin.Str.strKind (strikeP.getD (2 * k) (Str.ofString "")) = 1 ∧ (strikeP.getD (2 * k) (Str.ofString "")).length = 2 := by decide +kernel
theorem pair_run {y : Str} {k : Nat} (hk : k < 3) (h : toL y = [cod k, cod (k + 3)]) : ∀ st, run ((toL y).map plc) st = some st := fun st => by
  rw [h]
  have e1 := plc_cod ⟨k, by omega⟩
  have e2 := plc_cod ⟨k + 3, by omega⟩
  show run [plc (cod k), plc (cod (k + 3))] st = some st
  rw [show plc (cod k) = k from e1, show plc (cod (k + 3)) = k + 3 from e2]
  exact run_pair hk st
def st1 (x : Str) (k : Nat) : Str := Str.join (Str.ofString "") (Txt.split x (strikeP.getD (2 * k) (Str.ofString "")))
theorem strike1_eq (x : Str) : strike1 x = st1 (st1 (st1 x 0) 1) 2 := rfl
theorem st1_run (x : Str) (k : Fin 3) : runT (st1 x k) = runT x := strike_run (pair_run k.isLt (strikeP_run k).1)
theorem strike1_run (x : Str) : runT (strike1 x) = runT x := by
  rw [strike1_eq]
  exact (st1_run _ 2).trans ((st1_run _ 1).trans (st1_run _ 0))
theorem st1_step (x : Str) (k : Fin 3) : (st1 x k = x ∧ Txt.split x (strikeP.getD (2 * k) (Str.ofString "")) = [x]) ∨ (st1 x k).length < x.length := by
  rcases strike_step (x := x) (y := strikeP.getD (2 * k) (Str.ofString "")) (by rw [(strikeP_run k).2.2]; decide) with h | h
  · refine .inl ⟨?_, h⟩
    unfold st1; rw [h]; rfl
  · exact .inr h
theorem st1_le (x : Str) (k : Fin 3) : (st1 x k).length ≤ x.length := by
  rcases st1_step x k with h | h
  · exact Nat.le_of_eq (congrArg _ h.1)
  · exact Nat.le_of_lt h
theorem strike1_fix {x : Str} : (strike1 x = x ∧ ∀ k : Fin 3, Txt.split x (strikeP.getD (2 * k) (Str.ofString "")) = [x]) ∨ (strike1 x).length < x.length := by
  rw [strike1_eq]
  obtain ⟨x1, hx1⟩ : ∃ x1, x1 = st1 x 0 := ⟨_, rfl⟩
  obtain ⟨x2, hx2⟩ : ∃ x2, x2 = st1 x1 1 := ⟨_, rfl⟩
  rw [← hx1, ← hx2]
  have a : (x1 = x ∧ Txt.split x (strikeP.getD (2 * ((0 : Fin 3) : Nat)) (Str.ofString "")) = [x]) ∨ x1.length < x.length := hx1 ▸ st1_step x 0
  have b : (x2 = x1 ∧ Txt.split x1 (strikeP.getD (2 * ((1 : Fin 3) : Nat)) (Str.ofString "")) = [x1]) ∨ x2.length < x1.length := hx2 ▸ st1_step x1 1
  have c : (st1 x2 2 = x2 ∧ Txt.split x2 (strikeP.getD (2 * ((2 : Fin 3) : Nat)) (Str.ofString "")) = [x2]) ∨ (st1 x2 2).length < x2.length := st1_step x2 2
  have la : x1.length ≤ x.length := hx1 ▸ st1_le x 0
  have lb : x2.length ≤ x1.length := hx2 ▸ st1_le x1 1
  have lc : (st1 x2 2).length ≤ x2.length := st1_le x2 2
  rcases a with ⟨a1, a2⟩ | a
  · rcases b with ⟨b1, b2⟩ | b
    · rcases c with ⟨c1, c2⟩ | c
      · left
        rw [b1, a1] at c1 c2
        rw [a1] at b2
        refine ⟨by rw [b1, a1]; exact c1, fun k => ?_⟩
        match k with
        | 0 => exact a2
        | 1 => exact b2
        | 2 => exact c2
      · right; omega
    · right; omega
  · right; omega
theorem struckF_run : ∀ (n : Nat) (x : Str), runT (struckF n x) = runT x
  | 0, _ => rfl
  | n + 1, x => by
    unfold struckF
    split
    · rfl
    · rw [struckF_run n, strike1_run]
theorem empty_of_len {x : Str} (h : x.length = 0) : x = Str.ofString "" := by
  apply toL_inj
  have e0 : toL (Str.ofString "") = [] := by decide +kernel
  rw [e0]
  exact List.eq_nil_of_length_eq_zero (by rw [toL_length]; exact h)
theorem struckF_empty : ∀ (n : Nat) (x : Str), x.length ≤ n → runT x = some [] → struckF n x = Str.ofString ""
  | 0, x, h, _ => empty_of_len (by show x.length = 0; omega)
  | n + 1, x, h, hr => by
    unfold struckF
    rcases strike1_fix (x := x) with ⟨h1, h2⟩ | h1
    · rw [if_pos h1]
      by_cases hx : (toL x).map plc = []
      · exact empty_of_len (by rw [← toL_length]; have := congrArg List.length hx; simpa using this)
      · obtain ⟨u, k, v, hk, e⟩ := run_adj hx hr
        have hs := strikeP_run ⟨k, hk⟩
        -- the text itself
        have : ∃ u' v', toL x = u' ++ [cod k, cod (k + 3)] ++ v' := by
          obtain ⟨u', r', e1, e2, e3⟩ := List.map_eq_append_iff.mp e
          obtain ⟨a, r2, e4, e5, e6⟩ := List.map_eq_cons_iff.mp e3
          obtain ⟨b, r3, e7, e8, e9⟩ := List.map_eq_cons_iff.mp e6
          refine ⟨u', r3, ?_⟩
          rw [e1, e4, e7, cod_of e5 (by omega), cod_of e8 (by omega)]
          simp
        obtain ⟨u', v', e'⟩ := this
        rw [← hs.1] at e'
        exact absurd e' (split_whole (by rw [hs.2.2]; decide) hs.2.1 (h2 ⟨k, hk⟩) u' v')
    · rw [if_neg (fun e => by rw [e] at h1; omega)]
      exact struckF_empty n _ (by omega) ((strike1_run x).trans hr)
theorem runT_empty : runT (Str.ofString "") = some [] := by decide +kernel
theorem struck_iff {n : Nat} {x : Str} (h : x.length ≤ n) : (struckF n x == Str.ofString "") = true ↔ runT x = some [] := by
  constructor
  · intro e
    rw [← struckF_run n x, eq_of_beq e, runT_empty]
  · intro e
    rw [struckF_empty n x h e]; exact beq_self_eq_true _
end Mine
end
section
set_option maxHeartbeats 2000000
open PySem PySem.W PyProof.Rows PySem.Calls PySem.Spec
namespace Mine
/-- a stretch of places -/
def cutN (pls : List Nat) (p : Int × Int) : List Nat := (pls.drop p.1.toNat).take (p.2.toNat - p.1.toNat)
theorem cutN_mem {pls : List Nat} {p : Int × Int} {i : Nat} (h : i ∈ cutN pls p) : i ∈ pls := List.mem_of_mem_drop (List.mem_of_mem_take h)
def wN (k i : Nat) : Int := if k = i % 3 ∨ k = 3 then (if i < 3 then 1 else -1) else 0
theorem stepF_nat (k i : Nat) : stepF (k : Int) (i : Int) = wN k i := by
  unfold stepF wN
  have h1 : ((k : Int) = (i : Int) % 3 ∨ (k : Int) = 3) ↔ (k = i % 3 ∨ k = 3) := by omega
  have h2 : ((i : Int) < 3) ↔ i < 3 := by omega
  simp only [h1, h2]
theorem wholeP_cut (pls : List Nat) (k : Nat) (p : Int × Int) : wholeP pls (k : Int) p = chk ((cutN pls p).map (wN k)) 0 := by
  rw [chk_wholeB]
  unfold wholeP cutN
  rw [List.map_map, List.map_take, List.map_drop]
  congr 3
  refine List.map_congr_left fun i _ => ?_
  exact stepF_nat k i
theorem wL_ok : ∀ k : Fin 4, ∀ i : Fin 6, wL (dk k i, decide (i.val < 3)) = wN k i := by decide
theorem check_text {k : Nat} {pls : List Nat} (hk : k < 4) (hpl : ∀ i ∈ pls, i < 6) (hlen : pls.length ≤ 20) (hne : pls ≠ []) (p : Int × Int) : checkF (textF pls (k : Int) p).cps.toList = wholeP pls (k : Int) p := by
  rw [wholeP_cut]
  have h : (textF pls (k : Int) p).cps.toList = ((cutN pls p).map fun i => ((dk k i, decide (i < 3)) : Pc)).flatMap pL := by
    rw [List.flatMap_map]
    exact text_toL hk hpl hlen hne p
  rw [h, check_pieces, List.map_map]
  congr 1
  refine List.map_congr_left fun i hi => ?_
  exact wL_ok ⟨k, hk⟩ ⟨i, hpl i (cutN_mem hi)⟩
theorem plain_of {pls : List Nat} (hpl : ∀ i ∈ pls, i < 6) (hlen : pls.length ≤ 20) (hne : pls ≠ []) : Plain pls := by
  have nat_of : ∀ k : Int, 0 ≤ k → k ≤ 3 → ∃ n : Nat, n < 4 ∧ k = (n : Int) := fun k h0 h3 => ⟨k.toNat, by omega, by omega⟩
  have hs : ∀ n : Nat, n < 4 → ((pls.map (pc n)).map (·.length)).sum ≤ 100 := fun n hn => by
    have := sum_le_mul (B := 5) ((pls.map (pc n)).map (·.length)) (fun c hc => by
      obtain ⟨q, hq, rfl⟩ := List.mem_map.mp hc
      exact (pc_mem hn hpl q hq).2)
    simp only [List.length_map] at this
    omega
  refine ⟨hpl, hlen, fun k h0 h3 => ?_, fun k h0 h3 => ?_, fun k h0 h3 => ?_, fun k h0 h3 => ?_, fun k h0 h3 p => ?_, fun k h0 h3 p _ _ _ => ?_⟩
  · obtain ⟨n, hn, rfl⟩ := nat_of k h0 h3
    exact (repl_sound hn hpl hlen).1
  · obtain ⟨n, hn, rfl⟩ := nat_of k h0 h3
    rw [← toL_length, (repl_sound hn hpl hlen).2]
    have h1 := joinL_len (sep := [124]) (pls.map (pc n))
    have h2 := hs n hn
    simp only [List.length_map, List.length_singleton] at h1
    omega
  · obtain ⟨n, hn, rfl⟩ := nat_of k h0 h3
    have := congrArg List.length (dress_toL hn hpl hlen hne)
    simpa using this
  · obtain ⟨n, hn, rfl⟩ := nat_of k h0 h3
    have h2 := hs n hn
    rw [← dress_toL hn hpl hlen hne, List.map_map] at h2
    have : ((dressF pls (n : Int)).map fun x => x.length) = (dressF pls (n : Int)).map ((·.length) ∘ toL) := List.map_congr_left fun x _ => (toL_length x).symm
    rw [this]; omega
  · obtain ⟨n, hn, rfl⟩ := nat_of k h0 h3
    have ht := text_toL hn hpl hlen hne p
    constructor
    · intro c hc
      have hc' : c ∈ toL (textF pls (n : Int) p) := hc
      rw [ht] at hc'
      obtain ⟨i, hi, hc'⟩ := List.mem_flatMap.mp hc'
      have := (pc_facts ⟨n, hn⟩ ⟨i, hpl i (List.mem_of_mem_drop (List.mem_of_mem_take hi))⟩).1 c hc'
      omega
    · have : (textF pls (n : Int) p).cps.size = (toL (textF pls (n : Int) p)).length := by simp [toL]
      rw [this, ht]
      have := flat_len (pc n) 5 ((pls.drop p.1.toNat).take (p.2.toNat - p.1.toNat)) (fun i hi => (pc_facts ⟨n, hn⟩ ⟨i, hpl i (List.mem_of_mem_drop (List.mem_of_mem_take hi))⟩).2)
      have hl : ((pls.drop p.1.toNat).take (p.2.toNat - p.1.toNat)).length ≤ 20 := by rw [List.length_take, List.length_drop]; omega
      omega
  · obtain ⟨n, hn, rfl⟩ := nat_of k h0 h3
    exact check_text hn hpl hlen hne p
/-- a stretch is struck out just if its signs match -/
theorem match_run {pls : List Nat} (hpl : ∀ i ∈ pls, i < 6) (p : Int × Int) : matchB pls p = true ↔ run (cutN pls p) [] = some [] := by
  have e1 : (cutS pls p) = (cutN pls p).map sgn := by unfold cutS cutN; rw [List.map_take, List.map_drop]
  have e2 : toL (Str.join (Str.ofString "") (cutS pls p)) = (cutN pls p).map cod := by
    rw [join_toL, nil_toL, joinL_nil, e1, List.map_map]
    have : ((cutN pls p).map (toL ∘ sgn)) = (cutN pls p).map fun i => [cod i] := List.map_congr_left fun i hi => sgn_cod ⟨i, hpl i (cutN_mem hi)⟩
    rw [this]
    generalize cutN pls p = w
    induction w with
    | nil => rfl
    | cons c r ih => simp only [List.map_cons, List.flatten_cons, ih]; rfl
  unfold matchB
  rw [struck_iff]
  · unfold runT
    rw [e2, List.map_map]
    have : (cutN pls p).map (plc ∘ cod) = cutN pls p := by
      conv => rhs; rw [← List.map_id (cutN pls p)]
      exact List.map_congr_left fun i hi => plc_cod ⟨i, hpl i (cutN_mem hi)⟩
    rw [this]
  · rw [← toL_length, e2, e1]; simp
end Mine
end
section
set_option maxHeartbeats 2000000
open PySem PySem.W PyProof.Rows PySem.Calls PySem.Spec
namespace Mine
/-- how many of a kind wait -/
def cnt (k : Nat) : List Nat → Int
  | [] => 0
  | i :: r => (if k = i % 3 ∨ k = 3 then 1 else 0) + cnt k r
theorem cnt_nonneg (k : Nat) : ∀ l, 0 ≤ cnt k l
  | [] => Int.le_refl _
  | i :: r => by have := cnt_nonneg k r; unfold cnt; split <;> omega
/-- matched signs leave the count as the stack says -/
theorem chk_run {k : Nat} : ∀ (w st st' : List Nat) (d : Int) (r : List Int), 0 ≤ d → run w st = some st' → chk (w.map (wN k) ++ r) (cnt k st + d) = chk r (cnt k st' + d)
  | [], st, st', d, r, _, h => by
    rw [Option.some.inj h]; rfl
  | c :: w, st, st', d, r, hd, h => by
    unfold run at h
    rw [List.map_cons, List.cons_append]
    have hch : chk (wN k c :: (w.map (wN k) ++ r)) (cnt k st + d) = if cnt k st + d + wN k c < 0 then false else chk (w.map (wN k) ++ r) (cnt k st + d + wN k c) := rfl
    rw [hch]
    by_cases hc : c < 3
    · rw [if_pos hc] at h
      have e : cnt k st + d + wN k c = cnt k (c :: st) + d := by
        unfold wN; rw [if_pos hc]; conv => rhs; unfold cnt
        split <;> omega
      have := cnt_nonneg k (c :: st)
      rw [e, if_neg (by omega)]
      exact chk_run w (c :: st) st' d r hd h
    · rw [if_neg hc] at h
      match st, h with
      | [], h => cases h
      | q :: st, h =>
        have h' : (if q = c - 3 then run w st else none) = some st' := h
        by_cases hq : q = c - 3
        · rw [if_pos hq] at h'
          have hch' : (if cnt k (q :: st) + d + wN k c < 0 then false else chk (w.map (wN k) ++ r) (cnt k (q :: st) + d + wN k c)) = if cnt k (q :: st) + d + wN k c < 0 then false else chk (w.map (wN k) ++ r) (cnt k (q :: st) + d + wN k c) := rfl
          have e : cnt k (q :: st) + d + wN k c = cnt k st + d := by
            conv => lhs; unfold cnt wN
            rw [if_neg hc]
            have : q % 3 = c % 3 := by omega
            rw [this]
            split <;> omega
          have := cnt_nonneg k st
          rw [e, if_neg (by omega)]
          exact chk_run w st st' d r hd h'
        · rw [if_neg hq] at h'; cases h'
/-- a stretch whose count is right leaves what stood below it -/
theorem run_below : ∀ (w a st st' : List Nat), (∀ c ∈ w, c < 6) → run w (a ++ st) = some st' → chk (w.map (wN 3)) a.length = true → run w a = some [] ∧ st' = st
  | [], a, st, st', _, h, hc => by
    have : (a.length : Int) = 0 := of_decide_eq_true hc
    have : a = [] := List.eq_nil_of_length_eq_zero (by omega)
    subst this
    exact ⟨rfl, (Option.some.inj h).symm⟩
  | c :: w, a, st, st', hw, h, hc => by
    rw [List.map_cons] at hc
    unfold chk at hc
    unfold run at h ⊢
    by_cases h3 : c < 3
    · rw [if_pos h3] at h ⊢
      have e : wN 3 c = 1 := by unfold wN; rw [if_pos (.inr rfl), if_pos h3]
      rw [e, if_neg (by omega)] at hc
      exact run_below w (c :: a) st st' (fun x hx => hw x (.tail _ hx)) h (by simpa using hc)
    · rw [if_neg h3] at h ⊢
      have e : wN 3 c = -1 := by unfold wN; rw [if_pos (.inr rfl), if_neg h3]
      rw [e] at hc
      match a, h, hc with
      | [], h, hc => rw [if_pos (by simp)] at hc; cases hc
      | q :: a, h, hc =>
        rw [if_neg (by simp; omega)] at hc
        have h' : (if q = c - 3 then run w (a ++ st) else none) = some st' := h
        show (if q = c - 3 then run w a else none) = some [] ∧ _
        by_cases hq : q = c - 3
        · rw [if_pos hq] at h' ⊢
          refine run_below w a st st' (fun x hx => hw x (.tail _ hx)) h' ?_
          have : ((q :: a).length : Int) + -1 = a.length := by simp; omega
          rw [this] at hc; exact hc
        · rw [if_neg hq] at h'; cases h'
/-- where the matching breaks -/
theorem run_breaks : ∀ (w st : List Nat), chk (w.map (wN 3)) st.length = true → run w st = some [] ∨ ∃ u c v k st1, w = u ++ c :: v ∧ run u st = some (k :: st1) ∧ 3 ≤ c ∧ k ≠ c - 3
  | [], st, hc => by
    have : (st.length : Int) = 0 := of_decide_eq_true hc
    exact .inl (by rw [List.eq_nil_of_length_eq_zero (by omega : st.length = 0)]; rfl)
  | c :: w, st, hc => by
    rw [List.map_cons] at hc
    unfold chk at hc
    by_cases h3 : c < 3
    · have e : wN 3 c = 1 := by unfold wN; rw [if_pos (.inr rfl), if_pos h3]
      rw [e, if_neg (by omega)] at hc
      have e0 : run (c :: w) st = run w (c :: st) := by
        conv => lhs; unfold run
        rw [if_pos h3]
      rcases run_breaks w (c :: st) (by simpa using hc) with h | ⟨u, c', v, k, s1, h1, h2, h4, h5⟩
      · exact .inl (e0.trans h)
      · refine .inr ⟨c :: u, c', v, k, s1, by rw [h1]; rfl, ?_, h4, h5⟩
        unfold run; rw [if_pos h3]; exact h2
    · have e : wN 3 c = -1 := by unfold wN; rw [if_pos (.inr rfl), if_neg h3]
      rw [e] at hc
      match st, hc with
      | [], hc => rw [if_pos (by simp)] at hc; cases hc
      | q :: st, hc =>
        rw [if_neg (by simp; omega)] at hc
        have : ((q :: st).length : Int) + -1 = st.length := by simp; omega
        rw [this] at hc
        by_cases hq : q = c - 3
        · have e0 : ∀ w, run (c :: w) (q :: st) = run w st := fun w => by
            conv => lhs; unfold run
            rw [if_neg h3]; show (if q = c - 3 then run w st else none) = _; rw [if_pos hq]
          rcases run_breaks w st hc with h | ⟨u, c', v, k, s1, h1, h2, h4, h5⟩
          · exact .inl ((e0 w).trans h)
          · exact .inr ⟨c :: u, c', v, k, s1, by rw [h1]; rfl, (e0 u).trans h2, h4, h5⟩
        · exact .inr ⟨[], c, w, q, st, rfl, rfl, by omega, hq⟩
/-- the opener of the stack's top -/
theorem run_top : ∀ (n : Nat) (u : List Nat), u.length ≤ n → ∀ (k : Nat) (st : List Nat), run u [] = some (k :: st) → ∃ u' x, u = u' ++ k :: x ∧ k < 3 ∧ run x [] = some [] ∧ run u' [] = some st := by
  have lift : ∀ {x : List Nat} (st : List Nat), run x [] = some [] → run x st = some st := by
    have gen : ∀ (x a b st : List Nat), run x a = some b → run x (a ++ st) = some (b ++ st) := by
      intro x
      induction x with
      | nil => intro a b st h; rw [Option.some.inj h]; rfl
      | cons c r ih =>
        intro a b st h
        unfold run at h ⊢
        by_cases hc : c < 3
        · rw [if_pos hc] at h ⊢; exact ih (c :: a) b st h
        · rw [if_neg hc] at h ⊢
          match a, h with
          | [], h => cases h
          | q :: a, h =>
            have h' : (if q = c - 3 then run r a else none) = some b := h
            show (if q = c - 3 then run r (a ++ st) else none) = _
            by_cases hq : q = c - 3
            · rw [if_pos hq] at h' ⊢; exact ih a b st h'
            · rw [if_neg hq] at h'; cases h'
    intro x st h
    have := gen x [] [] st h
    simpa using this
  intro n
  induction n with
  | zero =>
    intro u hu k st h
    have : u = [] := List.eq_nil_of_length_eq_zero (by omega)
    subst this
    cases Option.some.inj h
  | succ n ih =>
    intro u hu k st h
    rcases List.eq_nil_or_concat u with rfl | ⟨u0, c, rfl⟩
    · cases Option.some.inj h
    · rw [List.concat_eq_append] at h hu ⊢
      rw [List.length_append, List.length_singleton] at hu
      obtain ⟨s0, h1, h2⟩ := run_some h
      unfold run at h2
      by_cases hc : c < 3
      · rw [if_pos hc] at h2
        have h2' : c :: s0 = k :: st := Option.some.inj h2
        injection h2' with e1 e2
        subst e1 e2
        exact ⟨u0, [], rfl, hc, rfl, h1⟩
      · rw [if_neg hc] at h2
        match s0, h1, h2 with
        | [], h1, h2 => cases h2
        | q :: s1, h1, h2 =>
          have h2' : (if q = c - 3 then run [] s1 else none) = some (k :: st) := h2
          by_cases hq : q = c - 3
          · rw [if_pos hq] at h2'
            have e : s1 = k :: st := Option.some.inj h2'
            subst e
            obtain ⟨u1, x1, e1, hq3, hx1, hu1⟩ := ih u0 (by omega) q (k :: st) h1
            have hlen : u1.length ≤ n := by
              have := congrArg List.length e1
              simp at this; omega
            obtain ⟨u2, x2, e2, hk3, hx2, hu2⟩ := ih u1 hlen k st hu1
            refine ⟨u2, x2 ++ (q :: x1 ++ [c]), by rw [e1, e2]; simp, hk3, ?_, hu2⟩
            rw [run_append, hx2]
            show run (q :: x1 ++ [c]) [] = some []
            have : run (q :: (x1 ++ [c])) [] = run (x1 ++ [c]) [q] := by
              conv => lhs; unfold run
              rw [if_pos hq3]
            rw [List.cons_append, this, run_append, lift [q] hx1]
            show run [c] [q] = some []
            unfold run
            rw [if_neg hc]
            show (if q = c - 3 then run [] [] else none) = some []
            rw [if_pos hq]; rfl
          · rw [if_neg hq] at h2'; cases h2'
/-- matched signs are even in number -/
theorem run_even : ∀ (w st st' : List Nat), run w st = some st' → (w.length + st.length + st'.length) % 2 = 0
  | [], st, st', h => by rw [Option.some.inj h]; simp; omega
  | c :: w, st, st', h => by
    unfold run at h
    by_cases hc : c < 3
    · rw [if_pos hc] at h
      have := run_even w _ _ h
      simp only [List.length_cons] at this ⊢; omega
    · rw [if_neg hc] at h
      match st, h with
      | [], h => cases h
      | q :: st, h =>
        have h' : (if q = c - 3 then run w st else none) = some st' := h
        by_cases hq : q = c - 3
        · rw [if_pos hq] at h'
          have := run_even w _ _ h'
          simp only [List.length_cons] at this ⊢; omega
        · rw [if_neg hq] at h'; cases h'
end Mine
end
section
set_option maxHeartbeats 2000000
open PySem PySem.W PyProof.Rows PySem.Calls PySem.Spec
namespace Mine
/-- all stretches of a row of n -/
def psAll (n : Nat) : List (Int × Int) := (List.range n).flatMap fun i => (List.range ((n - i) / 2)).map fun j : Nat => ((i : Int), (i : Int) + 2 + (j : Int) * 2)
theorem mem_psAll {n : Nat} {p : Int × Int} : p ∈ psAll n ↔ ∃ i j : Nat, i < n ∧ j < (n - i) / 2 ∧ p = ((i : Int), (i : Int) + 2 + (j : Int) * 2) := by
  unfold psAll
  simp only [List.mem_flatMap, List.mem_map, List.mem_range]
  constructor
  · rintro ⟨i, hi, j, hj, rfl⟩; exact ⟨i, j, hi, hj, rfl⟩
  · rintro ⟨i, j, hi, hj, rfl⟩; exact ⟨i, hi, j, hj, rfl⟩
theorem psAll_valid {n : Nat} {p : Int × Int} (h : p ∈ psAll n) : 0 ≤ p.1 ∧ p.1 ≤ p.2 ∧ p.2 ≤ n := by
  obtain ⟨i, j, hi, hj, rfl⟩ := mem_psAll.mp h
  refine ⟨by simp, by simp; omega, ?_⟩
  simp only
  omega
theorem psAll_len : ∀ n : Fin 21, (psAll n).length ≤ 100 := by decide +kernel
theorem psAll_form {n : Nat} {p : Int × Int} (h : p ∈ psAll n) : ∃ a b : Nat, p = ((a : Int), (b : Int)) ∧ a + 2 ≤ b ∧ b ≤ n := by
  obtain ⟨i, j, hi, hj, rfl⟩ := mem_psAll.mp h
  exact ⟨i, i + 2 + j * 2, by simp, by omega, by omega⟩
theorem psAll_mem {n a m : Nat} (h : a + (m + 2) ≤ n) (hm : m % 2 = 0) : ((a : Int), ((a + (m + 2) : Nat) : Int)) ∈ psAll n :=
  mem_psAll.mpr ⟨a, m / 2, by omega, by omega, by congr 1; omega⟩
theorem cut_in {l : List Nat} {a a' b' b : Nat} (h1 : a ≤ a') (h2 : a' ≤ b') (h3 : b' ≤ b) : (l.drop a).take (b - a) = (l.drop a).take (a' - a) ++ ((l.drop a').take (b' - a') ++ (l.drop b').take (b - b')) := by
  obtain ⟨i, rfl⟩ := Nat.le.dest h1
  obtain ⟨j, rfl⟩ := Nat.le.dest h2
  obtain ⟨k, rfl⟩ := Nat.le.dest h3
  have e0 : a + i + j + k - a = i + (j + k) := by omega
  rw [Nat.add_sub_cancel_left, Nat.add_sub_cancel_left, Nat.add_sub_cancel_left, e0, List.take_add, List.drop_drop, List.take_add, List.drop_drop]
theorem cut_break {l : List Nat} {a b : Nat} {u' x v : List Nat} {k c : Nat} (e : (l.drop a).take (b - a) = u' ++ k :: x ++ c :: v) : (l.drop (a + u'.length)).take (x.length + 2) = k :: (x ++ [c]) ∧ u'.length + (x.length + 2) ≤ b - a := by
  have e6 : u' ++ k :: x ++ c :: v = u' ++ ((k :: (x ++ [c])) ++ v) := by simp
  rw [e6] at e
  have hl : u'.length + (x.length + 2) ≤ b - a := by
    have h := congrArg List.length e
    rw [List.length_take, List.length_append, List.length_append, List.length_cons, List.length_append, List.length_singleton] at h
    have := Nat.min_le_left (b - a) (l.drop a).length
    omega
  refine ⟨?_, hl⟩
  have h1 := congrArg (fun w => (w.drop u'.length).take (x.length + 2)) e
  simp only [List.drop_left, List.drop_take, List.drop_drop] at h1
  rw [List.take_take, Nat.min_eq_left (by omega)] at h1
  rw [h1]
  exact List.take_left' (by simp)
theorem whole_of_run {pls : List Nat} {q : Int × Int} (h : run (cutN pls q) [] = some []) (k : Nat) : wholeP pls (k : Int) q = true := by
  rw [wholeP_cut]
  have := chk_run (k := k) (cutN pls q) [] [] 0 [] (Int.le_refl _) h
  simp only [List.append_nil] at this
  rw [show (cnt k [] + 0 : Int) = 0 from rfl] at this
  rw [this]; rfl
/-- the count of a pair with matched signs between -/
theorem chk_wrap {m k c : Nat} {x : List Nat} (hk : k < 3) (hx : run x [] = some []) : chk ((k :: (x ++ [c])).map (wN m)) 0 = if wN m k + wN m c < 0 then false else decide (wN m k + wN m c = 0) := by
  have h0 : 0 ≤ wN m k := by unfold wN; rw [if_pos hk]; split <;> omega
  rw [List.map_cons, List.map_append]
  have e1 : chk (wN m k :: (x.map (wN m) ++ [c].map (wN m))) 0 = if 0 + wN m k < 0 then false else chk (x.map (wN m) ++ [c].map (wN m)) (0 + wN m k) := rfl
  rw [e1, if_neg (by omega)]
  have e2 := chk_run (k := m) x [] [] (wN m k) ([c].map (wN m)) h0 hx
  have e3 : (cnt m [] + wN m k : Int) = 0 + wN m k := rfl
  rw [e3] at e2
  rw [e2, Int.zero_add]
  rfl
theorem fmod_nat (n : Nat) : ((n : Int) + 1).fmod 3 = (((n + 1) % 3 : Nat) : Int) := by
  rw [Int.fmod_eq_emod_of_nonneg _ (by decide)]; omega
/-- what the law says of first and last -/
theorem law_la {pls : List Nat} (hpl : ∀ i ∈ pls, i < 6) {f : Int} (h0 : 0 ≤ f) (h2 : f ≤ 2) {p : Int × Int} (hm : matchB pls p = true) : wholeP pls ((f + 2).fmod 3) p = true := by
  obtain ⟨n, rfl⟩ : ∃ n : Nat, f = n := ⟨f.toNat, by omega⟩
  have e : ((n : Int) + 2).fmod 3 = (((n + 2) % 3 : Nat) : Int) := by
    rw [Int.fmod_eq_emod_of_nonneg _ (by decide)]; omega
  rw [e]
  exact whole_of_run ((match_run hpl p).mp hm) _
theorem mem_taken {pls : List Nat} {p : Int × Int} (hp : p ∈ (psAll pls.length).filter (wholeP pls 3)) : ∃ a b : Nat, p = ((a : Int), (b : Int)) ∧ a + 2 ≤ b ∧ b ≤ pls.length ∧ chk ((cutN pls p).map (wN 3)) (([] : List Nat).length : Int) = true := by
  obtain ⟨hpa, hpw⟩ := List.mem_filter.mp hp
  obtain ⟨a, b, e, h1, h2⟩ := psAll_form hpa
  have : wholeP pls ((3 : Nat) : Int) p = true := hpw
  rw [wholeP_cut] at this
  exact ⟨a, b, e, h1, h2, this⟩
theorem inner_run {pls : List Nat} (hpl : ∀ i ∈ pls, i < 6) {a b a' b' : Nat} (hr : run (cutN pls ((a : Int), (b : Int))) [] = some []) (l1 : a ≤ a') (l2 : a' ≤ b') (l3 : b' ≤ b)
    (hw : chk ((cutN pls ((a' : Int), (b' : Int))).map (wN 3)) (([] : List Nat).length : Int) = true) : run (cutN pls ((a' : Int), (b' : Int))) [] = some [] := by
  have e1 : cutN pls ((a : Int), (b : Int)) = (pls.drop a).take (b - a) := rfl
  have e2 : cutN pls ((a' : Int), (b' : Int)) = (pls.drop a').take (b' - a') := rfl
  rw [e1, cut_in l1 l2 l3, ← e2] at hr
  obtain ⟨s1, _, h1⟩ := run_some hr
  obtain ⟨s2, h3, _⟩ := run_some h1
  have h4 : run (cutN pls ((a' : Int), (b' : Int))) ([] ++ s1) = some s2 := h3
  exact (run_below _ [] s1 s2 (fun c hc => hpl c (cutN_mem hc)) h4 hw).1
/-- a pair of unlike signs about matched ones fails for the kinds of both, and for these alone -/
theorem odd_pair {n k c : Nat} {x : List Nat} (hn : n < 3) (hk : k < 3) (hc : 3 ≤ c) (hc6 : c < 6) (hkc : k ≠ c - 3) (hx : run x [] = some []) :
    chk ((k :: (x ++ [c])).map (wN 3)) 0 = true ∧ (chk ((k :: (x ++ [c])).map (wN n)) 0 = false ∨ chk ((k :: (x ++ [c])).map (wN ((n + 1) % 3))) 0 = false) := by
  rw [chk_wrap hk hx, chk_wrap hk hx, chk_wrap hk hx]
  clear hx
  have key : ∀ n : Fin 3, ∀ k : Fin 3, ∀ c : Fin 3, k ≠ c → ((if wN 3 k + wN 3 (c + 3) < 0 then false else decide (wN 3 k + wN 3 (c + 3) = 0)) = true) ∧
      (((if wN n k + wN n (c + 3) < 0 then false else decide (wN n k + wN n (c + 3) = 0)) = false) ∨ ((if wN ((n + 1 : Nat) % 3) k + wN ((n + 1 : Nat) % 3) (c + 3) < 0 then false else decide (wN ((n + 1 : Nat) % 3) k + wN ((n + 1 : Nat) % 3) (c + 3) = 0)) = false)) := by decide
  obtain ⟨d, rfl⟩ := Nat.le.dest hc
  have hd : d < 3 := by omega
  have := key ⟨n, hn⟩ ⟨k, hk⟩ ⟨d, hd⟩ (fun e => hkc (by have := congrArg Fin.val e; simp at this; omega))
  rw [Nat.add_comm 3 d]
  exact this
theorem law_ge {pls : List Nat} (hpl : ∀ i ∈ pls, i < 6) {f : Int} (h0 : 0 ≤ f) (h2 : f ≤ 2) {p : Int × Int} (hp : p ∈ (psAll pls.length).filter (wholeP pls 3)) :
    matchB pls p = !(((psAll pls.length).filter (wholeP pls 3)).any fun q => oddB (wholeP pls f) (wholeP pls ((f + 1).fmod 3)) q && (decide (p.1 ≤ q.1) && decide (q.2 ≤ p.2))) := by
  obtain ⟨n, hn, rfl⟩ : ∃ n : Nat, n < 3 ∧ f = n := ⟨f.toNat, by omega, by omega⟩
  clear h0 h2
  rw [fmod_nat]
  obtain ⟨a, b, rfl, hab, hbn, hpw⟩ := mem_taken hp
  cases hm : matchB pls ((a : Int), (b : Int)) with
  | true =>
    have hr := (match_run hpl _).mp hm
    symm
    rw [Bool.not_eq_true', List.any_eq_false]
    intro q hq hc
    obtain ⟨a', b', rfl, hab', hbn', hqw⟩ := mem_taken hq
    rw [Bool.and_eq_true, Bool.and_eq_true] at hc
    obtain ⟨ho, hc1, hc2⟩ := hc
    have l1 : a ≤ a' := Int.ofNat_le.mp (of_decide_eq_true hc1)
    have l3 : b' ≤ b := Int.ofNat_le.mp (of_decide_eq_true hc2)
    have h5 := inner_run hpl hr l1 (Nat.le_trans (Nat.le_add_right _ _) hab') l3 hqw
    unfold oddB at ho
    rw [whole_of_run h5 n, whole_of_run h5 ((n + 1) % 3)] at ho
    cases ho
  | false =>
    have hr : run (cutN pls ((a : Int), (b : Int))) [] ≠ some [] := fun h => by rw [(match_run hpl _).mpr h] at hm; cases hm
    symm
    rw [Bool.not_eq_false', List.any_eq_true]
    rcases run_breaks (cutN pls ((a : Int), (b : Int))) [] hpw with h | ⟨u, c, v, k, st1, e1, e2, h3, h4⟩
    · exact absurd h hr
    obtain ⟨u', x, e5, hk3, hx, _⟩ := run_top u.length u (Nat.le_refl _) k st1 e2
    have hc6 : c < 6 := hpl c (cutN_mem (e1 ▸ List.mem_append_right _ (.head _)))
    have hxe := run_even x [] [] hx
    rw [e5] at e1
    obtain ⟨hcut, hle⟩ := cut_break (l := pls) (a := a) (b := b) e1
    have hsum : a + u'.length + (x.length + 2) ≤ b := by clear hpw hr e1 e2 e5 hx hcut hm hp; omega
    have hwq : cutN pls (((a + u'.length : Nat) : Int), ((a + u'.length + (x.length + 2) : Nat) : Int)) = k :: (x ++ [c]) := by
      have e7 : cutN pls (((a + u'.length : Nat) : Int), ((a + u'.length + (x.length + 2) : Nat) : Int)) = (pls.drop (a + u'.length)).take (a + u'.length + (x.length + 2) - (a + u'.length)) := rfl
      rw [e7, Nat.add_sub_cancel_left, hcut]
    obtain ⟨o3, ok⟩ := odd_pair (n := n) hn hk3 h3 hc6 h4 hx
    refine ⟨(((a + u'.length : Nat) : Int), ((a + u'.length + (x.length + 2) : Nat) : Int)), List.mem_filter.mpr ⟨psAll_mem (Nat.le_trans hsum hbn) hxe, ?_⟩, ?_⟩
    · show wholeP pls ((3 : Nat) : Int) _ = true
      rw [wholeP_cut, hwq]; exact o3
    · rw [Bool.and_eq_true, Bool.and_eq_true]
      refine ⟨?_, decide_eq_true (Int.ofNat_le.mpr (Nat.le_add_right _ _)), decide_eq_true (Int.ofNat_le.mpr hsum)⟩
      unfold oddB
      rw [Bool.not_eq_true', Bool.and_eq_false_iff, wholeP_cut, wholeP_cut, hwq]
      exact ok
end Mine
end
section
set_option maxHeartbeats 4000000
open PySem PySem.W PyProof.Rows PySem.Calls PySem.Spec
namespace Mine
local macro_rules | `(tactic| walk_at "call ref") => `(tactic| refine stop_intro ?_)
local macro_rules | `(tactic| walk_at "pyIter ref") => `(tactic| refine stop_intro ?_)
local macro_rules | `(tactic| walk_at "exec Assign cons ListComp") => `(tactic| refine stop_intro ?_)
local macro_rules | `(tactic| walk_at "EltEnd") => `(tactic| refine stop_intro ?_)
local macro_rules | `(tactic| walk_at "assign Tuple") => `(tactic| refine stop_intro ?_)
local macro_rules | `(tactic| walk_at "assign Tuple ref") => `(tactic| refine stop_intro ?_)
local macro_rules | `(tactic| walk_at "InnerAt") => `(tactic| refine stop_intro ?_)
theorem small_two {a b : Int} (ha : 0 ≤ a) (ha' : a ≤ 100) (hb : 0 ≤ b) (hb' : b ≤ 100) : Builtin.Range.small a b 2 = true := by
  unfold Builtin.Range.small Builtin.Range.rangeSize
  simp only [Builtin.Range.rangeFitsLong, Bool.and_eq_true, Bool.or_eq_true, decide_eq_true_eq, beq_iff_eq, show (2 : Int) > 0 by decide, if_true]
  split <;> omega
/-- the statements behind the first one, hidden -/
theorem gen_tail {M : Model} {A : Around} {st : Stmt} {rest : List Stmt} {env : Env} {Q : Flow → Shared → Prop} {E : Value → Shared → Prop} {s : Shared} (h : ∀ r, r = rest → wpAny M A (execs (st :: r) env) Q E s) : wpAny M A (execs (st :: rest) env) Q E s := h rest rfl
theorem taken_p {w : World} {mean : ExcName → Option Value} {mg mb : Str → Option Value} {s : Shared} {R : Result → Shared → Prop} {lS lP : Addr} {pls : List Nat} {k : Int} {t : Tok} {ps : List (Int × Int)} (hP : Plain pls)
    (G : Gd w mean mg mb s.heap) (hS : ListH s.heap lS ((pls.map sgn).map Dat.str)) (hL : ListH s.heap lP (ps.map pd)) (hk0 : 0 ≤ k) (hk3 : k ≤ 3)
    (hps : ∀ p ∈ ps, 0 ≤ p.1 ∧ p.1 ≤ p.2 ∧ p.2 ≤ pls.length) (hpz : ps.length ≤ 1000)
    (hR : ∀ s' r ys n obs, Ext s s' → Fresh s s' ((r, PySem.W.listOf ys.toArray n) :: obs) → DatAll obs ys ((ps.filter (wholeP pls k)).map pd) → R (.ok (.ret (.ref r))) s') :
    codeAny (model PySem.Challenge.rw_pm0012_01.row.prog w) (rm 318 40) (.call (.ref 80) ⟨[.ref lS, .int k t, .ref lP], []⟩) R s :=
  taken_c dressed_c G hS hL hP.lt hP.len hk0 hk3 hps hpz (hP.ro _ hk0 hk3) (hP.rl _ hk0 hk3) (hP.dl _ hk0 hk3) (fun p _ => hP.tx _ hk0 hk3 p) (hP.dw _ hk0 hk3) (fun p hp => hP.ch _ hk0 hk3 p (hps p hp).1 (hps p hp).2.1 (hps p hp).2.2) hR
theorem law_pre {w : World} {mean : ExcName → Option Value} {mg mb : Str → Option Value} {s : Shared} {h₀ : Heap} {L fa Sg : Addr} {m : Str → Option Value} {body : List Stmt} {scope : Scope}
    {oL oH o1 o2 oS : Obj} {vs : Array Value} {n : Nat} {pls : List Nat} {drawn : Int} {td : Tok} {Q : Flow → Shared → Prop}
    (e : lawParts = (body, scope)) (G : Gd w mean mg mb h₀) (hC : CodeHd h₀ 91 89) (F : Fr h₀ L s.heap m)
    (N : News h₀ L s.heap ((L + 1, oL) :: (L + 1 + 1, oH) :: (L + 1 + 1 + 1, o1) :: (L + 1 + 1 + 1 + 1, o2) :: (L + 1 + 1 + 1 + 1 + 1, oS) :: (89, tabObj #[]) :: (Sg, PySem.W.listOf vs n) :: []))
    (hoL : oL.data = .cell none) (hoH : oH.data = .cell none) (ho1 : o1.data = .cell none) (ho2 : o2.data = .cell none) (hoS : oS.data = .cell (some (.ref Sg)))
    (m1 : m (Str.ofString "drawn") = some (.int drawn td))
    (hvs : StrsAre vs.toList (pls.map sgn)) (hpl : ∀ i ∈ pls, i < 6) (hlen : pls.length ≤ 20) (hne : pls ≠ [])
    (hQ : ∀ s', (∀ b o, h₀.get? b = some o → s'.heap.get? b = some o) → s'.os = s.os → GB s.gens s'.gens → (∃ ps, s'.heap.get? 89 = some (tabObj ps)) → Q (.ret (.bool true)) s') :
    wpAny (model PySem.Challenge.rw_pm0012_01.row.prog w) (rm 314 20) (execs (body.drop 2) (envOfC (Str.ofString "law") scope L fa (.ref 91))) Q (fun _ _ => False) s := by
  have e0 := e
  injection e with e1 e2
  subst e1 e2
  simp only [List.drop_succ_cons, List.drop_zero]
  have X := G.X
  have T := G.T
  have hP := plain_of hpl hlen hne
  have hvl : vs.size = pls.length := by simpa using hvs.len_eq
  have F₁ := fr_pin (y := Str.ofString "drawn") F m1
  clear F
  k_steps
  unfold Stop
  refine comp_assign (by with_unfolding_all rfl) (by with_unfolding_all rfl) rfl (by decide) ?_
  k_steps
  rename_i F₀ h₂ tk₂ t1 u1 v1 hr F₂ N₂ hk₂
  dsimp only at hr hk₂
  unfold Stop
  clear F₀
  have hsz : Builtin.Range.rangeSize 0 (pls.length : Int) 1 = (pls.length : Int) := by rw [rangeSize_one]; split <;> omega
  refine wpAny_pyIter_range hr (small_one (by decide) (by decide) (by omega) (by omega)) ?_
  rw [hsz]
  dsimp only
  have hI₀ : h₀.get? _ = none := next_is_new F₂
  refine comp_at2 (base := []) (m := fun z => if z = Str.ofString "drawn" then some (.int drawn td) else m z) (fun i => (i : Int) + 2) (fun i => (pls.length - i) / 2) 2 (fun i j => pd ((i : Int), (i : Int) + 2 + (j : Int) * 2)) rfl (fun _ _ => rfl)
    (Walks.range rfl _ 0 1 pls.length) (fun i h st b hb => by rw [List.mem_singleton.mp hb]; exact ⟨_, st⟩) (fun C => by rfl) (fun C => by rfl) (by decide) (fun C => by rfl) (fun i hi => ?_) (by decide) rfl ?_ ?_ (F₂.push _) (fun p hp => ⟨Heap.get?_push_of_some _ (N₂ p hp).1, (N₂ p hp).2⟩) ?_ ?_ ?_ ?_
  · have h1 := sum_le_mul (B := 10) ((List.range i).map fun i => (pls.length - i) / 2) (fun c hc => by
      obtain ⟨j, _, rfl⟩ := List.mem_map.mp hc
      omega)
    rw [List.length_map, List.length_range] at h1
    rw [sizeLine_eq]; omega
  · show IsRangeIter _ _ _ _ _
    simpa using Heap.get?_push_size _ rfl
  · intro b hb
    rw [List.mem_singleton.mp hb]
    show _ < (h₂.push _).objs.size
    rw [Heap.size_push]; exact Nat.lt_succ_self _
  · intro b hb
    rw [List.mem_singleton.mp hb]
    exact ⟨hI₀, Ne.symm (Nat.ne_of_lt F₂.ns.lt), N₂.apart⟩
  · intro C i s₃ m₃ rest v hi hv hm F₃ N₃ ho hd hg
    obtain ⟨t, rfl⟩ := hv
    have F₄ := fr_pin (y := Str.ofString "low") F₃ hm
    have N₄ := N₃
    simp only [List.cons_append, List.nil_append] at N₄
    clear F₃ F₂ N₂ hr hk₂
    k_steps
    all_goals try first | exact (0 : Addr) | exact Value.none | exact Str.ofString "" | exact ([] : List (Str × Addr))
    rename_i F₀ h₄ tk₄ t1 u1 v1 hr F₅ N₅ hk₄
    dsimp only at hr hk₄ ⊢
    unfold Stop
    refine wpAny_pyIter_range hr (small_two (by omega) (by omega) (by omega) (by omega)) ?_
    have e1 : (0 + (i : Int) * 1 + 2) = (i : Int) + 2 + ((0 : Nat) : Int) * 2 := by omega
    have e2 : Builtin.Range.rangeSize (0 + (i : Int) * 1 + 2) ((pls.length : Int) + 1) 2 = (((pls.length - i) / 2 : Nat) : Int) - ((0 : Nat) : Int) := by
      unfold Builtin.Range.rangeSize
      rw [if_pos (by decide)]
      split <;> omega
    rw [e2, e1]
    exact ⟨_, _, _, _, rfl, rfl, (fr_unpin F₅ hm).push _, (fun p hp => ⟨Heap.get?_push_of_some _ (N₅ p hp).1, (N₅ p hp).2⟩), Heap.get?_push_size _ rfl, Ne.symm (Nat.ne_of_lt F₅.ns.lt), next_is_new F₅, (fun b hb e => by
      obtain ⟨p, hp, rfl⟩ := List.mem_map.mp hb
      exact N₅.apart p hp e.symm), .refl _⟩
  · intro C i j s₃ m₃ rest v t hi hj hv hm hm1 F₃ N₃ ho hd hg
    obtain ⟨t0, rfl⟩ := hv
    have F₄ := fr_pin (y := Str.ofString "low") (fr_pin (y := Str.ofString "high") F₃ hm1) ((if_neg (by decide)).trans hm)
    have N₄ := N₃
    simp only [List.cons_append, List.nil_append] at N₄
    clear F₃ F₂ N₂ hr hk₂
    k_steps
    all_goals try first | exact (0 : Addr) | exact Value.none | exact Str.ofString "" | exact ([] : List (Str × Addr))
    rename_i Dt h₄ F₅ N₅ l5
    unfold Stop
    have e : (0 + (i : Int) * 1) = (i : Int) := by omega
    have F₆ := fr_unpin (fr_unpin F₅ ((if_neg (by decide)).trans hm)) hm1
    rw [e] at N₅
    exact EltEnd.mk1 F₆ N₅ (.tuple (.head _) (.cons (.int _ _) (.cons (.int _ _) .nil))) l5 (.refl _)
  · intro D C h tk gs m' ys obs F₅ N₅ hn' hCL hC₀ hoff hD hO hdat hgA
    refine' comp_fin_assign ?y1 ?y2 ?y3 F₅ N₅ hn' hCL hC₀ hoff ?_
    case y1 => rfl
    case y2 => rfl
    case y3 => rfl
    intro h₆ tk₆ F₆ N₆
    have hall : DatAll obs ys ((psAll pls.length).map pd) := by
      unfold psAll
      rw [List.map_flatMap]
      simp only [List.map_map]
      rw [List.append_nil] at hdat
      exact hdat
    have hys := datAll_seq hall
    have hsq := allSeq_filter obs
    have N₇ : News h₀ L h₆ ((D, PySem.W.listOf ys.toArray ys.length) :: (L + 1, oL) :: (L + 1 + 1, oH) :: (L + 1 + 1 + 1, o1) :: (L + 1 + 1 + 1 + 1, o2) :: (L + 1 + 1 + 1 + 1 + 1, oS) :: (89, tabObj #[]) :: (Sg, PySem.W.listOf vs n) :: (obs.filter isSeqP)) :=
      picksN N₆ (picksN (rightN (tailN N₆)) (filterN isSeqP (leftN (tailN N₆))) [0, 1, 2, 3, 4, 5, 6]) [0]
    generalize obs.filter isSeqP = ob at hys hsq N₇
    clear N₆ N₅ F₅ hoff hO hD hn' hdat hall F₂ N₂ hr hk₂
    dsimp only at hgA ⊢
    k_steps
    unfold Stop
    have hpsz : (psAll pls.length).length ≤ 1000 := Nat.le_trans (psAll_len ⟨pls.length, by omega⟩) (by decide)
    have hLd : ListH h₆ D ((psAll pls.length).map pd) := ⟨ob, ys, ys.length, fun p hp => (N₇ p (by repeat' first | exact hp | refine List.mem_cons_of_mem _ ?_)).1, (N₇ _ (.head _)).1, hys⟩
    have hS : ListH h₆ Sg ((pls.map sgn).map Dat.str) := ⟨[], vs.toList, n, (fun _ h => nomatch h), by rw [Array.toArray_toList]; exact (N₇ (Sg, PySem.W.listOf vs n) (by k_mem)).1, strs_datAll hvs⟩
    refine wpAny_call (code_rm rfl (Nat.le_of_ble_eq_true rfl) (Nat.le_of_ble_eq_true rfl) (taken_p hP (G.keeps F₆.keep) hS hLd (by decide) (by decide) (fun p hp => psAll_valid hp) hpsz fun s₈ Tk ts kt obs₈ e₈ hfr₈ hts₈ => ?_))
    have F₈ := e₈.fr F₆
    have Nf₈ := Fresh.news hfr₈ F₆
    have Nn₈ := e₈.news N₇
    have hts := datAll_seq hts₈
    have hsq₈ := allSeq_filter obs₈
    have N₈ : News h₀ L s₈.heap ((Tk, PySem.W.listOf ts.toArray kt) :: (L + 1, oL) :: (L + 1 + 1, oH) :: (L + 1 + 1 + 1, o1) :: (L + 1 + 1 + 1 + 1, o2) :: (L + 1 + 1 + 1 + 1 + 1, oS) :: (89, tabObj #[]) :: (Sg, PySem.W.listOf vs n) :: (obs₈.filter isSeqP)) := picksN Nf₈ (picksN Nn₈ (filterN isSeqP (tailN Nf₈)) [1, 2, 3, 4, 5, 6, 7]) [0]
    have ho₈ := e₈.os
    have hg₈ := hgA.trans e₈.gens
    have hd₈ := e₈.drawn
    dsimp only at ho₈ hg₈ hd₈ ⊢
    generalize obs₈.filter isSeqP = ob₈ at hts hsq₈ N₈
    clear hfr₈ hts₈ Nf₈ Nn₈ N₇ F₆ hLd hS e₈ hys hsq hI₀ hsz
    k_steps
    rename Fr _ _ _ _ => F₉
    rename News _ _ _ _ => N₉
    unfold Stop
    obtain ⟨first, hfirst⟩ : ∃ f : Int, f = (drawn.fdiv 2).fmod 3 := ⟨_, rfl⟩
    rw [← hfirst] at F₉ ⊢
    have hf0 : 0 ≤ first ∧ first ≤ 2 := by
      rw [hfirst, Int.fmod_eq_emod_of_nonneg _ (by decide)]; omega
    have hf1 : 0 ≤ (first + 1).fmod 3 ∧ (first + 1).fmod 3 ≤ 3 := by
      rw [Int.fmod_eq_emod_of_nonneg _ (by decide)]; omega
    obtain ⟨ps, hps⟩ : ∃ ps, ps = (psAll pls.length).filter (wholeP pls 3) := ⟨_, rfl⟩
    rw [← hps] at hts
    have hpv : ∀ p ∈ ps, 0 ≤ p.1 ∧ p.1 ≤ p.2 ∧ p.2 ≤ pls.length := fun p hp => psAll_valid (List.mem_filter.mp (hps ▸ hp)).1
    have hpz : ps.length ≤ 1000 := Nat.le_trans (hps ▸ List.length_filter_le _ _) hpsz
    have hLt : ListH _ Tk (ps.map pd) := ⟨ob₈, ts, kt, fun p hp => (N₉ p (by repeat' first | exact hp | refine List.mem_cons_of_mem _ ?_)).1, (N₉ _ (.head _)).1, hts⟩
    have hS : ListH _ Sg ((pls.map sgn).map Dat.str) := ⟨[], vs.toList, n, (fun _ h => nomatch h), by rw [Array.toArray_toList]; exact (N₉ (Sg, PySem.W.listOf vs n) (by k_mem)).1, strs_datAll hvs⟩
    refine wpAny_call (code_rm rfl (Nat.le_of_ble_eq_true rfl) (Nat.le_of_ble_eq_true rfl) (taken_p hP (G.keeps F₉.keep) hS hLt hf0.1 (by omega) hpv hpz fun sA O1 as ka obA eA hfrA hasA => ?_))
    have hLtA := hLt.keeps eA.heap
    have hSA := hS.keeps eA.heap
    have FA := eA.fr F₉
    have NfA := Fresh.news hfrA F₉
    have NnA := eA.news N₉
    have hasF := datAll_seq hasA
    have hsqA := allSeq_filter obA
    have NA : News h₀ L sA.heap ((O1, PySem.W.listOf as.toArray ka) :: (Tk, PySem.W.listOf ts.toArray kt) :: (L + 1, oL) :: (L + 1 + 1, oH) :: (L + 1 + 1 + 1, o1) :: (L + 1 + 1 + 1 + 1, o2) :: (L + 1 + 1 + 1 + 1 + 1, oS) :: (89, tabObj #[]) :: (Sg, PySem.W.listOf vs n) :: (obA.filter isSeqP ++ ob₈)) := picksN NfA (picksN NnA (News.append (filterN isSeqP (tailN NfA)) (dropN 8 NnA)) [0, 1, 2, 3, 4, 5, 6, 7]) [0]
    have hoA := eA.os
    have hgA' := eA.gens
    have hdA := eA.drawn
    generalize obA.filter isSeqP = obA' at hasF hsqA NA
    dsimp only at hoA hgA' hdA ⊢
    clear hfrA eA F₉ N₉ hLt hS NfA NnA hasA
    k_steps
    unfold Stop
    refine wpAny_call (code_rm rfl (Nat.le_of_ble_eq_true rfl) (Nat.le_of_ble_eq_true rfl) (taken_p hP (G.keeps FA.keep) hSA hLtA hf1.1 hf1.2 hpv hpz fun sB O2 bs kb obB eB hfrB hbsB => ?_))
    have FB := Ext.fr (s := { heap := sA.heap, gens := sA.gens, drawn := sA.drawn, toks := sA.toks + 1 + 1 + 1 + 1, os := sA.os }) FA eB
    have NfB := Fresh.news (s := { heap := sA.heap, gens := sA.gens, drawn := sA.drawn, toks := sA.toks + 1 + 1 + 1 + 1, os := sA.os }) hfrB FA
    have NnB := Ext.news (s := { heap := sA.heap, gens := sA.gens, drawn := sA.drawn, toks := sA.toks + 1 + 1 + 1 + 1, os := sA.os }) NA eB
    have hbsF := datAll_seq hbsB
    have hsqB := allSeq_filter obB
    have NB : News h₀ L sB.heap ((O2, PySem.W.listOf bs.toArray kb) :: (O1, PySem.W.listOf as.toArray ka) :: (Tk, PySem.W.listOf ts.toArray kt) :: (L + 1, oL) :: (L + 1 + 1, oH) :: (L + 1 + 1 + 1, o1) :: (L + 1 + 1 + 1 + 1, o2) :: (L + 1 + 1 + 1 + 1 + 1, oS) :: (89, tabObj #[]) :: (Sg, PySem.W.listOf vs n) :: (obB.filter isSeqP ++ (obA' ++ ob₈))) := picksN NfB (picksN NnB (News.append (filterN isSeqP (tailN NfB)) (dropN 9 NnB)) [0, 1, 2, 3, 4, 5, 6, 7, 8]) [0]
    have hoB := eB.os
    have hgB := eB.gens
    have hdB := eB.drawn
    generalize obB.filter isSeqP = obB' at hbsF hsqB NB
    obtain ⟨tl, htl⟩ : ∃ tl, tl = obB' ++ (obA' ++ ob₈) := ⟨_, rfl⟩
    have hsqT : AllSeq tl := fun p hp => by
      rw [htl] at hp
      rcases List.mem_append.mp hp with h | h
      · exact hsqB p h
      · rcases List.mem_append.mp h with h | h
        · exact hsqA p h
        · exact hsq₈ p h
    have htsT := hts.mono fun p hp => (htl ▸ List.mem_append_right _ (List.mem_append_right _ hp) : p ∈ tl)
    have hasT := hasF.mono fun p hp => (htl ▸ List.mem_append_right _ (List.mem_append_left _ hp) : p ∈ tl)
    have hbsT := hbsF.mono fun p hp => (htl ▸ List.mem_append_left _ hp : p ∈ tl)
    rw [← htl] at NB
    dsimp only at hoB hgB hdB ⊢
    clear hfrB eB FA NA hLtA hSA NfB NnB hbsB htl
    k_steps
    rename Fr _ _ _ _ => FD
    rename News _ _ _ _ => ND
    rename_i Dp _ _
    unfold Stop
    have ND' : News h₀ L _ ((L + 1 + 1 + 1, o1) :: (L + 1 + 1 + 1 + 1, o2) :: (O2, PySem.W.listOf bs.toArray kb) :: (O1, PySem.W.listOf as.toArray ka) :: (Tk, PySem.W.listOf ts.toArray kt) :: (L + 1, oL) :: (L + 1 + 1, oH) :: (L + 1 + 1 + 1 + 1 + 1, oS) :: (89, tabObj #[]) :: (Sg, PySem.W.listOf vs n) :: tl) := picksN ND (dropN 11 ND) [6, 7, 1, 2, 3, 4, 5, 8, 9, 10]
    have hTD : Heap.IsTuple _ Dp #[.ref O1, .ref O2] := ⟨_, (ND _ (.head _)).1, rfl, _, rfl⟩
    refine assign_pairC rfl hTD rfl rfl (by with_unfolding_all rfl) rfl (by with_unfolding_all rfl) FD ND' ho1 ho2 (Nat.ne_of_lt (Nat.lt_succ_self _)) (fun p hp => ?_) fun hE tkE oA oB FE hoA' hoB' NE => ?_
    · have key : (∀ v, p.2.data ≠ .cell v) → p.1 ≠ L + 1 + 1 + 1 ∧ p.1 ≠ L + 1 + 1 + 1 + 1 := fun hv => ⟨cell_ne ND' (.tail _ (.tail _ hp)) (.head _) ho1 hv, cell_ne ND' (.tail _ (.tail _ hp)) (.tail _ (.head _)) ho2 hv⟩
      simp only [List.mem_cons] at hp
      rcases hp with rfl | rfl | rfl | rfl | rfl | rfl | rfl | rfl | hp'
      · exact key fun v e => by cases e
      · exact key fun v e => by cases e
      · exact key fun v e => by cases e
      · constructor <;> (show @Ne Nat _ _; omega)
      · constructor <;> (show @Ne Nat _ _; omega)
      · constructor <;> (show @Ne Nat _ _; omega)
      · exact key fun v e => by cases e
      · exact key fun v e => by cases e
      · exact key (hsqT.noCell hp')
    clear FD ND ND' hTD
    refine gen_tail fun rr hrr => ?_
    k_steps
    subst hrr
    dsimp only
    refine law_mid (Sg := Sg) (Tk := Tk) (O1 := O1) (O2 := O2) (oL := oL) (oH := oH) (o1 := oA) (o2 := oB) (oS := oS) (vs := vs) (n := n) (ts := ts) (kt := kt) (as := as) (ka := ka) (bs := bs) (kb := kb) (obs := tl) (pls := pls) (ps := ps) (first := first) (w1 := wholeP pls first) (w2 := wholeP pls ((first + 1).fmod 3)) (gd := matchB pls)
      e0 G hC FE (picksN NE (dropN 10 NE) [5, 6, 0, 1, 7, 8, 9, 4, 3, 2]) hoL hoH hoA' hoB' hoS rfl rfl hf0.1 hf0.2 hvs hP hpv (fun _ _ => rfl) (fun p _ hm => law_la hpl hf0.1 hf0.2 hm) (fun p hp => ?_) htsT hasT hbsT hsqT hpz fun s' h1 h2 h3 h4 => hQ s' h1 (h2.trans (hoB.trans (hoA.trans ho₈))) (hg₈.trans (hgA'.trans (hgB.trans h3))) h4
    rw [hps] at hp ⊢
    exact law_ge hpl hf0.1 hf0.2 hp
end Mine
end
section
set_option maxHeartbeats 2000000
open PySem PySem.W PyProof.Rows PySem.Calls PySem.Spec
namespace Mine
local macro_rules | `(tactic| walk_at "call ref") => `(tactic| refine stop_intro ?_)
local macro_rules | `(tactic| walk_at "eval ListComp") => `(tactic| refine stop_intro ?_)
local macro_rules | `(tactic| walk_at "exec Assign cons ListComp") => `(tactic| refine stop_intro ?_)
theorem law_top : PySem.Challenge.rw_pm0012_01.Holds := hd (by
  k_fill
  intro w s₀ s₁ mg mb G Y fa o pm cd doc dV kV ho hd hcd hD hmg hg args vals as hpre hlay hrd hwl hlo
  have KX := km_in_of Y
  km_tabs Y
  have X := (Ground.X G).1
  have V := (Ground.X G).2
  refine Ground.open G ?_
  intro T B D TE TW
  try (refine guard_noD D (by decide +kernel) ?_; clear D)
  km_lay T hmg ho hd cd
  clear hmg
  wrow_args hpre hlay hrd hwl hlo
  all_goals (
    first | refine callC_kw (enter_call ?_) | refine enter_call ?_
    w_top on
    refine post_true hT9 (fun _ _ => rfl) ?hpost hg ?_
    rotate_left
    w_call any ho hd hcd hD T F
    clear hd
    kn_ghosts F T
    k_drop
    skip)
  case hpost => first | rfl | with_unfolding_all rfl | simp [ofPy]
  rename Heap.IsList _ _ _ => hl
  rename IntsAre _ _ => hi
  rename CodeHd _ _ _ => hC
  rename Fr _ _ _ _ => F₁
  rename News _ _ _ _ => N₁
  rename Frag.In _ _ => X₁
  rename Top topProg _ _ _ _ _ => T₁
  refine wpAny_mono (E := fun _ _ => False) ?_ (fun _ _ x => x) (fun _ _ x => x.elim)
  have G₁ : Gd w (ExcName.means s₀.heap) mg mb (ghostOf s₁.heap [(91, 89)]) := ⟨X₁, T₁⟩
  clear hcd hD
  k_steps
  unfold Stop
  rename Fr _ _ _ _ => F₂
  rename News _ _ _ _ => N₂
  rename IntsAre _ (_ ++ _) => hI
  rename Obj.data _ = Data.cell (bindC _ _ _ (Str.ofString "low")) => dL
  rename Obj.data _ = Data.cell (bindC _ _ _ (Str.ofString "high")) => dH
  rename Obj.data _ = Data.cell (bindC _ _ _ (Str.ofString "one")) => d1
  rename Obj.data _ = Data.cell (bindC _ _ _ (Str.ofString "other")) => d2
  rename Obj.data _ = Data.cell (bindC _ _ _ (Str.ofString "signs")) => dS
  have dL' : Obj.data _ = .cell none := dL
  have dH' : Obj.data _ = .cell none := dH
  have d1' : Obj.data _ = .cell none := d1
  have d2' : Obj.data _ = .cell none := d2
  have dS' : Obj.data _ = .cell none := dS
  clear dL dH d1 d2 dS
  have hlen := hI.length
  refine wpAny_call (code_rm rfl (Nat.le_of_ble_eq_true rfl) (Nat.le_of_ble_eq_true rfl) (row_c (G₁.keeps F₂.keep) ⟨_, (N₂ _ (.head _)).1, rfl, _, rfl⟩ hI (by simp; omega) fun s₃ r vs n pls e₃ hr₀ hr₁ hst hpl hpn hge => ?_))
  have F₃ := e₃.fr F₂
  have N₃ := news_cons F₂ hr₀ hr₁ (e₃.news N₂)
  have ho₃ := e₃.os
  have hg₃ := e₃.gens
  dsimp only at ho₃ hg₃ ⊢
  refine store_cell rfl (by with_unfolding_all rfl) rfl F₃ N₃ ?hmS dS' fun h₄ oS F₄ hoS Na Ns => ?_
  case hmS => k_mem
  have hne : pls ≠ [] := fun e => by
    rw [e] at hge
    simp at hge
  refine any_rm rfl (Nat.le_of_ble_eq_true rfl) (Nat.le_of_ble_eq_true rfl) (law_pre (body := lawParts.1) (scope := lawParts.2) (L := s₁.heap.objs.size) (fa := fa) (Sg := r) (vs := vs) (n := n) (pls := pls) (oS := oS) rfl G₁ hC F₄ (fun p hp => ?_) dL' dH' d1' d2' hoS rfl hst hpl hpn hne fun s' h1 h2 h3 h4 => ?_)
  · simp only [List.mem_cons, List.not_mem_nil, or_false] at hp
    rcases hp with rfl | rfl | rfl | rfl | rfl | rfl | rfl
    · exact Ns [_] (fun q hq => by rw [List.mem_singleton.mp hq]; exact ⟨by k_mem, by show @Ne Nat _ _; omega⟩) _ (.head _)
    · exact Ns [_] (fun q hq => by rw [List.mem_singleton.mp hq]; exact ⟨by k_mem, by show @Ne Nat _ _; omega⟩) _ (.head _)
    · exact Ns [_] (fun q hq => by rw [List.mem_singleton.mp hq]; exact ⟨by k_mem, by show @Ne Nat _ _; omega⟩) _ (.head _)
    · exact Ns [_] (fun q hq => by rw [List.mem_singleton.mp hq]; exact ⟨by k_mem, by show @Ne Nat _ _; omega⟩) _ (.head _)
    · exact Na _ (.head _)
    · exact Ns [_] (fun q hq => by rw [List.mem_singleton.mp hq]; exact ⟨by k_mem, cell_ne N₃ (by k_mem) (by k_mem) dS' fun v e => by cases e⟩) _ (.head _)
    · exact Ns [_] (fun q hq => by rw [List.mem_singleton.mp hq]; exact ⟨by k_mem, cell_ne N₃ (by k_mem) (by k_mem) dS' fun v e => by cases e⟩) _ (.head _)
  · exact ⟨rfl, h1, h2.trans ho₃, hg₃.trans h3, h4, trivial⟩)
end Mine
end
set_option maxHeartbeats 8000000 in
theorem PySem.Challenge.cw_pm0012_01_holds : PySem.Challenge.rw_pm0012_01.Holds := by
  exact Mine.law_top
