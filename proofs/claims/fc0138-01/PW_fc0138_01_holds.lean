import PyProof.Rows.All
import Wide.All
import OpenK.AllK
import Wide.FinOn
import PySem.Challenge.RW_fc0138_01
set_option Elab.async false
set_option maxRecDepth 100000
set_option rowWalk.seconds 0
set_option pp.deepTerms false
set_option linter.all false
namespace Mine
open PySem PySem.W PyProof.Rows PySem.Calls PySem.Spec
section
set_option maxHeartbeats 8000000
open_top hd for PySem.Challenge.rw_fc0138_01
end
section
local macro_rules | `(tactic| walk_at "m_pad") => `(tactic| skip)
open PySem PySem.W PyProof.Rows PySem.Calls PySem.Spec

noncomputable abbrev lse : List Str := looseW hd.view_39 [Str.ofString "is_graphical"]
abbrev atop (dp un : Nat) (gd : Option (List Code)) (outer : List Env) : Around := { handled := none, depth := dp, frames := some outer, guards := gd, units := un }

theorem call_S {prog : Program} {w : World} {A₀ : Around} {base : Heap} {outer : List Env} {s : Shared} {K : Frag} {name qual : Str} {params : Arguments} {body : List Stmt} {scope : Scope}
    {dV kV doc pm cdv ct oc : Value} {an od : Option Addr} {osl : Array (Option Value)} {f : Addr} {args : Args} {binds : List (Str × Value)} {R : Result → Shared → Prop} {dp un : Nat} {gd : Option (List Code)}
    (_B : Below A₀ base outer s.heap) (X : K.In s.heap) (hlim : s.heap.NoLimit)
    (ho : K.lookup f = some ⟨oc, od, .func (fnOf name qual params body scope dV kV doc pm an cdv ct), osl⟩) (hcd : codeIn K cdv qual = true) (hroom : dp < recursionLimit)
    (hbind : BindsTo s (fnOf name qual params body scope dV kV doc pm an cdv ct) args binds) (hloc : ∀ y ∈ binds, scope.names.lookup y.1 = some .local)
    (h : ∀ L' h₁, Fr s.heap L' h₁ (fun y => binds.reverse.lookup y) → News s.heap L' h₁ [] →
      wpAny (model prog w) ((atop dp un gd outer).deeper (envOf qual scope L' f cdv)) (execs body (envOf qual scope L' f cdv))
        (fun fl s' => R (.ok (.ret (match fl with | .ret v => v | _ => .none))) s')
        (fun e s' => wpAny (model prog w) ((atop dp un gd outer).deeper (envOf qual scope L' f cdv)) (leaving (envOf qual scope L' f cdv) e) (fun _ s'' => R (.error e) s'') (fun e' s'' => R (.error e') s'') s')
        { s with heap := h₁, toks := s.toks + binds.length })
    (hco : scope.isCoroutine = false) (hgen : scope.isGenerator = false) (hk : scope.kind = .function)
    (hcell : ∀ x ∈ scope.names, x.2 ≠ .cell) : codeAny (model prog w) (atop dp un gd outer) (.call (.ref f) args) R s :=
  codeAny_call_def (fd := fnOf name qual params body scope dV kV doc pm an cdv ct) (body := body) (binds := binds) hroom (X _ _ ho) rfl hlim (codeRec_of X hcd) rfl hbind hcell hloc
    (fun h₁ hns hk₁ => h _ h₁ ⟨hns, hk₁, Nat.le_refl _⟩ News.nil) hco hgen hk

local macro_rules | `(tactic| walk_at "m_enter") => `(tactic| (refine' call_S ?k1 ?k3 ?k5 ?k6 ?k7 ?k8 ?k9 ?kB ?_ ?c2 ?c3 ?c4 ?c5; (case k1 => assumption); (case k3 => assumption); (case k5 => exact Top.nolimit (by assumption)); (case k6 => k_is); (case k7 => k_is); (case k8 => omega); (case k9 => first | exact BindsTo.of_eq rfl | exact binds_K (by assumption) rfl (by k_is) rfl rfl rfl); (case c5 => decide); (case kB => exact locs rfl); (case c2 => exact rfl); (case c3 => exact rfl); (case c4 => exact rfl); k_whole; intro L' h' F' N'; (try dsimp only)))

def AllNe (d : Addr) : List (Addr × Obj) → Prop
  | [] => True
  | p :: r => p.1 ≠ d ∧ AllNe d r
theorem allNe_of {d : Addr} : ∀ {l : List (Addr × Obj)}, (∀ p ∈ l, p.1 ≠ d) → AllNe d l
  | [], _ => trivial
  | p :: _, h => ⟨h p (.head _), allNe_of fun q hq => h q (.tail _ hq)⟩
theorem fr_stay9 {h₀ h h' : Heap} {L : Addr} {m : Str → Option Value} (F : Fr h₀ L h m) (st : h.StaysIn h') : Fr h₀ L h' m :=
  ⟨F.ns.keeps st, fun b o e => st b o (F.keep b o e), F.above⟩
theorem news_stay9 {h₀ h h' : Heap} {L : Addr} {news : List (Addr × Obj)} (N : News h₀ L h news) (st : h.StaysIn h') : News h₀ L h' news :=
  fun p hp => ⟨st _ _ (N p hp).1, (N p hp).2⟩
theorem news_stayC9 {h₀ h h' : Heap} {L l : Addr} {o : Obj} {m : Str → Option Value} {news : List (Addr × Obj)} (N : News h₀ L h news) (st : h.StaysIn h') (F : Fr h₀ L h m) (hno : h.get? l = none) (ho : h'.get? l = some o) : News h₀ L h' ((l, o) :: news) := by
  intro p hp
  rcases List.mem_cons.mp hp with rfl | hp
  · refine ⟨ho, fun e => ?_, ?_⟩
    · obtain ⟨oL, _, _, hL, _⟩ := F.ns
      dsimp only at e; rw [e, hL] at hno; cases hno
    · cases q : h₀.get? l with
      | none => rfl
      | some o' => rw [F.keep _ _ q] at hno; cases hno
  · exact news_stay9 N st p hp
theorem news_ne9 {h₀ h : Heap} {L l : Addr} {news : List (Addr × Obj)} (N : News h₀ L h news) (hno : h.get? l = none) : AllNe l news :=
  allNe_of fun p hp e => by have := (N p hp).1; rw [e, hno] at this; cases this
local macro_rules | `(tactic| walk_at "m_room") => `(tactic| first | omega | ((try simp only [depth_under_make, depth_under_kw, depth_in1, depth_deeper, depth_caller, units_in1, units_deeper, Around.mark_units, units_caller] at *); (try dsimp only [atop, ktrTop] at *); omega))
theorem retB9 {R : Result → Shared → Prop} {s : Shared} {x y : Bool} {h' : Heap} {tk' : Nat} (hret : ∀ (h' : Heap) (tk' : Nat), s.heap.StaysIn h' → R (.ok (.ret (.bool x))) { s with heap := h', toks := tk' }) (e : y = x) (st : s.heap.StaysIn h') : R (.ok (.ret (.bool y))) { s with heap := h', toks := tk' } := by
  subst e
  exact hret h' tk' st
end
local macro_rules | `(tactic| walk_at "m_enter") => `(tactic| (refine' call_S ?k1 ?k3 ?k5 ?k6 ?k7 ?k8 ?k9 ?kB ?_ ?c2 ?c3 ?c4 ?c5; (case k1 => assumption); (case k3 => assumption); (case k5 => exact Top.nolimit (by assumption)); (case k6 => k_is); (case k7 => k_is); (case k8 => omega); (case k9 => first | exact BindsTo.of_eq rfl | exact binds_K (by assumption) rfl (by k_is) rfl rfl rfl); (case c5 => decide); (case kB => exact locs rfl); (case c2 => exact rfl); (case c3 => exact rfl); (case c4 => exact rfl); k_whole; intro L' h' F' N'; (try dsimp only)))
local macro_rules | `(tactic| walk_at "m_room") => `(tactic| first | omega | ((try simp only [depth_under_make, depth_under_kw, depth_in1, depth_deeper, depth_caller, units_in1, units_deeper, Around.mark_units, units_caller] at *); (try dsimp only [atop, ktrTop] at *); omega))
section
local macro_rules | `(tactic| walk_at "m_pad") => `(tactic| skip)
local macro_rules | `(tactic| walk_at "m_pad") => `(tactic| skip)
open PySem PySem.W PyProof.Rows PySem.Calls PySem.Spec
set_option maxHeartbeats 4000000
theorem mkl_ct {w : World} {mean : ExcName → Option Value} {mg mb : Str → Option Value} {A₀ : Around} {base : Heap} {outer : List Env} {s : Shared} {R : Result → Shared → Prop} {dp un : Nat} {gd : Option (List Code)} {l : Addr} {vs : List Value} {ns : List Int}
    (B : Below A₀ base outer s.heap) (X : (hd.heap_39 w.params).In s.heap) (T : Top hd.view_39 lse mean mg mb s.heap) (hl : s.heap.IsList l vs.toArray) (hi : IntsAre vs ns) (hn : ns.length < 2 ^ 20)
    (hdp : dp + 20 < recursionLimit) (hun : un + 200 < cLine)
    (ret : ∀ l' h' tk' n', s.heap.StaysIn h' → s.heap.get? l' = none → h'.get? l' = some (listOf vs.toArray n') → R (.ok (.ret (.ref l'))) { s with heap := h', toks := tk' }) :
    codeAny (model PySem.Challenge.rw_fc0138_01.row.prog w) (atop dp un gd outer) (.call (.ref 98) ⟨[.ref l], []⟩) R s := by
  revert X; k_fill; intro X
  w_top off; k_with_none
  walk_at "m_enter"
  k_with "pyIter ref" => k_search (fun pre => True)
  k_steps
  all_goals ((try dsimp only); refine' ret _ _ _ _ (Fr.keep (by assumption)) ?m1 ?m2; (case m1 => exact (News.fresh (by assumption) (by k_mem))); (case m2 => exact (News.get (by assumption) (by k_mem))))
theorem mkl_call {w : World} {mean : ExcName → Option Value} {mg mb : Str → Option Value} {A₀ A : Around} {base h₀ : Heap} {outer : List Env} {env : Env} {L : Addr} {m : Str → Option Value} {news : List (Addr × Obj)} {s : Shared} {Q E : Value → Shared → Prop} {l : Addr} {vs : List Value} {ns : List Int}
    (B : Below A₀ base outer h₀) (F : Fr h₀ L s.heap m) (X : (hd.heap_39 w.params).In h₀) (N : News h₀ L s.heap news) (T : Top hd.view_39 lse mean mg mb h₀)
    (hA : A.frames = some (env :: outer)) (hh : A.handled = none) (hf : env.frame = some L) (hk : env.scope.kind = .function)
    (hl : s.heap.IsList l vs.toArray) (hi : IntsAre vs ns) (hn : ns.length < 2 ^ 20)
    (hdp : A.depth + 20 < recursionLimit) (hun : A.units + 200 < cLine)
    (h : ∀ l' h' tk' n', Fr h₀ L h' m → News h₀ L h' ((l', listOf vs.toArray n') :: news) → AllNe l' news → Q (.ref l') { s with heap := h', toks := tk' }) :
    wpAny (model PySem.Challenge.rw_fc0138_01.row.prog w) A (call (.ref 98) [.ref l]) Q E s := by
  obtain ⟨hd, dp, fr, gd, un⟩ := A
  simp only at hA hh hdp hun
  subst hA hh
  have B' := pushX B F hf hk
  refine wpAny_call (mkl_ct (A₀ := atop 0 0 none (env :: outer)) ⟨rfl, B'.stays, B'.frames⟩ (X.keeps F.keep) (T.keeps F.keep) hl hi hn hdp hun fun l' h' tk' n' st hno ho => ?_)
  exact h l' h' tk' n' (fr_stay9 F st) (news_stayC9 N st F hno ho) (news_ne9 N hno)
end
section
local macro_rules | `(tactic| walk_at "m_pad") => `(tactic| skip)
local macro_rules | `(tactic| walk_at "m_pad") => `(tactic| skip)
local macro_rules | `(tactic| walk_at "m_pad") => `(tactic| skip)
open PySem PySem.W PyProof.Rows PySem.Calls PySem.Spec
set_option maxHeartbeats 4000000
def pmax (a b : Int) : Int := if b > a then b else a
def pmin (a b : Int) : Int := if b < a then b else a
def multiF (ns : List Int) : Bool :=
  !ns.any (· < 0) && !(Int.fmod ns.sum 2 != 0 || decide (ns.sum < 2 * ns.foldl pmax 0))
local macro_rules | `(tactic| walk_at "m_mkl") => `(tactic| (
  (with_reducible show wpAny _ _ (call (Value.ref 98) [Value.ref _]) _ _ _)
  (refine' mkl_call ?k1 ?k2 ?k3 ?k4 ?k5 ?k6 ?k7 ?k8 ?k9 ?kl ?ki ?kn ?kd ?ku ?_
   (case k1 => k_asm); (case k2 => k_asm); (case k3 => k_asm); (case k4 => k_asm); (case k5 => k_asm); (case k6 => exact rfl); (case k7 => exact rfl); (case k8 => exact rfl); (case k9 => exact rfl)
   (case kl => is_list); (case ki => l_ints); (case kn => assumption); (case kd => walk_at "m_room"); (case ku => walk_at "m_room"); k_whole; intro l9 h9 tk9 n9 F9 N9 ne9; (try dsimp only))))
theorem multi_neg {ns pre post : List Int} {n : Int} (e : ns = pre ++ n :: post) (h : n < 0) : false = multiF ns := by
  subst e; simp [multiF, h]
theorem multi_turn {pre : List Int} {n a b : Int} (h : ¬ n < 0) (h1 : pre.any (· < 0) = false) (h2 : a = pre.sum) (h3 : b = pre.foldl pmax 0) :
    (pre ++ [n]).any (· < 0) = false ∧ a + n = (pre ++ [n]).sum ∧ (if n > b then n else b) = (pre ++ [n]).foldl pmax 0 := by
  subst h2 h3
  simp_all [List.foldl_append, pmax]
theorem multi_ct {w : World} {mean : ExcName → Option Value} {mg mb : Str → Option Value} {A₀ : Around} {base : Heap} {outer : List Env} {s : Shared} {R : Result → Shared → Prop} {dp un : Nat} {gd : Option (List Code)} {l : Addr} {vs : List Value} {ns : List Int}
    (B : Below A₀ base outer s.heap) (X : (hd.heap_39 w.params).In s.heap) (T : Top hd.view_39 lse mean mg mb s.heap) (hl : s.heap.IsList l vs.toArray) (hi : IntsAre vs ns) (hn : ns.length < 2 ^ 20)
    (hdp : dp + 40 < recursionLimit) (hun : un + 400 < cLine)
    (ret : ∀ h' tk', s.heap.StaysIn h' → R (.ok (.ret (.bool (multiF ns)))) { s with heap := h', toks := tk' }) :
    codeAny (model PySem.Challenge.rw_fc0138_01.row.prog w) (atop dp un gd outer) (.call (.ref 134) ⟨[.ref l], []⟩) R s := by
  revert X; k_fill; intro X
  w_top off; k_with_none
  walk_at "m_enter"
  k_with "call ref" => walk_at "m_mkl"
  k_with "pyIter ref" => k_state (fun pre a b => pre.any (· < 0) = false ∧ a = pre.sum ∧ b = pre.foldl pmax 0) "dsum" "dmax"
  k_with "state" => exact multi_turn (by assumption) (by assumption) (by assumption) (by assumption)
  k_steps
  all_goals ((try dsimp only); refine' retB9 ret ?_ ?m2; (case m2 => exact Fr.keep (by assumption)))
  · exact multi_neg (by assumption) (by assumption)
  · subst_vars; simp_all [multiF]
  · subst_vars; simp_all [multiF]
  · subst_vars; simp_all [multiF]
end
local macro_rules | `(tactic| walk_at "m_mkl") => `(tactic| (
  (with_reducible show wpAny _ _ (call (Value.ref 98) [Value.ref _]) _ _ _)
  (refine' mkl_call ?k1 ?k2 ?k3 ?k4 ?k5 ?k6 ?k7 ?k8 ?k9 ?kl ?ki ?kn ?kd ?ku ?_
   (case k1 => k_asm); (case k2 => k_asm); (case k3 => k_asm); (case k4 => k_asm); (case k5 => k_asm); (case k6 => exact rfl); (case k7 => exact rfl); (case k8 => exact rfl); (case k9 => exact rfl)
   (case kl => is_list); (case ki => l_ints); (case kn => assumption); (case kd => walk_at "m_room"); (case ku => walk_at "m_room"); k_whole; intro l9 h9 tk9 n9 F9 N9 ne9; (try dsimp only))))
section
local macro_rules | `(tactic| walk_at "m_pad") => `(tactic| skip)
local macro_rules | `(tactic| walk_at "m_pad") => `(tactic| skip)
local macro_rules | `(tactic| walk_at "m_pad") => `(tactic| skip)
local macro_rules | `(tactic| walk_at "m_pad") => `(tactic| skip)
open PySem PySem.W PyProof.Rows PySem.Calls PySem.Spec
set_option maxHeartbeats 400000
section
variable {prog : Program} {w : World} {A : Around} {E : Value → Shared → Prop} {s : Shared} {env : Env}
variable {nm q : Str} {C N : Addr} {bs bm bmB : List Value} {hdct : Bool} {sn : List Str} {sub : List Value} {ab : Bool} {col : Option Bool} {dd : Option Addr} {k0 k1 k2 k3 k5 : Option Value} {B newId initId : String}
theorem issub_nested {Q : Fin → Shared → Prop} (hC : s.heap.get? C = some (excClassObj nm q C N bs bm hdct sn sub ab col dd k0 k1 k2 k3 k5 newId))
    (hq : Q (.done (.ret (.bool true))) s) :
    wpAny (model prog w) A (Builtin.«issubclass.nested» ⟨[.ref C, .ref C, rawInt 0], []⟩) Q E s := by
  obtain ⟨hp, g, d, tk, os⟩ := s
  have hcC : (Value.ref C :: bm).contains (.ref C) = true := by simp
  have hk : rawInt 0 = Value.int 0 0 := rfl
  rw [hk]
  repeat (any_goals (first | assumption | with_reducible refine wpAny_loadPart_at hC ?_ | (with_reducible refine wpAny_isSubtype_exc hC ?_; rw [hcC]) | wp_step))
theorem issub_own : Meets (Builtin.«issubclass» ⟨[.ref C, .ref C], []⟩) (fun _ R s => s.heap.get? C = some (excClassObj nm q C N bs bm hdct sn sub ab col dd k0 k1 k2 k3 k5 newId) ∧ R (.ok (.ret (.bool true))) s) :=
  fun _ _ _ _ _ hs => issubclass_outer (issub_nested hs.1 hs.2)
theorem isExc_own {h : Heap} {g : Array GenState} {d : Drawn} {tk : Nat} {os : OsState} {M : Model} {Q : Bool → Shared → Prop} (hC : h.get? C = some (excClassObj nm q C N bs bm hdct sn sub ab col dd k0 k1 k2 k3 k5 newId))
    (hcB : (Value.ref C :: bm).contains (.type "BaseException") = true) (hq : Q true ⟨h, g, d, tk, os⟩) : wpAny M A (isExcClass (.ref C)) Q E ⟨h, g, d, tk, os⟩ := by
  unfold isExcClass
  repeat (any_goals (first | assumption | with_reducible refine wpAny_loadPart_at hC ?_ | (with_reducible refine wpAny_isSubtype_exc hC ?_; rw [hcB]) | wp_step))
theorem isType_own {h : Heap} {g : Array GenState} {d : Drawn} {tk : Nat} {os : OsState} {M : Model} {Q : Bool → Shared → Prop} (hC : h.get? C = some (excClassObj nm q C N bs bm hdct sn sub ab col dd k0 k1 k2 k3 k5 newId))
    (hq : Q true ⟨h, g, d, tk, os⟩) : wpAny M A (isType (.ref C)) Q E ⟨h, g, d, tk, os⟩ := by
  unfold isType
  repeat (any_goals (first | assumption | with_reducible refine wpAny_loadPart_at hC ?_ | wp_step))
theorem typeOf_own {h : Heap} {g : Array GenState} {d : Drawn} {tk : Nat} {os : OsState} {M : Model} {Q : Value → Shared → Prop} {e : Addr} {oe : Obj} (he : h.get? e = some oe)
    (hq : Q oe.cls ⟨h, g, d, tk, os⟩) : wpAny M A (typeOf (.ref e)) Q E ⟨h, g, d, tk, os⟩ := by
  unfold typeOf
  repeat (any_goals (first | assumption | with_reducible refine wpAny_loadPart_at he ?_ | wp_step))
theorem isInst_own {h : Heap} {g : Array GenState} {d : Drawn} {tk : Nat} {os : OsState} {M : Model} {Q : Bool → Shared → Prop} {e : Addr} {dt : Data} (he : h.get? e = some { cls := .ref C, data := dt })
    (hC : h.get? C = some (excClassObj nm q C N bs bm hdct sn sub ab col dd k0 k1 k2 k3 k5 newId))
    (hcB : (Value.ref C :: bm).contains (.type "BaseException") = true) (hq : Q true ⟨h, g, d, tk, os⟩) : wpAny M A (isInstance (.ref e) (.type "BaseException")) Q E ⟨h, g, d, tk, os⟩ := by
  unfold isInstance
  refine wpAny_bind (typeOf_own he ?_)
  repeat (any_goals (first | assumption | with_reducible refine wpAny_loadPart_at hC ?_ | (with_reducible refine wpAny_isSubtype_exc hC ?_; rw [hcB]) | wp_step))
theorem raise_cls {x : Sem Value} {Q : Flow → Shared → Prop} {mN : Str → Option Value} (hh : A.handled = none) (F : ExcBaseFacts B newId initId bmB)
    (hC : s.heap.get? C = some (excClassObj nm q C N bs bm hdct sn sub ab col dd k0 k1 k2 k3 k5 newId)) (hn : s.heap.Ns N mN) (hni : mN "__init__" = none) (T : OwnTail s.heap bmB bm) (hbase : bm.contains (.type "BaseException") = true)
    (hx : wpAny (model prog w) A x (fun v s₁ => v = .ref C ∧ s₁ = s) E s)
    (h : ∀ h' e, Heap.MadeExcOf s.heap h' e (.ref C) [] → E (.ref e) { s with heap := h' }) :
    wpAny (model prog w) A (raiseStmt env (some x) none) Q E s := by
  have hcB : (Value.ref C :: bm).contains (.type "BaseException") = true := by rw [List.contains_cons, hbase, Bool.or_true]
  have hcC : (Value.ref C :: bm).contains (.ref C) = true := by simp
  unfold raiseStmt
  refine wpAny_bind (wpAny_mono hx (fun v s₁ h₁ => ?_) fun _ _ x => x)
  obtain ⟨rfl, hs⟩ := h₁
  subst hs
  obtain ⟨hp, g, d, tk, os⟩ := s₁
  refine wpAny_bind (wpAny_pure ?_)
  dsimp only
  refine wpAny_bind (wpAny_holding ?_)
  unfold excFromValue
  refine wpAny_bind (m := isExcClass (.ref C)) (isExc_own hC hcB ?_)
  simp only [if_true]
  refine wpAny_bind (wpAny_call_exc_subT (hrest := Nat.zero_le _) F T hC hn hni fun h' e hm => ?_)
  have hC' := hm.keeps _ _ hC
  obtain ⟨t, ht, _, _⟩ := id hm.there
  refine wpAny_bind (m := isInstance (.ref e) (.type "BaseException")) (isInst_own ht hC' hcB ?_)
  simp only [Bool.not_true, Bool.false_eq_true, if_false]
  refine wpAny_pure ?_
  (try dsimp only)
  refine wpAny_bind (m := isType (.ref C)) (isType_own hC' ?_)
  simp only [if_true]
  refine wpAny_bind (wpAny_holding ?_)
  unfold raisedFor
  simp only [Bool.false_eq_true, if_false]
  refine wpAny_bind (m := typeOf (.ref e)) (typeOf_own ht ?_)
  refine wpAny_bind (call_issubclass issub_own ⟨hC', ?_⟩)
  dsimp only [wants]
  refine wpAny_bind (wpAny_truthy_bool ?_)
  simp only [if_true]
  refine wpAny_pure ?_
  have hg := h h' e hm
  unfold setFlight
  refine wpAny_bind ?_
  refine wpAny_bind (wpAny_field (i := 1) (x := Value.none) ht rfl rfl ?_)
  rw [if_neg (by decide)]
  refine wpAny_pure ?_
  exact wpAny_raiseNew_none hh hg
end
theorem Raise_ownC {prog : Program} {w : World} {A : Around} {E : Value → Shared → Prop} {s : Shared} {K : Frag} {name : Str} {scope : Scope} {L a : Addr} {cd : Value} {h₀ : Heap} {m mg mb : Str → Option Value} {p : Program} {loose : List Str}
    {x : Str} {C : Addr} {B newId initId : String} {bm : List Value} {np pos : Pos} {Q : Flow → Shared → Prop}
    (F : Fr h₀ L s.heap m) (X : K.In h₀) (T : TopRead p loose mg mb h₀) (ex : nsIn K mainGlobals x = some (some (.ref C))) (q : excIn K C bm newId = true) (FB : ExcBaseFacts B newId initId bm) (hh : A.handled = none)
    (h : ∀ h' e, Heap.MadeExcOf s.heap h' e (.ref C) [] → E (.ref e) { s with heap := h' })
    (hk : scope.kind = .function := by rfl) (hx : (envOf name scope L a cd).kindOf x = some .globalImplicit := by rfl) (hd : (x == ("__debug__" : Str)) = false := by decide) :
    wpAny (model prog w) A (exec (.Raise (some (.Name x np)) none pos) (envOf name scope L a cd)) Q E s := by
  obtain ⟨tl, N, nm, q, bs, hdct, sn, sub, ab, col, dd, k0, k1, k2, k3, k5, mN, hC, hN, hni, T'⟩ := ((own_of_in X T ex q).keeps F.keep).obj
  show wpAny (model prog w) A (do standAt pos; raiseStmt (envOf name scope L a cd) (some (do let v ← eval (.Name x np) (envOf name scope L a cd); standAt pos; pure v)) none) Q E s
  refine wpAny_bind (wpAny_standAt ?_)
  refine raise_cls hh FB hC hN hni T' (T'.hasType FB.hasBase) ?_ h
  exact wpAny_bind (name_K F X T ex (wpAny_bind (wpAny_standAt (wpAny_pure ⟨rfl, rfl⟩))) hk hx hd)
local macro_rules | `(tactic| walk_at "m_raiseC") => `(tactic| (k_here; (with_reducible show wpAny _ _ (exec (Stmt.Raise (some (Expr.Name _ _)) none _) _) _ _ _); k_dflt (
  (refine' Raise_ownC ?F ?X ?T ?ex ?q PySem.F.excBase_Exception ?h ?_ ?c ?d ?e; (case F => k_asm); (case X => k_asm); (case T => k_asm); (case ex => k_is); (case q => k_exc); (case h => first | rfl | assumption); (case c => rfl); (case d => rfl); (case e => decide); k_whole)); intro hE9 eE9 xE9))
theorem raisedS_nil {base G : Heap} {l : List Env} {e : Addr} {cls : Value} {t : Addr} {vs : List Value} {news : List (Addr × Obj)} {h : Heap} (R : RaisedS base G l e cls t vs news h) : RaisedS base G l e cls t vs [] h := by
  obtain ⟨⟨B, hB, hBG, _, hfl, hnew⟩, htup⟩ := R
  exact ⟨⟨B, hB, hBG, fun _ hq => (nomatch hq), hfl, hnew⟩, htup⟩
local macro_rules | `(tactic| walk_at "m_leaveS") => `(tactic| (k_here; (refine' leave_raiseS ?k1 ?k0 ?k2 ?k3 ?_; (case k0 => assumption); (case k2 => assumption); (case k1 => assumption); (case k3 => k_asm); k_whole; intro h' t' S' R' U'; (try dsimp only at S' R' U' ⊢))))
structure MulIs (z a b : Int) : Prop where
  eq : z = a * b
section
variable {prog : Program} {w : World} {A : Around} {E : Value → Shared → Prop} {s : Shared} {a b : Int} {t u : Tok} {Q : Value → Shared → Prop}
theorem mulH (hm : IntMulOk a b) (h : ∀ z t' tk, MulIs z a b → Q (.int z t') { s with toks := tk }) :
    wpAny (model prog w) A (binaryOp .Mult (.int a t) (.int b u)) Q E s := PyProof.Rows.mul_int (h _ _ _ ⟨rfl⟩) hm
theorem addG (h : ∀ t' tk, Q (.int (a + b) t') { s with toks := tk }) : wpAny (model prog w) A (binaryOp .Add (.int a t) (.int b u)) Q E s := PyProof.Rows.add_int (h _ _)
theorem subG (h : ∀ t' tk, Q (.int (a - b) t') { s with toks := tk }) : wpAny (model prog w) A (binaryOp .Sub (.int a t) (.int b u)) Q E s := PyProof.Rows.sub_int (h _ _)
end
local macro_rules | `(tactic| walk_at "m_mulH") => `(tactic| ((with_reducible refine mulH ?hm ?_); (case hm => mul_fits); intro z9 tz9 tkz9 hz9; (try dsimp only)))
local macro_rules | `(tactic| walk_at "m_addG") => `(tactic| ((with_reducible refine addG ?_); intro tz9 tkz9; (try dsimp only)))
local macro_rules | `(tactic| walk_at "m_subG") => `(tactic| ((with_reducible refine subG ?_); intro tz9 tkz9; (try dsimp only)))
theorem retG9 {R : Result → Shared → Prop} {s : Shared} {x y : Bool} {h' g' : Heap} {tk' : Nat} {fs : List Addr} (hret : ∀ (h' : Heap) (tk' : Nat) (g' : Heap), KtsTurn fs s.heap g' → g'.StaysIn h' → R (.ok (.ret (.bool x))) { s with heap := h', toks := tk' }) (e : y = x)
    (T : KtsTurn fs s.heap g') (st : g'.StaysIn h') : R (.ok (.ret (.bool y))) { s with heap := h', toks := tk' } := by
  subst e
  exact hret h' tk' g' T st
end
local macro_rules | `(tactic| walk_at "m_raiseC") => `(tactic| (k_here; (with_reducible show wpAny _ _ (exec (Stmt.Raise (some (Expr.Name _ _)) none _) _) _ _ _); k_dflt (
  (refine' Raise_ownC ?F ?X ?T ?ex ?q PySem.F.excBase_Exception ?h ?_ ?c ?d ?e; (case F => k_asm); (case X => k_asm); (case T => k_asm); (case ex => k_is); (case q => k_exc); (case h => first | rfl | assumption); (case c => rfl); (case d => rfl); (case e => decide); k_whole)); intro hE9 eE9 xE9))
local macro_rules | `(tactic| walk_at "m_leaveS") => `(tactic| (k_here; (refine' leave_raiseS ?k1 ?k0 ?k2 ?k3 ?_; (case k0 => assumption); (case k2 => assumption); (case k1 => assumption); (case k3 => k_asm); k_whole; intro h' t' S' R' U'; (try dsimp only at S' R' U' ⊢))))
local macro_rules | `(tactic| walk_at "m_mulH") => `(tactic| ((with_reducible refine mulH ?hm ?_); (case hm => mul_fits); intro z9 tz9 tkz9 hz9; (try dsimp only)))
local macro_rules | `(tactic| walk_at "m_addG") => `(tactic| ((with_reducible refine addG ?_); intro tz9 tkz9; (try dsimp only)))
local macro_rules | `(tactic| walk_at "m_subG") => `(tactic| ((with_reducible refine subG ?_); intro tz9 tkz9; (try dsimp only)))
section
local macro_rules | `(tactic| walk_at "m_pad") => `(tactic| skip)
local macro_rules | `(tactic| walk_at "m_pad") => `(tactic| skip)
local macro_rules | `(tactic| walk_at "m_pad") => `(tactic| skip)
local macro_rules | `(tactic| walk_at "m_pad") => `(tactic| skip)
local macro_rules | `(tactic| walk_at "m_pad") => `(tactic| skip)
open PySem PySem.W PyProof.Rows PySem.Calls PySem.Spec
set_option maxHeartbeats 4000000
local macro_rules | `(tactic| walk_at "leaving ref") => `(tactic| walk_at "m_leaveS")
abbrev BS := Int × Int × Int × Int × List Int
def basicStep (c : BS) (d : Int) : BS :=
  if d > 0 then (pmax c.1 d, pmin c.2.1 d, c.2.2.1 + d, c.2.2.2.1 + 1, c.2.2.2.2.set d.toNat (c.2.2.2.2.getD d.toNat 0 + 1)) else c
def basicInit (p : Nat) : BS := (0, (p : Int), 0, 0, List.replicate p 0)
def basicFold (p : Nat) (ns : List Int) : BS := ns.foldl basicStep (basicInit p)
def basicBad (ns : List Int) : Bool := ns.any fun d => decide (d < 0) || decide (d ≥ (ns.length : Int))
def basicRes (ns : List Int) : Option BS :=
  if basicBad ns then none else
    let c := basicFold ns.length ns
    if decide (Int.fmod c.2.2.1 2 ≠ 0) || decide (c.2.2.1 > c.2.2.2.1 * (c.2.2.2.1 - 1)) then none else some c
def BInv (p : Nat) (pre : List Int) (dmax dmin dsum n : Int) (nd : List Int) : Prop :=
  (∀ d ∈ pre, 0 ≤ d ∧ d < (p : Int)) ∧ basicFold p pre = (dmax, dmin, dsum, n, nd)
theorem binv_turn0 {p : Nat} {pre : List Int} {a b c n d : Int} {nd : List Int} (h : BInv p pre a b c n nd) (h0 : ¬ d < 0) (h1 : ¬ (p : Int) ≤ d) (h2 : ¬ 0 < d) : BInv p (pre ++ [d]) a b c n nd := by
  obtain ⟨i1, i2⟩ := h
  refine ⟨?_, ?_⟩
  · intro x hx
    rcases List.mem_append.mp hx with hx | hx
    · exact i1 x hx
    · rw [List.mem_singleton.mp hx]; omega
  · simp only [basicFold, List.foldl_append] at i2 ⊢
    rw [i2]
    simp [basicStep, h2]
theorem binv_start {p : Nat} : BInv p [] 0 p 0 0 (List.replicate p 0) := ⟨by simp, rfl⟩
theorem flat0 {p : Nat} : (List.replicate p [(0 : Int)]).flatten = List.replicate p 0 := by
  induction p with
  | zero => rfl
  | succ p ih => simp [List.replicate_succ, ih]
theorem binv_startL {p : Nat} : BInv (p : Int).toNat [] 0 (p : Int) 0 0 (List.replicate (p : Int).toNat [(0 : Int)]).flatten ∧ ((List.replicate (p : Int).toNat [(0 : Int)]).flatten.length : Int) = (p : Int) ∧ (0 : Int) ≤ 0 ∧ (0 : Int) ≤ (([] : List Int).length : Int) := by
  simp only [flat0, Int.toNat_natCast, List.length_replicate]
  exact ⟨binv_start, by simp, by simp, by simp⟩
theorem binv_turn0L {p : Nat} {pre : List Int} {a b c n d : Int} {nd : List Int} (h : BInv (p : Int).toNat pre a b c n nd) (hl : (nd.length : Int) = (p : Int)) (hn0 : 0 ≤ n) (hn1 : n ≤ (pre.length : Int)) (h0 : ¬ d < 0) (h1 : ¬ (p : Int) ≤ d) (h2 : ¬ 0 < d) :
    BInv (p : Int).toNat (pre ++ [d]) a b c n nd ∧ (nd.length : Int) = (p : Int) ∧ 0 ≤ n ∧ n ≤ ((pre ++ [d]).length : Int) := by
  refine ⟨?_, hl, hn0, by simp; omega⟩
  rw [Int.toNat_natCast] at h ⊢
  exact binv_turn0 h h0 h1 h2
theorem binv_turn1L {p : Nat} {pre : List Int} {a b c n d : Int} {nd : List Int} (h : BInv (p : Int).toNat pre a b c n nd) (hl : (nd.length : Int) = (p : Int)) (hn0 : 0 ≤ n) (hn1 : n ≤ (pre.length : Int)) (h0 : ¬ d < 0) (h1 : ¬ (p : Int) ≤ d) (h2 : 0 < d) :
    BInv (p : Int).toNat (pre ++ [d]) (if d > a then d else a) (if d < b then d else b) (c + d) (n + 1) (nd.set d.toNat (nd.getD d.toNat 0 + 1)) ∧ ((nd.set d.toNat (nd.getD d.toNat 0 + 1)).length : Int) = (p : Int) ∧ 0 ≤ n + 1 ∧ n + 1 ≤ ((pre ++ [d]).length : Int) := by
  refine ⟨?_, by rw [List.length_set]; exact hl, by omega, by simp; omega⟩
  obtain ⟨i1, i2⟩ := h
  refine ⟨?_, ?_⟩
  · intro x hx
    rcases List.mem_append.mp hx with hx | hx
    · exact i1 x hx
    · rw [List.mem_singleton.mp hx]; omega
  · simp only [basicFold, List.foldl_append] at i2 ⊢
    rw [i2]
    simp [basicStep, h2, pmax, pmin]
theorem basic_bad1 {ns pre post : List Int} {n : Int} (e : ns = pre ++ n :: post) (h : n < 0) : basicRes ns = none := by
  have hb : basicBad ns = true := by
    unfold basicBad
    rw [List.any_eq_true]
    exact ⟨n, by rw [e]; simp, by simp [h]⟩
  simp [basicRes, hb]
theorem basic_bad2 {ns pre post : List Int} {n : Int} (e : ns = pre ++ n :: post) (h : (ns.length : Int) ≤ n) : basicRes ns = none := by
  have hb : basicBad ns = true := by
    unfold basicBad
    rw [List.any_eq_true]
    exact ⟨n, by rw [e]; simp, by simp; omega⟩
  simp [basicRes, hb]
theorem basic_bad3 {ns nd : List Int} {a b c n : Int} (h : BInv (ns.length : Int).toNat ns a b c n nd) (h3 : Int.fmod c 2 ≠ 0) : basicRes ns = none := by
  obtain ⟨_, i2⟩ := h
  rw [Int.toNat_natCast] at i2
  unfold basicRes
  split
  · rfl
  · simp [i2, h3]
theorem basic_bad4 {ns nd : List Int} {a b c n : Int} (h : BInv (ns.length : Int).toNat ns a b c n nd) (h3 : n * (n - 1) < c) : basicRes ns = none := by
  obtain ⟨_, i2⟩ := h
  rw [Int.toNat_natCast] at i2
  unfold basicRes
  split
  · rfl
  · simp [i2, h3]
theorem basic_good {ns nd : List Int} {a b c n : Int} (h : BInv (ns.length : Int).toNat ns a b c n nd) (h3 : Int.fmod c 2 = 0) (h4 : ¬ n * (n - 1) < c) : basicRes ns = some (a, b, c, n, nd) := by
  obtain ⟨i1, i2⟩ := h
  rw [Int.toNat_natCast] at i1 i2
  have hb : basicBad ns = false := by
    unfold basicBad
    rw [List.any_eq_false]
    intro x hx
    have := i1 x hx
    simp; omega
  simp [basicRes, hb, i2, h3]
  omega
theorem basic_ct {w : World} {mean : ExcName → Option Value} {mg mb : Str → Option Value} {A₀ : Around} {base : Heap} {outer : List Env} {s : Shared} {R : Result → Shared → Prop} {dp un : Nat} {gd : Option (List Code)} {l : Addr} {vs : List Value} {ns : List Int}
    (B : Below A₀ base outer s.heap) (X : (hd.heap_39 w.params).In s.heap) (T : Top hd.view_39 lse mean mg mb s.heap) (hl : s.heap.IsList l vs.toArray) (hi : IntsAre vs ns) (hn : ns.length < 2 ^ 20)
    (hdp : dp + 40 < recursionLimit) (hun : un + 400 < cLine)
    (ret : ∀ a b c n nd, basicRes ns = some (a, b, c, n, nd) → ∀ t1 t2 t3 t4 T l' h' tk' vs' n1, s.heap.StaysIn h' → s.heap.get? T = none → s.heap.get? l' = none → IntsAre vs' nd →
      h'.get? l' = some (listOf vs'.toArray n1) → h'.get? T = some { cls := .type "tuple", data := .seq [.int a t1, .int b t2, .int c t3, .int n t4, .ref l'].toArray } → R (.ok (.ret (.ref T))) { s with heap := h', toks := tk' })
    (exc : basicRes ns = none → ∀ e t h' tk', RaisedS base s.heap outer e (.ref 89) t [] [] h' → s.heap.UpToSlots h' → R (.error (.ref e)) { s with heap := h', toks := tk' }) :
    codeAny (model PySem.Challenge.rw_fc0138_01.row.prog w) (atop dp un gd outer) (.call (.ref 113) ⟨[.ref l], []⟩) R s := by
  w_top off; k_with_none
  revert X; k_fill; intro X
  replace B : Below (atop dp un gd outer) base outer s.heap := ⟨rfl, B.stays, B.frames⟩
  walk_at "m_enter"
  k_with "call ref" => walk_at "m_mkl"
  k_with "pyIter ref" => k_state_given ["p"] (fun p pre a b c n nd => BInv p.toNat pre a b c n nd ∧ (nd.length : Int) = p ∧ 0 ≤ n ∧ n ≤ (pre.length : Int)) "dmax" "dmin" "dsum" "n" "num_degs"
  k_with "state" => exact binv_startL
  k_with "state" => exact binv_turn0L (by assumption) (by assumption) (by assumption) (by assumption) (by assumption) (by assumption) (by assumption)
  k_with "state" => exact binv_turn1L (by assumption) (by assumption) (by assumption) (by assumption) (by assumption) (by assumption) (by assumption)
  k_with "exec Raise some none" => walk_at "m_raiseC"
  k_steps
  · exact exc (basic_bad1 (by assumption) (by assumption)) _ _ _ _ (raisedS_nil (by assumption)) (by assumption)
  · exact exc (basic_bad2 (by assumption) (by assumption)) _ _ _ _ (raisedS_nil (by assumption)) (by assumption)
  · exact exc (basic_bad3 (by assumption) (by assumption)) _ _ _ _ (raisedS_nil (by assumption)) (by assumption)
  · exact exc (basic_bad4 (by assumption) (by assumption)) _ _ _ _ (raisedS_nil (by assumption)) (by assumption)
  · (try dsimp only)
    refine' ret _ _ _ _ _ ?m0 _ _ _ _ _ _ _ _ _ _ ?m1 ?m2 ?m3 ?m4 ?m5 ?m6
    case m6 => exact (News.get (by assumption) (by k_mem))
    case m5 => exact (News.get (by assumption) (by k_mem))
    case m4 => assumption
    case m3 => exact (News.fresh (by assumption) (by k_mem))
    case m2 => exact (News.fresh (by assumption) (by k_mem))
    case m1 => exact (Fr.keep (by assumption))
    case m0 => exact basic_good (by assumption) (by assumption) (by assumption)
end
section
set_option maxHeartbeats 400000
/-- what basicRes hands out -/
structure BMore (p : Nat) (a b n : Int) (nd : List Int) : Prop where
  one : n ≠ 0 → 1 ≤ b ∧ b ≤ a ∧ a < (p : Int)
  pos : ∀ x ∈ nd, 0 ≤ x
def BFacts (p : Nat) (a b n : Int) (nd : List Int) : Prop :=
  nd.length = p ∧ 0 ≤ n ∧ n ≤ (p : Int) ∧ 0 ≤ a ∧ 0 ≤ b ∧ b ≤ (p : Int) ∧ a ≤ (p : Int) ∧ BMore p a b n nd
def BFinv (p k : Nat) (c : BS) : Prop :=
  c.2.2.2.2.length = p ∧ 0 ≤ c.2.2.2.1 ∧ c.2.2.2.1 ≤ (k : Int) ∧ 0 ≤ c.1 ∧ 0 ≤ c.2.1 ∧ c.2.1 ≤ (p : Int) ∧ (c.2.2.2.1 = 0 → c.1 = 0 ∧ c.2.1 = (p : Int)) ∧ (c.2.2.2.1 ≠ 0 → 1 ≤ c.2.1 ∧ c.2.1 ≤ c.1 ∧ c.1 < (p : Int)) ∧ (∀ x ∈ c.2.2.2.2, 0 ≤ x)
theorem mem_set_ge {nd : List Int} {i : Nat} {y : Int} (hy : 0 ≤ y) (h : ∀ x ∈ nd, 0 ≤ x) : ∀ x ∈ nd.set i y, 0 ≤ x := by
  intro x hx
  rcases List.mem_or_eq_of_mem_set hx with hx | rfl
  · exact h x hx
  · exact hy
theorem getD_ge {nd : List Int} (h : ∀ x ∈ nd, 0 ≤ x) (i : Nat) : 0 ≤ nd.getD i 0 := by
  rw [List.getD_eq_getElem?_getD]
  cases e : nd[i]? with
  | none => simp
  | some v => exact h v (List.mem_of_getElem? e)
theorem bfinv_fold {p : Nat} : ∀ (ns : List Int) (k : Nat) (c : BS), (∀ d ∈ ns, 0 ≤ d ∧ d < (p : Int)) → BFinv p k c → BFinv p (k + ns.length) (ns.foldl basicStep c)
  | [], _, _, _, h => h
  | d :: r, k, c, hd, h => by
    have h1 := hd d (List.mem_cons_self ..)
    have hr : ∀ d ∈ r, 0 ≤ d ∧ d < (p : Int) := fun x hx => hd x (List.mem_cons_of_mem _ hx)
    have h' : BFinv p (k + 1) (basicStep c d) := by
      obtain ⟨a, b, s, n, nd⟩ := c
      obtain ⟨i1, i2, i3, i4, i5, i6, i7, i8, i9⟩ := h
      simp only at i1 i2 i3 i4 i5 i6 i7 i8 i9
      unfold basicStep
      split
      · rename_i hp
        have hpa : pmax a d = if d > a then d else a := rfl
        have hpb : pmin b d = if d < b then d else b := rfl
        refine ⟨by simp [i1], ?_, ?_, ?_, ?_, ?_, ?_, ?_, ?_⟩
        · simp only; omega
        · simp only; omega
        · simp only [hpa]; split <;> omega
        · simp only [hpb]; split <;> omega
        · simp only [hpb]; split <;> omega
        · intro z; simp only at z; omega
        · intro _
          simp only [hpa, hpb]
          by_cases z : n = 0
          · have := i7 z
            split <;> split <;> omega
          · have := i8 z
            split <;> split <;> omega
        · exact mem_set_ge (by have := getD_ge i9 d.toNat; show 0 ≤ nd.getD d.toNat 0 + 1; omega) i9
      · exact ⟨i1, i2, by simp only; omega, i4, i5, i6, i7, i8, i9⟩
    have := bfinv_fold r (k + 1) _ hr h'
    rw [List.foldl_cons, List.length_cons]
    rwa [Nat.add_assoc, Nat.add_comm 1] at this
theorem basic_ok {ns : List Int} {r : BS} (h : basicRes ns = some r) : (∀ d ∈ ns, 0 ≤ d ∧ d < (ns.length : Int)) ∧ r = basicFold ns.length ns := by
  unfold basicRes at h
  split at h
  · cases h
  rename_i hb
  dsimp only at h
  split at h
  · cases h
  refine ⟨?_, (Option.some.inj h).symm⟩
  intro d hd
  have hb' : basicBad ns = false := by simpa using hb
  unfold basicBad at hb'
  rw [List.any_eq_false] at hb'
  have := hb' d hd
  simp at this
  omega
theorem basic_facts {ns : List Int} {a b c n : Int} {nd : List Int} (h : basicRes ns = some (a, b, c, n, nd)) : BFacts ns.length a b n nd := by
  obtain ⟨hd, hr⟩ := basic_ok h
  have h0 : BFinv ns.length 0 (basicInit ns.length) := by
    refine ⟨by simp [basicInit], by simp [basicInit], by simp [basicInit], by simp [basicInit], by simp [basicInit], by simp [basicInit], by simp [basicInit], by simp [basicInit], ?_⟩
    intro x hx
    simp only [basicInit] at hx
    rw [List.eq_of_mem_replicate hx]
    exact Int.le_refl _
  have := bfinv_fold ns 0 _ hd h0
  rw [Nat.zero_add] at this
  unfold basicFold at hr
  rw [← hr] at this
  obtain ⟨i1, i2, i3, i4, i5, i6, i7, i8, i9⟩ := this
  simp only at i1 i2 i3 i4 i5 i6 i7 i8
  refine ⟨i1, i2, i3, i4, i5, i6, ?_, ⟨i8, i9⟩⟩
  by_cases z : n = 0
  · have := i7 z; omega
  · have := i8 z; omega

def egStep (k : Int) (nd : List Int) (c : Int × Int) (v : Int) : Int × Int := (c.1 + nd.getD (k + v).toNat 0, c.2 + (k + v) * nd.getD (k + v).toNat 0)
def egGo (n : Int) (nd : List Int) : Nat → Int → Int → Int → Int → Int → Bool
  | 0, _, _, _, _, _ => true
  | c + 1, dk, k, sd, sj, sjj =>
    if dk < k + 1 then true
    else if nd.getD dk.toNat 0 > 0 then
      let rs := if dk < k + nd.getD dk.toNat 0 then dk - k else nd.getD dk.toNat 0
      let st := (PySem.W.rangeKs 0 rs.toNat).foldl (egStep k nd) (sj, sjj)
      if sd + rs * dk > (k + rs) * (n - 1) - (k + rs) * st.1 + st.2 then false else egGo n nd c (dk - 1) (k + rs) (sd + rs * dk) st.1 st.2
    else egGo n nd c (dk - 1) k sd sj sjj
def quick (a b n : Int) : Bool := decide (n = 0) || decide (4 * b * n ≥ (a + b + 1) * (a + b + 1))
def egF (ns : List Int) : Bool := match basicRes ns with
  | none => false
  | some (a, b, _, n, nd) => quick a b n || egGo n nd (a - b + 1).toNat a 0 0 0 0
end
section
open PySem PySem.W
set_option maxHeartbeats 400000
theorem egGo_at {n dk k sd sj sjj : Int} {nd : List Int} {p c : Nat} (h : p < c) : egGo n nd (c - p) dk k sd sj sjj =
    (if dk < k + 1 then true
    else if nd.getD dk.toNat 0 > 0 then
      let rs := if dk < k + nd.getD dk.toNat 0 then dk - k else nd.getD dk.toNat 0
      let st := (rangeKs 0 rs.toNat).foldl (egStep k nd) (sj, sjj)
      if sd + rs * dk > (k + rs) * (n - 1) - (k + rs) * st.1 + st.2 then false else egGo n nd (c - (p + 1)) (dk - 1) (k + rs) (sd + rs * dk) st.1 st.2
    else egGo n nd (c - (p + 1)) (dk - 1) k sd sj sjj) := by
  have e : c - p = (c - (p + 1)) + 1 := by omega
  rw [e]
  rfl
theorem eg_start {n a b : Int} {nd : List Int} (h : 0 ≤ a) : egGo n nd ((a - b + 1).toNat - ([] : List Int).length) (a - (([] : List Int).length : Int)) 0 0 0 0 = egGo n nd (a - b + 1).toNat a 0 0 0 0 ∧ (0 : Int) ≤ 0 ∧ 0 ≤ a := by
  simp [h]
section
variable {n a b k sd sj sjj dk sj' sjj' z z1 z2 : Int} {nd pre : List Int} {G : Bool}
theorem eg_run {rs : Int} (kEq : dk = a - (pre.length : Int)) (kLt : pre.length < (a - (b - 1)).toNat) (hinv : egGo n nd ((a - b + 1).toNat - pre.length) (a - (pre.length : Int)) k sd sj sjj = G)
    (c1 : ¬ dk < k + 1) (c2 : 0 < nd.getD dk.toNat 0) (hrs : (if dk < k + nd.getD dk.toNat 0 then dk - k else nd.getD dk.toNat 0) = rs)
    (hz2 : MulIs z2 rs dk) (hf : (rangeKs 0 rs.toNat).foldl (egStep k nd) (sj, sjj) = (sj', sjj')) (hz1 : MulIs z1 (k + rs) (n - 1)) (hz : MulIs z (k + rs) sj') :
    (if z1 - z + sjj' < sd + z2 then false else egGo n nd ((a - b + 1).toNat - (pre ++ [dk]).length) (a - ((pre ++ [dk]).length : Int)) (k + rs) (sd + z2) sj' sjj') = G := by
  have hp : pre.length < (a - b + 1).toNat := by omega
  rw [egGo_at hp, ← kEq] at hinv
  rw [if_neg c1, if_pos c2] at hinv
  simp only [hrs, hf] at hinv
  rw [hz2.eq, hz1.eq, hz.eq]
  simp only [List.length_append, List.length_cons, List.length_nil]
  have e : a - ((pre.length + (0 + 1) : Nat) : Int) = dk - 1 := by omega
  rw [e]
  exact hinv
theorem eg_turnA (kEq : dk = a - (pre.length : Int)) (kLt : pre.length < (a - (b - 1)).toNat) (hinv : egGo n nd ((a - b + 1).toNat - pre.length) (a - (pre.length : Int)) k sd sj sjj = G)
    (h0 : 0 ≤ k) (c1 : ¬ dk < k + 1) (c2 : 0 < nd.getD dk.toNat 0) (c3 : dk < k + nd.getD dk.toNat 0)
    (hz2 : MulIs z2 (dk - k) dk) (hf : (rangeKs 0 (dk - k - 0).toNat).foldl (egStep k nd) (sj, sjj) = (sj', sjj')) (hz1 : MulIs z1 (k + (dk - k)) (n - 1)) (hz : MulIs z (k + (dk - k)) sj') (cc : ¬ z1 - z + sjj' < sd + z2) :
    egGo n nd ((a - b + 1).toNat - (pre ++ [dk]).length) (a - ((pre ++ [dk]).length : Int)) (k + (dk - k)) (sd + z2) sj' sjj' = G ∧ 0 ≤ k + (dk - k) ∧ k + (dk - k) ≤ a := by
  refine ⟨?_, by omega, by omega⟩
  have := eg_run kEq kLt hinv c1 c2 (if_pos c3) hz2 (by rwa [Int.sub_zero] at hf) hz1 hz
  rwa [if_neg cc] at this
theorem eg_turnB (kEq : dk = a - (pre.length : Int)) (kLt : pre.length < (a - (b - 1)).toNat) (hinv : egGo n nd ((a - b + 1).toNat - pre.length) (a - (pre.length : Int)) k sd sj sjj = G)
    (h0 : 0 ≤ k) (c1 : ¬ dk < k + 1) (c2 : 0 < nd.getD dk.toNat 0) (c3 : ¬ dk < k + nd.getD dk.toNat 0)
    (hz2 : MulIs z2 (nd.getD dk.toNat 0) dk) (hf : (rangeKs 0 (nd.getD dk.toNat 0 - 0).toNat).foldl (egStep k nd) (sj, sjj) = (sj', sjj')) (hz1 : MulIs z1 (k + nd.getD dk.toNat 0) (n - 1)) (hz : MulIs z (k + nd.getD dk.toNat 0) sj') (cc : ¬ z1 - z + sjj' < sd + z2) :
    egGo n nd ((a - b + 1).toNat - (pre ++ [dk]).length) (a - ((pre ++ [dk]).length : Int)) (k + nd.getD dk.toNat 0) (sd + z2) sj' sjj' = G ∧ 0 ≤ k + nd.getD dk.toNat 0 ∧ k + nd.getD dk.toNat 0 ≤ a := by
  refine ⟨?_, by omega, by omega⟩
  have := eg_run kEq kLt hinv c1 c2 (if_neg c3) hz2 (by rwa [Int.sub_zero] at hf) hz1 hz
  rwa [if_neg cc] at this
theorem eg_turnC (kEq : dk = a - (pre.length : Int)) (kLt : pre.length < (a - (b - 1)).toNat) (hinv : egGo n nd ((a - b + 1).toNat - pre.length) (a - (pre.length : Int)) k sd sj sjj = G)
    (h0 : 0 ≤ k) (h1 : k ≤ a) (c1 : ¬ dk < k + 1) (c2 : ¬ 0 < nd.getD dk.toNat 0) :
    egGo n nd ((a - b + 1).toNat - (pre ++ [dk]).length) (a - ((pre ++ [dk]).length : Int)) k sd sj sjj = G ∧ 0 ≤ k ∧ k ≤ a := by
  refine ⟨?_, h0, h1⟩
  have hp : pre.length < (a - b + 1).toNat := by omega
  rw [egGo_at hp, ← kEq] at hinv
  rw [if_neg c1, if_neg c2] at hinv
  simp only [List.length_append, List.length_cons, List.length_nil]
  have e : a - ((pre.length + (0 + 1) : Nat) : Int) = dk - 1 := by omega
  rw [e]
  exact hinv
theorem eg_in0 {c : Int × Int} : List.foldl (egStep k nd) c [] = c := rfl
theorem eg_in1 {c : Int × Int} {v : Int} (h : List.foldl (egStep k nd) c pre = (sj, sjj)) (hz : MulIs z (k + v) (nd.getD (k + v).toNat 0)) :
    List.foldl (egStep k nd) c (pre ++ [v]) = (sj + nd.getD (k + v).toNat 0, sjj + z) := by
  rw [List.foldl_append, h, hz.eq]
  rfl
variable {ns : List Int} {c : Int}
theorem eg_none (h : basicRes ns = none) : false = egF ns := by simp [egF, h]
theorem eg_zero (h : basicRes ns = some (a, b, c, n, nd)) (h0 : n = 0) : true = egF ns := by simp [egF, h, quick, h0]
theorem eg_quick (h : basicRes ns = some (a, b, c, n, nd)) (m1 : MulIs z2 4 b) (m2 : MulIs z1 z2 n) (m3 : MulIs z (a + b + 1) (a + b + 1)) (hq : z ≤ z1) : true = egF ns := by
  have e1 := m1.eq
  have e2 := m2.eq
  have e3 := m3.eq
  subst e1
  simp [egF, h, quick, ← e2, ← e3, hq]
theorem eg_slow (h : basicRes ns = some (a, b, c, n, nd)) (h0 : n ≠ 0) (m1 : MulIs z2 4 b) (m2 : MulIs z1 z2 n) (m3 : MulIs z (a + b + 1) (a + b + 1)) (hq : ¬ z ≤ z1) : egF ns = egGo n nd (a - b + 1).toNat a 0 0 0 0 := by
  have e1 := m1.eq
  have e2 := m2.eq
  have e3 := m3.eq
  subst e1
  have hq' : ¬ z1 ≥ z := hq
  simp [egF, h, quick, ← e2, ← e3, h0]
  omega
theorem eg_stop (hs : egF ns = G) (kEq : dk = a - (pre.length : Int)) (kLt : pre.length < (a - (b - 1)).toNat) (hinv : egGo n nd ((a - b + 1).toNat - pre.length) (a - (pre.length : Int)) k sd sj sjj = G) (c1 : dk < k + 1) : true = egF ns := by
  have hp : pre.length < (a - b + 1).toNat := by omega
  rw [egGo_at hp, ← kEq, if_pos c1] at hinv
  rw [hs, hinv]
theorem eg_noA (hs : egF ns = G) (kEq : dk = a - (pre.length : Int)) (kLt : pre.length < (a - (b - 1)).toNat) (hinv : egGo n nd ((a - b + 1).toNat - pre.length) (a - (pre.length : Int)) k sd sj sjj = G)
    (c1 : ¬ dk < k + 1) (c2 : 0 < nd.getD dk.toNat 0) (c3 : dk < k + nd.getD dk.toNat 0)
    (hz2 : MulIs z2 (dk - k) dk) (hf : (rangeKs 0 (dk - k - 0).toNat).foldl (egStep k nd) (sj, sjj) = (sj', sjj')) (hz1 : MulIs z1 (k + (dk - k)) (n - 1)) (hz : MulIs z (k + (dk - k)) sj') (cc : z1 - z + sjj' < sd + z2) : false = egF ns := by
  have := eg_run kEq kLt hinv c1 c2 (if_pos c3) hz2 (by rwa [Int.sub_zero] at hf) hz1 hz
  rw [if_pos cc] at this
  rw [hs, this]
theorem eg_noB (hs : egF ns = G) (kEq : dk = a - (pre.length : Int)) (kLt : pre.length < (a - (b - 1)).toNat) (hinv : egGo n nd ((a - b + 1).toNat - pre.length) (a - (pre.length : Int)) k sd sj sjj = G)
    (c1 : ¬ dk < k + 1) (c2 : 0 < nd.getD dk.toNat 0) (c3 : ¬ dk < k + nd.getD dk.toNat 0)
    (hz2 : MulIs z2 (nd.getD dk.toNat 0) dk) (hf : (rangeKs 0 (nd.getD dk.toNat 0 - 0).toNat).foldl (egStep k nd) (sj, sjj) = (sj', sjj')) (hz1 : MulIs z1 (k + nd.getD dk.toNat 0) (n - 1)) (hz : MulIs z (k + nd.getD dk.toNat 0) sj') (cc : z1 - z + sjj' < sd + z2) : false = egF ns := by
  have := eg_run kEq kLt hinv c1 c2 (if_neg c3) hz2 (by rwa [Int.sub_zero] at hf) hz1 hz
  rw [if_pos cc] at this
  rw [hs, this]
theorem eg_end {N : Nat} (hs : egF ns = G) (hN : (downKs a N).length = N) (hNe : N = (a - (b - 1)).toNat) (hinv : egGo n nd ((a - b + 1).toNat - (downKs a N).length) (a - ((downKs a N).length : Int)) k sd sj sjj = G) : true = egF ns := by
  rw [hN] at hinv
  have e : (a - b + 1).toNat - N = 0 := by omega
  rw [e] at hinv
  rw [hs, ← hinv]
  rfl
end
end
section
local macro_rules | `(tactic| walk_at "m_pad") => `(tactic| skip)
local macro_rules | `(tactic| walk_at "m_pad") => `(tactic| skip)
local macro_rules | `(tactic| walk_at "m_pad") => `(tactic| skip)
local macro_rules | `(tactic| walk_at "m_pad") => `(tactic| skip)
local macro_rules | `(tactic| walk_at "m_pad") => `(tactic| skip)
local macro_rules | `(tactic| walk_at "m_pad") => `(tactic| skip)
local macro_rules | `(tactic| walk_at "m_pad") => `(tactic| skip)
open PySem PySem.W PyProof.Rows PySem.Calls PySem.Spec
set_option maxHeartbeats 4000000
local macro_rules | `(tactic| walk_at "leaving ref") => `(tactic| walk_at "m_leaveS")
theorem basic_call {w : World} {mean : ExcName → Option Value} {mg mb : Str → Option Value} {A₀ A : Around} {base h₀ : Heap} {outer : List Env} {env : Env} {L : Addr} {m : Str → Option Value} {news : List (Addr × Obj)} {s : Shared} {Q E : Value → Shared → Prop} {l : Addr} {vs : List Value} {ns : List Int}
    (B : Below A₀ base outer h₀) (F : Fr h₀ L s.heap m) (X : (hd.heap_39 w.params).In h₀) (N : News h₀ L s.heap news) (T : Top hd.view_39 lse mean mg mb h₀)
    (hA : A.frames = some (env :: outer)) (hh : A.handled = none) (hf : env.frame = some L) (hk : env.scope.kind = .function)
    (hl : s.heap.IsList l vs.toArray) (hi : IntsAre vs ns) (hn : ns.length < 2 ^ 20)
    (hdp : A.depth + 40 < recursionLimit) (hun : A.units + 400 < cLine)
    (h : ∀ a b c n nd, basicRes ns = some (a, b, c, n, nd) → ∀ t1 t2 t3 t4 T l' h' tk' vs' n1, Fr h₀ L h' m → News h₀ L h' ((T, { cls := .type "tuple", data := .seq [.int a t1, .int b t2, .int c t3, .int n t4, .ref l'].toArray }) :: (l', listOf vs'.toArray n1) :: news) →
      T ≠ l' → AllNe T news → AllNe l' news → IntsAre vs' nd → BFacts ns.length a b n nd → Q (.ref T) { s with heap := h', toks := tk' })
    (hE : basicRes ns = none → ∀ e t h' tk', RaisedS base s.heap (env :: outer) e (.ref 89) t [] [] h' → s.heap.UpToSlots h' → E (.ref e) { s with heap := h', toks := tk' }) :
    wpAny (model PySem.Challenge.rw_fc0138_01.row.prog w) A (call (.ref 113) [.ref l]) Q E s := by
  obtain ⟨hd, dp, fr, gd, un⟩ := A
  simp only at hA hh hdp hun
  subst hA hh
  have B' := pushX B F hf hk
  refine wpAny_call (basic_ct (A₀ := atop 0 0 none (env :: outer)) ⟨rfl, B'.stays, B'.frames⟩ (X.keeps F.keep) (T.keeps F.keep) hl hi hn hdp hun (fun a b c n nd hr t1 t2 t3 t4 T l' h' tk' vs' n1 st hT hl' hi' ol oT => ?_) (fun hr e t h' tk' R U => ?_))
  · refine h a b c n nd hr t1 t2 t3 t4 T l' h' tk' vs' n1 (fr_stay9 F st) ?_ ?_ (news_ne9 N hT) (news_ne9 N hl') hi' (basic_facts hr)
    · have N1 := news_stayC9 N st F hl' ol
      intro p hp
      rcases List.mem_cons.mp hp with rfl | hp
      · exact news_stayC9 N st F hT oT _ (.head _)
      · exact N1 p hp
    · rintro rfl
      rw [ol] at oT
      exact absurd (congrArg (fun o => o.map (·.cls)) oT) (by simp)
  · exact hE hr e t h' tk' R U
local macro_rules | `(tactic| walk_at "m_basic") => `(tactic| (
  (with_reducible show wpAny _ _ (call (Value.ref 113) [Value.ref _]) _ _ _)
  (refine' basic_call ?k1 ?k2 ?k3 ?k4 ?k5 ?k6 ?k7 ?k8 ?k9 ?kl ?ki ?kn ?kd ?ku ?kR ?kE
   (case k1 => k_asm); (case k2 => k_asm); (case k3 => k_asm); (case k4 => k_asm); (case k5 => k_asm); (case k6 => exact rfl); (case k7 => exact rfl); (case k8 => exact rfl); (case k9 => exact rfl)
   (case kl => is_list); (case ki => l_ints); (case kn => assumption); (case kd => walk_at "m_room"); (case ku => walk_at "m_room"); k_whole
   (case' kR => (intro a9 b9 c9 n9 nd9 hr9 t1 t2 t3 t4 T9 l9 h9 tk9 vs9 n19 F9 N9 ne1 ne2 ne3 hi9 hf9; (obtain ⟨f1, f2, f3, f4, f5, f6, f7, f8⟩ := hf9); (try dsimp only)))
   (case' kE => (intro hr9 e9 t9 h9 tk9 S' U'; (try dsimp only at S' U' ⊢))))))
theorem eg_ct {w : World} {mean : ExcName → Option Value} {mg mb : Str → Option Value} {A₀ : Around} {base : Heap} {outer : List Env} {s : Shared} {R : Result → Shared → Prop} {dp un : Nat} {gd : Option (List Code)} {l : Addr} {vs : List Value} {ns : List Int}
    (B : Below A₀ base outer s.heap) (X : (hd.heap_39 w.params).In s.heap) (T : Top hd.view_39 lse mean mg mb s.heap) (XB : (hd.heap_39 w.params).In base) (TB : Top hd.view_39 lse mean mg mb base) (D : KtsDicts (outer.filterMap (·.frame)) s.heap)
    (hl : s.heap.IsList l vs.toArray) (hi : IntsAre vs ns) (hn : ns.length < 2 ^ 20)
    (hdp : dp + 60 < recursionLimit) (hun : un + 600 < cLine)
    (ret : ∀ h' tk' g', KtsTurn (outer.filterMap (·.frame)) s.heap g' → g'.StaysIn h' → R (.ok (.ret (.bool (egF ns)))) { s with heap := h', toks := tk' }) :
    codeAny (model PySem.Challenge.rw_fc0138_01.row.prog w) (atop dp un gd outer) (.call (.ref 127) ⟨[.ref l], []⟩) R s := by
  w_top off; k_with_none
  revert X; k_fill; intro X
  replace B : Below (atop dp un gd outer) base outer s.heap := ⟨rfl, B.stays, B.frames⟩
  walk_at "m_enter"
  k_with "call ref" => walk_at "m_basic"
  k_with "binaryOp Mult int int" => walk_at "m_mulH"
  k_with "binaryOp Add int int" => walk_at "m_addG"
  k_with "binaryOp Sub int int" => walk_at "m_subG"
  k_with "pyIter ref" => k_of "dk" => ((have bm9 := BMore.one (by assumption) (by assumption)); (obtain ⟨g1, g2, g3⟩ := bm9); k_state_given ["n", "num_degs", "dmax", "dmin"] (fun n nd a b pre k sd sj sjj => egGo n nd ((a - b + 1).toNat - pre.length) (a - pre.length) k sd sj sjj = egGo n nd (a - b + 1).toNat a 0 0 0 0 ∧ 0 ≤ k ∧ k ≤ a) "k" "sum_deg" "sum_nj" "sum_jnj")
  k_with "pyIter ref" => k_of "v" => k_state_given ["k", "num_degs", "sum_nj!", "sum_jnj!"] (fun k nd x0 y0 pre x y => pre.foldl (egStep k nd) (x0, y0) = (x, y)) "sum_nj" "sum_jnj"
  k_with "state" => exact eg_start (by assumption)
  k_with "state" => exact eg_in0
  k_with "state" => exact eg_in1 (by assumption) (by assumption)
  k_with "state" => exact eg_turnA (by assumption) (by assumption) (by assumption) (by assumption) (by assumption) (by assumption) (by assumption) (by assumption) (by assumption) (by assumption) (by assumption) (by assumption)
  k_with "state" => exact eg_turnB (by assumption) (by assumption) (by assumption) (by assumption) (by assumption) (by assumption) (by assumption) (by assumption) (by assumption) (by assumption) (by assumption) (by assumption)
  k_with "state" => exact eg_turnC (by assumption) (by assumption) (by assumption) (by assumption) (by assumption) (by assumption) (by assumption)
  k_steps
  all_goals ((try dsimp only); first | (refine' retG9 ret ?_ ?m1 ?m2; (case m1 => assumption); (case m2 => exact Fr.keep (by assumption))) | (refine' retG9 ret ?_ ?m1 ?m2; (case m1 => exact KtsTurn.refl); (case m2 => exact Fr.keep (by assumption))))
  · exact eg_none (by assumption)
  · exact eg_zero (by assumption) (by assumption)
  · exact eg_quick (by assumption) (by assumption) (by assumption) (by assumption) (by assumption)
  · exact eg_stop (eg_slow (by assumption) (by assumption) (by assumption) (by assumption) (by assumption) (by assumption)) (by assumption) (by assumption) (by assumption) (by assumption)
  · exact eg_noA (eg_slow (by assumption) (by assumption) (by assumption) (by assumption) (by assumption) (by assumption)) (by assumption) (by assumption) (by assumption) (by assumption) (by assumption) (by assumption) (by assumption) (by assumption) (by assumption) (by assumption) (by assumption)
  · exact eg_noB (eg_slow (by assumption) (by assumption) (by assumption) (by assumption) (by assumption) (by assumption)) (by assumption) (by assumption) (by assumption) (by assumption) (by assumption) (by assumption) (by assumption) (by assumption) (by assumption) (by assumption) (by assumption)
  · exact eg_end (eg_slow (by assumption) (by assumption) (by assumption) (by assumption) (by assumption) (by assumption)) (downKs_length _ _) rfl (by assumption)
end
local macro_rules | `(tactic| walk_at "m_basic") => `(tactic| (
  (with_reducible show wpAny _ _ (call (Value.ref 113) [Value.ref _]) _ _ _)
  (refine' basic_call ?k1 ?k2 ?k3 ?k4 ?k5 ?k6 ?k7 ?k8 ?k9 ?kl ?ki ?kn ?kd ?ku ?kR ?kE
   (case k1 => k_asm); (case k2 => k_asm); (case k3 => k_asm); (case k4 => k_asm); (case k5 => k_asm); (case k6 => exact rfl); (case k7 => exact rfl); (case k8 => exact rfl); (case k9 => exact rfl)
   (case kl => is_list); (case ki => l_ints); (case kn => assumption); (case kd => walk_at "m_room"); (case ku => walk_at "m_room"); k_whole
   (case' kR => (intro a9 b9 c9 n9 nd9 hr9 t1 t2 t3 t4 T9 l9 h9 tk9 vs9 n19 F9 N9 ne1 ne2 ne3 hi9 hf9; (obtain ⟨f1, f2, f3, f4, f5, f6, f7, f8⟩ := hf9); (try dsimp only)))
   (case' kE => (intro hr9 e9 t9 h9 tk9 S' U'; (try dsimp only at S' U' ⊢))))))
section
open PySem PySem.W
set_option maxHeartbeats 400000
def downTo (nd : List Int) : Nat → Int → Int
  | 0, d => d
  | f + 1, d => if nd.getD d.toNat 0 = 0 then downTo nd f (d - 1) else d
abbrev HS := Int × List Int × Int × List Int × Int
def hhTake1 (k : Int) (nd : List Int) (n : Int) (ms : List Int) (ml : Int) : HS :=
  if 1 < k then (k, nd.set k.toNat (nd.getD k.toNat 0 - 1), n - 1, ms.set ml.toNat (k - 1), ml + 1)
  else (k, nd.set k.toNat (nd.getD k.toNat 0 - 1), n - 1, ms, ml)
def hhTakes : Nat → HS → HS
  | 0, c => c
  | r + 1, c => hhTakes r (hhTake1 (downTo c.2.1 c.1.toNat c.1) c.2.1 c.2.2.1 c.2.2.2.1 c.2.2.2.2)
def hhPuts (ms : List Int) : Nat → Nat → List Int × Int → List Int × Int
  | 0, _, c => c
  | r + 1, i, c => hhPuts ms r (i + 1) (c.1.set (ms.getD i 0).toNat (c.1.getD (ms.getD i 0).toNat 0 + 1), c.2 + 1)
def hhGo : Nat → Int → Int → List Int → List Int → Bool
  | 0, _, _, _, _ => true
  | f + 1, dmax, n, nd, ms =>
    if 0 < n then
      let d := downTo nd dmax.toNat dmax
      if n - 1 < d then false else
        let c := hhTakes d.toNat (d, nd.set d.toNat (nd.getD d.toNat 0 - 1), n - 1, ms, 0)
        let e := hhPuts c.2.2.2.1 c.2.2.2.2.toNat 0 (c.2.1, c.2.2.1)
        hhGo f d e.2 e.1 c.2.2.2.1
    else true
def hhAfter (f : Nat) (d : Int) (c : HS) : Bool :=
  let e := hhPuts c.2.2.2.1 c.2.2.2.2.toNat 0 (c.2.1, c.2.2.1)
  hhGo f d e.2 e.1 c.2.2.2.1
def hhBody (f : Nat) (d n : Int) (nd ms : List Int) : Bool :=
  if n - 1 < d then false else hhAfter f d (hhTakes d.toNat (d, nd.set d.toNat (nd.getD d.toNat 0 - 1), n - 1, ms, 0))
def hhF (ns : List Int) : Bool := match basicRes ns with
  | none => false
  | some (a, b, _, n, nd) => quick a b n || hhGo n.toNat a n nd (List.replicate (a + 1).toNat 0)
structure HM (d n : Int) (nd : List Int) : Prop where
  pos : ∀ x ∈ nd, 0 ≤ x
  zero : nd.getD 0 0 = 0
  above : ∀ i : Nat, d < (i : Int) → nd.getD i 0 = 0
  sum : nd.sum = n
structure MsOk (d : Int) (ms : List Int) (ml : Int) : Prop where
  ent : ∀ i : Nat, (i : Int) < ml → 1 ≤ ms.getD i 0 ∧ ms.getD i 0 < d
/-- what is left of loop 1 when r takes are to come: the facts between its turns -/
structure TM (d r k n : Int) (nd ms : List Int) (ml : Int) : Prop where
  hm : HM k n nd
  room : r ≤ n
  ms : MsOk d ms ml
structure PM (d : Int) (n : Int) (nd ms : List Int) (ml : Int) : Prop where
  hm : HM d n nd
  ms : MsOk d ms ml
theorem PM.next {d n ml k : Int} {nd ms pre : List Int} (h : PM d n nd ms ml) (kEq : k = 0 + (pre.length : Int)) (kLt : pre.length < (ml - 0).toNat) : 1 ≤ ms.getD k.toNat 0 ∧ ms.getD k.toNat 0 < d :=
  h.ms.ent _ (by omega)
theorem rk_le {x a : Int} {n : Nat} (h : x ≤ ((rangeKs a n).length : Int)) : x ≤ (n : Int) := by rwa [rangeKs_length] at h
end
section
open PySem PySem.W
set_option maxHeartbeats 400000
theorem getD_set {nd : List Int} {i j : Nat} {y : Int} (hi : i < nd.length) : (nd.set i y).getD j 0 = if j = i then y else nd.getD j 0 := by
  rw [List.getD_eq_getElem?_getD, List.getD_eq_getElem?_getD]
  by_cases h : j = i
  · subst h
    simp [hi]
  · rw [if_neg h, List.getElem?_set_ne (Ne.symm h)]
theorem sum_set : ∀ {nd : List Int} {i : Nat} {y : Int}, i < nd.length → (nd.set i y).sum = nd.sum - nd.getD i 0 + y
  | [], _, _, h => absurd h (Nat.not_lt_zero _)
  | x :: r, 0, y, _ => by simp; omega
  | x :: r, i + 1, y, h => by
    have ih := sum_set (nd := r) (i := i) (y := y) (by simpa using h)
    simp only [List.set_cons_succ, List.sum_cons, List.getD_cons_succ]
    rw [ih]; omega
theorem sum_pos_ex : ∀ {nd : List Int}, (∀ i : Nat, nd.getD i 0 = 0) → nd.sum = 0
  | [], _ => rfl
  | x :: r, h => by
    have h0 := h 0
    simp only [List.getD_cons_zero] at h0
    have ih := sum_pos_ex (nd := r) fun i => by have := h (i + 1); rwa [List.getD_cons_succ] at this
    rw [List.sum_cons, ih, h0]; rfl
theorem HM.ex {d n : Int} {nd : List Int} (H : HM d n nd) (hn : 0 < n) : ∃ e : Nat, 1 ≤ e ∧ (e : Int) ≤ d ∧ nd.getD e 0 ≠ 0 := by
  by_cases h : ∃ e : Nat, 1 ≤ e ∧ (e : Int) ≤ d ∧ nd.getD e 0 ≠ 0
  · exact h
  · exfalso
    have : nd.sum = 0 := sum_pos_ex fun i => by
      by_cases h1 : nd.getD i 0 = 0
      · exact h1
      · exfalso
        by_cases h2 : i = 0
        · subst h2; exact h1 H.zero
        · by_cases h3 : (i : Int) ≤ d
          · exact h ⟨i, by omega, h3, h1⟩
          · exact h1 (H.above i (by omega))
    have := H.sum
    omega
theorem HM.ge1 {d n : Int} {nd : List Int} (H : HM d n nd) (hn : 0 < n) : 1 ≤ d := by
  obtain ⟨e, h1, h2, _⟩ := H.ex hn
  omega
theorem HM.down {d n : Int} {nd : List Int} (H : HM d n nd) (hd : 1 ≤ d) (hz : nd.getD d.toNat 0 = 0) : HM (d - 1) n nd :=
  ⟨H.pos, H.zero, fun i hi => by
    by_cases h : (i : Int) = d
    · have : d.toNat = i := by omega
      rw [← this]; exact hz
    · exact H.above i (by omega), H.sum⟩
theorem downTo_zero {nd : List Int} {d : Int} (hd : 1 ≤ d) (hz : nd.getD d.toNat 0 = 0) : downTo nd d.toNat d = downTo nd (d - 1).toNat (d - 1) := by
  have e : d.toNat = (d - 1).toNat + 1 := by omega
  have h : downTo nd ((d - 1).toNat + 1) d = (if nd.getD d.toNat 0 = 0 then downTo nd (d - 1).toNat (d - 1) else d) := rfl
  rw [show downTo nd d.toNat d = downTo nd ((d - 1).toNat + 1) d from by rw [← e], h, if_pos hz]
theorem downTo_at {nd : List Int} {d : Int} (hz : nd.getD d.toNat 0 ≠ 0) : ∀ f, downTo nd f d = d
  | 0 => rfl
  | f + 1 => by unfold downTo; rw [if_neg hz]
/-- one taken at k -/
theorem HM.take {k n : Int} {nd : List Int} (H : HM k n nd) (hk : 1 ≤ k) (hl : k < (nd.length : Int)) (hz : nd.getD k.toNat 0 ≠ 0) : HM k (n - 1) (nd.set k.toNat (nd.getD k.toNat 0 - 1)) := by
  have hlt : k.toNat < nd.length := by omega
  have hp := getD_ge H.pos k.toNat
  refine ⟨mem_set_ge (by omega) H.pos, ?_, ?_, ?_⟩
  · rw [getD_set hlt, if_neg (by omega)]; exact H.zero
  · intro i hi
    rw [getD_set hlt, if_neg (by omega)]; exact H.above i hi
  · rw [sum_set hlt, H.sum]; omega
/-- one put at j -/
theorem HM.put {d n j : Int} {nd : List Int} (H : HM d n nd) (hj : 1 ≤ j) (hjd : j < d) (hl : d < (nd.length : Int)) : HM d (n + 1) (nd.set j.toNat (nd.getD j.toNat 0 + 1)) := by
  have hlt : j.toNat < nd.length := by omega
  have hp := getD_ge H.pos j.toNat
  refine ⟨mem_set_ge (by omega) H.pos, ?_, ?_, ?_⟩
  · rw [getD_set hlt, if_neg (by omega)]; exact H.zero
  · intro i hi
    rw [getD_set hlt, if_neg (by omega)]; exact H.above i hi
  · rw [sum_set hlt, H.sum]; omega
theorem HM.up {d k n : Int} {nd : List Int} (H : HM k n nd) (h : k ≤ d) : HM d n nd := ⟨H.pos, H.zero, fun i hi => H.above i (by omega), H.sum⟩
theorem hm_fold {p : Nat} : ∀ (ns : List Int) (c : BS), (∀ d ∈ ns, 0 ≤ d ∧ d < (p : Int)) → c.2.2.2.2.length = p → HM c.1 c.2.2.2.1 c.2.2.2.2 → HM (ns.foldl basicStep c).1 (ns.foldl basicStep c).2.2.2.1 (ns.foldl basicStep c).2.2.2.2
  | [], _, _, _, h => h
  | d :: r, c, hd, hl, h => by
    have h1 := hd d (List.mem_cons_self ..)
    have hr : ∀ d ∈ r, 0 ≤ d ∧ d < (p : Int) := fun x hx => hd x (List.mem_cons_of_mem _ hx)
    rw [List.foldl_cons]
    obtain ⟨a, b, s, n, nd⟩ := c
    dsimp only at hl h
    refine hm_fold r _ hr ?_ ?_
    · unfold basicStep; split <;> simp [hl]
    · unfold basicStep
      split
      · rename_i hp
        have hlt : d.toNat < nd.length := by omega
        have hpa : pmax a d = if d > a then d else a := rfl
        have hg := getD_ge h.pos d.toNat
        refine ⟨mem_set_ge (by show 0 ≤ nd.getD d.toNat 0 + 1; omega) h.pos, ?_, ?_, ?_⟩
        · show (nd.set d.toNat (nd.getD d.toNat 0 + 1)).getD 0 0 = 0
          rw [getD_set hlt, if_neg (by omega)]; exact h.zero
        · intro i hi
          show (nd.set d.toNat (nd.getD d.toNat 0 + 1)).getD i 0 = 0
          have hi' : pmax a d < (i : Int) := hi
          rw [hpa] at hi'
          rw [getD_set hlt, if_neg (by split at hi' <;> omega)]
          exact h.above i (by split at hi' <;> omega)
        · show (nd.set d.toNat (nd.getD d.toNat 0 + 1)).sum = n + 1
          have := h.sum
          rw [sum_set hlt]; omega
      · exact h
theorem basic_hm {ns : List Int} {a b c n : Int} {nd : List Int} (h : basicRes ns = some (a, b, c, n, nd)) : HM a n nd := by
  obtain ⟨hd, hr⟩ := basic_ok h
  have h0 : HM (basicInit ns.length).1 (basicInit ns.length).2.2.2.1 (basicInit ns.length).2.2.2.2 := by
    have hg : ∀ i : Nat, (List.replicate ns.length (0 : Int)).getD i 0 = 0 := fun i => by
      rw [List.getD_eq_getElem?_getD, List.getElem?_replicate]; split <;> rfl
    refine ⟨?_, hg 0, fun i _ => hg i, sum_pos_ex hg⟩
    intro x hx
    rw [List.eq_of_mem_replicate hx]
    exact Int.le_refl _
  have := hm_fold ns _ hd (by simp [basicInit]) h0
  unfold basicFold at hr
  rw [← hr] at this
  exact this
section
variable {ns : List Int} {a b c n d k ml z z1 z2 : Int} {nd ms pre : List Int} {G : Bool}
theorem hh_none (h : basicRes ns = none) : false = hhF ns := by simp [hhF, h]
theorem hh_zero (h : basicRes ns = some (a, b, c, n, nd)) (h0 : n = 0) : true = hhF ns := by simp [hhF, h, quick, h0]
theorem hh_quick (h : basicRes ns = some (a, b, c, n, nd)) (m1 : MulIs z2 4 b) (m2 : MulIs z1 z2 n) (m3 : MulIs z (a + b + 1) (a + b + 1)) (hq : z ≤ z1) : true = hhF ns := by
  have e1 := m1.eq
  have e2 := m2.eq
  have e3 := m3.eq
  subst e1
  simp [hhF, h, quick, ← e2, ← e3, hq]
theorem hh_slow (h : basicRes ns = some (a, b, c, n, nd)) (h0 : n ≠ 0) (m1 : MulIs z2 4 b) (m2 : MulIs z1 z2 n) (m3 : MulIs z (a + b + 1) (a + b + 1)) (hq : ¬ z ≤ z1) : hhF ns = hhGo n.toNat a n nd (List.replicate (a + 1).toNat 0) := by
  have e1 := m1.eq
  have e2 := m2.eq
  have e3 := m3.eq
  subst e1
  have hq' : ¬ z1 ≥ z := hq
  simp [hhF, h, quick, ← e2, ← e3, h0]
  omega
theorem hh_s1 (h : basicRes ns = some (a, b, c, n, nd)) (h0 : n ≠ 0) (m1 : MulIs z2 4 b) (m2 : MulIs z1 z2 n) (m3 : MulIs z (a + b + 1) (a + b + 1)) (hq : ¬ z ≤ z1) (hm : BMore ns.length a b n nd) (f1 : nd.length = ns.length) (f4 : 0 ≤ a) :
    (∃ f, n.toNat ≤ f ∧ hhGo f a n nd (List.replicate (a + 1).toNat [(0 : Int)]).flatten = hhF ns) ∧ HM a n nd ∧ 0 ≤ a ∧ a < (nd.length : Int) ∧ nd.length = ns.length ∧ a + 1 ≤ ((List.replicate (a + 1).toNat [(0 : Int)]).flatten.length : Int) ∧ (List.replicate (a + 1).toNat [(0 : Int)]).flatten.length ≤ ns.length + 1 := by
  obtain ⟨g1, g2, g3⟩ := hm.one h0
  rw [flat0, List.length_replicate]
  exact ⟨⟨n.toNat, Nat.le_refl _, (hh_slow h h0 m1 m2 m3 hq).symm⟩, basic_hm h, f4, by omega, f1, by omega, by omega⟩
theorem hh_s2 (hf : ∃ f, n.toNat ≤ f ∧ hhGo f d n nd ms = hhF ns) (H : HM d n nd) (h1 : d < (nd.length : Int)) (h2 : nd.length = ns.length) (h3 : d + 1 ≤ (ms.length : Int)) (h4 : ms.length ≤ ns.length + 1) (hn : 0 < n) :
    (∃ f, n.toNat ≤ f + 1 ∧ hhBody f (downTo nd d.toNat d) n nd ms = hhF ns) ∧ HM d n nd ∧ 1 ≤ d ∧ d < (nd.length : Int) ∧ nd.length = ns.length ∧ d + 1 ≤ (ms.length : Int) ∧ ms.length ≤ ns.length + 1 ∧ 0 < n := by
  obtain ⟨f, hf1, hf2⟩ := hf
  refine ⟨?_, H, H.ge1 hn, h1, h2, h3, h4, hn⟩
  cases f with
  | zero => omega
  | succ f =>
    refine ⟨f, hf1, ?_⟩
    rw [← hf2]
    unfold hhGo
    rw [if_pos hn]
    rfl
theorem hh_s3 (hf : ∃ f, n.toNat ≤ f + 1 ∧ hhBody f (downTo nd d.toNat d) n nd ms = hhF ns) (H : HM d n nd) (h0 : 1 ≤ d) (h1 : d < (nd.length : Int)) (h2 : nd.length = ns.length) (h3 : d + 1 ≤ (ms.length : Int)) (h4 : ms.length ≤ ns.length + 1) (hn : 0 < n) (hz : nd.getD d.toNat 0 = 0) :
    (∃ f, n.toNat ≤ f + 1 ∧ hhBody f (downTo nd (d - 1).toNat (d - 1)) n nd ms = hhF ns) ∧ HM (d - 1) n nd ∧ 1 ≤ d - 1 ∧ d - 1 < (nd.length : Int) ∧ nd.length = ns.length ∧ d - 1 + 1 ≤ (ms.length : Int) ∧ ms.length ≤ ns.length + 1 ∧ 0 < n := by
  have H' := H.down h0 hz
  rw [downTo_zero h0 hz] at hf
  exact ⟨hf, H', H'.ge1 hn, by omega, h2, by omega, h4, hn⟩
theorem hh_no (hf : ∃ f, n.toNat ≤ f + 1 ∧ hhBody f (downTo nd d.toNat d) n nd ms = hhF ns) (hz : nd.getD d.toNat 0 ≠ 0) (hs : n - 1 < d) : false = hhF ns := by
  obtain ⟨f, _, hf⟩ := hf
  rw [downTo_at hz] at hf
  unfold hhBody at hf
  rwa [if_pos hs] at hf
theorem hh_s4 (hf : ∃ f, n.toNat ≤ f + 1 ∧ hhBody f (downTo nd d.toNat d) n nd ms = hhF ns) (H : HM d n nd) (h0 : 1 ≤ d) (h1 : d < (nd.length : Int)) (h2 : nd.length = ns.length) (h3 : d + 1 ≤ (ms.length : Int)) (h4 : ms.length ≤ ns.length + 1) (hz : nd.getD d.toNat 0 ≠ 0) (hs : ¬ n - 1 < d) :
    (∃ f, (n - 1 + 0).toNat ≤ f ∧ hhAfter f d (hhTakes (d.toNat - ([] : List Int).length) (d, nd.set d.toNat (nd.getD d.toNat 0 - 1), n - 1, ms, 0)) = hhF ns) ∧
      TM d (d - (([] : List Int).length : Int)) d (n - 1) (nd.set d.toNat (nd.getD d.toNat 0 - 1)) ms 0 ∧ 1 ≤ d ∧ d ≤ d ∧ d < ((nd.set d.toNat (nd.getD d.toNat 0 - 1)).length : Int) ∧ (nd.set d.toNat (nd.getD d.toNat 0 - 1)).length = ns.length ∧
      d + 1 ≤ (ms.length : Int) ∧ ms.length ≤ ns.length + 1 ∧ n - 1 = n - 1 - (([] : List Int).length : Int) ∧ (0 : Int) ≤ 0 ∧ (0 : Int) ≤ (([] : List Int).length : Int) := by
  obtain ⟨f, hf1, hf⟩ := hf
  rw [downTo_at hz] at hf
  unfold hhBody at hf
  rw [if_neg hs] at hf
  refine ⟨⟨f, by omega, hf⟩, ⟨H.take h0 h1 hz, by simp; omega, ⟨fun i hi => by omega⟩⟩, h0, Int.le_refl _, by rw [List.length_set]; exact h1, by rw [List.length_set]; exact h2, h3, h4, by simp, by simp, by simp⟩
theorem hh_s5 (hf : ∃ f, (n + ml).toNat ≤ f ∧ hhAfter f d (hhTakes (d.toNat - pre.length) (k, nd, n, ms, ml)) = hhF ns) (H : TM d (d - (pre.length : Int)) k n nd ms ml) (h0 : 1 ≤ k) (h1 : k ≤ d) (kLt : pre.length < (d - 0).toNat) :
    (∃ f, (n + ml).toNat ≤ f ∧ hhAfter f d (hhTakes (d.toNat - (pre.length + 1)) (hhTake1 (downTo nd k.toNat k) nd n ms ml)) = hhF ns) ∧ TM d (d - (pre.length : Int)) k n nd ms ml ∧ 1 ≤ k ∧ k ≤ d := by
  obtain ⟨f, hf1, hf⟩ := hf
  refine ⟨⟨f, hf1, ?_⟩, H, h0, h1⟩
  have e : d.toNat - pre.length = (d.toNat - (pre.length + 1)) + 1 := by omega
  rw [e] at hf
  exact hf
theorem hh_s6 (hf : ∃ f, (n + ml).toNat ≤ f ∧ hhAfter f d (hhTakes (d.toNat - (pre.length + 1)) (hhTake1 (downTo nd k.toNat k) nd n ms ml)) = hhF ns) (H : TM d (d - (pre.length : Int)) k n nd ms ml) (h0 : 1 ≤ k) (h1 : k ≤ d) (kLt : pre.length < (d - 0).toNat) (hz : nd.getD k.toNat 0 = 0) :
    (∃ f, (n + ml).toNat ≤ f ∧ hhAfter f d (hhTakes (d.toNat - (pre.length + 1)) (hhTake1 (downTo nd (k - 1).toNat (k - 1)) nd n ms ml)) = hhF ns) ∧ TM d (d - (pre.length : Int)) (k - 1) n nd ms ml ∧ 1 ≤ k - 1 ∧ k - 1 ≤ d := by
  have H' := H.hm.down h0 hz
  rw [downTo_zero h0 hz] at hf
  have hr := H.room
  exact ⟨hf, ⟨H', hr, H.ms⟩, H'.ge1 (by omega), by omega⟩
theorem hh_s7 {n0 v : Int} (hf : ∃ f, (n + ml).toNat ≤ f ∧ hhAfter f d (hhTakes (d.toNat - (pre.length + 1)) (hhTake1 (downTo nd k.toNat k) nd n ms ml)) = hhF ns) (H : TM d (d - (pre.length : Int)) k n nd ms ml) (h0 : 1 ≤ k) (h1 : k ≤ d)
    (h2 : d < (nd.length : Int)) (h3 : nd.length = ns.length) (h4 : d + 1 ≤ (ms.length : Int)) (h5 : ms.length ≤ ns.length + 1) (h6 : n = n0 - (pre.length : Int)) (h7 : 0 ≤ ml) (h8 : ml ≤ (pre.length : Int)) (kLt : pre.length < (d - 0).toNat) (hz : nd.getD k.toNat 0 ≠ 0) (hk : 1 < k) :
    (∃ f, (n - 1 + (ml + 1)).toNat ≤ f ∧ hhAfter f d (hhTakes (d.toNat - (pre ++ [v]).length) (k, nd.set k.toNat (nd.getD k.toNat 0 - 1), n - 1, ms.set ml.toNat (k - 1), ml + 1)) = hhF ns) ∧
      TM d (d - ((pre ++ [v]).length : Int)) k (n - 1) (nd.set k.toNat (nd.getD k.toNat 0 - 1)) (ms.set ml.toNat (k - 1)) (ml + 1) ∧ 1 ≤ k ∧ k ≤ d ∧ d < ((nd.set k.toNat (nd.getD k.toNat 0 - 1)).length : Int) ∧ (nd.set k.toNat (nd.getD k.toNat 0 - 1)).length = ns.length ∧
      d + 1 ≤ ((ms.set ml.toNat (k - 1)).length : Int) ∧ (ms.set ml.toNat (k - 1)).length ≤ ns.length + 1 ∧ n - 1 = n0 - ((pre ++ [v]).length : Int) ∧ 0 ≤ ml + 1 ∧ ml + 1 ≤ ((pre ++ [v]).length : Int) := by
  obtain ⟨f, hf1, hf⟩ := hf
  have hr := H.room
  rw [downTo_at hz] at hf
  unfold hhTake1 at hf
  rw [if_pos hk] at hf
  simp only [List.length_append, List.length_cons, List.length_nil, List.length_set]
  refine ⟨⟨f, by omega, hf⟩, ⟨H.hm.take h0 (by omega) hz, by omega, ⟨fun i hi => ?_⟩⟩, h0, h1, h2, h3, h4, h5, by omega, by omega, by omega⟩
  rw [getD_set (by omega)]
  split
  · omega
  · exact H.ms.ent i (by omega)
theorem hh_s8 {n0 v : Int} (hf : ∃ f, (n + ml).toNat ≤ f ∧ hhAfter f d (hhTakes (d.toNat - (pre.length + 1)) (hhTake1 (downTo nd k.toNat k) nd n ms ml)) = hhF ns) (H : TM d (d - (pre.length : Int)) k n nd ms ml) (h0 : 1 ≤ k) (h1 : k ≤ d)
    (h2 : d < (nd.length : Int)) (h3 : nd.length = ns.length) (h4 : d + 1 ≤ (ms.length : Int)) (h5 : ms.length ≤ ns.length + 1) (h6 : n = n0 - (pre.length : Int)) (h7 : 0 ≤ ml) (h8 : ml ≤ (pre.length : Int)) (kLt : pre.length < (d - 0).toNat) (hz : nd.getD k.toNat 0 ≠ 0) (hk : ¬ 1 < k) :
    (∃ f, (n - 1 + ml).toNat ≤ f ∧ hhAfter f d (hhTakes (d.toNat - (pre ++ [v]).length) (k, nd.set k.toNat (nd.getD k.toNat 0 - 1), n - 1, ms, ml)) = hhF ns) ∧
      TM d (d - ((pre ++ [v]).length : Int)) k (n - 1) (nd.set k.toNat (nd.getD k.toNat 0 - 1)) ms ml ∧ 1 ≤ k ∧ k ≤ d ∧ d < ((nd.set k.toNat (nd.getD k.toNat 0 - 1)).length : Int) ∧ (nd.set k.toNat (nd.getD k.toNat 0 - 1)).length = ns.length ∧
      d + 1 ≤ (ms.length : Int) ∧ ms.length ≤ ns.length + 1 ∧ n - 1 = n0 - ((pre ++ [v]).length : Int) ∧ 0 ≤ ml ∧ ml ≤ ((pre ++ [v]).length : Int) := by
  obtain ⟨f, hf1, hf⟩ := hf
  have hr := H.room
  rw [downTo_at hz] at hf
  unfold hhTake1 at hf
  rw [if_neg hk] at hf
  simp only [List.length_append, List.length_cons, List.length_nil, List.length_set]
  exact ⟨⟨f, by omega, hf⟩, ⟨H.hm.take h0 (by omega) hz, by omega, H.ms⟩, h0, h1, h2, h3, h4, h5, by omega, by omega, by omega⟩
theorem hh_s9 (hf : ∃ f, (n + ml).toNat ≤ f ∧ hhAfter f d (hhTakes (d.toNat - (rangeKs 0 (d - 0).toNat).length) (k, nd, n, ms, ml)) = hhF ns) (H : TM d (d - ((rangeKs 0 (d - 0).toNat).length : Int)) k n nd ms ml) (h1 : k ≤ d)
    (h2 : d < (nd.length : Int)) (h3 : nd.length = ns.length) :
    (∃ f, (n + (ml - (([] : List Int).length : Int))).toNat ≤ f ∧ hhGo f d (hhPuts ms (ml.toNat - ([] : List Int).length) ([] : List Int).length (nd, n)).2 (hhPuts ms (ml.toNat - ([] : List Int).length) ([] : List Int).length (nd, n)).1 ms = hhF ns) ∧
      PM d n nd ms ml ∧ d < (nd.length : Int) ∧ nd.length = ns.length ∧ n = n + (([] : List Int).length : Int) := by
  obtain ⟨f, hf1, hf⟩ := hf
  rw [rangeKs_length] at hf
  have e : d.toNat - (d - 0).toNat = 0 := by omega
  rw [e] at hf
  exact ⟨⟨f, by simpa using hf1, hf⟩, ⟨H.hm.up h1, H.ms⟩, h2, h3, by simp⟩
theorem hh_s10 {n0 v : Int} (hf : ∃ f, (n + (ml - (pre.length : Int))).toNat ≤ f ∧ hhGo f d (hhPuts ms (ml.toNat - pre.length) pre.length (nd, n)).2 (hhPuts ms (ml.toNat - pre.length) pre.length (nd, n)).1 ms = hhF ns)
    (H : PM d n nd ms ml) (h2 : d < (nd.length : Int)) (h3 : nd.length = ns.length) (h6 : n = n0 + (pre.length : Int)) (kEq : v = 0 + (pre.length : Int)) (kLt : pre.length < (ml - 0).toNat) :
    (∃ f, (n + 1 + (ml - ((pre ++ [v]).length : Int))).toNat ≤ f ∧ hhGo f d (hhPuts ms (ml.toNat - (pre ++ [v]).length) (pre ++ [v]).length (nd.set (ms.getD v.toNat 0).toNat (nd.getD (ms.getD v.toNat 0).toNat 0 + 1), n + 1)).2 (hhPuts ms (ml.toNat - (pre ++ [v]).length) (pre ++ [v]).length (nd.set (ms.getD v.toNat 0).toNat (nd.getD (ms.getD v.toNat 0).toNat 0 + 1), n + 1)).1 ms = hhF ns) ∧
      PM d (n + 1) (nd.set (ms.getD v.toNat 0).toNat (nd.getD (ms.getD v.toNat 0).toNat 0 + 1)) ms ml ∧ d < ((nd.set (ms.getD v.toNat 0).toNat (nd.getD (ms.getD v.toNat 0).toNat 0 + 1)).length : Int) ∧ (nd.set (ms.getD v.toNat 0).toNat (nd.getD (ms.getD v.toNat 0).toNat 0 + 1)).length = ns.length ∧ n + 1 = n0 + ((pre ++ [v]).length : Int) := by
  obtain ⟨q1, q2⟩ := PM.next H kEq kLt
  obtain ⟨f, hf1, hf⟩ := hf
  have ev : v.toNat = pre.length := by omega
  rw [ev] at q1 q2 ⊢
  simp only [List.length_append, List.length_cons, List.length_nil, List.length_set]
  have e : ml.toNat - pre.length = (ml.toNat - (pre.length + 1)) + 1 := by omega
  rw [e] at hf
  exact ⟨⟨f, by omega, hf⟩, ⟨H.hm.put q1 q2 h2, H.ms⟩, h2, h3, by omega⟩
theorem hh_s11 (hf : ∃ f, (n + (ml - ((rangeKs 0 (ml - 0).toNat).length : Int))).toNat ≤ f ∧ hhGo f d (hhPuts ms (ml.toNat - (rangeKs 0 (ml - 0).toNat).length) (rangeKs 0 (ml - 0).toNat).length (nd, n)).2 (hhPuts ms (ml.toNat - (rangeKs 0 (ml - 0).toNat).length) (rangeKs 0 (ml - 0).toNat).length (nd, n)).1 ms = hhF ns)
    (H : PM d n nd ms ml) (h0 : 1 ≤ d) (h2 : d < (nd.length : Int)) (h3 : nd.length = ns.length) (h4 : d + 1 ≤ (ms.length : Int)) (h5 : ms.length ≤ ns.length + 1) (hml : 0 ≤ ml) :
    (∃ f, n.toNat ≤ f ∧ hhGo f d n nd ms = hhF ns) ∧ HM d n nd ∧ 0 ≤ d ∧ d < (nd.length : Int) ∧ nd.length = ns.length ∧ d + 1 ≤ (ms.length : Int) ∧ ms.length ≤ ns.length + 1 := by
  obtain ⟨f, hf1, hf⟩ := hf
  rw [rangeKs_length] at hf hf1
  have e : ml.toNat - (ml - 0).toNat = 0 := by omega
  rw [e] at hf
  exact ⟨⟨f, by omega, hf⟩, H.hm, by omega, h2, h3, h4, h5⟩
theorem hh_m {n' n1 : Int} (e1 : n' = n1 + ((rangeKs 0 (ml - 0).toNat).length : Int)) (e2 : n1 = n - 1 - ((rangeKs 0 (d - 0).toNat).length : Int)) (q8 : ml ≤ ((d - 0).toNat : Int)) (h0 : 0 ≤ ml) (hn : 0 < n) : n'.toNat < n.toNat := by
  rw [rangeKs_length] at e1 e2
  omega
theorem hh_yes (hf : ∃ f, n.toNat ≤ f ∧ hhGo f d n nd ms = hhF ns) (hn : ¬ 0 < n) : true = hhF ns := by
  obtain ⟨f, _, hf⟩ := hf
  rw [← hf]
  cases f with
  | zero => rfl
  | succ f => unfold hhGo; rw [if_neg hn]
end
end
section
local macro_rules | `(tactic| walk_at "m_pad") => `(tactic| skip)
local macro_rules | `(tactic| walk_at "m_pad") => `(tactic| skip)
local macro_rules | `(tactic| walk_at "m_pad") => `(tactic| skip)
local macro_rules | `(tactic| walk_at "m_pad") => `(tactic| skip)
local macro_rules | `(tactic| walk_at "m_pad") => `(tactic| skip)
local macro_rules | `(tactic| walk_at "m_pad") => `(tactic| skip)
local macro_rules | `(tactic| walk_at "m_pad") => `(tactic| skip)
local macro_rules | `(tactic| walk_at "m_pad") => `(tactic| skip)
local macro_rules | `(tactic| walk_at "m_pad") => `(tactic| skip)
open PySem PySem.W PyProof.Rows PySem.Calls PySem.Spec
set_option maxHeartbeats 8000000
local macro_rules | `(tactic| walk_at "leaving ref") => `(tactic| walk_at "m_leaveS")
theorem hh_ct {w : World} {mean : ExcName → Option Value} {mg mb : Str → Option Value} {A₀ : Around} {base : Heap} {outer : List Env} {s : Shared} {R : Result → Shared → Prop} {dp un : Nat} {gd : Option (List Code)} {l : Addr} {vs : List Value} {ns : List Int}
    (B : Below A₀ base outer s.heap) (X : (hd.heap_39 w.params).In s.heap) (T : Top hd.view_39 lse mean mg mb s.heap) (XB : (hd.heap_39 w.params).In base) (TB : Top hd.view_39 lse mean mg mb base) (D : KtsDicts (outer.filterMap (·.frame)) s.heap)
    (hl : s.heap.IsList l vs.toArray) (hi : IntsAre vs ns) (hn : ns.length < 2 ^ 20)
    (hdp : dp + 60 < recursionLimit) (hun : un + 600 < cLine)
    (ret : ∀ h' tk' g', KtsTurn (outer.filterMap (·.frame)) s.heap g' → g'.StaysIn h' → R (.ok (.ret (.bool (hhF ns)))) { s with heap := h', toks := tk' }) :
    codeAny (model PySem.Challenge.rw_fc0138_01.row.prog w) (atop dp un gd outer) (.call (.ref 120) ⟨[.ref l], []⟩) R s := by
  w_top off; k_with_none
  revert X; k_fill; intro X
  replace B : Below (atop dp un gd outer) base outer s.heap := ⟨rfl, B.stays, B.frames⟩
  walk_at "m_enter"
  k_with "call ref" => walk_at "m_basic"
  k_with "binaryOp Mult int int" => walk_at "m_mulH"
  k_with "binaryOp Add int int" => walk_at "m_addG"
  k_with "binaryOp Sub int int" => walk_at "m_subG"
  k_with "exec While Compare cons nil" => ((with_reducible show wpAny _ _ (exec (Stmt.While (Expr.Compare (Expr.Name _ _) _ _ _) _ _ _) _) _ _ _); k_while_given ["dmin"] (fun b script nd ms d n => (∃ f, n.toNat ≤ f ∧ hhGo f d n nd ms = hhF ns) ∧ HM d n nd ∧ 0 ≤ d ∧ d < (nd.length : Int) ∧ nd.length = ns.length ∧ d + 1 ≤ (ms.length : Int) ∧ ms.length ≤ ns.length + 1) (fun b script nd ms d n => n.toNat) "num_degs" "modstubs" "dmax" "n")
  k_with "exec While Compare cons nil" => ((with_reducible show wpAny _ _ (exec (Stmt.While (Expr.Compare (Expr.Subscript _ (Expr.Name ("dmax" : PySem.Str) _) _) _ _ _) _ _ _) _) _ _ _); k_while_given ["num_degs", "n", "modstubs"] (fun nd n ms script d => (∃ f, n.toNat ≤ f + 1 ∧ hhBody f (downTo nd d.toNat d) n nd ms = hhF ns) ∧ HM d n nd ∧ 1 ≤ d ∧ d < (nd.length : Int) ∧ nd.length = ns.length ∧ d + 1 ≤ (ms.length : Int) ∧ ms.length ≤ ns.length + 1 ∧ 0 < n) (fun nd n ms script d => d.toNat) "dmax")
  k_with "pyIter ref" => ((with_reducible show wpAny _ _ (pyIter (Value.ref _)) (fun it s₂ => LoopAtV _ _ _ _ _ _ (Stmt.While _ _ _ _ :: _) _ _ it s₂) _ _); k_state_given ["dmax", "n!"] (fun d n0 pre k nd n ms ml => (∃ f, (n + ml).toNat ≤ f ∧ hhAfter f d (hhTakes (d.toNat - pre.length) (k, nd, n, ms, ml)) = hhF ns) ∧ TM d (d - pre.length) k n nd ms ml ∧ 1 ≤ k ∧ k ≤ d ∧ d < (nd.length : Int) ∧ nd.length = ns.length ∧ d + 1 ≤ (ms.length : Int) ∧ ms.length ≤ ns.length + 1 ∧ n = n0 - pre.length ∧ 0 ≤ ml ∧ ml ≤ pre.length) "k" "num_degs" "n" "modstubs" "mslen")
  k_with "exec While Compare cons nil" => ((with_reducible show wpAny _ _ (exec (Stmt.While (Expr.Compare (Expr.Subscript _ (Expr.Name ("k" : PySem.Str) _) _) _ _ _) _ _ _) _) _ _ _); k_while_given ["num_degs", "dmax", "n", "modstubs", "mslen"] (fun nd d n ms ml script k => (∃ f, (n + ml).toNat ≤ f ∧ hhAfter f d (hhTakes (d.toNat - (kPre.length + 1)) (hhTake1 (downTo nd k.toNat k) nd n ms ml)) = hhF ns) ∧ TM d (d - kPre.length) k n nd ms ml ∧ 1 ≤ k ∧ k ≤ d) (fun nd d n ms ml script k => k.toNat) "k")
  k_with "pyIter ref" => ((with_reducible show wpAny _ _ (pyIter (Value.ref _)) (fun it s₂ => LoopAtV _ _ _ _ _ _ (Stmt.Assign _ _ _ :: _) _ _ it s₂) _ _); (have q8 := rk_le (by assumption)); k_state_given ["dmax", "modstubs", "mslen", "n!"] (fun d ms ml n0 pre nd n => (∃ f, (n + (ml - pre.length)).toNat ≤ f ∧ hhGo f d (hhPuts ms (ml.toNat - pre.length) pre.length (nd, n)).2 (hhPuts ms (ml.toNat - pre.length) pre.length (nd, n)).1 ms = hhF ns) ∧ PM d n nd ms ml ∧ d < (nd.length : Int) ∧ nd.length = ns.length ∧ n = n0 + pre.length) "num_degs" "n"; all_goals (try (have q9 := PM.next (by assumption) kEq kLt; obtain ⟨q1, q2⟩ := q9)))
  k_with "state" => exact hh_s1 (by assumption) (by assumption) (by assumption) (by assumption) (by assumption) (by assumption) (by assumption) (by assumption) (by assumption)
  k_with "state" => exact hh_s2 (by assumption) (by assumption) (by assumption) (by assumption) (by assumption) (by assumption) (by assumption)
  k_with "state" => exact hh_s3 (by assumption) (by assumption) (by assumption) (by assumption) (by assumption) (by assumption) (by assumption) (by assumption) (by assumption)
  k_with "state" => exact hh_s4 (by assumption) (by assumption) (by assumption) (by assumption) (by assumption) (by assumption) (by assumption) (by assumption) (by assumption)
  k_with "state" => exact hh_s5 (by assumption) (by assumption) (by assumption) (by assumption) (by assumption)
  k_with "state" => exact hh_s6 (by assumption) (by assumption) (by assumption) (by assumption) (by assumption) (by assumption)
  k_with "state" => exact hh_s7 (by assumption) (by assumption) (by assumption) (by assumption) (by assumption) (by assumption) (by assumption) (by assumption) (by assumption) (by assumption) (by assumption) (by assumption) (by assumption) (by assumption)
  k_with "state" => exact hh_s8 (by assumption) (by assumption) (by assumption) (by assumption) (by assumption) (by assumption) (by assumption) (by assumption) (by assumption) (by assumption) (by assumption) (by assumption) (by assumption) (by assumption)
  k_with "state" => exact hh_s9 (by assumption) (by assumption) (by assumption) (by assumption) (by assumption)
  k_with "state" => exact hh_s10 (by assumption) (by assumption) (by assumption) (by assumption) (by assumption) (by assumption) (by assumption)
  k_with "state" => exact hh_s11 (by assumption) (by assumption) (by assumption) (by assumption) (by assumption) (by assumption) (by assumption) (by assumption)
  k_with "measure" => omega
  k_with "measure" => exact hh_m (by assumption) (by assumption) (by assumption) (by assumption) (by assumption)
  k_steps
  all_goals ((try dsimp only); first | (refine' retG9 ret ?_ ?m1 ?m2; (case m1 => assumption); (case m2 => exact Fr.keep (by assumption))) | (refine' retG9 ret ?_ ?m1 ?m2; (case m1 => exact KtsTurn.refl); (case m2 => exact Fr.keep (by assumption))))
  · exact hh_none (by assumption)
  · exact hh_zero (by assumption) (by assumption)
  · exact hh_quick (by assumption) (by assumption) (by assumption) (by assumption) (by assumption)
  · exact hh_no (by assumption) (by assumption) (by assumption)
  · exact hh_yes (by assumption) (by assumption)
end
section
local macro_rules | `(tactic| walk_at "m_pad") => `(tactic| skip)
local macro_rules | `(tactic| walk_at "m_pad") => `(tactic| skip)
local macro_rules | `(tactic| walk_at "m_pad") => `(tactic| skip)
local macro_rules | `(tactic| walk_at "m_pad") => `(tactic| skip)
local macro_rules | `(tactic| walk_at "m_pad") => `(tactic| skip)
local macro_rules | `(tactic| walk_at "m_pad") => `(tactic| skip)
local macro_rules | `(tactic| walk_at "m_pad") => `(tactic| skip)
local macro_rules | `(tactic| walk_at "m_pad") => `(tactic| skip)
local macro_rules | `(tactic| walk_at "m_pad") => `(tactic| skip)
local macro_rules | `(tactic| walk_at "m_pad") => `(tactic| skip)
local macro_rules | `(tactic| walk_at "m_pad") => `(tactic| skip)
open PySem PySem.W PyProof.Rows PySem.Calls PySem.Spec
set_option maxHeartbeats 1000000
theorem reground {w : World} {mean : ExcName → Option Value} {mg mb : Str → Option Value} {A₀ : Around} {base h₀ h h' g1 : Heap} {outer : List Env} {env : Env} {L : Addr} {m : Str → Option Value} {news : List (Addr × Obj)}
    (B : Below A₀ base outer h₀) (F : Fr h₀ L h m) (N : News h₀ L h news) (hf : env.frame = some L)
    (XB : (hd.heap_39 w.params).In base) (TB : Top hd.view_39 lse mean mg mb base) (D : KtsDicts (outer.filterMap (·.frame)) h₀)
    (KT : KtsTurn ((env :: outer).filterMap (·.frame)) h g1) (st : g1.StaysIn h') :
    ∃ g', KtsTurn (outer.filterMap (·.frame)) h₀ g' ∧ Fr g' L h' m ∧ News g' L h' news ∧ Below A₀ base outer g' ∧ (hd.heap_39 w.params).In g' ∧ Top hd.view_39 lse mean mg mb g' ∧ KtsDicts (outer.filterMap (·.frame)) g' := by
  have hfs : (env :: outer).filterMap (·.frame) = L :: outer.filterMap (·.frame) := by simp [List.filterMap_cons, hf]
  rw [hfs] at KT
  have nL : h₀.get? L = none := kts_self F
  obtain ⟨T, S⟩ := kts_turn_at (h := h') (fs := outer.filterMap (·.frame)) (g := h₀)
    (fun b hb => by
      obtain ⟨o, _, _, ho, _⟩ := D b hb
      exact ⟨o, ho⟩)
    (fun b o e nm => st b o (KT.other b o (F.keep b o e) (fun hm => by
      rcases List.mem_cons.mp hm with z | z
      · rw [z, nL] at e; cases e
      · exact nm z)))
    (fun b o e hm => by
      obtain ⟨sl, hs⟩ := KT.frame b o (F.keep b o e) (List.mem_cons_of_mem _ hm)
      exact ⟨sl, st _ _ hs⟩)
  have K' : Below A₀ base outer (ktsHeap h' (outer.filterMap (·.frame)) h₀) := ⟨B.stack, fun b o e => T.other b o (B.stays b o e) (fun hm => by
    rw [(B.frames.mem hm).1] at e
    cases e), B.frames.of_keeps fun b o e _ => by
      obtain ⟨sl, hs⟩ := T.up e
      exact ⟨_, hs, rfl⟩⟩
  obtain ⟨oL, es, ep, hL, hLd, hLk, hLf⟩ := F.ns
  obtain ⟨slL, hsL⟩ := KT.up hL
  refine ⟨_, T, ⟨⟨_, es, ep, st _ _ hsL, hLd, hLk, hLf⟩, S, by rw [T.size]; exact F.above⟩, ?_, K', XB.keeps K'.stays, TB.keeps K'.stays, D.turn T⟩
  intro p hp
  have q := N p hp
  refine ⟨st _ _ (KT.other _ _ q.1 (fun hm => ?_)), q.2.1, T.none_ _ q.2.2⟩
  rcases List.mem_cons.mp hm with z | z
  · exact q.2.1 z
  · obtain ⟨o, _, _, ho, _⟩ := D _ z
    rw [q.2.2] at ho; cases ho
theorem dicts_push {h₀ h : Heap} {outer : List Env} {env : Env} {L : Addr} {m : Str → Option Value} (F : Fr h₀ L h m) (hf : env.frame = some L) (D : KtsDicts (outer.filterMap (·.frame)) h₀) : KtsDicts ((env :: outer).filterMap (·.frame)) h := by
  have hfs : (env :: outer).filterMap (·.frame) = L :: outer.filterMap (·.frame) := by simp [List.filterMap_cons, hf]
  rw [hfs]
  intro b hb
  rcases List.mem_cons.mp hb with z | z
  · obtain ⟨oL, es, ep, hL, hLd, _⟩ := F.ns
    exact ⟨oL, es, ep, by rw [z]; exact hL, hLd⟩
  · obtain ⟨o, es, n, ho, hd⟩ := D b z
    exact ⟨o, es, n, F.keep _ _ ho, hd⟩
section
variable {w : World} {mean : ExcName → Option Value} {mg mb : Str → Option Value} {A₀ A : Around} {base h₀ : Heap} {outer : List Env} {env : Env} {L : Addr} {m : Str → Option Value} {news : List (Addr × Obj)} {s : Shared} {Q E : Value → Shared → Prop} {l : Addr} {vs : List Value} {ns : List Int}
theorem eg_call (B : Below A₀ base outer h₀) (F : Fr h₀ L s.heap m) (X : (hd.heap_39 w.params).In h₀) (N : News h₀ L s.heap news) (T : Top hd.view_39 lse mean mg mb h₀)
    (XB : (hd.heap_39 w.params).In base) (TB : Top hd.view_39 lse mean mg mb base) (D : KtsDicts (outer.filterMap (·.frame)) h₀)
    (hA : A.frames = some (env :: outer)) (hh : A.handled = none) (hf : env.frame = some L) (hk : env.scope.kind = .function)
    (hl : s.heap.IsList l vs.toArray) (hi : IntsAre vs ns) (hn : ns.length < 2 ^ 20) (hdp : A.depth + 60 < recursionLimit) (hun : A.units + 600 < cLine)
    (h : ∀ h' tk' g', KtsTurn (outer.filterMap (·.frame)) h₀ g' → Fr g' L h' m → News g' L h' news → Below A₀ base outer g' → (hd.heap_39 w.params).In g' → Top hd.view_39 lse mean mg mb g' → KtsDicts (outer.filterMap (·.frame)) g' →
      Q (.bool (egF ns)) { s with heap := h', toks := tk' }) :
    wpAny (model PySem.Challenge.rw_fc0138_01.row.prog w) A (call (.ref 127) [.ref l]) Q E s := by
  obtain ⟨hd, dp, fr, gd, un⟩ := A
  simp only at hA hh hdp hun
  subst hA hh
  have B' := pushX B F hf hk
  refine wpAny_call (eg_ct (A₀ := atop 0 0 none (env :: outer)) ⟨rfl, B'.stays, B'.frames⟩ (X.keeps F.keep) (T.keeps F.keep) XB TB (dicts_push F hf D) hl hi hn hdp hun (fun h' tk' g' KT st => ?_))
  obtain ⟨g2, T2, F2, N2, B2, X2, P2, D2⟩ := reground B F N hf XB TB D KT st
  exact h h' tk' g2 T2 F2 N2 B2 X2 P2 D2
theorem hh_call (B : Below A₀ base outer h₀) (F : Fr h₀ L s.heap m) (X : (hd.heap_39 w.params).In h₀) (N : News h₀ L s.heap news) (T : Top hd.view_39 lse mean mg mb h₀)
    (XB : (hd.heap_39 w.params).In base) (TB : Top hd.view_39 lse mean mg mb base) (D : KtsDicts (outer.filterMap (·.frame)) h₀)
    (hA : A.frames = some (env :: outer)) (hh : A.handled = none) (hf : env.frame = some L) (hk : env.scope.kind = .function)
    (hl : s.heap.IsList l vs.toArray) (hi : IntsAre vs ns) (hn : ns.length < 2 ^ 20) (hdp : A.depth + 60 < recursionLimit) (hun : A.units + 600 < cLine)
    (h : ∀ h' tk' g', KtsTurn (outer.filterMap (·.frame)) h₀ g' → Fr g' L h' m → News g' L h' news → Below A₀ base outer g' → (hd.heap_39 w.params).In g' → Top hd.view_39 lse mean mg mb g' → KtsDicts (outer.filterMap (·.frame)) g' →
      Q (.bool (hhF ns)) { s with heap := h', toks := tk' }) :
    wpAny (model PySem.Challenge.rw_fc0138_01.row.prog w) A (call (.ref 120) [.ref l]) Q E s := by
  obtain ⟨hd, dp, fr, gd, un⟩ := A
  simp only at hA hh hdp hun
  subst hA hh
  have B' := pushX B F hf hk
  refine wpAny_call (hh_ct (A₀ := atop 0 0 none (env :: outer)) ⟨rfl, B'.stays, B'.frames⟩ (X.keeps F.keep) (T.keeps F.keep) XB TB (dicts_push F hf D) hl hi hn hdp hun (fun h' tk' g' KT st => ?_))
  obtain ⟨g2, T2, F2, N2, B2, X2, P2, D2⟩ := reground B F N hf XB TB D KT st
  exact h h' tk' g2 T2 F2 N2 B2 X2 P2 D2
end
local macro_rules | `(tactic| walk_at "m_eghh") => `(tactic| (
  (first | (with_reducible show wpAny _ _ (call (Value.ref 127) [Value.ref _]) _ _ _) | (with_reducible show wpAny _ _ (call (Value.ref 120) [Value.ref _]) _ _ _))
  (first
    | refine' eg_call ?k1 ?k2 ?k3 ?k4 ?k5 ?kX ?kT ?kD ?k6 ?k7 ?k8 ?k9 ?kl ?ki ?kn ?kd ?ku ?kR
    | refine' hh_call ?k1 ?k2 ?k3 ?k4 ?k5 ?kX ?kT ?kD ?k6 ?k7 ?k8 ?k9 ?kl ?ki ?kn ?kd ?ku ?kR)
  (case k1 => k_asm); (case k2 => k_asm); (case k3 => k_asm); (case k4 => k_asm); (case k5 => k_asm); (case kX => assumption); (case kT => assumption); (case kD => assumption)
  (case k6 => exact rfl); (case k7 => exact rfl); (case k8 => exact rfl); (case k9 => exact rfl)
  (case kl => is_list); (case ki => l_ints); (case kn => assumption); (case kd => walk_at "m_room"); (case ku => walk_at "m_room"); k_whole
  (case' kR => (intro h9 tk9 g9 T9 F9 N9 B9 X9 P9 D9; (try dsimp only)))))
end
local macro_rules | `(tactic| walk_at "m_eghh") => `(tactic| (
  (first | (with_reducible show wpAny _ _ (call (Value.ref 127) [Value.ref _]) _ _ _) | (with_reducible show wpAny _ _ (call (Value.ref 120) [Value.ref _]) _ _ _))
  (first
    | refine' eg_call ?k1 ?k2 ?k3 ?k4 ?k5 ?kX ?kT ?kD ?k6 ?k7 ?k8 ?k9 ?kl ?ki ?kn ?kd ?ku ?kR
    | refine' hh_call ?k1 ?k2 ?k3 ?k4 ?k5 ?kX ?kT ?kD ?k6 ?k7 ?k8 ?k9 ?kl ?ki ?kn ?kd ?ku ?kR)
  (case k1 => k_asm); (case k2 => k_asm); (case k3 => k_asm); (case k4 => k_asm); (case k5 => k_asm); (case kX => assumption); (case kT => assumption); (case kD => assumption)
  (case k6 => exact rfl); (case k7 => exact rfl); (case k8 => exact rfl); (case k9 => exact rfl)
  (case kl => is_list); (case ki => l_ints); (case kn => assumption); (case kd => walk_at "m_room"); (case ku => walk_at "m_room"); k_whole
  (case' kR => (intro h9 tk9 g9 T9 F9 N9 B9 X9 P9 D9; (try dsimp only)))))
section
local macro_rules | `(tactic| walk_at "m_pad") => `(tactic| skip)
local macro_rules | `(tactic| walk_at "m_pad") => `(tactic| skip)
local macro_rules | `(tactic| walk_at "m_pad") => `(tactic| skip)
local macro_rules | `(tactic| walk_at "m_pad") => `(tactic| skip)
local macro_rules | `(tactic| walk_at "m_pad") => `(tactic| skip)
local macro_rules | `(tactic| walk_at "m_pad") => `(tactic| skip)
local macro_rules | `(tactic| walk_at "m_pad") => `(tactic| skip)
local macro_rules | `(tactic| walk_at "m_pad") => `(tactic| skip)
local macro_rules | `(tactic| walk_at "m_pad") => `(tactic| skip)
local macro_rules | `(tactic| walk_at "m_pad") => `(tactic| skip)
local macro_rules | `(tactic| walk_at "m_pad") => `(tactic| skip)
local macro_rules | `(tactic| walk_at "m_pad") => `(tactic| skip)
open PySem PySem.W PyProof.Rows PySem.Calls PySem.Spec
set_option maxHeartbeats 2000000
local macro_rules | `(tactic| walk_at "leaving ref") => `(tactic| walk_at "m_leaveS")
section
variable {w : World} {mean : ExcName → Option Value} {mg mb : Str → Option Value} {A₀ : Around} {base : Heap} {outer : List Env} {s : Shared} {R : Result → Shared → Prop} {dp un : Nat} {gd : Option (List Code)} {l : Addr} {vs : List Value} {ns : List Int}
theorem isg_ct1 (B : Below A₀ base outer s.heap) (X : (hd.heap_39 w.params).In s.heap) (T : Top hd.view_39 lse mean mg mb s.heap) (XB : (hd.heap_39 w.params).In base) (TB : Top hd.view_39 lse mean mg mb base) (D : KtsDicts (outer.filterMap (·.frame)) s.heap)
    (hl : s.heap.IsList l vs.toArray) (hi : IntsAre vs ns) (hn : ns.length < 2 ^ 20)
    (hdp : dp + 80 < recursionLimit) (hun : un + 800 < cLine)
    (ret : ∀ h' tk' g', KtsTurn (outer.filterMap (·.frame)) s.heap g' → g'.StaysIn h' → R (.ok (.ret (.bool (egF ns)))) { s with heap := h', toks := tk' }) :
    codeAny (model PySem.Challenge.rw_fc0138_01.row.prog w) (atop dp un gd outer) (.call (.ref 106) ⟨[.ref l], []⟩) R s := by
  w_top off; k_with_none
  revert X; k_fill; intro X
  replace B : Below (atop dp un gd outer) base outer s.heap := ⟨rfl, B.stays, B.frames⟩
  walk_at "m_enter"
  k_with "call ref" => walk_at "m_eghh"
  k_steps
  all_goals ((try dsimp only); first | (refine' retG9 ret ?_ ?m1 ?m2; (case m1 => assumption); (case m2 => exact Fr.keep (by assumption))) | (refine' retG9 ret ?_ ?m1 ?m2; (case m1 => exact KtsTurn.refl); (case m2 => exact Fr.keep (by assumption))))
  all_goals rfl
theorem isg_ct2 {tk : Tok} (B : Below A₀ base outer s.heap) (X : (hd.heap_39 w.params).In s.heap) (T : Top hd.view_39 lse mean mg mb s.heap) (XB : (hd.heap_39 w.params).In base) (TB : Top hd.view_39 lse mean mg mb base) (D : KtsDicts (outer.filterMap (·.frame)) s.heap)
    (hl : s.heap.IsList l vs.toArray) (hi : IntsAre vs ns) (hn : ns.length < 2 ^ 20)
    (hdp : dp + 80 < recursionLimit) (hun : un + 800 < cLine)
    (ret : ∀ h' tk' g', KtsTurn (outer.filterMap (·.frame)) s.heap g' → g'.StaysIn h' → R (.ok (.ret (.bool (hhF ns)))) { s with heap := h', toks := tk' }) :
    codeAny (model PySem.Challenge.rw_fc0138_01.row.prog w) (atop dp un gd outer) (.call (.ref 106) ⟨[.ref l], [(PySem.Str.ofString "method", .str (PySem.Str.ofString "hh") tk)]⟩) R s := by
  w_top off; k_with_none
  revert X; k_fill; intro X
  replace B : Below (atop dp un gd outer) base outer s.heap := ⟨rfl, B.stays, B.frames⟩
  walk_at "m_enter"
  k_with "call ref" => walk_at "m_eghh"
  k_steps
  all_goals ((try dsimp only); first | (refine' retG9 ret ?_ ?m1 ?m2; (case m1 => assumption); (case m2 => exact Fr.keep (by assumption))) | (refine' retG9 ret ?_ ?m1 ?m2; (case m1 => exact KtsTurn.refl); (case m2 => exact Fr.keep (by assumption))))
  all_goals rfl
theorem isg_ct3 {tk : Tok} (B : Below A₀ base outer s.heap) (X : (hd.heap_39 w.params).In s.heap) (T : Top hd.view_39 lse mean mg mb s.heap) (XB : (hd.heap_39 w.params).In base) (TB : Top hd.view_39 lse mean mg mb base) (D : KtsDicts (outer.filterMap (·.frame)) s.heap)
    (hl : IsTup s.heap l vs.toArray) (hi : IntsAre vs ns) (hn : ns.length < 2 ^ 20)
    (hdp : dp + 80 < recursionLimit) (hun : un + 800 < cLine)
    (ret : ∀ h' tk' g', KtsTurn (outer.filterMap (·.frame)) s.heap g' → g'.StaysIn h' → R (.ok (.ret (.bool (egF ns)))) { s with heap := h', toks := tk' }) :
    codeAny (model PySem.Challenge.rw_fc0138_01.row.prog w) (atop dp un gd outer) (.call (.ref 106) ⟨[.ref l, .str (PySem.Str.ofString "eg") tk], []⟩) R s := by
  w_top off; k_with_none
  revert X; k_fill; intro X
  replace B : Below (atop dp un gd outer) base outer s.heap := ⟨rfl, B.stays, B.frames⟩
  walk_at "m_enter"
  k_with "call ref" => walk_at "m_eghh"
  k_steps
  all_goals ((try dsimp only); first | (refine' retG9 ret ?_ ?m1 ?m2; (case m1 => assumption); (case m2 => exact Fr.keep (by assumption))) | (refine' retG9 ret ?_ ?m1 ?m2; (case m1 => exact KtsTurn.refl); (case m2 => exact Fr.keep (by assumption))))
  all_goals rfl
theorem isg_ct4 {tk : Tok} (B : Below A₀ base outer s.heap) (X : (hd.heap_39 w.params).In s.heap) (T : Top hd.view_39 lse mean mg mb s.heap) (XB : (hd.heap_39 w.params).In base) (TB : Top hd.view_39 lse mean mg mb base) (D : KtsDicts (outer.filterMap (·.frame)) s.heap)
    (hl : s.heap.IsList l vs.toArray) (hi : IntsAre vs ns) (hn : ns.length < 2 ^ 20)
    (hdp : dp + 80 < recursionLimit) (hun : un + 800 < cLine)
    (exc : ∀ e t x h' tk', RaisedS base s.heap outer e (.ref 52) t [x] [] h' → s.heap.UpToSlots h' → R (.error (.ref e)) { s with heap := h', toks := tk' }) :
    codeAny (model PySem.Challenge.rw_fc0138_01.row.prog w) (atop dp un gd outer) (.call (.ref 106) ⟨[.ref l, .str (PySem.Str.ofString "other") tk], []⟩) R s := by
  w_top off; k_with_none
  revert X; k_fill; intro X
  replace B : Below (atop dp un gd outer) base outer s.heap := ⟨rfl, B.stays, B.frames⟩
  walk_at "m_enter"
  k_steps
  all_goals exact exc _ _ _ _ _ (by assumption) (by assumption)
end
end
section
local macro_rules | `(tactic| walk_at "m_pad") => `(tactic| skip)
local macro_rules | `(tactic| walk_at "m_pad") => `(tactic| skip)
local macro_rules | `(tactic| walk_at "m_pad") => `(tactic| skip)
local macro_rules | `(tactic| walk_at "m_pad") => `(tactic| skip)
local macro_rules | `(tactic| walk_at "m_pad") => `(tactic| skip)
local macro_rules | `(tactic| walk_at "m_pad") => `(tactic| skip)
local macro_rules | `(tactic| walk_at "m_pad") => `(tactic| skip)
local macro_rules | `(tactic| walk_at "m_pad") => `(tactic| skip)
local macro_rules | `(tactic| walk_at "m_pad") => `(tactic| skip)
local macro_rules | `(tactic| walk_at "m_pad") => `(tactic| skip)
local macro_rules | `(tactic| walk_at "m_pad") => `(tactic| skip)
local macro_rules | `(tactic| walk_at "m_pad") => `(tactic| skip)
local macro_rules | `(tactic| walk_at "m_pad") => `(tactic| skip)
local macro_rules | `(tactic| walk_at "m_pad") => `(tactic| skip)
open PySem PySem.W PyProof.Rows PySem.Calls PySem.Spec
set_option maxHeartbeats 2000000
def pseudoF (ns : List Int) : Bool := Int.fmod ns.sum 2 == 0 && !ns.any (· < 0)
theorem pseudo_end1 {ns : List Int} {M : Int} (h : Int.fmod ns.sum 2 = 0) (hm : M ∈ ns) (hl : ∀ x ∈ ns, M ≤ x) : decide (0 ≤ M) = pseudoF ns := by
  unfold pseudoF
  rw [h]
  by_cases hM : 0 ≤ M
  · have : ns.any (fun x => decide (x < 0)) = false := by
      rw [List.any_eq_false]
      intro x hx
      have := hl x hx
      simp; omega
    simp [hM, this]
  · have : ns.any (fun x => decide (x < 0)) = true := by
      rw [List.any_eq_true]
      exact ⟨M, hm, by simp; omega⟩
    simp [hM, this]
theorem pseudo_end2 {ns : List Int} (h : Int.fmod ns.sum 2 ≠ 0) : (Int.fmod ns.sum 2 == 0) = pseudoF ns := by
  unfold pseudoF
  have e : (Int.fmod ns.sum 2 == 0) = false := by simpa using h
  rw [e]; rfl
section
variable {w : World} {mean : ExcName → Option Value} {mg mb : Str → Option Value} {A₀ : Around} {base : Heap} {outer : List Env} {s : Shared} {R : Result → Shared → Prop} {dp un : Nat} {gd : Option (List Code)} {l : Addr} {vs : List Value} {ns : List Int}
theorem pseudo_ct (B : Below A₀ base outer s.heap) (X : (hd.heap_39 w.params).In s.heap) (T : Top hd.view_39 lse mean mg mb s.heap)
    (hl : s.heap.IsList l vs.toArray) (hi : IntsAre vs ns) (hn : ns.length < 2 ^ 20) (hn1 : 0 < ns.length)
    (hdp : dp + 80 < recursionLimit) (hun : un + 800 < cLine)
    (ret : ∀ h' tk', s.heap.StaysIn h' → R (.ok (.ret (.bool (pseudoF ns)))) { s with heap := h', toks := tk' }) :
    codeAny (model PySem.Challenge.rw_fc0138_01.row.prog w) (atop dp un gd outer) (.call (.ref 141) ⟨[.ref l], []⟩) R s := by
  w_top off; k_with_none
  revert X; k_fill; intro X
  replace B : Below (atop dp un gd outer) base outer s.heap := ⟨rfl, B.stays, B.frames⟩
  walk_at "m_enter"
  k_with "call ref" => walk_at "m_mkl"
  k_steps
  all_goals ((try dsimp only); refine' retB9 ret ?_ ?m2; (case m2 => exact Fr.keep (by assumption)))
  · exact pseudo_end1 (by assumption) (by assumption) (by assumption)
  · exact pseudo_end2 (by assumption)
end
end
section
open PySem PySem.W
set_option maxHeartbeats 400000
def lowRest (ns : List Int) (k : Int) : List Int :=
  [ns.getD 0 0 - 1] ++ List.take (min k.toNat ns.length - 1) (List.drop 1 ns) ++ [ns.getD k.toNat 0 - 1] ++ List.drop (k + 1).toNat ns
mutual
def someF : Nat → List Int → Bool → Bool
  | 0, _, _ => true
  | N + 1, ns, many =>
    if ns.length = 0 then true
    else if ns.getD 0 0 = 0 then someF N (List.drop 1 ns) many
    else (rangeKs 1 ((ns.length : Int) - 1).toNat).any fun k => decide (0 < ns.getD k.toNat 0) && (if many then someF N (lowRest ns k) many else simpF N (lowRest ns k) (k + 1))
def simpF : Nat → List Int → Int → Bool
  | 0, _, _ => true
  | N + 1, ns, st =>
    if ns.getD 0 0 = 0 then someF N (List.drop 1 ns) false
    else (rangeKs st ((ns.length : Int) - st).toNat).any fun k => decide (0 < ns.getD k.toNat 0) && simpF N (lowRest ns k) (k + 1)
end
def tS (N : Nat) (ns : List Int) (many : Bool) (k : Int) : Bool := decide (0 < ns.getD k.toNat 0) && (if many then someF N (lowRest ns k) many else simpF N (lowRest ns k) (k + 1))
def tM (N : Nat) (ns : List Int) (k : Int) : Bool := decide (0 < ns.getD k.toNat 0) && simpF N (lowRest ns k) (k + 1)
def lmes (ns : List Int) : Nat := ns.sum.toNat + ns.length
theorem low_split {ns : List Int} {k : Int} (h1 : 1 ≤ k) (h2 : k < (ns.length : Int)) :
    ns = [ns.getD 0 0] ++ List.take (min k.toNat ns.length - 1) (List.drop 1 ns) ++ [ns.getD k.toNat 0] ++ List.drop (k + 1).toNat ns := by
  obtain ⟨j, rfl⟩ : ∃ j : Nat, k = ((j + 1 : Nat) : Int) := ⟨(k - 1).toNat, by omega⟩
  have hj : j + 1 < ns.length := by omega
  have e1 : (((j + 1 : Nat) : Int)).toNat = j + 1 := by omega
  have e2 : (((j + 1 : Nat) : Int) + 1).toNat = j + 2 := by omega
  have e3 : min (j + 1) ns.length - 1 = j := by omega
  rw [e1, e2, e3]
  cases ns with
  | nil => simp at hj
  | cons x r =>
    have hr : j < r.length := by simpa using hj
    simp only [List.getD_cons_zero, List.drop_succ_cons, List.drop_zero, List.getD_cons_succ]
    have e4 : r.getD j 0 = r[j] := by rw [List.getD_eq_getElem?_getD, List.getElem?_eq_getElem hr]; rfl
    rw [e4]
    have e5 : r = r.take j ++ r[j] :: r.drop (j + 1) := by
      conv => lhs; rw [← List.take_append_drop j r]
      rw [List.drop_eq_getElem_cons hr]
    conv => lhs; rw [e5]
    simp
section
variable {ns : List Int} {k : Int} {N : Nat} {many : Bool}
theorem mem_getD {i : Nat} (h : i < ns.length) : ns.getD i 0 ∈ ns := by
  rw [List.getD_eq_getElem?_getD, List.getElem?_eq_getElem h]
  exact List.getElem_mem h
theorem drop_nonneg (h : ∀ x ∈ ns, 0 ≤ x) : ∀ x ∈ List.drop 1 ns, 0 ≤ x := fun x hx => h x (List.mem_of_mem_drop hx)
theorem low_nonneg (h : ∀ x ∈ ns, 0 ≤ x) (h0 : ns.getD 0 0 ≠ 0) (hk : 0 < ns.getD k.toNat 0) : ∀ x ∈ lowRest ns k, 0 ≤ x := by
  intro x hx
  have g0 := getD_ge h 0
  simp only [lowRest, List.mem_append, List.mem_singleton] at hx
  rcases hx with ((hx | hx) | hx) | hx
  · omega
  · exact h x (List.mem_of_mem_drop (List.mem_of_mem_take hx))
  · omega
  · exact h x (List.mem_of_mem_drop hx)
theorem sum_nonneg : ∀ {l : List Int}, (∀ x ∈ l, 0 ≤ x) → 0 ≤ l.sum
  | [], _ => Int.le_refl _
  | x :: r, h => by
    have := sum_nonneg (l := r) fun y hy => h y (List.mem_cons_of_mem _ hy)
    have := h x (List.mem_cons_self ..)
    rw [List.sum_cons]; omega
theorem low_sum (h1 : 1 ≤ k) (h2 : k < (ns.length : Int)) : (lowRest ns k).sum = ns.sum - 2 := by
  have e := congrArg List.sum (low_split h1 h2)
  simp only [List.sum_append, List.sum_cons, List.sum_nil] at e
  simp only [lowRest, List.sum_append, List.sum_cons, List.sum_nil]
  omega
theorem low_len (h1 : 1 ≤ k) (h2 : k < (ns.length : Int)) : (lowRest ns k).length = ns.length := by
  have e := congrArg List.length (low_split h1 h2)
  simp only [List.length_append, List.length_cons, List.length_nil] at e
  simp only [lowRest, List.length_append, List.length_cons, List.length_nil]
  omega
theorem low_mes (h : ∀ x ∈ ns, 0 ≤ x) (h0 : ns.getD 0 0 ≠ 0) (hk : 0 < ns.getD k.toNat 0) (h1 : 1 ≤ k) (h2 : k < (ns.length : Int)) (hm : lmes ns < N + 1) : lmes (lowRest ns k) < N := by
  have e1 := low_sum h1 h2
  have e2 := low_len h1 h2
  have e3 := sum_nonneg (low_nonneg h h0 hk)
  unfold lmes at hm ⊢
  omega
theorem drop_mes (h0 : ns.getD 0 0 = 0) (hl : 0 < ns.length) (hm : lmes ns < N + 1) : lmes (List.drop 1 ns) < N := by
  cases ns with
  | nil => simp at hl
  | cons x r =>
    simp only [List.getD_cons_zero] at h0
    subst h0
    simp [lmes] at hm ⊢
    omega
theorem any_start {p : Int → Bool} : ([] : List Int).any p = false := rfl
theorem any_turn {p : Int → Bool} {pre : List Int} (h : pre.any p = false) (hp : p k = false) : (pre ++ [k]).any p = false := by simp [h, hp]
theorem any_hit {p : Int → Bool} {a : Int} {n : Nat} {pre : List Int} (kEq : k = a + (pre.length : Int)) (kLt : pre.length < n) (hp : p k = true) : (rangeKs a n).any p = true := by
  rw [List.any_eq_true]
  exact ⟨k, kre_mem (by omega) (by omega), hp⟩
theorem tS_f0 (h : ¬ 0 < ns.getD k.toNat 0) : tS N ns many k = false := by
  unfold tS; rw [decide_eq_false h]; rfl
theorem tS_f1 (hm : many = true) (h : someF N (lowRest ns k) many = false) : tS N ns many k = false := by
  unfold tS; rw [if_pos hm, h, Bool.and_false]
theorem tS_f2 (hm : many = false) (h : simpF N (lowRest ns k) (k + 1) = false) : tS N ns many k = false := by
  unfold tS; rw [if_neg (by rw [hm]; decide), h, Bool.and_false]
theorem tS_t1 (hk : 0 < ns.getD k.toNat 0) (hm : many = true) (h : someF N (lowRest ns k) many = true) : tS N ns many k = true := by
  unfold tS; rw [if_pos hm, h, decide_eq_true hk]; rfl
theorem tS_t2 (hk : 0 < ns.getD k.toNat 0) (hm : many = false) (h : simpF N (lowRest ns k) (k + 1) = true) : tS N ns many k = true := by
  unfold tS; rw [if_neg (by rw [hm]; decide), h, decide_eq_true hk]; rfl
theorem tM_f0 (h : ¬ 0 < ns.getD k.toNat 0) : tM N ns k = false := by
  unfold tM; rw [decide_eq_false h]; rfl
theorem tM_f1 (h : simpF N (lowRest ns k) (k + 1) = false) : tM N ns k = false := by
  unfold tM; rw [h, Bool.and_false]
theorem tM_t1 (hk : 0 < ns.getD k.toNat 0) (h : simpF N (lowRest ns k) (k + 1) = true) : tM N ns k = true := by
  unfold tM; rw [h, decide_eq_true hk]; rfl
theorem someF_nil (h : ¬ 0 < ns.length) : true = someF (N + 1) ns many := by
  unfold someF; rw [if_pos (by omega)]
theorem someF_zero (h : 0 < ns.length) (h0 : ns.getD 0 0 = 0) : someF N (List.drop 1 ns) many = someF (N + 1) ns many := by
  conv => rhs; unfold someF
  rw [if_neg (by omega), if_pos h0]
theorem someF_any (h : 0 < ns.length) (h0 : ns.getD 0 0 ≠ 0) {b : Bool} (hb : (rangeKs 1 ((ns.length : Int) - 1).toNat).any (tS N ns many) = b) : b = someF (N + 1) ns many := by
  unfold someF; rw [if_neg (by omega), if_neg h0, ← hb]; rfl
theorem simpF_zero (h0 : ns.getD 0 0 = 0) {st : Int} : someF N (List.drop 1 ns) false = simpF (N + 1) ns st := by
  conv => rhs; unfold simpF
  rw [if_pos h0]
theorem simpF_any (h0 : ns.getD 0 0 ≠ 0) {st : Int} {b : Bool} (hb : (rangeKs st ((ns.length : Int) - st).toNat).any (tM N ns) = b) : b = simpF (N + 1) ns st := by
  unfold simpF; rw [if_neg h0, ← hb]; rfl
end
end
section
open PySem PySem.W PyProof.Rows PySem.Calls PySem.Spec
set_option maxHeartbeats 1000000
/-- a contract of a def that hands back a bool and leaves all as it was -/
structure CtB (w : World) (mean : ExcName → Option Value) (mg mb : Str → Option Value) (f : Addr) (args : List Value) (dn un' : Nat) (pre : Heap → Prop) (v : Bool) : Prop where
  run : ∀ {A₀ : Around} {base : Heap} {outer : List Env} {s : Shared} {R : Result → Shared → Prop} {dp un : Nat} {gd : Option (List Code)},
    Below A₀ base outer s.heap → (hd.heap_39 w.params).In s.heap → Top hd.view_39 lse mean mg mb s.heap → pre s.heap → dp + dn < recursionLimit → un + un' < cLine →
    (∀ h' tk', s.heap.StaysIn h' → R (.ok (.ret (.bool v))) { s with heap := h', toks := tk' }) →
    codeAny (model PySem.Challenge.rw_fc0138_01.row.prog w) (atop dp un gd outer) (.call (.ref f) ⟨args, []⟩) R s
theorem ctb_call {w : World} {mean : ExcName → Option Value} {mg mb : Str → Option Value} {f : Addr} {args : List Value} {dn un' : Nat} {pre : Heap → Prop} {v : Bool} (C : CtB w mean mg mb f args dn un' pre v)
    {A₀ A : Around} {base h₀ : Heap} {outer : List Env} {env : Env} {L : Addr} {m : Str → Option Value} {news : List (Addr × Obj)} {s : Shared} {Q E : Value → Shared → Prop}
    (B : Below A₀ base outer h₀) (F : Fr h₀ L s.heap m) (X : (hd.heap_39 w.params).In h₀) (N : News h₀ L s.heap news) (T : Top hd.view_39 lse mean mg mb h₀)
    (hA : A.frames = some (env :: outer)) (hh : A.handled = none) (hf : env.frame = some L) (hk : env.scope.kind = .function)
    (hp : pre s.heap) (hdp : A.depth + dn < recursionLimit) (hun : A.units + un' < cLine)
    (h : ∀ h' tk', Fr h₀ L h' m → News h₀ L h' news → Q (.bool v) { s with heap := h', toks := tk' }) :
    wpAny (model PySem.Challenge.rw_fc0138_01.row.prog w) A (call (.ref f) args) Q E s := by
  obtain ⟨hd, dp, fr, gd, un⟩ := A
  simp only at hA hh hdp hun
  subst hA hh
  have B' := pushX B F hf hk
  have B9 : Below (atop 0 0 none (env :: outer)) base (env :: outer) s.heap := ⟨rfl, B'.stays, B'.frames⟩
  exact wpAny_call (C.run B9 (X.keeps F.keep) (T.keeps F.keep) hp hdp hun fun h' tk' st => h h' tk' (fr_stay9 F st) (news_stay9 N st))
theorem call_SC {prog : Program} {w : World} {A₀ : Around} {base : Heap} {outer : List Env} {s : Shared} {K : Frag} {name qual : Str} {params : Arguments} {body : List Stmt} {scope : Scope}
    {dV kV doc pm cdv ct oc : Value} {an od : Option Addr} {osl : Array (Option Value)} {f : Addr} {args : Args} {binds : List (Str × Value)} {R : Result → Shared → Prop} {dp un : Nat} {gd : Option (List Code)}
    (_B : Below A₀ base outer s.heap) (X : K.In s.heap) (hlim : s.heap.NoLimit)
    (ho : K.lookup f = some ⟨oc, od, .func (fnOf name qual params body scope dV kV doc pm an cdv ct), osl⟩) (hcd : codeIn K cdv qual = true) (hroom : dp < recursionLimit)
    (hbind : BindsTo s (fnOf name qual params body scope dV kV doc pm an cdv ct) args binds) (hkind : (binds.all fun y => scope.names.lookup y.1 == some .local || scope.names.lookup y.1 == some .cell) = true)
    (hnd : ((cellsFrom 0 scope.names []).map (·.1)).Nodup)
    (h : ∀ L' h₁ tk cells, Fr s.heap L' h₁ (bindL (envOfC qual scope L' f cdv).kindOf binds fun _ => none) → News s.heap L' h₁ cells →
      CellsAre (bindC (envOfC qual scope L' f cdv).kindOf binds fun _ => none) (cellsFrom (L' + 1) scope.names []) cells →
      wpAny (model prog w) ((atop dp un gd outer).deeper (envOfC qual scope L' f cdv)) (execs body (envOfC qual scope L' f cdv))
        (fun fl s' => R (.ok (.ret (match fl with | .ret v => v | _ => .none))) s')
        (fun e s' => wpAny (model prog w) ((atop dp un gd outer).deeper (envOfC qual scope L' f cdv)) (leaving (envOfC qual scope L' f cdv) e) (fun _ s'' => R (.error e) s'') (fun e' s'' => R (.error e') s'') s')
        { s with heap := h₁, toks := tk })
    (hco : scope.isCoroutine = false) (hgen : scope.isGenerator = false) (hk : scope.kind = .function) : codeAny (model prog w) (atop dp un gd outer) (.call (.ref f) args) R s := by
  refine codeAny_call_function hroom (X _ _ ho) rfl hco hgen rfl (codeRec_of X hcd) (hbind _ _ _ _ ?_)
  refine wpAny_newFunctionEnv_cells hk (kindsX hkind _) fun env' he s' x => ?_
  subst he
  refine ⟨hlim.keeps x.toInCall.keep, codeAny_func ?_⟩
  obtain ⟨h₁, tk, rfl, _⟩ := x.done
  have hk₁ := x.toInCall.keep
  obtain ⟨cells, NC, Y⟩ := Cl.news (h₀ := s.heap) (Nat.le_refl _) fun n c hm => ⟨x.cell n c (lookup_of_mem_nodup (cellsFrom_names scope.names 0 (s.heap.objs.size + 1) [] [] rfl ▸ hnd) hm), x.above n c hm⟩
  exact h _ h₁ tk cells ⟨x.toInCall.ns, hk₁, Nat.le_refl _⟩ NC Y
end
section
local macro_rules | `(tactic| walk_at "m_pad") => `(tactic| skip)
local macro_rules | `(tactic| walk_at "m_pad") => `(tactic| skip)
local macro_rules | `(tactic| walk_at "m_pad") => `(tactic| skip)
local macro_rules | `(tactic| walk_at "m_pad") => `(tactic| skip)
local macro_rules | `(tactic| walk_at "m_pad") => `(tactic| skip)
local macro_rules | `(tactic| walk_at "m_pad") => `(tactic| skip)
local macro_rules | `(tactic| walk_at "m_pad") => `(tactic| skip)
local macro_rules | `(tactic| walk_at "m_pad") => `(tactic| skip)
local macro_rules | `(tactic| walk_at "m_pad") => `(tactic| skip)
local macro_rules | `(tactic| walk_at "m_pad") => `(tactic| skip)
local macro_rules | `(tactic| walk_at "m_pad") => `(tactic| skip)
local macro_rules | `(tactic| walk_at "m_pad") => `(tactic| skip)
local macro_rules | `(tactic| walk_at "m_pad") => `(tactic| skip)
local macro_rules | `(tactic| walk_at "m_pad") => `(tactic| skip)
local macro_rules | `(tactic| walk_at "m_pad") => `(tactic| skip)
open PySem PySem.W PyProof.Rows PySem.Calls PySem.Spec
set_option maxHeartbeats 4000000
local macro_rules | `(tactic| walk_at "subscriptTail Name Slice ref ref") => `(tactic| (k_here; (with_reducible show wpAny _ _ (subscriptTail _ (PySem.Expr.Slice _ _ none _) (Value.ref _) (Value.ref _)) _ _ _); k_dflt (refine' kmk_slice_ints ?F ?N ?l ?p ?q ?i ?m ?c ?_ ?s ?t ?z; (case F => k_asm); (case N => k_asm); (case l => kmk_list); (case p => kmk_part); (case q => kmk_part); (case i => l_ints); (case m => first | exact kmk_from (by l_ints) (by first | decide | omega) | exact kmk_run (by l_ints) (by first | decide | omega) (by first | decide | omega) | exact kmk_upto (by l_ints) (by first | decide | omega)); (case c => kmk_len); (case s => with_unfolding_all rfl); (case t => kmk_pure); (case z => kmk_size)); intro D' ws' h' F' N' l1 hI' hC' hL'; (try simp only [Int.reduceNeg, Int.neg_neg, Int.reduceToNat] at hI' hC' hL'); (try k_lt l1); (try k_sweep)))
abbrev LawS (w : World) (mean : ExcName → Option Value) (mg mb : Str → Option Value) (N : Nat) : Prop := ∀ (ns : List Int) (many : Bool) (l : Addr) (vs : List Value), IntsAre vs ns → (∀ x ∈ ns, 0 ≤ x) → lmes ns < N → ns.length < 2 ^ 20 →
  CtB w mean mg mb 155 [.ref l, .bool many] (N + 20) (8 * N + 200) (fun h => h.IsList l vs.toArray) (someF N ns many)
abbrev LawM (w : World) (mean : ExcName → Option Value) (mg mb : Str → Option Value) (N : Nat) : Prop := ∀ (ns : List Int) (st : Int) (tk : Tok) (l : Addr) (vs : List Value), IntsAre vs ns → (∀ x ∈ ns, 0 ≤ x) → lmes ns < N → ns.length < 2 ^ 20 → 0 < ns.length → (1 ≤ st ∧ st ≤ 1048576) →
  CtB w mean mg mb 162 [.ref l, .int st tk] (N + 20) (8 * N + 200) (fun h => h.IsList l vs.toArray) (simpF N ns st)
section
variable {w : World} {mean : ExcName → Option Value} {mg mb : Str → Option Value} {N : Nat} {A₀ A : Around} {base h₀ : Heap} {outer : List Env} {env : Env} {L : Addr} {m : Str → Option Value} {news : List (Addr × Obj)} {s : Shared} {Q E : Value → Shared → Prop} {ns : List Int} {many : Bool} {st : Int} {tk : Tok} {l : Addr} {vs : List Value}
theorem lawS_call (ih : LawS w mean mg mb N) (B : Below A₀ base outer h₀) (F : Fr h₀ L s.heap m) (X : (hd.heap_39 w.params).In h₀) (Ne : News h₀ L s.heap news) (T : Top hd.view_39 lse mean mg mb h₀)
    (hA : A.frames = some (env :: outer)) (hh : A.handled = none) (hf : env.frame = some L) (hk : env.scope.kind = .function)
    (hl : s.heap.IsList l vs.toArray) (hi : IntsAre vs ns) (hnn : ∀ x ∈ ns, 0 ≤ x) (hms : lmes ns < N) (hn : ns.length < 2 ^ 20) (hdp : A.depth + (N + 20) < recursionLimit) (hun : A.units + (8 * N + 200) < cLine)
    (h : ∀ h' tk', Fr h₀ L h' m → News h₀ L h' news → Q (.bool (someF N ns many)) { s with heap := h', toks := tk' }) :
    wpAny (model PySem.Challenge.rw_fc0138_01.row.prog w) A (call (.ref 155) [.ref l, .bool many]) Q E s :=
  ctb_call (ih ns many l vs hi hnn hms hn) B F X Ne T hA hh hf hk hl hdp hun h
theorem lawM_call (ih : LawM w mean mg mb N) (B : Below A₀ base outer h₀) (F : Fr h₀ L s.heap m) (X : (hd.heap_39 w.params).In h₀) (Ne : News h₀ L s.heap news) (T : Top hd.view_39 lse mean mg mb h₀)
    (hA : A.frames = some (env :: outer)) (hh : A.handled = none) (hf : env.frame = some L) (hk : env.scope.kind = .function)
    (hl : s.heap.IsList l vs.toArray) (hi : IntsAre vs ns) (hnn : ∀ x ∈ ns, 0 ≤ x) (hms : lmes ns < N) (hn : ns.length < 2 ^ 20) (hn1 : 0 < ns.length) (hs1 : 1 ≤ st ∧ st ≤ 1048576) (hdp : A.depth + (N + 20) < recursionLimit) (hun : A.units + (8 * N + 200) < cLine)
    (h : ∀ h' tk', Fr h₀ L h' m → News h₀ L h' news → Q (.bool (simpF N ns st)) { s with heap := h', toks := tk' }) :
    wpAny (model PySem.Challenge.rw_fc0138_01.row.prog w) A (call (.ref 162) [.ref l, .int st tk]) Q E s :=
  ctb_call (ih ns st tk l vs hi hnn hms hn hn1 hs1) B F X Ne T hA hh hf hk hl hdp hun h
end
local macro_rules | `(tactic| walk_at "m_kg") => `(tactic| first | exact drop_nonneg (by assumption) | exact low_nonneg (by assumption) (by assumption) (by assumption))
local macro_rules | `(tactic| walk_at "m_km") => `(tactic| first | exact drop_mes (by assumption) (by assumption) (by assumption) | exact low_mes (by assumption) (by assumption) (by assumption) (by omega) (by omega) (by assumption))
local macro_rules | `(tactic| walk_at "m_kb") => `(tactic| first | (refine Nat.lt_of_le_of_lt (Nat.le_of_eq (low_len (by omega) (by omega))) ?_; assumption) | (rw [List.length_drop]; omega))
local macro_rules | `(tactic| walk_at "m_kc") => `(tactic| (refine Nat.lt_of_lt_of_le ?_ (Nat.le_of_eq (low_len (by omega) (by omega)).symm); assumption))
local macro_rules | `(tactic| walk_at "m_law") => `(tactic| ((first | (refine' lawS_call ?kih ?k1 ?k2 ?k3 ?k4 ?k5 ?k6 ?k7 ?k8 ?k9 ?kl ?ki ?kg ?km ?kb ?kd ?ku ?kR) | (refine' lawM_call ?kih ?k1 ?k2 ?k3 ?k4 ?k5 ?k6 ?k7 ?k8 ?k9 ?kl ?ki ?kg ?km ?kb ?kc ?ks ?kd ?ku ?kR; (case ks => exact ⟨by omega, by omega⟩))); (case kih => assumption); (case k1 => k_asm); (case k2 => k_asm); (case k3 => k_asm); (case k4 => k_asm); (case k5 => k_asm); (case k6 => exact rfl); (case k7 => exact rfl); (case k8 => exact rfl); (case k9 => exact rfl); (case kl => is_list); (case ki => l_ints); (case kg => walk_at "m_kg"); (case km => walk_at "m_km"); (case kb => walk_at "m_kb"); (try (case kc => walk_at "m_kc")); (case kd => walk_at "m_room"); (case ku => walk_at "m_room"); k_whole; (case' kR => (intro h9 tk9 F9 N9; (try dsimp only)))))
theorem law_S {w : World} {mean : ExcName → Option Value} {mg mb : Str → Option Value} {N : Nat} (ihS : LawS w mean mg mb N) (ihM : LawM w mean mg mb N) : LawS w mean mg mb (N + 1) := by
  intro ns many l vs hi hnn hms hn
  refine ⟨?_⟩
  intro A₀ base outer s R dp un gd B X T hl hdp hun ret
  replace hl : s.heap.IsList l vs.toArray := hl
  w_top off; k_with_none
  revert X; k_fill; intro X
  replace B : Below (atop dp un gd outer) base outer s.heap := ⟨rfl, B.stays, B.frames⟩
  walk_at "m_enter"
  k_with "call ref" => walk_at "m_law"
  k_with "binaryOp Add int int" => walk_at "m_addG"
  k_with "binaryOp Sub int int" => walk_at "m_subG"
  k_with "pyIter ref" => k_search (fun pre => pre.any (tS N ns many) = false)
  k_with "state" => exact any_start
  k_with "state" => exact any_turn (by assumption) (tS_f0 (by assumption))
  k_with "state" => exact any_turn (by assumption) (tS_f1 (by assumption) (by assumption))
  k_with "state" => exact any_turn (by assumption) (tS_f2 (by assumption) (by assumption))
  k_steps
  all_goals ((try dsimp only); refine' retB9 ret ?_ ?m2; (case m2 => exact Fr.keep (by assumption)))
  · exact someF_zero (by assumption) (by assumption)
  · exact someF_any (by assumption) (by assumption) (any_hit (by assumption) (by assumption) (tS_t1 (by assumption) (by assumption) (by assumption)))
  · exact someF_any (by assumption) (by assumption) (any_hit (by assumption) (by assumption) (tS_t2 (by assumption) (by assumption) (by assumption)))
  · exact someF_any (by assumption) (by assumption) (by assumption)
  · exact someF_nil (by assumption)
theorem law_M {w : World} {mean : ExcName → Option Value} {mg mb : Str → Option Value} {N : Nat} (ihS : LawS w mean mg mb N) (ihM : LawM w mean mg mb N) : LawM w mean mg mb (N + 1) := by
  intro ns st tk l vs hi hnn hms hn hn1 hs1
  refine ⟨?_⟩
  intro A₀ base outer s R dp un gd B X T hl hdp hun ret
  replace hl : s.heap.IsList l vs.toArray := hl
  w_top off; k_with_none
  revert X; k_fill; intro X
  replace B : Below (atop dp un gd outer) base outer s.heap := ⟨rfl, B.stays, B.frames⟩
  walk_at "m_enter"
  k_with "call ref" => walk_at "m_law"
  k_with "binaryOp Add int int" => walk_at "m_addG"
  k_with "binaryOp Sub int int" => walk_at "m_subG"
  k_with "pyIter ref" => k_search (fun pre => pre.any (tM N ns) = false)
  k_with "state" => exact any_start
  k_with "state" => exact any_turn (by assumption) (tM_f0 (by assumption))
  k_with "state" => exact any_turn (by assumption) (tM_f1 (by assumption))
  k_steps
  all_goals ((try dsimp only); refine' retB9 ret ?_ ?m2; (case m2 => exact Fr.keep (by assumption)))
  · exact simpF_zero (by assumption)
  · exact simpF_any (by assumption) (any_hit (by assumption) (by assumption) (tM_t1 (by assumption) (by assumption)))
  · exact simpF_any (by assumption) (by assumption)
theorem law_SM {w : World} {mean : ExcName → Option Value} {mg mb : Str → Option Value} : ∀ N, LawS w mean mg mb N ∧ LawM w mean mg mb N
  | 0 => ⟨fun _ _ _ _ _ _ h => absurd h (Nat.not_lt_zero _), fun _ _ _ _ _ _ _ h => absurd h (Nat.not_lt_zero _)⟩
  | N + 1 => ⟨law_S (law_SM N).1 (law_SM N).2, law_M (law_SM N).1 (law_SM N).2⟩
end
section
open PySem PySem.W PyProof.Rows PySem.Calls PySem.Spec
set_option maxHeartbeats 1000000
def RCEnd (s : Shared) (h₀ : Heap) (L c I : Addr) (oI : Obj) (m : Str → Option Value) (J : List (Addr × Obj) → Prop) (s' : Shared) : Prop :=
  ∃ h' tk' o'' news₂, s' = { s with heap := h', toks := tk' } ∧ Fr h₀ L h' m ∧ News h₀ L h' ((I, oI) :: (c, o'') :: news₂) ∧ (∃ v, o''.data = .cell v) ∧ J news₂
theorem rc_end {s s' : Shared} {h₀ : Heap} {L c I e1 a1 : Addr} {oI oE o3 : Obj} {m : Str → Option Value} {J : List (Addr × Obj) → Prop} {h' : Heap} {tk' : Nat} {o'' : Obj} {v : Option Value} {pre : List (Addr × Obj)} {news : List (Addr × Obj)}
    (e : s' = { s with heap := h', toks := tk' }) (F : Fr h₀ L h' m) (N : News h₀ L h' (pre ++ ((I, oI) :: (c, o'') :: news))) (hv : o''.data = .cell v) (hJ : J news) : RCEnd s h₀ L c I oI m J s' :=
  ⟨h', tk', o'', news, e, F, fun p hp => N p (List.mem_append_right _ hp), ⟨v, hv⟩, hJ⟩
theorem range_cell {prog : Program} {w : World} {A : Around} {env : Env} {h₀ : Heap} {L c r : Addr} {x : Str} {px : Pos} {body : List Stmt} {Q : Flow → Shared → Prop} {E : Value → Shared → Prop} {s : Shared} {a₀ b₀ : Int} {n : Nat} {t₀ u₀ v₀ : Tok} {m : Str → Option Value} {o : Obj} {news : List (Addr × Obj)}
    (J : Nat → List (Addr × Obj) → Prop) (hJ : ∀ i l, J i l → l.map (·.1) = news.map (·.1))
    (hh : A.handled = none) (hx : env.kindOf x = some .cell) (hc : env.cells.lookup x = some c) (hk : env.scope.kind = .function)
    (hr : IsRange s.heap r a₀ b₀ 1 t₀ u₀ v₀) (hsmall : Builtin.Range.small a₀ b₀ 1 = true) (hn : Builtin.Range.rangeSize a₀ b₀ 1 = (n : Int))
    (F : Fr h₀ L s.heap m) (N : News h₀ L s.heap ((c, o) :: news)) (ho : ∃ v, o.data = .cell v) (hcn : ∀ p ∈ news, p.1 ≠ c) (h0 : J 0 news)
    (turn : ∀ i t h tk I oI o' news₁, i < n → J i news₁ → I ≠ c → (∀ p ∈ news, p.1 ≠ I) → Fr h₀ L h m → News h₀ L h ((I, oI) :: (c, o') :: news₁) → o'.data = .cell (some (.int (a₀ + (i : Nat)) t)) →
      wpAny (model prog w) A (execs body env) (fun f s' => match f with
        | .ret v => Q (.ret v) s'
        | .brk => Q .next s'
        | _ => RCEnd s h₀ L c I oI m (J (i + 1)) s') E { s with heap := h, toks := tk })
    (done : ∀ h tk o' news₁, Fr h₀ L h m → News h₀ L h ((c, o') :: news₁) → (∃ v, o'.data = .cell v) → J n news₁ → Q .next { s with heap := h, toks := tk })
    (hE : PassesOwn (model prog w) A env E) :
    wpAny (model prog w) A (pyIter (.ref r)) (fun it s₂ => codeAny (model prog w) A (.forLoop (.Name x px) it body [] env) (fun r s' => match r with | .ok f => Q f s' | .error e => cameBackBy (model prog w) A env E e s') s₂) E s := by
  refine wpAny_pyIter_range hr hsmall ?_
  have W := Walks.range (prog := prog) (w := w) hh s.heap.objs.size a₀ 1 n
  have nc := N (c, o) (.head _)
  have hcI : s.heap.objs.size ≠ c := Nat.ne_of_gt (Heap.lt_size nc.1)
  have hnI : ∀ p ∈ news, p.1 ≠ s.heap.objs.size := fun p hp => Nat.ne_of_lt (Heap.lt_size (N p (.tail _ hp)).1)
  have hLI : L ≠ s.heap.objs.size := Nat.ne_of_lt F.ns.lt
  have hnone : h₀.get? s.heap.objs.size = none := next_is_new F
  have keepN : ∀ (l : List (Addr × Obj)), l.map (·.1) = news.map (·.1) → ∀ p ∈ l, p.1 ≠ s.heap.objs.size ∧ p.1 ≠ c := by
    intro l e p hp
    have : p.1 ∈ news.map (·.1) := by rw [← e]; exact List.mem_map_of_mem hp
    obtain ⟨q, hq, e'⟩ := List.mem_map.mp this
    rw [← e']
    exact ⟨hnI q hq, hcn q hq⟩
  refine codeAny_forLoop
    (fun k s' => ∃ h' tk o' l i, s' = { s with heap := h', toks := tk } ∧ IsRangeIter h' s.heap.objs.size (a₀ + (i : Nat) * 1) ((n : Int) - (i : Nat)) 1 ∧ Fr h₀ L h' m ∧ News h₀ L h' ((c, o') :: l) ∧ (∃ v, o'.data = .cell v) ∧ J i l ∧ i ≤ n ∧ k = n + 1 - i) ?_ (n + 1)
    ⟨_, s.toks, o, news, 0, rfl, by rw [hn]; simpa using Heap.get?_push_size _ rfl, F.push _, (fun p hp => ⟨Heap.get?_push_of_some _ (N p hp).1, (N p hp).2⟩), ho, h0, Nat.zero_le _, rfl⟩
  rintro k s' ⟨h', tk, o', l, i, rfl, hst, F', N', ⟨v', hv'⟩, hJi, hi, rfl⟩
  have kl := keepN l (hJ _ _ hJi)
  have next : ∀ h₁ : Heap, (∀ b o, b ∉ [s.heap.objs.size] → h'.get? b = some o → h₁.get? b = some o) → Fr h₀ L h₁ m ∧ News h₀ L h₁ ((c, o') :: l) := fun h₁ hk₁ =>
    ⟨⟨F'.ns.at' fun o e => hk₁ _ o (by simpa using hLI) e, fun b ob e => hk₁ b ob (by
        intro hb
        rw [List.mem_singleton.mp hb, hnone] at e; cases e) (F'.keep b ob e), F'.above⟩, fun p hp => ⟨hk₁ _ _ (by
        rcases List.mem_cons.mp hp with rfl | hp
        · simpa using Ne.symm hcI
        · simpa using (kl p hp).1) (N' p hp).1, (N' p hp).2⟩⟩
  by_cases hlt : i < n
  · refine W.item i _ _ _ hlt hst fun v h₁ tk₁ hP hst₁ hk₁ => ?_
    obtain ⟨F₁, N₁⟩ := next h₁ hk₁
    obtain ⟨t, rfl⟩ := hP
    have hcc : h₁.IsCell c (some (.int 0 0)) ∨ h₁.IsCell c v' := .inr ⟨o', (N₁ (c, o') (.head _)).1, hv'⟩
    refine wpAny_assign_Name (wpAny_storeName_cell hk hx hc ⟨o', (N₁ (c, o') (.head _)).1, hv'⟩ fun h₂ hcell hsb => ?_)
    obtain ⟨o₂, ho₂, hd₂⟩ := hcell
    have hcL : c ≠ L := nc.2.1
    have F₂ : Fr h₀ L h₂ m := ⟨F₁.ns.sameBut hsb (Ne.symm hcL), fun b ob e => (hsb.2 b (fun q => by rw [q, nc.2.2] at e; cases e)).trans (F₁.keep b ob e), F₁.above⟩
    have hoI : ∃ oI, h₁.get? s.heap.objs.size = some oI := ⟨_, hst₁⟩
    obtain ⟨oI, hoI⟩ := hoI
    have hoI₂ : h₂.get? s.heap.objs.size = some oI := (hsb.2 _ hcI).trans hoI
    have N₂ : News h₀ L h₂ ((s.heap.objs.size, oI) :: (c, o₂) :: l) := by
      intro p hp
      rcases List.mem_cons.mp hp with rfl | hp
      · exact ⟨hoI₂, Ne.symm hLI, hnone⟩
      rcases List.mem_cons.mp hp with rfl | hp
      · exact ⟨ho₂, nc.2⟩
      · have := N₁ p (.tail _ hp)
        exact ⟨(hsb.2 _ (kl p hp).2).trans this.1, this.2⟩
    have e1 : a₀ + (i : Int) * 1 = a₀ + (i : Nat) := by omega
    rw [e1] at hd₂
    refine wpAny_passesOwn hE (wpAny_mono (turn i t h₂ tk₁ s.heap.objs.size oI o₂ l hlt hJi hcI hnI F₂ N₂ hd₂) (fun f s₃ h₃ => ?_) fun _ _ e => e)
    have fin : (∃ h' tk' o'' news₂, s₃ = { s with heap := h', toks := tk' } ∧ Fr h₀ L h' m ∧ News h₀ L h' ((s.heap.objs.size, oI) :: (c, o'') :: news₂) ∧ (∃ v, o''.data = .cell v) ∧ J (i + 1) news₂) →
        ∃ m_1, m_1 < n + 1 - i ∧ ∃ h' tk o' l i, s₃ = { s with heap := h', toks := tk } ∧ IsRangeIter h' s.heap.objs.size (a₀ + (i : Nat) * 1) ((n : Int) - (i : Nat)) 1 ∧ Fr h₀ L h' m ∧ News h₀ L h' ((c, o') :: l) ∧ (∃ v, o'.data = .cell v) ∧ J i l ∧ i ≤ n ∧ m_1 = n + 1 - i := by
      rintro ⟨h₄, tk₄, o₄, l₄, rfl, F₄, N₄, hv₄, hJ₄⟩
      refine ⟨n + 1 - (i + 1), by omega, h₄, tk₄, o₄, l₄, i + 1, rfl, ?_, F₄, fun p hp => N₄ p (.tail _ hp), hv₄, hJ₄, hlt, rfl⟩
      refine W.frame _ _ _ hst₁ fun b hb ob e => ?_
      rw [List.mem_singleton.mp hb, hoI] at e
      cases e
      rw [List.mem_singleton.mp hb]
      exact (N₄ _ (.head _)).1
    cases f with
    | ret v => exact h₃
    | brk => exact h₃
    | cont => exact fin h₃
    | next => exact fin h₃
  · have hin : i = n := by omega
    subst hin
    refine W.done _ _ _ hst fun h₁ tk₁ hk₁ => wpAny_execs_nil ?_
    obtain ⟨F₁, N₁⟩ := next h₁ hk₁
    exact done h₁ tk₁ o' l F₁ N₁ ⟨v', hv'⟩ hJi
end
section
open PySem PySem.W PyProof.Rows PySem.Calls PySem.Spec
set_option maxHeartbeats 1000000
theorem ev_minus {prog : Program} {w : World} {A : Around} {ce : Env} {E : Value → Shared → Prop} {s₂ : Shared} {l1 D : Addr} {vs1 ysE : List Value} {is es : List Int} {a : Int} {ta : Tok} {m₂ : Str → Option Value} {c1 c2 : Addr} {o1 o2 : Obj} {p1 p2 p3 p4 p5 p6 p7 p8 p9 p10 : Pos}
    (hk : ce.scope.kind = .function) (x1 : ce.kindOf "ins" = some .cell) (x2 : ce.kindOf "ends" = some .cell) (xv : ce.kindOf "v" = some .local)
    (q1 : ce.cells.lookup ("ins" : Str) = some c1) (q2 : ce.cells.lookup ("ends" : Str) = some c2)
    (g1 : s₂.heap.get? c1 = some o1) (e1 : o1.data = .cell (some (.ref l1))) (g2 : s₂.heap.get? c2 = some o2) (e2 : o2.data = .cell (some (.ref D)))
    (hn : s₂.heap.Ns ce.locals m₂) (hv : m₂ "v" = some (.int a ta))
    (hl1 : s₂.heap.IsList l1 vs1.toArray) (hi1 : IntsAre vs1 is) (hD : s₂.heap.IsList D ysE.toArray) (hiE : IntsAre ysE es) (ha : 0 ≤ a ∧ a < (is.length : Int)) (hlen : is.length ≤ 4) :
    wpAny (model prog w) A (eval (.BinOp (.Subscript (.Name "ins" p1) (.Name "v" p2) p3) .Sub (.IfExp (.Compare (.Name "v" p4) [.In] [.Name "ends" p5] p6) (.Constant (.int 1) 0 p7) (.Constant (.int 0) 0 p8) p9) p10) ce)
      (fun y s₃ => Carried y (.int (is.getD a.toNat 0 - if es.any (· == a) then 1 else 0)) ∧ Keeps s₂ s₃) E s₂ := by
  refine wpAny_BinOp (Subscript_ (wpAny_Name (wpAny_loadName_cell hk x1 q1 ⟨o1, g1, e1⟩ ?_) (by decide)))
  refine wpAny_Name (wpAny_loadName_local hk xv hn hv ?_) (by decide)
  refine item_list_ints hl1 hi1 ha.1 ha.2 (by omega) fun t => ?_
  refine wpAny_IfExp (wpAny_isTrue_Compare1 ?_)
  refine wpAny_Name (wpAny_loadName_local hk xv hn hv ?_) (by decide)
  refine wpAny_Name (wpAny_loadName_cell hk x2 q2 ⟨o2, g2, e2⟩ ?_) (by decide)
  refine in_list_ints hD hiE ?_
  refine wpAny_truthy_bool ?_
  cases hb : es.any (· == a)
  · simp only [Bool.false_eq_true, if_false]
    refine wpAny_Constant_int (subG fun t' tk => ⟨.int _ _, ⟨s₂.heap, tk, rfl, fun _ _ e => e⟩⟩)
  · simp only [if_true]
    refine wpAny_Constant_int (subG fun t' tk => ⟨.int _ _, ⟨s₂.heap, tk, rfl, fun _ _ e => e⟩⟩)
def minusE (is es : List Int) : List Int := (rangeInts 0 1 is.length).map fun a => is.getD a.toNat 0 - if es.any (· == a) then 1 else 0
def LcM (h₀ : Heap) (L : Addr) (m : Str → Option Value) (news : List (Addr × Obj)) (is es : List Int) (Q : Value → Shared → Prop) (xv : Value) (s₁ : Shared) : Prop :=
  ∃ r t₀ u₀ v₀, xv = .ref r ∧ IsRange s₁.heap r 0 (is.length : Int) 1 t₀ u₀ v₀ ∧ Fr h₀ L s₁.heap m ∧ News h₀ L s₁.heap news ∧
    ∀ D' ys h' tk, Fr h₀ L h' m → News h₀ L h' news → h₀.get? D' = none → h'.IsList D' ys.toArray → NewPlain h' news D' ys.toArray → IntsAre ys (minusE is es) → Q (.ref D') { s₁ with heap := h', toks := tk }
theorem small4 : ∀ n : Nat, n ≤ 4 → Builtin.Range.small 0 (n : Int) 1 = true ∧ Builtin.Range.rangeSize 0 (n : Int) 1 = (n : Int) := by
  intro n hn
  have k : ∀ n : Fin 5, Builtin.Range.small 0 (n.val : Int) 1 = true ∧ Builtin.Range.rangeSize 0 (n.val : Int) 1 = (n.val : Int) := by decide +kernel
  exact k ⟨n, by omega⟩
theorem lc_minus {prog : Program} {w : World} {A : Around} {env : Env} {E : Value → Shared → Prop} {s : Shared} {h₀ : Heap} {L : Addr} {m : Str → Option Value} {news : List (Addr × Obj)} {scope : Scope} {cl : List (Str × Addr)} {iter : Expr} {Q : Value → Shared → Prop}
    {l1 D : Addr} {vs1 ysE : List Value} {is es : List Int} {c1 c2 : Addr} {o1 o2 : Obj} {p0 p1 p2 p3 p4 p5 p6 p7 p8 p9 p10 pos : Pos}
    (_F : Fr h₀ L s.heap m) (_N : News h₀ L s.heap news) (hh : A.handled = none) (hclos : closureFor scope env = pure cl) (hcell : ∀ y ∈ scope.names, y.2 ≠ .cell) (hkind : scope.kind = .function)
    (hnames : ∀ y ∈ scope.names, y.2 = .local → scope.names.lookup y.1 = some .local) (hx : scope.names.lookup ("v" : Str) = some .local)
    (hk : ∀ C, (compEnvC scope cl C env).scope.kind = .function) (x1 : ∀ C, (compEnvC scope cl C env).kindOf "ins" = some .cell) (x2 : ∀ C, (compEnvC scope cl C env).kindOf "ends" = some .cell) (xv : ∀ C, (compEnvC scope cl C env).kindOf "v" = some .local)
    (q1 : cl.lookup ("ins" : Str) = some c1) (q2 : cl.lookup ("ends" : Str) = some c2)
    (m1 : (c1, o1) ∈ news) (m2 : (c2, o2) ∈ news) (e1 : o1.data = .cell (some (.ref l1))) (e2 : o2.data = .cell (some (.ref D)))
    (hl1 : h₀.IsList l1 vs1.toArray) (hi1 : IntsAre vs1 is) (hD : (D, LCg.lst ysE) ∈ news) (hiE : IntsAre ysE es) (hlen : is.length ≤ 4)
    (h : wpAny (model prog w) A (eval iter env) (LcM h₀ L m news is es Q) E s)
    (hs : ∀ x, foldedSetIterable iter env x = pure x) :
    wpAny (model prog w) A (eval (.ListComp (.BinOp (.Subscript (.Name "ins" p1) (.Name "v" p2) p3) .Sub (.IfExp (.Compare (.Name "v" p4) [.In] [.Name "ends" p5] p6) (.Constant (.int 1) 0 p7) (.Constant (.int 0) 0 p8) p9) p10) [⟨.Name "v" p0, iter, [], 0⟩] scope pos) env) Q E s := by
  refine ListComp_DCr (h₀ := h₀) (L := L) (m := m) (pz := fun _ => true) (d := fun a => .int (is.getD a.toNat 0 - if es.any (· == a) then 1 else 0)) hh hclos hcell hkind hnames hx (wpAny_mono h (fun xv s₁ h₁ => ?_) fun _ _ e => e) hs
  obtain ⟨r, t₀, u₀, v₀, rfl, hr, F, N, hQ⟩ := h₁
  obtain ⟨z1, z2⟩ := small4 is.length hlen
  refine ⟨news, r, 0, (is.length : Int), 1, t₀, u₀, v₀, is.length, rfl, hr, z1, z2, ?_, F, N, ?_, ?_, ?_⟩
  · exact Nat.le_trans hlen (by decide)
  · intro C a v s₂ m₂ E' _ _ _ _ _ _
    refine wpAny_of_eq (a := true) ?_ ?_
    · simp
    exact ⟨rfl, s₂.heap, s₂.toks, rfl, fun _ _ e => e⟩
  · intro C a v s₂ m₂ E' _ hm hv _ hns hmv hkeep
    have hb : 0 ≤ a ∧ a < (is.length : Int) := by
      have := mem_rangeInts hm
      omega
    obtain ⟨t, rfl⟩ := hv
    exact ev_minus (hk C) (x1 C) (x2 C) (xv C) q1 q2 (hkeep _ _ (N _ m1).1) e1 (hkeep _ _ (N _ m2).1) e2 hns hmv ((hl1.at fun o e => hkeep _ _ (F.keep _ _ e))) hi1 ((N.isList hD).at fun o e => hkeep _ _ e) hiE hb hlen
  · intro D' ys h' tk F' N' hn hl hp hc
    refine hQ D' ys h' tk F' N' hn hl hp ?_
    have : IntsAre ys ((rangeInts 0 1 is.length).map fun a => is.getD a.toNat 0 - if es.any (· == a) then 1 else 0) := by
      refine CarriedAll.intsOf ?_
      rw [List.filter_eq_self.mpr (fun _ _ => rfl)] at hc
      exact hc
    exact this
end
section
open PySem PySem.W PyProof.Rows
set_option maxHeartbeats 400000
def endsF (n : Nat) (k : Int) : List Int := List.foldl (fun l' k' => if (k.fdiv (2 ^ k'.toNat)).fmod 2 = 1 then l' ++ [k'] else l') [] (rangeKs 0 ((n : Int) - 0).toNat)
def dirF : Nat → List Int → List Int → Int → Bool
  | 0, _, _, _ => true
  | N + 1, is, os, p =>
    if p = (os.length : Int) then decide (is = (List.replicate ((is.length : Int)).toNat [(0 : Int)]).flatten)
    else (rangeKs 0 ((2 : Int) ^ ((is.length : Int)).toNat).toNat).any fun k => decide (((endsF is.length k).length : Int) = os.getD p.toNat 0) && (!((endsF is.length k).any fun x => x == p) && (!(decide (0 < ((List.filter (fun a => is.getD a.toNat 0 == 0) (endsF is.length k)).map PyData.int).length)) && dirF N (minusE is (endsF is.length k)) os (p + 1)))
def tD (N : Nat) (is os : List Int) (p k : Int) : Bool := decide (((endsF is.length k).length : Int) = os.getD p.toNat 0) && (!((endsF is.length k).any fun x => x == p) && (!(decide (0 < ((List.filter (fun a => is.getD a.toNat 0 == 0) (endsF is.length k)).map PyData.int).length)) && dirF N (minusE is (endsF is.length k)) os (p + 1)))
section
variable {N i : Nat} {is os : List Int} {p k : Int}
theorem tD_f1 (h : ((endsF is.length k).length : Int) ≠ os.getD p.toNat 0) : tD N is os p k = false := by
  unfold tD; rw [decide_eq_false h]; rfl
theorem tD_f2 (h : ((endsF is.length k).any fun x => x == p) = true) : tD N is os p k = false := by
  unfold tD; rw [h]; simp
theorem tD_f3 (h : 0 < ((List.filter (fun a => is.getD a.toNat 0 == 0) (endsF is.length k)).map PyData.int).length) : tD N is os p k = false := by
  unfold tD; rw [decide_eq_true h]; simp
theorem tD_f4 (h : dirF N (minusE is (endsF is.length k)) os (p + 1) = false) : tD N is os p k = false := by
  unfold tD; rw [h]; simp
theorem tD_t (h1 : ((endsF is.length k).length : Int) = os.getD p.toNat 0) (h2 : ((endsF is.length k).any fun x => x == p) = false) (h3 : ¬ 0 < ((List.filter (fun a => is.getD a.toNat 0 == 0) (endsF is.length k)).map PyData.int).length) (h4 : dirF N (minusE is (endsF is.length k)) os (p + 1) = true) : tD N is os p k = true := by
  unfold tD; rw [decide_eq_true h1, h2, decide_eq_false h3, h4]; rfl
theorem dJ (h : (rangeKs 0 i).any (tD N is os p) = false) (hk : k = 0 + (i : Nat)) (ht : tD N is os p k = false) : (rangeKs 0 (i + 1)).any (tD N is os p) = false := by
  have : rangeKs 0 (i + 1) = rangeKs 0 i ++ [k] := by
    unfold rangeKs
    rw [List.range_succ, List.map_append, hk]; rfl
  rw [this, List.any_append, h]
  simp [ht]
theorem dirF_end (h : p = (os.length : Int)) : decide (is = (List.replicate ((is.length : Int)).toNat [(0 : Int)]).flatten) = dirF (N + 1) is os p := by
  unfold dirF; rw [if_pos h]
theorem dirF_any (h : p ≠ (os.length : Int)) {b : Bool} (hb : (rangeKs 0 ((2 : Int) ^ ((is.length : Int)).toNat).toNat).any (tD N is os p) = b) : b = dirF (N + 1) is os p := by
  unfold dirF; rw [if_neg h, ← hb]; rfl
theorem dirF_hit (h : p ≠ (os.length : Int)) (hk : k = 0 + (i : Nat)) (hi : i < ((2 : Int) ^ ((is.length : Int)).toNat).toNat) (ht : tD N is os p k = true) : true = dirF (N + 1) is os p := by
  refine dirF_any h ?_
  rw [List.any_eq_true]
  exact ⟨k, kre_mem (by omega) (by omega), ht⟩
end
theorem minusE_len {is es : List Int} : (minusE is es).length = is.length := by simp [minusE, rangeInts]
end
section
local macro_rules | `(tactic| walk_at "m_pad") => `(tactic| skip)
local macro_rules | `(tactic| walk_at "m_pad") => `(tactic| skip)
local macro_rules | `(tactic| walk_at "m_pad") => `(tactic| skip)
local macro_rules | `(tactic| walk_at "m_pad") => `(tactic| skip)
local macro_rules | `(tactic| walk_at "m_pad") => `(tactic| skip)
local macro_rules | `(tactic| walk_at "m_pad") => `(tactic| skip)
local macro_rules | `(tactic| walk_at "m_pad") => `(tactic| skip)
local macro_rules | `(tactic| walk_at "m_pad") => `(tactic| skip)
local macro_rules | `(tactic| walk_at "m_pad") => `(tactic| skip)
local macro_rules | `(tactic| walk_at "m_pad") => `(tactic| skip)
local macro_rules | `(tactic| walk_at "m_pad") => `(tactic| skip)
local macro_rules | `(tactic| walk_at "m_pad") => `(tactic| skip)
local macro_rules | `(tactic| walk_at "m_pad") => `(tactic| skip)
local macro_rules | `(tactic| walk_at "m_pad") => `(tactic| skip)
local macro_rules | `(tactic| walk_at "m_pad") => `(tactic| skip)
local macro_rules | `(tactic| walk_at "m_pad") => `(tactic| skip)
local macro_rules | `(tactic| walk_at "m_pad") => `(tactic| skip)
local macro_rules | `(tactic| walk_at "m_pad") => `(tactic| skip)
local macro_rules | `(tactic| walk_at "m_pad") => `(tactic| skip)
local macro_rules | `(tactic| walk_at "m_pad") => `(tactic| skip)
local macro_rules | `(tactic| walk_at "m_pad") => `(tactic| skip)
local macro_rules | `(tactic| walk_at "m_pad") => `(tactic| skip)
open PySem PySem.W PyProof.Rows PySem.Calls PySem.Spec
set_option maxHeartbeats 16000000
theorem pow_small {n : Nat} (h : n ≤ 4) : (2:Int) ^ ((n : Int)).toNat ≤ 16 ∧ 0 ≤ (2:Int) ^ ((n : Int)).toNat := by
  have : ((n : Int)).toNat = n := by omega
  rw [this]
  rcases n with _|_|_|_|_|n
  · decide
  · decide
  · decide
  · decide
  · decide
  · omega
theorem range_sz {b : Int} (h : b ≤ 16 ∧ 0 ≤ b) : Builtin.Range.small 0 b 1 = true ∧ Builtin.Range.rangeSize 0 b 1 = (b.toNat : Int) := by
  obtain ⟨n, rfl⟩ : ∃ n : Nat, b = n := ⟨b.toNat, by omega⟩
  have hn : n < 17 := by omega
  clear h
  have k : ∀ n : Fin 17, Builtin.Range.small 0 (n.val : Int) 1 = true ∧ Builtin.Range.rangeSize 0 (n.val : Int) 1 = ((n.val : Int).toNat : Int) := by decide +kernel
  exact k ⟨n, hn⟩
theorem mem_ends {p : Int → Prop} {inst : ∀ k, Decidable (p k)} {n : Nat} {a : Int} (h : a ∈ List.foldl (fun l k => if p k then l ++ [k] else l) [] (rangeKs 0 ((n : Int) - 0).toNat)) : 0 ≤ a ∧ a < (n : Int) := by
  have k : ∀ (l : List Int) (acc : List Int), a ∈ List.foldl (fun l k => if p k then l ++ [k] else l) acc l → a ∈ acc ∨ a ∈ l := by
    intro l
    induction l with
    | nil => intro acc h; exact .inl h
    | cons x r ih =>
      intro acc h
      rcases ih _ h with h | h
      · replace h : a ∈ (if p x then acc ++ [x] else acc) := h
        split at h
        · rcases List.mem_append.mp h with h | h
          · exact .inl h
          · exact .inr (by rw [List.mem_singleton.mp h]; exact .head _)
        · exact .inl h
      · exact .inr (.tail _ h)
  rcases k _ _ h with h | h
  · cases h
  · have := mem_rangeKs h
    omega
theorem filt_le {q : Int → Bool} {l : List Int} {ys : List Value} {n m : Nat} (h1 : ys.length ≤ ((n : Int) - 0).toNat) (h2 : ys.length = l.length) (hn : n ≤ 4 ∧ m ≤ 4) : ((l.filter q).map PyData.int).length ≤ 2 ^ 20 := by
  rw [List.length_map]
  have := List.length_filter_le q l
  omega
theorem rc_end3 {s s' : Shared} {h₀ : Heap} {L c I e1 a1 : Addr} {oI oE o3 : Obj} {m : Str → Option Value} {P : Prop} {h' : Heap} {tk' : Nat} {o'' : Obj} {v vE : Option Value} {led : List (Addr × Obj)}
    (e : s' = { s with heap := h', toks := tk' }) (F : Fr h₀ L h' m) (N : News h₀ L h' led) (m0 : (I, oI) ∈ led) (m1 : (c, o'') ∈ led) (mE : (e1, oE) ∈ led) (mA : (a1, o3) ∈ led) (hv : o''.data = .cell v) (hE : oE.data = .cell vE) (hJ : P) :
    RCEnd s h₀ L c I oI m (fun l => ∃ oE, l = [(e1, oE), (a1, o3)] ∧ (∃ v, oE.data = .cell v) ∧ P) s' :=
  ⟨h', tk', o'', [(e1, oE), (a1, o3)], e, F, fun p hp => by
    rcases List.mem_cons.mp hp with rfl | hp
    · exact N _ m0
    rcases List.mem_cons.mp hp with rfl | hp
    · exact N _ m1
    rcases List.mem_cons.mp hp with rfl | hp
    · exact N _ mE
    rcases List.mem_cons.mp hp with rfl | hp
    · exact N _ mA
    exact absurd hp List.not_mem_nil, ⟨v, hv⟩, oE, rfl, ⟨vE, hE⟩, hJ⟩
local macro_rules | `(tactic| walk_at "m_tr") => `(tactic| (with_unfolding_all refine truthy_list_made (by assumption) (by assumption) (filt_le (by assumption) (by assumption) (by assumption)) ?_))
local macro_rules | `(tactic| l_idx) => `(tactic| (have hb := mem_ends (by assumption); omega))
abbrev LawD (w : World) (mean : ExcName → Option Value) (mg mb : Str → Option Value) (N : Nat) : Prop := ∀ (is os : List Int) (p : Int) (tp : Tok) (l1 l2 : Addr) (vs1 vs2 : List Value), IntsAre vs1 is → IntsAre vs2 os → (is.length ≤ 4 ∧ os.length ≤ 4) → (0 ≤ p ∧ p ≤ (os.length : Int)) → os.length - p.toNat < N →
  CtB w mean mg mb 167 [.ref l1, .ref l2, .int p tp] (N + 20) (8 * N + 200) (fun h => h.IsList l1 vs1.toArray ∧ h.IsList l2 vs2.toArray) (dirF N is os p)
section
variable {w : World} {mean : ExcName → Option Value} {mg mb : Str → Option Value} {K : Nat} {A₀ A : Around} {base h₀ : Heap} {outer : List Env} {env : Env} {L : Addr} {m : Str → Option Value} {news : List (Addr × Obj)} {s : Shared} {Q E : Value → Shared → Prop} {is os : List Int} {p : Int} {tp : Tok} {l1 l2 : Addr} {vs1 vs2 : List Value}
theorem lawD_call (ih : LawD w mean mg mb K) (B : Below A₀ base outer h₀) (F : Fr h₀ L s.heap m) (X : (hd.heap_39 w.params).In h₀) (Ne : News h₀ L s.heap news) (T : Top hd.view_39 lse mean mg mb h₀)
    (hA : A.frames = some (env :: outer)) (hh : A.handled = none) (hf : env.frame = some L) (hk : env.scope.kind = .function)
    (hl1 : s.heap.IsList l1 vs1.toArray) (hi1 : IntsAre vs1 is) (hl2 : h₀.IsList l2 vs2.toArray) (hi2 : IntsAre vs2 os) (hn : is.length ≤ 4 ∧ os.length ≤ 4) (hp : 0 ≤ p ∧ p ≤ (os.length : Int)) (hf2 : os.length - p.toNat < K) (hdp : A.depth + (K + 20) < recursionLimit) (hun : A.units + (8 * K + 200) < cLine)
    (h : ∀ h' tk', Fr h₀ L h' m → News h₀ L h' news → Q (.bool (dirF K is os p)) { s with heap := h', toks := tk' }) :
    wpAny (model PySem.Challenge.rw_fc0138_01.row.prog w) A (call (.ref 167) [.ref l1, .ref l2, .int p tp]) Q E s :=
  ctb_call (ih is os p tp l1 l2 vs1 vs2 hi1 hi2 hn hp hf2) B F X Ne T hA hh hf hk ⟨hl1, hl2.at fun o e => F.keep _ _ e⟩ hdp hun h
end
local macro_rules | `(tactic| walk_at "eval Name") => `(tactic| ((with_reducible refine inComp ?_); name_kind "local"; with_unfolding_all refine ldVarK (by assumption) (by assumption) ?_))
local macro_rules | `(tactic| walk_at "eval Name") => `(tactic| ((with_reducible refine inCells ?_); name_kind "cell"; (with_reducible rename News _ _ _ _ => NX9); with_unfolding_all refine ldCN NX9 rfl (by news_mem) (by assumption) ?_))
local macro_rules | `(tactic| walk_at "m_lawD") => `(tactic| ((refine' lawD_call ?kih ?k1 ?k2 ?k3 ?k4 ?k5 ?k6 ?k7 ?k8 ?k9 ?kl ?ki ?kl2 ?ki2 ?kn ?kp ?kf ?kd ?ku ?kR); (case kih => assumption); (case k1 => k_asm); (case k2 => k_asm); (case k3 => k_asm); (case k4 => k_asm); (case k5 => k_asm); (case k6 => exact rfl); (case k7 => exact rfl); (case k8 => exact rfl); (case k9 => exact rfl); (case kl => assumption); (case ki => assumption); (case kl2 => assumption); (case ki2 => assumption); (case kn => (rw [minusE_len]; assumption)); (case kp => omega); (case kf => omega); (case kd => walk_at "m_room"); (case ku => walk_at "m_room"); k_whole; (case' kR => (intro h9 tk9 F9 N9; (try dsimp only)))))
local macro_rules | `(tactic| walk_at "eval ListComp") => `(tactic| ((with_reducible show wpAny _ _ (eval (PySem.Expr.ListComp (PySem.Expr.BinOp _ _ _ _) _ _ _) _) _ _ _); (with_reducible refine' lc_minus ?kF ?kN ?hh ?hclos ?hcell ?hkind ?hnames ?hx ?hk ?x1 ?x2 ?xv ?q1 ?q2 ?m1 ?m2 ?e1 ?e2 ?hl1 ?hi1 ?hD ?hiE ?hlen ?h ?hs); (case kF => with_unfolding_all k_asm); (case kN => with_unfolding_all k_asm); (case hh => with_unfolding_all exact rfl); (case hclos => with_unfolding_all exact rfl); (case hcell => with_unfolding_all decide); (case hkind => with_unfolding_all exact rfl); (case hnames => with_unfolding_all decide); (case hx => with_unfolding_all exact rfl); (case hk => with_unfolding_all exact fun _ => rfl); (case x1 => with_unfolding_all exact fun _ => rfl); (case x2 => with_unfolding_all exact fun _ => rfl); (case xv => with_unfolding_all exact fun _ => rfl); (case q1 => with_unfolding_all exact rfl); (case q2 => with_unfolding_all exact rfl); (case m1 => with_unfolding_all k_mem); (case m2 => with_unfolding_all k_mem); (case e1 => assumption); (case e2 => assumption); (case hl1 => assumption); (case hi1 => assumption); (case hD => with_unfolding_all k_mem); (case hiE => assumption); (case hlen => omega); (case hs => with_unfolding_all exact fun _ => rfl)))
local macro_rules | `(tactic| walk_at "LcM") => `(tactic| (refine ⟨_, _, _, _, rfl, by assumption, by k_asm, by k_asm, ?_⟩; intro D9 ys9 h9 tk9 F9 N9 hn9 hl9 hp9 hi9))
theorem dir_ct {w : World} {mean : ExcName → Option Value} {mg mb : Str → Option Value} {K : Nat} (ih : LawD w mean mg mb K) : LawD w mean mg mb (K + 1) := by
  intro is os p tp l1 l2 vs1 vs2 hi1 hi2 hn hp hfu
  refine ⟨?_⟩
  intro A₀ base outer s R dp un gd B X T hls hdp hun ret
  obtain ⟨hl1, hl2⟩ := hls
  w_top off; k_with_none
  revert X; k_fill; intro X
  replace B : Below (atop dp un gd outer) base outer s.heap := ⟨rfl, B.stays, B.frames⟩
  refine' call_SC ?k1 ?k3 ?k5 ?k6 ?k7 ?k8 ?k9 ?kB ?kD ?_ ?c2 ?c3 ?c4
  case k1 => assumption
  case k3 => assumption
  case k5 => exact Top.nolimit (by assumption)
  case k6 => k_is
  case k7 => k_is
  case k8 => omega
  case k9 => first | exact BindsTo.of_eq rfl | exact binds_K (by assumption) rfl (by k_is) rfl rfl rfl
  case kB => exact rfl
  case kD => decide +kernel
  case c2 => exact rfl
  case c3 => exact rfl
  case c4 => exact rfl
  k_whole
  intro L' h' tk' cells' F' N' Y'
  obtain ⟨o1, o2, o3, hE', d1, d2, d3⟩ := CellsAre.three Y'
  subst hE'
  clear Y'
  replace d1 : o1.data = .cell none := d1
  replace d2 : o2.data = .cell none := d2
  replace d3 : o3.data = .cell (some (.ref l1)) := d3
  k_with "binaryOp Add int int" => walk_at "m_addG"
  k_with "binaryOp Sub int int" => walk_at "m_subG"
  k_with "call ref" => walk_at "m_lawD"
  k_with "truthy ref" => walk_at "m_tr"
  k_steps
  · ((try dsimp only); refine' retB9 ret ?_ ?m2; (case m2 => exact Fr.keep (by assumption)))
    exact dirF_end (by assumption)
  refine wpAny_For ?_
  k_steps
  refine range_cell (c := L' + 1 + 1) (o := o2) (news := [(L' + 1 + 1 + 1, o1), (L' + 1, o3)]) (fun i l => ∃ oE, l = [(L' + 1 + 1 + 1, oE), (L' + 1, o3)] ∧ (∃ v, oE.data = .cell v) ∧ (rangeKs 0 i).any (tD K is os p) = false) (fun i l h => by obtain ⟨_, h, _⟩ := h; rw [h]; rfl) rfl rfl rfl rfl (by assumption) (range_sz (pow_small (by omega))).1 (range_sz (pow_small (by omega))).2 (by assumption) ?hN ⟨_, by assumption⟩ ?hcn ⟨o1, rfl, ⟨_, by assumption⟩, rfl⟩ ?turn ?done ?hE
  case hN =>
    with_reducible rename News _ _ _ _ => Nold
    intro q hq
    refine Nold q ?_
    simp only [List.mem_cons, List.not_mem_nil, or_false] at hq ⊢
    rcases hq with rfl | rfl | rfl <;> simp
  case hcn =>
    intro q hq
    simp only [List.mem_cons, List.not_mem_nil, or_false] at hq
    rcases hq with rfl | rfl
    · show @Ne Nat _ _
      dsimp only
      omega
    · show @Ne Nat _ _
      dsimp only
      omega
  case hE => passes_own
  case done =>
    intro h tk o' news₁ F N hv hJ
    obtain ⟨oE, rfl, hoE, hJ⟩ := hJ
    dsimp only
    k_steps
    ((try dsimp only); refine' retB9 ret ?_ ?m2; (case m2 => exact Fr.keep (by assumption)))
    exact dirF_any (by assumption) hJ
  case turn =>
    with_reducible rename Fr _ _ _ _ => Fold
    with_reducible rename News _ _ _ _ => Nold
    clear Fold Nold
    intro i t h tk I oI o' news₁ hi hJ hcI hnI F N ho
    obtain ⟨oE, rfl, ⟨vE, hoE⟩, hJ⟩ := hJ
    obtain ⟨k, hk⟩ : ∃ k : Int, k = 0 + (i : Nat) := ⟨_, rfl⟩
    rw [← hk] at ho
    have hIx : @Ne Nat I (L' + 1 + 1 + 1) ∧ @Ne Nat I (L' + 1) ∧ @Ne Nat I (L' + 1 + 1) := ⟨fun e => hnI _ (.head _) e.symm, fun e => hnI _ (.tail _ (.head _)) e.symm, hcI⟩
    k_steps
    · dsimp only
      refine' rc_end3 rfl (by assumption) (by assumption) ?m0 ?m1 ?mE ?mA ho ?hE ?hJ
      case m0 => k_mem
      case m1 => k_mem
      case mE => k_mem
      case mA => k_mem
      case hE => assumption
      case hJ => exact dJ hJ hk (tD_f2 (by assumption))
    · dsimp only
      refine' rc_end3 rfl (by assumption) (by assumption) ?m0 ?m1 ?mE ?mA ho ?hE ?hJ
      case m0 => k_mem
      case m1 => k_mem
      case mE => k_mem
      case mA => k_mem
      case hE => assumption
      case hJ => exact dJ hJ hk (tD_f3 (by assumption))
    · ((try dsimp only); refine' retB9 ret ?_ ?m2; (case m2 => exact Fr.keep (by assumption)))
      exact dirF_hit (by assumption) hk hi (tD_t (by assumption) (by assumption) (by assumption) (by assumption))
    · dsimp only
      refine' rc_end3 rfl (by assumption) (by assumption) ?m0 ?m1 ?mE ?mA ho ?hE ?hJ
      case m0 => k_mem
      case m1 => k_mem
      case mE => k_mem
      case mA => k_mem
      case hE => assumption
      case hJ => exact dJ hJ hk (tD_f4 (by assumption))
    · dsimp only
      refine' rc_end3 rfl (by assumption) (by assumption) ?m0 ?m1 ?mE ?mA ho ?hE ?hJ
      case m0 => k_mem
      case m1 => k_mem
      case mE => k_mem
      case mA => k_mem
      case hE => assumption
      case hJ => exact dJ hJ hk (tD_f1 (by assumption))
theorem law_D {w : World} {mean : ExcName → Option Value} {mg mb : Str → Option Value} : ∀ N, LawD w mean mg mb N
  | 0 => fun is os p tp l1 l2 vs1 vs2 _ _ _ _ h => absurd h (Nat.not_lt_zero _)
  | N + 1 => dir_ct (law_D N)
end
section
local macro_rules | `(tactic| walk_at "m_pad") => `(tactic| skip)
local macro_rules | `(tactic| walk_at "m_pad") => `(tactic| skip)
local macro_rules | `(tactic| walk_at "m_pad") => `(tactic| skip)
local macro_rules | `(tactic| walk_at "m_pad") => `(tactic| skip)
local macro_rules | `(tactic| walk_at "m_pad") => `(tactic| skip)
local macro_rules | `(tactic| walk_at "m_pad") => `(tactic| skip)
local macro_rules | `(tactic| walk_at "m_pad") => `(tactic| skip)
local macro_rules | `(tactic| walk_at "m_pad") => `(tactic| skip)
local macro_rules | `(tactic| walk_at "m_pad") => `(tactic| skip)
local macro_rules | `(tactic| walk_at "m_pad") => `(tactic| skip)
local macro_rules | `(tactic| walk_at "m_pad") => `(tactic| skip)
local macro_rules | `(tactic| walk_at "m_pad") => `(tactic| skip)
local macro_rules | `(tactic| walk_at "m_pad") => `(tactic| skip)
local macro_rules | `(tactic| walk_at "m_pad") => `(tactic| skip)
local macro_rules | `(tactic| walk_at "m_pad") => `(tactic| skip)
local macro_rules | `(tactic| walk_at "m_pad") => `(tactic| skip)
local macro_rules | `(tactic| walk_at "m_pad") => `(tactic| skip)
local macro_rules | `(tactic| walk_at "m_pad") => `(tactic| skip)
local macro_rules | `(tactic| walk_at "m_pad") => `(tactic| skip)
local macro_rules | `(tactic| walk_at "m_pad") => `(tactic| skip)
local macro_rules | `(tactic| walk_at "m_pad") => `(tactic| skip)
local macro_rules | `(tactic| walk_at "m_pad") => `(tactic| skip)
local macro_rules | `(tactic| walk_at "m_pad") => `(tactic| skip)
local macro_rules | `(tactic| walk_at "m_pad") => `(tactic| skip)
local macro_rules | `(tactic| walk_at "m_pad") => `(tactic| skip)
local macro_rules | `(tactic| walk_at "m_pad") => `(tactic| skip)
local macro_rules | `(tactic| walk_at "m_pad") => `(tactic| skip)
local macro_rules | `(tactic| walk_at "m_pad") => `(tactic| skip)
local macro_rules | `(tactic| walk_at "m_pad") => `(tactic| skip)
local macro_rules | `(tactic| walk_at "m_pad") => `(tactic| skip)
open PySem PySem.W PyProof.Rows PySem.Calls PySem.Spec
set_option maxHeartbeats 1000000
theorem entry_sift : entryFor table "_heapq.heapify.sift" = some Builtin.«_heapq.heapify.sift» := entryFor_of_tree (by kernel_rfl)
theorem entry_hpop : entryFor table "_heapq.heappop" = some Builtin.«_heapq.heappop» := entryFor_of_tree (by kernel_rfl)
theorem entry_hpush : entryFor table "_heapq.heappush" = some Builtin.«_heapq.heappush» := entryFor_of_tree (by kernel_rfl)
theorem entry_hify : entryFor table "_heapq.heapify" = some Builtin.«_heapq.heapify» := entryFor_of_tree (by kernel_rfl)
theorem quiet_sift (args : Args) : (Code.builtin "_heapq.heapify.sift" args).quiet = true := Code.quiet_builtin args (by decide +kernel)
theorem units_sift (A : Around) (args : Args) : (A.under (.builtin "_heapq.heapify.sift" args)).units ≤ A.units + 1 := by
  simp only [Around.under]
  first | exact Nat.le_refl _ | exact Nat.le_succ _ | (simp [Code.cUnits, Code.frames, Code.isFrame])
abbrev LtR (s : Shared) (x y : Value) (b : Bool) : Prop := ∀ (A : Around) (prog : Program) (w : World) (E : Value → Shared → Prop) (Q : Value → Shared → Prop), A.units + 10 < cLine → Q (.bool b) s → wpAny (model prog w) A (richCompare .Lt x y) Q E s
section
variable {prog : Program} {w : World} {A : Around} {s : Shared} {R : Result → Shared → Prop}
theorem past_ok {its : Array Value} {n : Nat} {f : Array Value → Array Value} (h : (f its).size ≤ 21) : (Obj.mapSeq f (listOf its n)).data.pastItsLine = none := by
  have e : (f its).size ≤ sizeLine + 1 := by rw [sizeLine_eq]; omega
  simp [Obj.mapSeq, Data.pastItsLine, e]
theorem get_ok {h : Heap} {a : Addr} {its : Array Value} {n : Nat} {f : Array Value → Array Value} (ho : h.get? a = some (listOf its n)) : (h.update a (Obj.mapSeq f)).get? a = some (Obj.mapSeq f (listOf its n)) := Heap.get?_update_self _ ho rfl
theorem sift_down_leaf {a : Addr} {xs : List Value} {n pos top : Nat} {after : Int} {res : Value} (ha : s.heap.get? a = some (listOf xs.toArray n)) (h1 : ¬ pos < xs.length / 2)
    (h : codeAny (model prog w) A (.builtin "_heapq.heapify.sift" ⟨[.ref a, .bool false, .bool false, rawInt pos, rawInt top, res, rawInt after], []⟩) R s) :
    codeAny (model prog w) A (.builtin "_heapq.heapify.sift" ⟨[.ref a, .bool false, .bool true, rawInt pos, rawInt top, res, rawInt after], []⟩) R s := by
  refine codeAny_builtin entry_sift ?_
  obtain ⟨hp, g, d, tk, os⟩ := s
  have e1 : xs.toArray.size = xs.length := by simp
  have h2 : ¬ ((pos : Int).toNat < xs.toArray.size / 2) := by rw [e1]; simpa using h1
  wp_walk
  exact ⟨quiet_sift _, by simpa using h⟩
theorem sift_down_one {a : Addr} {xs : List Value} {n pos top : Nat} {after : Int} {res l p : Value} (ha : s.heap.get? a = some (listOf xs.toArray n)) (hz : xs.length ≤ 20) (h1 : pos < xs.length / 2) (h2 : ¬ 2 * pos + 1 + 1 < xs.length)
    (hl : xs[2 * pos + 1]? = some l) (hp : xs[pos]? = some p)
    (h : ∀ h' n', Heap.SameBut a s.heap h' → h'.get? a = some (listOf ((xs.set (2 * pos + 1) p).set pos l).toArray n') →
      codeAny (model prog w) A (.builtin "_heapq.heapify.sift" ⟨[.ref a, .bool false, .bool true, rawInt (2 * pos + 1 : Nat), rawInt top, res, rawInt after], []⟩) R { s with heap := h' }) :
    codeAny (model prog w) A (.builtin "_heapq.heapify.sift" ⟨[.ref a, .bool false, .bool true, rawInt pos, rawInt top, res, rawInt after], []⟩) R s := by
  refine codeAny_builtin entry_sift ?_
  obtain ⟨hh, g, d, tk, os⟩ := s
  have e1 : xs.toArray.size = xs.length := by simp
  have k1 : (pos : Int).toNat < xs.toArray.size / 2 := by rw [e1]; simpa using h1
  have k2 : ¬ (2 * (pos : Int).toNat + 1 + 1 < xs.toArray.size) := by rw [e1]; simp only [Int.toNat_natCast]; exact h2
  have k3 : xs.toArray[2 * (pos : Int).toNat + 1]? = some l := by simpa using hl
  have k4 : xs.toArray[(pos : Int).toNat]? = some p := by simpa using hp
  wp_walk
  simp only [k3]
  wp_walk
  simp only [k4]
  wp_walk
  rw [past_ok (by simp; omega)]
  wp_walk
  refine ⟨quiet_sift _, ?_⟩
  simp only [Int.toNat_natCast]
  exact h _ _ (Heap.SameBut.update ..) ((get_ok ha).trans (by simp [Obj.mapSeq]; rfl))
theorem sift_down_two {a : Addr} {xs : List Value} {n pos top : Nat} {after : Int} {res l r p : Value} {b : Bool} (ha : s.heap.get? a = some (listOf xs.toArray n)) (hz : xs.length ≤ 20) (hu : A.units + 11 < cLine) (h1 : pos < xs.length / 2) (h2 : 2 * pos + 1 + 1 < xs.length)
    (hl : xs[2 * pos + 1]? = some l) (hr : xs[2 * pos + 1 + 1]? = some r) (hp : xs[pos]? = some p) (hb : LtR s l r b)
    (h : ∀ h' n' (c : Nat) cv, c = (if b then 2 * pos + 1 else 2 * pos + 1 + 1) → cv = (if b then l else r) → Heap.SameBut a s.heap h' → h'.get? a = some (listOf ((xs.set c p).set pos cv).toArray n') →
      codeAny (model prog w) A (.builtin "_heapq.heapify.sift" ⟨[.ref a, .bool false, .bool true, rawInt c, rawInt top, res, rawInt after], []⟩) R { s with heap := h' }) :
    codeAny (model prog w) A (.builtin "_heapq.heapify.sift" ⟨[.ref a, .bool false, .bool true, rawInt pos, rawInt top, res, rawInt after], []⟩) R s := by
  refine codeAny_builtin entry_sift ?_
  have hu' := Nat.lt_of_le_of_lt (Nat.add_le_add_right (units_sift A ⟨[.ref a, .bool false, .bool true, rawInt pos, rawInt top, res, rawInt after], []⟩) 10) (show A.units + 1 + 10 < cLine by omega)
  obtain ⟨hh, g, d, tk, os⟩ := s
  have e1 : xs.toArray.size = xs.length := by simp
  have k1 : (pos : Int).toNat < xs.toArray.size / 2 := by rw [e1]; simpa using h1
  have k2 : (2 * (pos : Int).toNat + 1 + 1 < xs.toArray.size) := by rw [e1]; simp only [Int.toNat_natCast]; exact h2
  have k3 : xs.toArray[2 * (pos : Int).toNat + 1]? = some l := by simpa using hl
  have k4 : xs.toArray[(pos : Int).toNat]? = some p := by simpa using hp
  have k5 : xs.toArray[2 * (pos : Int).toNat + 1 + 1]? = some r := by simpa using hr
  wp_walk
  simp only [k3]
  wp_walk
  simp only [k5]
  wp_walk using hb _ prog w _ _ hu'
  cases b with
  | true =>
    wp_walk
    simp only [k3]
    wp_walk
    simp only [k4]
    wp_walk
    rw [past_ok (by simp; omega)]
    wp_walk
    refine ⟨quiet_sift _, ?_⟩
    simp only [Int.toNat_natCast]
    exact h _ _ _ _ rfl rfl (Heap.SameBut.update ..) ((get_ok ha).trans (by simp [Obj.mapSeq]; rfl))
  | false =>
    wp_walk
    simp only [k5]
    wp_walk
    simp only [k4]
    wp_walk
    rw [past_ok (by simp; omega)]
    wp_walk
    refine ⟨quiet_sift _, ?_⟩
    simp only [Int.toNat_natCast]
    exact h _ _ _ _ rfl rfl (Heap.SameBut.update ..) ((get_ok ha).trans (by simp [Obj.mapSeq]; rfl))
theorem sift_up_move {a : Addr} {xs : List Value} {n pos top : Nat} {after : Int} {res x p : Value} (ha : s.heap.get? a = some (listOf xs.toArray n)) (hz : xs.length ≤ 20) (hu : A.units + 11 < cLine) (h1 : pos > top)
    (hx : xs[pos]? = some x) (hp : xs[(pos - 1) / 2]? = some p) (hb : LtR s x p true)
    (h : ∀ h' n', Heap.SameBut a s.heap h' → h'.get? a = some (listOf ((xs.set ((pos - 1) / 2) x).set pos p).toArray n') →
      codeAny (model prog w) A (.builtin "_heapq.heapify.sift" ⟨[.ref a, .bool false, .bool false, rawInt ((pos - 1) / 2 : Nat), rawInt top, res, rawInt after], []⟩) R { s with heap := h' }) :
    codeAny (model prog w) A (.builtin "_heapq.heapify.sift" ⟨[.ref a, .bool false, .bool false, rawInt pos, rawInt top, res, rawInt after], []⟩) R s := by
  refine codeAny_builtin entry_sift ?_
  have hu' := Nat.lt_of_le_of_lt (Nat.add_le_add_right (units_sift A ⟨[.ref a, .bool false, .bool false, rawInt pos, rawInt top, res, rawInt after], []⟩) 10) (show A.units + 1 + 10 < cLine by omega)
  obtain ⟨hh, g, d, tk, os⟩ := s
  have e1 : xs.toArray.size = xs.length := by simp
  have k1 : (pos : Int).toNat > (top : Int).toNat := by simpa using h1
  have k3 : xs.toArray[(pos : Int).toNat]? = some x := by simpa using hx
  have k4 : xs.toArray[((pos : Int).toNat - 1) / 2]? = some p := by simpa using hp
  wp_walk
  (try simp only [k3])
  wp_walk
  (try simp only [k4])
  wp_walk using hb _ prog w _ _ hu'
  (try simp only [k3])
  wp_walk
  (try simp only [k4])
  wp_walk
  (try simp only [k3])
  wp_walk
  rw [past_ok (by simp; omega)]
  wp_walk
  refine ⟨quiet_sift _, ?_⟩
  simp only [Int.toNat_natCast]
  exact h _ _ (Heap.SameBut.update ..) ((get_ok ha).trans (by simp [Obj.mapSeq]; rfl))
/-- the end of an upward sift -/
def SiftEnd (prog : Program) (w : World) (A : Around) (R : Result → Shared → Prop) (a : Addr) (top : Nat) (after : Int) (res : Value) (s : Shared) : Prop :=
  (after < 0 → R (.ok (.ret res)) s) ∧ (¬ after < 0 → codeAny (model prog w) A (.builtin "_heapq.heapify.sift" ⟨[.ref a, .bool false, .bool true, rawInt after, rawInt after, res, rawInt (after - 1)], []⟩) R s)
theorem sift_up_top {a : Addr} {xs : List Value} {n pos top : Nat} {after : Int} {res : Value} (ha : s.heap.get? a = some (listOf xs.toArray n)) (h1 : ¬ pos > top)
    (h : SiftEnd prog w A R a top after res s) :
    codeAny (model prog w) A (.builtin "_heapq.heapify.sift" ⟨[.ref a, .bool false, .bool false, rawInt pos, rawInt top, res, rawInt after], []⟩) R s := by
  refine codeAny_builtin entry_sift ?_
  obtain ⟨hh, g, d, tk, os⟩ := s
  have k1 : ¬ (pos : Int).toNat > (top : Int).toNat := by simpa using h1
  by_cases h2 : after < 0
  · wp_walk
    exact h.1 h2
  · wp_walk
    refine ⟨quiet_sift _, ?_⟩
    have e : ((after.toNat : Nat) : Int) = after := by omega
    simp only [e]
    exact h.2 h2
theorem sift_up_stop {a : Addr} {xs : List Value} {n pos top : Nat} {after : Int} {res x p : Value} (ha : s.heap.get? a = some (listOf xs.toArray n)) (hu : A.units + 11 < cLine) (h1 : pos > top)
    (hx : xs[pos]? = some x) (hp : xs[(pos - 1) / 2]? = some p) (hb : LtR s x p false)
    (h : SiftEnd prog w A R a top after res s) :
    codeAny (model prog w) A (.builtin "_heapq.heapify.sift" ⟨[.ref a, .bool false, .bool false, rawInt pos, rawInt top, res, rawInt after], []⟩) R s := by
  refine codeAny_builtin entry_sift ?_
  have hu' := Nat.lt_of_le_of_lt (Nat.add_le_add_right (units_sift A ⟨[.ref a, .bool false, .bool false, rawInt pos, rawInt top, res, rawInt after], []⟩) 10) (show A.units + 1 + 10 < cLine by omega)
  obtain ⟨hh, g, d, tk, os⟩ := s
  have k1 : (pos : Int).toNat > (top : Int).toNat := by simpa using h1
  have k3 : xs.toArray[(pos : Int).toNat]? = some x := by simpa using hx
  have k4 : xs.toArray[((pos : Int).toNat - 1) / 2]? = some p := by simpa using hp
  wp_walk
  simp only [k3]
  wp_walk
  simp only [k4]
  by_cases h2 : after < 0
  · wp_walk using hb _ prog w _ _ hu'
    exact h.1 h2
  · wp_walk using hb _ prog w _ _ hu'
    refine ⟨quiet_sift _, ?_⟩
    have e : ((after.toNat : Nat) : Int) = after := by omega
    simp only [e]
    exact h.2 h2
end
end
section
open PySem PySem.W PyProof.Rows PySem.Calls PySem.Spec
set_option maxHeartbeats 1000000
abbrev K2 := Int × Int
abbrev ZV := Value × K2
def klt (a b : K2) : Bool := decide (a.1 < b.1 ∨ (a.1 = b.1 ∧ a.2 < b.2))
theorem klt_t {a b : K2} (h : klt a b = true) : a.1 < b.1 ∨ (a.1 = b.1 ∧ a.2 < b.2) := of_decide_eq_true h
theorem klt_f {a b : K2} (h : ¬ klt a b = true) : ¬ (a.1 < b.1 ∨ (a.1 = b.1 ∧ a.2 < b.2)) := fun e => h (decide_eq_true e)
def sw (l : List ZV) (i j : Nat) : Option (List ZV) := match l[i]?, l[j]? with
  | some x, some y => some ((l.set i y).set j x)
  | _, _ => none
def siftF : Nat → List ZV → Bool → Nat → Nat → Int → Option (List ZV)
  | 0, _, _, _, _, _ => none
  | f + 1, zs, true, pos, top, after =>
    if pos < zs.length / 2 then
      if 2 * pos + 1 + 1 < zs.length then
        match zs[2 * pos + 1]?, zs[2 * pos + 1 + 1]? with
        | some l, some r => if klt l.2 r.2 then (sw zs (2 * pos + 1) pos).bind fun z => siftF f z true (2 * pos + 1) top after else (sw zs (2 * pos + 1 + 1) pos).bind fun z => siftF f z true (2 * pos + 1 + 1) top after
        | _, _ => none
      else (sw zs (2 * pos + 1) pos).bind fun z => siftF f z true (2 * pos + 1) top after
    else siftF f zs false pos top after
  | f + 1, zs, false, pos, top, after =>
    if pos > top then
      match zs[pos]?, zs[(pos - 1) / 2]? with
      | some x, some p => if klt x.2 p.2 then (sw zs ((pos - 1) / 2) pos).bind fun z => siftF f z false ((pos - 1) / 2) top after else if after < 0 then some zs else siftF f zs true after.toNat after.toNat (after - 1)
      | _, _ => none
    else if after < 0 then some zs else siftF f zs true after.toNat after.toNat (after - 1)
theorem set_swap_perm {α : Type} : ∀ (l : List α) (i j : Nat) (x y : α), l[i]? = some x → l[j]? = some y → ((l.set i y).set j x).Perm l := by
  intro l i j x y hx hy
  obtain ⟨hi, ex⟩ := List.getElem?_eq_some_iff.mp hx
  obtain ⟨hj, ey⟩ := List.getElem?_eq_some_iff.mp hy
  have h := Array.swap_perm (xs := l.toArray) (i := i) (j := j) (by simpa using hi) (by simpa using hj)
  have h2 := h.toList
  rw [Array.toList_swap] at h2
  simp only [List.getElem_toArray, ex, ey] at h2
  exact h2
theorem sw_perm {l z : List ZV} {i j : Nat} (h : sw l i j = some z) : z.Perm l := by
  unfold sw at h
  split at h
  · next x y hx hy =>
    injection h with h
    rw [← h]
    exact set_swap_perm l i j x y hx hy
  · cases h
theorem siftF_perm : ∀ (f : Nat) (zs : List ZV) (d : Bool) (pos top : Nat) (after : Int) (ys : List ZV), siftF f zs d pos top after = some ys → ys.Perm zs
  | 0, _, _, _, _, _, _, h => by simp [siftF] at h
  | f + 1, zs, true, pos, top, after, ys, h => by
    unfold siftF at h
    split at h
    · split at h
      · split at h
        · split at h
          · obtain ⟨z, hz, h⟩ := Option.bind_eq_some_iff.mp h
            exact (siftF_perm f _ _ _ _ _ _ h).trans (sw_perm hz)
          · obtain ⟨z, hz, h⟩ := Option.bind_eq_some_iff.mp h
            exact (siftF_perm f _ _ _ _ _ _ h).trans (sw_perm hz)
        · cases h
      · obtain ⟨z, hz, h⟩ := Option.bind_eq_some_iff.mp h
        exact (siftF_perm f _ _ _ _ _ _ h).trans (sw_perm hz)
    · exact siftF_perm f _ _ _ _ _ _ h
  | f + 1, zs, false, pos, top, after, ys, h => by
    unfold siftF at h
    split at h
    · split at h
      · split at h
        · obtain ⟨z, hz, h⟩ := Option.bind_eq_some_iff.mp h
          exact (siftF_perm f _ _ _ _ _ _ h).trans (sw_perm hz)
        · split at h
          · injection h with h; rw [h]
          · exact siftF_perm f _ _ _ _ _ _ h
      · cases h
    · split at h
      · injection h with h; rw [h]
      · exact siftF_perm f _ _ _ _ _ _ h
abbrev LtAll (a : Addr) (s : Shared) (zs : List ZV) : Prop := ∀ h', Heap.SameBut a s.heap h' → ∀ z ∈ zs, ∀ z' ∈ zs, LtR { s with heap := h' } z.1 z'.1 (klt z.2 z'.2)
theorem LtAll.perm {a : Addr} {s : Shared} {zs ys : List ZV} (h : LtAll a s zs) (p : ys.Perm zs) {h' : Heap} (hs : Heap.SameBut a s.heap h') : LtAll a { s with heap := h' } ys :=
  fun h'' hs' z hz z' hz' => h h'' (hs.trans hs') z (p.mem_iff.mp hz) z' (p.mem_iff.mp hz')
theorem sw_some {zs z : List ZV} {i j : Nat} (h : sw zs i j = some z) : ∃ x y, zs[i]? = some x ∧ zs[j]? = some y ∧ z = (zs.set i y).set j x := by
  unfold sw at h
  split at h
  · next x y hx hy =>
    injection h with h
    exact ⟨x, y, hx, hy, h.symm⟩
  · cases h
theorem map_get {zs : List ZV} {i : Nat} {x : ZV} (h : zs[i]? = some x) : (zs.map (·.1))[i]? = some x.1 := by rw [List.getElem?_map, h]; rfl
theorem map_set2 {zs : List ZV} {i j : Nat} {x y : ZV} : ((zs.set i y).set j x).map (·.1) = ((zs.map (·.1)).set i y.1).set j x.1 := by
  rw [List.map_set, List.map_set]
section
variable {prog : Program} {w : World} {A : Around} {R : Result → Shared → Prop}
theorem sift_run {a : Addr} {res : Value} (hu : A.units + 11 < cLine) : ∀ (f : Nat) (zs : List ZV) (d : Bool) (pos top : Nat) (after : Int) (ys : List ZV) (n : Nat) (s : Shared), siftF f zs d pos top after = some ys →
    s.heap.get? a = some (listOf (zs.map (·.1)).toArray n) → zs.length ≤ 20 → LtAll a s zs →
    (∀ h' n', Heap.SameBut a s.heap h' → h'.get? a = some (listOf (ys.map (·.1)).toArray n') → R (.ok (.ret res)) { s with heap := h' }) →
    codeAny (model prog w) A (.builtin "_heapq.heapify.sift" ⟨[.ref a, .bool false, .bool d, rawInt pos, rawInt top, res, rawInt after], []⟩) R s
  | 0, _, _, _, _, _, _, _, _, h, _, _, _, _ => by simp [siftF] at h
  | f + 1, zs, true, pos, top, after, ys, n, s, h, ha, hz, hl, hR => by
    have hlen : (zs.map (·.1)).length = zs.length := List.length_map _
    unfold siftF at h
    split at h
    · next h1 =>
      split at h
      · next h2 =>
        split at h
        · next l r el er =>
          have hb := hl s.heap (Heap.SameBut.refl _ _) l (List.mem_of_getElem? el) r (List.mem_of_getElem? er)
          have key : ∀ (c : Nat) (cv : ZV), zs[c]? = some cv → c = (if klt l.2 r.2 then 2 * pos + 1 else 2 * pos + 1 + 1) → cv.1 = (if klt l.2 r.2 then l.1 else r.1) → ((sw zs c pos).bind fun z => siftF f z true c top after) = some ys →
              codeAny (model prog w) A (.builtin "_heapq.heapify.sift" ⟨[.ref a, .bool false, .bool true, rawInt pos, rawInt top, res, rawInt after], []⟩) R s := by
            intro c cv hcv hc hv h
            obtain ⟨z, hz', h⟩ := Option.bind_eq_some_iff.mp h
            obtain ⟨x, p, ex, ep, ez⟩ := sw_some hz'
            rw [hcv] at ex
            injection ex with ex
            subst ex
            refine sift_down_two ha (by rw [hlen]; exact hz) hu (by rw [hlen]; exact h1) (by rw [hlen]; exact h2) (map_get el) (map_get er) (map_get ep) hb fun h' n' c' cv' e1 e2 hs hg => ?_
            rw [← hc] at e1
            rw [← hv] at e2
            subst e1 e2
            refine sift_run hu f z true _ top after ys n' _ h (by rw [hg, ez, map_set2]) ?_ (hl.perm (sw_perm hz') hs) fun h'' n'' hs' hg' => hR h'' n'' (hs.trans hs') hg'
            rw [(sw_perm hz').length_eq]; exact hz
          split at h
          · next hk => exact key _ l el (by rw [if_pos hk]) (by rw [if_pos hk]) h
          · next hk => exact key _ r er (by rw [if_neg hk]) (by rw [if_neg hk]) h
        · cases h
      · next h2 =>
        obtain ⟨z, hz', h⟩ := Option.bind_eq_some_iff.mp h
        obtain ⟨x, p, ex, ep, ez⟩ := sw_some hz'
        refine sift_down_one ha (by rw [hlen]; exact hz) (by rw [hlen]; exact h1) (by rw [hlen]; exact h2) (map_get ex) (map_get ep) fun h' n' hs hg => ?_
        refine sift_run hu f z true _ top after ys n' _ h (by rw [hg, ez, map_set2]) ?_ (hl.perm (sw_perm hz') hs) fun h'' n'' hs' hg' => hR h'' n'' (hs.trans hs') hg'
        rw [(sw_perm hz').length_eq]; exact hz
    · next h1 => exact sift_down_leaf ha (by rw [hlen]; exact h1) (sift_run hu f zs false pos top after ys n s h ha hz hl hR)
  | f + 1, zs, false, pos, top, after, ys, n, s, h, ha, hz, hl, hR => by
    have hlen : (zs.map (·.1)).length = zs.length := List.length_map _
    have fin : (if after < 0 then some zs else siftF f zs true after.toNat after.toNat (after - 1)) = some ys → SiftEnd prog w A R a top after res s := by
      intro h
      refine ⟨fun h2 => ?_, fun h2 => ?_⟩
      · rw [if_pos h2] at h
        injection h with h
        subst h
        exact hR s.heap n (Heap.SameBut.refl _ _) ha
      · rw [if_neg h2] at h
        have := sift_run hu f zs true after.toNat after.toNat (after - 1) ys n s h ha hz hl hR
        have e : ((after.toNat : Nat) : Int) = after := by omega
        rw [e] at this
        exact this
    unfold siftF at h
    split at h
    · next h1 =>
      split at h
      · next x p ex ep =>
        have hb := hl s.heap (Heap.SameBut.refl _ _) x (List.mem_of_getElem? ex) p (List.mem_of_getElem? ep)
        split at h
        · next hk =>
          obtain ⟨z, hz', h⟩ := Option.bind_eq_some_iff.mp h
          obtain ⟨p', x', ep', ex', ez⟩ := sw_some hz'
          rw [hk] at hb
          rw [ex] at ex'
          rw [ep] at ep'
          injection ex' with ex'
          injection ep' with ep'
          subst ex' ep'
          refine sift_up_move ha (by rw [hlen]; exact hz) hu h1 (map_get ex) (map_get ep) hb fun h' n' hs hg => ?_
          refine sift_run hu f z false _ top after ys n' _ h (by rw [hg, ez, map_set2]) ?_ (hl.perm (sw_perm hz') hs) fun h'' n'' hs' hg' => hR h'' n'' (hs.trans hs') hg'
          rw [(sw_perm hz').length_eq]; exact hz
        · next hk =>
          have hk' : klt x.2 p.2 = false := by simpa using hk
          rw [hk'] at hb
          exact sift_up_stop ha hu h1 (map_get ex) (map_get ep) hb (fin h)
      · cases h
    · next h1 => exact sift_up_top ha h1 (fin h)
end
end
section
local macro_rules | `(tactic| walk_at "m_pad") => `(tactic| skip)
local macro_rules | `(tactic| walk_at "m_pad") => `(tactic| skip)
local macro_rules | `(tactic| walk_at "m_pad") => `(tactic| skip)
local macro_rules | `(tactic| walk_at "m_pad") => `(tactic| skip)
local macro_rules | `(tactic| walk_at "m_pad") => `(tactic| skip)
local macro_rules | `(tactic| walk_at "m_pad") => `(tactic| skip)
local macro_rules | `(tactic| walk_at "m_pad") => `(tactic| skip)
local macro_rules | `(tactic| walk_at "m_pad") => `(tactic| skip)
local macro_rules | `(tactic| walk_at "m_pad") => `(tactic| skip)
local macro_rules | `(tactic| walk_at "m_pad") => `(tactic| skip)
local macro_rules | `(tactic| walk_at "m_pad") => `(tactic| skip)
local macro_rules | `(tactic| walk_at "m_pad") => `(tactic| skip)
local macro_rules | `(tactic| walk_at "m_pad") => `(tactic| skip)
local macro_rules | `(tactic| walk_at "m_pad") => `(tactic| skip)
local macro_rules | `(tactic| walk_at "m_pad") => `(tactic| skip)
local macro_rules | `(tactic| walk_at "m_pad") => `(tactic| skip)
local macro_rules | `(tactic| walk_at "m_pad") => `(tactic| skip)
local macro_rules | `(tactic| walk_at "m_pad") => `(tactic| skip)
local macro_rules | `(tactic| walk_at "m_pad") => `(tactic| skip)
local macro_rules | `(tactic| walk_at "m_pad") => `(tactic| skip)
local macro_rules | `(tactic| walk_at "m_pad") => `(tactic| skip)
local macro_rules | `(tactic| walk_at "m_pad") => `(tactic| skip)
local macro_rules | `(tactic| walk_at "m_pad") => `(tactic| skip)
local macro_rules | `(tactic| walk_at "m_pad") => `(tactic| skip)
local macro_rules | `(tactic| walk_at "m_pad") => `(tactic| skip)
local macro_rules | `(tactic| walk_at "m_pad") => `(tactic| skip)
local macro_rules | `(tactic| walk_at "m_pad") => `(tactic| skip)
local macro_rules | `(tactic| walk_at "m_pad") => `(tactic| skip)
local macro_rules | `(tactic| walk_at "m_pad") => `(tactic| skip)
local macro_rules | `(tactic| walk_at "m_pad") => `(tactic| skip)
local macro_rules | `(tactic| walk_at "m_pad") => `(tactic| skip)
open PySem PySem.W PyProof.Rows PySem.Calls PySem.Spec
set_option maxHeartbeats 4000000
def HeapOK : List ZV → Prop
  | [] => True
  | [_] => True
  | [a, b] => klt b.2 a.2 = false
  | [a, b, c] => klt b.2 a.2 = false ∧ klt c.2 a.2 = false
  | [a, b, c, d] => klt b.2 a.2 = false ∧ klt c.2 a.2 = false ∧ klt d.2 b.2 = false
  | _ => False
theorem klt_trans' {a b c : K2} (h1 : klt b a = false) (h2 : klt c b = false) : klt c a = false := by
  have h1 := of_decide_eq_false h1
  have h2 := of_decide_eq_false h2
  exact decide_eq_false (by omega)
theorem klt_asym {a b : K2} (h : klt a b = true) : klt b a = false := by
  have := klt_t h
  exact decide_eq_false (by omega)
theorem klt_irr {a : K2} : klt a a = false := decide_eq_false (by omega)
theorem HeapOK.min {z : ZV} {r : List ZV} (h : HeapOK (z :: r)) : ∀ y ∈ z :: r, klt y.2 z.2 = false := by
  intro y hy
  rcases List.mem_cons.mp hy with rfl | hy
  · exact klt_irr
  rcases r with _ | ⟨b, _ | ⟨c, _ | ⟨d, _ | ⟨e, r⟩⟩⟩⟩
  · cases hy
  · rw [List.mem_singleton.mp hy]; exact h
  · rcases List.mem_cons.mp hy with rfl | hy
    · exact h.1
    rw [List.mem_singleton.mp hy]; exact h.2
  · rcases List.mem_cons.mp hy with rfl | hy
    · exact h.1
    rcases List.mem_cons.mp hy with rfl | hy
    · exact h.2.1
    rw [List.mem_singleton.mp hy]; exact klt_trans' h.1 h.2.2
  · exact h.elim
theorem HeapOK.le {zs : List ZV} (h : HeapOK zs) : zs.length ≤ 4 := by
  rcases zs with _ | ⟨a, _ | ⟨b, _ | ⟨c, _ | ⟨d, _ | ⟨e, r⟩⟩⟩⟩⟩ <;> simp
  exact h.elim
def T2 (a b : ZV) : List ZV := if klt a.2 b.2 then [a, b] else [b, a]
def T3 (a b c : ZV) : List ZV := if klt b.2 c.2 then (if klt a.2 b.2 then [a, b, c] else [b, a, c]) else (if klt a.2 c.2 then [a, b, c] else [c, b, a])
def T4 (a b c d : ZV) : List ZV := if klt b.2 c.2 then (if klt a.2 d.2 then (if klt a.2 b.2 then [a, b, c, d] else [b, a, c, d]) else [b, d, c, a]) else (if klt a.2 c.2 then [a, b, c, d] else [c, b, a, d])
def U2 (a z : ZV) : List ZV := if klt z.2 a.2 then [z, a] else [a, z]
def U3 (a b z : ZV) : List ZV := if klt z.2 a.2 then [z, b, a] else [a, b, z]
def U4 (a b c z : ZV) : List ZV := if klt z.2 b.2 then (if klt z.2 a.2 then [z, a, c, b] else [a, z, c, b]) else [a, b, c, z]
theorem ite_some {α : Type} {p : Prop} [Decidable p] {x y : Option α} {u v : α} (h1 : x = some u) (h2 : y = some v) : (if p then x else y) = some (if p then u else v) := by
  split
  · exact h1
  · exact h2
theorem T1_eq {a : ZV} {f : Nat} : siftF (f + 5) [a] true 0 0 (-1) = some [a] := by kernel_rfl
theorem T2_eq {a b : ZV} {f : Nat} : siftF (f + 6) [a, b] true 0 0 (-1) = some (T2 a b) := by
  unfold T2
  refine Eq.trans (b := if klt a.2 b.2 then some [a, b] else some [b, a]) (by kernel_rfl) (ite_some rfl rfl)
theorem T3_eq {a b c : ZV} {f : Nat} : siftF (f + 6) [a, b, c] true 0 0 (-1) = some (T3 a b c) := by
  unfold T3
  refine Eq.trans (b := if klt b.2 c.2 then (if klt a.2 b.2 then some [a, b, c] else some [b, a, c]) else (if klt a.2 c.2 then some [a, b, c] else some [c, b, a])) (by kernel_rfl) (ite_some (ite_some rfl rfl) (ite_some rfl rfl))
theorem T4_eq {a b c d : ZV} {f : Nat} : siftF (f + 8) [a, b, c, d] true 0 0 (-1) = some (T4 a b c d) := by
  unfold T4
  refine Eq.trans (b := if klt b.2 c.2 then (if klt a.2 d.2 then (if klt a.2 b.2 then some [a, b, c, d] else some [b, a, c, d]) else some [b, d, c, a]) else (if klt a.2 c.2 then some [a, b, c, d] else some [c, b, a, d])) (by kernel_rfl) (ite_some (ite_some (ite_some rfl rfl) rfl) (ite_some rfl rfl))
theorem T4b_eq {a b c d : ZV} {f : Nat} : siftF (f + 12) [a, b, c, d] true 1 1 0 = some (if klt b.2 d.2 then T4 a b c d else T4 a d c b) := by
  refine Eq.trans (b := if klt b.2 d.2 then siftF (f + 8) [a, b, c, d] true 0 0 (-1) else siftF (f + 9) [a, d, c, b] true 0 0 (-1)) (by kernel_rfl) (ite_some T4_eq (T4_eq (f := f + 1)))
theorem U1_eq {z : ZV} {f : Nat} : siftF (f + 6) [z] false 0 0 (-1) = some [z] := by kernel_rfl
theorem U2_eq {a z : ZV} {f : Nat} : siftF (f + 6) [a, z] false 1 0 (-1) = some (U2 a z) := by
  unfold U2
  refine Eq.trans (b := if klt z.2 a.2 then some [z, a] else some [a, z]) (by kernel_rfl) (ite_some rfl rfl)
theorem U3_eq {a b z : ZV} {f : Nat} : siftF (f + 6) [a, b, z] false 2 0 (-1) = some (U3 a b z) := by
  unfold U3
  refine Eq.trans (b := if klt z.2 a.2 then some [z, b, a] else some [a, b, z]) (by kernel_rfl) (ite_some rfl rfl)
theorem U4_eq {a b c z : ZV} {f : Nat} : siftF (f + 6) [a, b, c, z] false 3 0 (-1) = some (U4 a b c z) := by
  unfold U4
  refine Eq.trans (b := if klt z.2 b.2 then (if klt z.2 a.2 then some [z, a, c, b] else some [a, z, c, b]) else some [a, b, c, z]) (by kernel_rfl) (ite_some (ite_some rfl rfl) rfl)
local macro_rules | `(tactic| walk_at "m_heap") => `(tactic| ((repeat' split) <;> simp only [HeapOK, klt, decide_eq_true_eq, decide_eq_false_iff_not] at * <;> omega))
theorem T2_ok {a b : ZV} : HeapOK (T2 a b) := by
  unfold T2; walk_at "m_heap"
theorem T3_ok {a b c : ZV} : HeapOK (T3 a b c) := by
  unfold T3; walk_at "m_heap"
theorem T4_ok {a b c d : ZV} (h : klt d.2 b.2 = false) : HeapOK (T4 a b c d) := by
  unfold T4; walk_at "m_heap"
theorem U2_ok {a z : ZV} : HeapOK (U2 a z) := by
  unfold U2; walk_at "m_heap"
theorem U3_ok {a b z : ZV} (h : HeapOK [a, b]) : HeapOK (U3 a b z) := by
  unfold U3; walk_at "m_heap"
theorem U4_ok {a b c z : ZV} (h : HeapOK [a, b, c]) : HeapOK (U4 a b c z) := by
  unfold U4; walk_at "m_heap"
theorem hify_spec {zs : List ZV} (h1 : zs.length ≤ 4) (h2 : 2 ≤ zs.length) : ∃ ys, siftF 20 zs true (zs.length / 2 - 1) (zs.length / 2 - 1) ((zs.length / 2 : Nat) - 2 : Int) = some ys ∧ HeapOK ys := by
  rcases zs with _ | ⟨a, _ | ⟨b, _ | ⟨c, _ | ⟨d, _ | ⟨e, r⟩⟩⟩⟩⟩
  · simp at h2
  · simp at h2
  · exact ⟨_, Eq.trans (b := siftF 20 [a, b] true 0 0 (-1)) (by kernel_rfl) (T2_eq (f := 14)), T2_ok⟩
  · exact ⟨_, Eq.trans (b := siftF 20 [a, b, c] true 0 0 (-1)) (by kernel_rfl) (T3_eq (f := 14)), T3_ok⟩
  · refine ⟨_, Eq.trans (b := siftF 20 [a, b, c, d] true 1 1 0) (by kernel_rfl) (T4b_eq (f := 8)), ?_⟩
    split
    · next h => exact T4_ok (klt_asym h)
    · next h => exact T4_ok (by simpa using h)
  · simp at h1
theorem hpush_spec {zs : List ZV} {z : ZV} (h1 : zs.length ≤ 3) (h2 : HeapOK zs) : ∃ ys, siftF 20 (zs ++ [z]) false zs.length 0 (-1) = some ys ∧ HeapOK ys := by
  rcases zs with _ | ⟨a, _ | ⟨b, _ | ⟨c, _ | ⟨d, r⟩⟩⟩⟩
  · exact ⟨_, U1_eq (f := 14), trivial⟩
  · exact ⟨_, U2_eq (f := 14), U2_ok⟩
  · exact ⟨_, U3_eq (f := 14), U3_ok h2⟩
  · exact ⟨_, U4_eq (f := 14), U4_ok h2⟩
  · simp at h1
theorem hpop_spec {a : ZV} {zs : List ZV} {l : ZV} (h2 : HeapOK (a :: (zs ++ [l]))) : ∃ ys, siftF 20 (l :: zs) true 0 0 (-1) = some ys ∧ HeapOK ys := by
  have h1 := h2.le
  rcases zs with _ | ⟨b, _ | ⟨c, _ | ⟨d, r⟩⟩⟩
  · exact ⟨_, T1_eq (f := 15), trivial⟩
  · exact ⟨_, T2_eq (f := 14), T2_ok⟩
  · exact ⟨_, T3_eq (f := 14), T3_ok⟩
  · simp at h1
end
section
local macro_rules | `(tactic| walk_at "m_pad") => `(tactic| skip)
local macro_rules | `(tactic| walk_at "m_pad") => `(tactic| skip)
local macro_rules | `(tactic| walk_at "m_pad") => `(tactic| skip)
local macro_rules | `(tactic| walk_at "m_pad") => `(tactic| skip)
local macro_rules | `(tactic| walk_at "m_pad") => `(tactic| skip)
local macro_rules | `(tactic| walk_at "m_pad") => `(tactic| skip)
local macro_rules | `(tactic| walk_at "m_pad") => `(tactic| skip)
local macro_rules | `(tactic| walk_at "m_pad") => `(tactic| skip)
local macro_rules | `(tactic| walk_at "m_pad") => `(tactic| skip)
local macro_rules | `(tactic| walk_at "m_pad") => `(tactic| skip)
local macro_rules | `(tactic| walk_at "m_pad") => `(tactic| skip)
local macro_rules | `(tactic| walk_at "m_pad") => `(tactic| skip)
local macro_rules | `(tactic| walk_at "m_pad") => `(tactic| skip)
local macro_rules | `(tactic| walk_at "m_pad") => `(tactic| skip)
local macro_rules | `(tactic| walk_at "m_pad") => `(tactic| skip)
local macro_rules | `(tactic| walk_at "m_pad") => `(tactic| skip)
local macro_rules | `(tactic| walk_at "m_pad") => `(tactic| skip)
local macro_rules | `(tactic| walk_at "m_pad") => `(tactic| skip)
local macro_rules | `(tactic| walk_at "m_pad") => `(tactic| skip)
local macro_rules | `(tactic| walk_at "m_pad") => `(tactic| skip)
local macro_rules | `(tactic| walk_at "m_pad") => `(tactic| skip)
local macro_rules | `(tactic| walk_at "m_pad") => `(tactic| skip)
local macro_rules | `(tactic| walk_at "m_pad") => `(tactic| skip)
local macro_rules | `(tactic| walk_at "m_pad") => `(tactic| skip)
local macro_rules | `(tactic| walk_at "m_pad") => `(tactic| skip)
local macro_rules | `(tactic| walk_at "m_pad") => `(tactic| skip)
local macro_rules | `(tactic| walk_at "m_pad") => `(tactic| skip)
local macro_rules | `(tactic| walk_at "m_pad") => `(tactic| skip)
local macro_rules | `(tactic| walk_at "m_pad") => `(tactic| skip)
local macro_rules | `(tactic| walk_at "m_pad") => `(tactic| skip)
local macro_rules | `(tactic| walk_at "m_pad") => `(tactic| skip)
local macro_rules | `(tactic| walk_at "m_pad") => `(tactic| skip)
local macro_rules | `(tactic| walk_at "m_pad") => `(tactic| skip)
open PySem PySem.W PyProof.Rows PySem.Calls PySem.Spec
set_option maxHeartbeats 1000000
theorem owner_hq : Manifest.owners.lookup (String.ofList ['q', 'p', 'a', 'e', 'h', '_'].reverse) = some Manifest.sig__heapq := by kernel_rfl
theorem args_hpop (a : Value) : argsOk "_heapq.heappop" ⟨[a], []⟩ := by
  unfold argsOk; rw [signature?_of (id := "_heapq.heappop") (n := ['p', 'o', 'p', 'p', 'a', 'e', 'h']) (o := ['q', 'p', 'a', 'e', 'h', '_']) (by kernel_rfl) owner_hq]; kernel_rfl
theorem args_hify (a : Value) : argsOk "_heapq.heapify" ⟨[a], []⟩ := by
  unfold argsOk; rw [signature?_of (id := "_heapq.heapify") (n := ['y', 'f', 'i', 'p', 'a', 'e', 'h']) (o := ['q', 'p', 'a', 'e', 'h', '_']) (by kernel_rfl) owner_hq]; kernel_rfl
theorem args_hpush (a b : Value) : argsOk "_heapq.heappush" ⟨[a, b], []⟩ := by
  unfold argsOk; rw [signature?_of (id := "_heapq.heappush") (n := ['h', 's', 'u', 'p', 'p', 'a', 'e', 'h']) (o := ['q', 'p', 'a', 'e', 'h', '_']) (by kernel_rfl) owner_hq]; kernel_rfl
theorem kind_hpop : builtinKind "_heapq.heappop" = none := by decide +kernel
theorem plain_hpop : plainId "_heapq.heappop" = true := by decide +kernel
theorem kind_hify : builtinKind "_heapq.heapify" = none := by decide +kernel
theorem plain_hify : plainId "_heapq.heapify" = true := by decide +kernel
theorem kind_hpush : builtinKind "_heapq.heappush" = none := by decide +kernel
theorem plain_hpush : plainId "_heapq.heappush" = true := by decide +kernel
section
variable {prog : Program} {w : World} {A : Around} {E : Value → Shared → Prop} {s : Shared}
theorem mapSeq_is {its : Array Value} {n : Nat} {f : Array Value → Array Value} : ∃ n', Obj.mapSeq f (listOf its n) = listOf (f its) n' := ⟨_, rfl⟩
theorem hify_call {a : Addr} {zs : List ZV} {n : Nat} {Q : Value → Shared → Prop} (hu : A.units + 11 < cLine) (ha : s.heap.get? a = some (listOf (zs.map (·.1)).toArray n)) (hz : zs.length ≤ 4) (hl : LtAll a s zs)
    (h : ∀ h' n' ys, Heap.SameBut a s.heap h' → h'.get? a = some (listOf (ys.map (·.1)).toArray n') → HeapOK ys → ys.Perm zs → Q .none { s with heap := h' }) :
    wpAny (model prog w) A (call (.builtin "_heapq.heapify") [.ref a]) Q E s := by
  refine call_function_any kind_hify plain_hify entry_hify (args_hify _) ?_
  obtain ⟨hh, g, d, tk, os⟩ := s
  have e1 : (zs.map (·.1)).toArray.size = zs.length := by simp
  have f2 := AutoSeq1.sub_list_list
  have hT : Shared.TypeIs ⟨hh, g, d, tk, os⟩ (.ref a) "list" := ⟨_, ha, rfl⟩
  have k1 : zs.length ≤ 2500 := by omega
  by_cases k2 : zs.length < 2
  · wp_walk
    refine h hh n zs (Heap.SameBut.refl _ _) ha ?_ (List.Perm.refl _)
    rcases zs with _ | ⟨z, _ | ⟨y, r⟩⟩
    · trivial
    · trivial
    · simp only [List.length_cons] at k2; omega
  · have k3 : 2 ≤ zs.length := by omega
    wp_walk
    refine ⟨quiet_sift _, ?_⟩
    obtain ⟨ys, hys, hok⟩ := hify_spec hz (by omega)
    rw [e1]
    have hp := siftF_perm _ _ _ _ _ _ _ hys
    exact sift_run hu 20 zs true _ _ _ ys n _ hys ha (by omega) hl fun h' n' hs hg => h h' n' ys hs hg hok hp
theorem hpop_call {a : Addr} {z : ZV} {zs : List ZV} {n : Nat} {Q : Value → Shared → Prop} (hu : A.units + 11 < cLine) (ha : s.heap.get? a = some (listOf ((z :: zs).map (·.1)).toArray n)) (hok : HeapOK (z :: zs)) (hl : LtAll a s (z :: zs))
    (h : ∀ h' n' ys, Heap.SameBut a s.heap h' → h'.get? a = some (listOf (ys.map (·.1)).toArray n') → HeapOK ys → ys.Perm zs → Q z.1 { s with heap := h' }) :
    wpAny (model prog w) A (call (.builtin "_heapq.heappop") [.ref a]) Q E s := by
  refine call_function_any kind_hpop plain_hpop entry_hpop (args_hpop _) ?_
  obtain ⟨hh, g, d, tk, os⟩ := s
  have f2 := AutoSeq1.sub_list_list
  have hT : Shared.TypeIs ⟨hh, g, d, tk, os⟩ (.ref a) "list" := ⟨_, ha, rfl⟩
  have hz := hok.le
  have hzs : zs = [] ∨ ∃ mid l, zs = mid ++ [l] := by
    rcases List.eq_nil_or_concat zs with h | ⟨mid, l, h⟩
    · exact .inl h
    · exact .inr ⟨mid, l, by rw [h, List.concat_eq_append]⟩
  rcases hzs with rfl | ⟨mid, l, rfl⟩
  · have hb : ([z].map (·.1)).toArray.back? = some z.1 := rfl
    wp_walk
    show Q z.1 _
    exact h _ _ [] (Heap.SameBut.update ..) ((get_ok ha).trans (by simp [Obj.mapSeq]; rfl)) trivial (List.Perm.refl _)
  · have hb : ((z :: (mid ++ [l])).map (·.1)).toArray.back? = some l.1 := by
      rw [List.map_cons, List.map_append, List.back?_toArray]
      exact List.getLast?_concat (l := z.1 :: mid.map (·.1))
    have h0 : ((z :: (mid ++ [l])).map (·.1)).toArray[0]? = some z.1 := by simp
    have hm : mid.length ≤ 2 := by simp at hz; omega
    wp_walk
    simp only [hb]
    wp_walk
    rw [past_ok (by simp; omega)]
    wp_walk
    obtain ⟨n1, en1⟩ := mapSeq_is (f := fun x => x.pop) (its := ((z :: (mid ++ [l])).map (·.1)).toArray) (n := n)
    have g1 := get_ok (f := fun x => x.pop) ha
    rw [en1] at g1 ⊢
    have ep : ((z :: (mid ++ [l])).map (·.1)).toArray.pop = (z.1 :: mid.map (·.1)).toArray := by
      rw [List.map_cons, List.map_append, List.pop_toArray]
      exact congrArg List.toArray (show ((z.1 :: mid.map (·.1)) ++ [l.1]).dropLast = _ from List.dropLast_concat)
    rw [ep] at g1 ⊢
    rw [past_ok (by simp; omega)]
    obtain ⟨n2, en2⟩ := mapSeq_is (f := fun x => x.setIfInBounds 0 l.1) (its := (z.1 :: mid.map (·.1)).toArray) (n := n1)
    have g2 := get_ok (f := fun x => x.setIfInBounds 0 l.1) g1
    rw [en2] at g2
    have es : (z.1 :: mid.map (·.1)).toArray.setIfInBounds 0 l.1 = ((l :: mid).map (·.1)).toArray := by simp
    rw [es] at g2
    wp_walk
    refine ⟨quiet_sift _, ?_⟩
    obtain ⟨ys, hys, hok'⟩ := hpop_spec hok
    have hp := (siftF_perm _ _ _ _ _ _ _ hys).trans (List.perm_append_comm (l₁ := [l]) (l₂ := mid))
    have sb : Heap.SameBut a hh ((hh.update a (Obj.mapSeq fun x => x.pop)).update a (Obj.mapSeq fun x => x.setIfInBounds 0 l.1)) := (Heap.SameBut.update ..).trans (Heap.SameBut.update ..)
    refine sift_run hu 20 (l :: mid) true 0 0 (-1) ys n2 _ hys g2 (by simp; omega) ?_ fun h' n' hs hg => h h' n' ys (sb.trans hs) hg hok' hp
    intro h' hs x hx y hy
    refine hl h' (sb.trans hs) x ?_ y ?_
    · rcases List.mem_cons.mp hx with rfl | hx <;> simp [*]
    · rcases List.mem_cons.mp hy with rfl | hy <;> simp [*]
theorem hpush_call {a : Addr} {z : ZV} {zs : List ZV} {n : Nat} {Q : Value → Shared → Prop} (hu : A.units + 11 < cLine) (ha : s.heap.get? a = some (listOf (zs.map (·.1)).toArray n)) (hok : HeapOK zs) (hz : zs.length ≤ 3) (hl : LtAll a s (z :: zs))
    (h : ∀ h' n' ys, Heap.SameBut a s.heap h' → h'.get? a = some (listOf (ys.map (·.1)).toArray n') → HeapOK ys → ys.Perm (z :: zs) → Q .none { s with heap := h' }) :
    wpAny (model prog w) A (call (.builtin "_heapq.heappush") [.ref a, z.1]) Q E s := by
  refine call_function_any kind_hpush plain_hpush entry_hpush (args_hpush _ _) ?_
  obtain ⟨hh, g, d, tk, os⟩ := s
  have f2 := AutoSeq1.sub_list_list
  have hT : Shared.TypeIs ⟨hh, g, d, tk, os⟩ (.ref a) "list" := ⟨_, ha, rfl⟩
  obtain ⟨n1, en1⟩ := mapSeq_is (f := fun x => x.push z.1) (its := (zs.map (·.1)).toArray) (n := n)
  have g1 := get_ok (f := fun x => x.push z.1) ha
  have ep : (zs.map (·.1)).toArray.push z.1 = ((zs ++ [z]).map (·.1)).toArray := by simp
  wp_walk
  rw [en1, ep] at g1
  rw [past_ok (by simp; omega)]
  wp_walk
  refine ⟨quiet_sift _, ?_⟩
  have e1 : ((zs ++ [z]).map (·.1)).toArray.size - 1 = zs.length := by simp
  rw [e1]
  obtain ⟨ys, hys, hok'⟩ := hpush_spec (z := z) hz hok
  have hp := (siftF_perm _ _ _ _ _ _ _ hys).trans (List.perm_append_comm (l₁ := zs) (l₂ := [z]))
  have sb : Heap.SameBut a hh (hh.update a (Obj.mapSeq fun x => x.push z.1)) := Heap.SameBut.update ..
  refine sift_run hu 20 (zs ++ [z]) false _ 0 (-1) ys n1 _ hys g1 (by simp; omega) ?_ fun h' n' hs hg => h h' n' ys (sb.trans hs) hg hok' hp
  intro h' hs x hx y hy
  refine hl h' (sb.trans hs) x ?_ y ?_
  · rcases List.mem_append.mp hx with hx | hx
    · exact .tail _ hx
    · rw [List.mem_singleton.mp hx]; exact .head _
  · rcases List.mem_append.mp hy with hy | hy
    · exact .tail _ hy
    · rw [List.mem_singleton.mp hy]; exact .head _
end
end
section
local macro_rules | `(tactic| walk_at "m_pad") => `(tactic| skip)
local macro_rules | `(tactic| walk_at "m_pad") => `(tactic| skip)
local macro_rules | `(tactic| walk_at "m_pad") => `(tactic| skip)
local macro_rules | `(tactic| walk_at "m_pad") => `(tactic| skip)
local macro_rules | `(tactic| walk_at "m_pad") => `(tactic| skip)
local macro_rules | `(tactic| walk_at "m_pad") => `(tactic| skip)
local macro_rules | `(tactic| walk_at "m_pad") => `(tactic| skip)
local macro_rules | `(tactic| walk_at "m_pad") => `(tactic| skip)
local macro_rules | `(tactic| walk_at "m_pad") => `(tactic| skip)
local macro_rules | `(tactic| walk_at "m_pad") => `(tactic| skip)
local macro_rules | `(tactic| walk_at "m_pad") => `(tactic| skip)
local macro_rules | `(tactic| walk_at "m_pad") => `(tactic| skip)
local macro_rules | `(tactic| walk_at "m_pad") => `(tactic| skip)
local macro_rules | `(tactic| walk_at "m_pad") => `(tactic| skip)
local macro_rules | `(tactic| walk_at "m_pad") => `(tactic| skip)
local macro_rules | `(tactic| walk_at "m_pad") => `(tactic| skip)
local macro_rules | `(tactic| walk_at "m_pad") => `(tactic| skip)
local macro_rules | `(tactic| walk_at "m_pad") => `(tactic| skip)
local macro_rules | `(tactic| walk_at "m_pad") => `(tactic| skip)
local macro_rules | `(tactic| walk_at "m_pad") => `(tactic| skip)
local macro_rules | `(tactic| walk_at "m_pad") => `(tactic| skip)
local macro_rules | `(tactic| walk_at "m_pad") => `(tactic| skip)
local macro_rules | `(tactic| walk_at "m_pad") => `(tactic| skip)
local macro_rules | `(tactic| walk_at "m_pad") => `(tactic| skip)
local macro_rules | `(tactic| walk_at "m_pad") => `(tactic| skip)
local macro_rules | `(tactic| walk_at "m_pad") => `(tactic| skip)
local macro_rules | `(tactic| walk_at "m_pad") => `(tactic| skip)
local macro_rules | `(tactic| walk_at "m_pad") => `(tactic| skip)
local macro_rules | `(tactic| walk_at "m_pad") => `(tactic| skip)
local macro_rules | `(tactic| walk_at "m_pad") => `(tactic| skip)
local macro_rules | `(tactic| walk_at "m_pad") => `(tactic| skip)
local macro_rules | `(tactic| walk_at "m_pad") => `(tactic| skip)
local macro_rules | `(tactic| walk_at "m_pad") => `(tactic| skip)
local macro_rules | `(tactic| walk_at "m_pad") => `(tactic| skip)
open PySem PySem.W PyProof.Rows PySem.Calls PySem.Spec
set_option maxHeartbeats 1000000
theorem ltI {prog : Program} {w : World} {A : Around} {E : Value → Shared → Prop} {s : Shared} {a b : Int} {t u : Tok} {Q : Value → Shared → Prop} (h : Q (.bool (decide (a < b))) s) : wpAny (model prog w) A (richCompare .Lt (.int a t) (.int b u)) Q E s :=
  richCompare_gives (op := .Lt) (typeIs_int s _ t) (typeIs_int s _ u) F.slot_int_lt F.entry_int_lt (F.args_int_lt_2 _ _) (gives_int_lt _ _ t u) (fun x => nomatch x) h
theorem eqI {prog : Program} {w : World} {A : Around} {E : Value → Shared → Prop} {s : Shared} {a b : Int} {t u : Tok} {k : Bool} {Q : Bool → Shared → Prop} (hk : (a == b) = k) (h : Q k s) : wpAny (model prog w) A (eqBool (.int a t) (.int b u)) Q E s :=
  wpAny_eqBool_int (by rw [hk]; exact h)
theorem LtR.ints {s : Shared} {a b : Int} {t u : Tok} : LtR s (.int a t) (.int b u) (decide (a < b)) := fun A prog w E Q _ h => ltI h
abbrev tupOf (vs : Array Value) (n : Nat) : Obj := { cls := .type "tuple", data := .seq vs n }
theorem tuple_lt2 (l b : Addr) (a1 a2 b1 b2 : Int) (t1 t2 u1 u2 : Tok) (n n2 : Nat) :
    Meets (Builtin.«tuple.__lt__» ⟨[.ref l, .ref b], []⟩)
      (fun A R s => s.heap.get? l = some (tupOf #[.int a1 t1, .int a2 t2] n) ∧ s.heap.get? b = some (tupOf #[.int b1 u1, .int b2 u2] n2) ∧
        R (.ok (.ret (.bool (klt (a1, a2) (b1, b2))))) s) :=
  .of_wp fun prog w A R s h => by
    obtain ⟨hp, g, d, tk, os⟩ := s; obtain ⟨hl, hb, h⟩ := h
    have f2 := AutoSeq1.sub_tuple_tuple
    by_cases e1 : a1 = b1
    · have k1 : (a1 == b1) = true := by simp [e1]
      by_cases e2 : a2 = b2
      · have k2 : (a2 == b2) = true := by simp [e2]
        have k3 : klt (a1, a2) (b1, b2) = false := decide_eq_false (by simp only; omega)
        rw [k3] at h
        wp_walk using wpAny_loadPart' hl, wpAny_loadPart' hb, eqI k1, eqI k2
        exact ⟨_, rfl, h⟩
      · have k2 : (a2 == b2) = false := by simp [e2]
        have k3 : klt (a1, a2) (b1, b2) = decide (a2 < b2) := by
          by_cases h5 : a2 < b2
          · rw [decide_eq_true h5]; exact decide_eq_true (by simp only; omega)
          · rw [decide_eq_false h5]; exact decide_eq_false (by simp only; omega)
        rw [k3] at h
        wp_walk using wpAny_loadPart' hl, wpAny_loadPart' hb, eqI k1, eqI k2, ltI
        exact ⟨_, rfl, h⟩
    · have k1 : (a1 == b1) = false := by simp [e1]
      have k3 : klt (a1, a2) (b1, b2) = decide (a1 < b1) := by
        by_cases h5 : a1 < b1
        · rw [decide_eq_true h5]; exact decide_eq_true (by simp only; omega)
        · rw [decide_eq_false h5]; exact decide_eq_false (by simp only; omega)
      rw [k3] at h
      wp_walk using wpAny_loadPart' hl, wpAny_loadPart' hb, eqI k1, ltI
      exact ⟨_, rfl, h⟩
theorem LtR.tups {s : Shared} {l b : Addr} {a1 a2 b1 b2 : Int} {t1 t2 u1 u2 : Tok} {n n2 : Nat} (hl : s.heap.get? l = some (tupOf #[.int a1 t1, .int a2 t2] n)) (hb : s.heap.get? b = some (tupOf #[.int b1 u1, .int b2 u2] n2)) :
    LtR s (.ref l) (.ref b) (klt (a1, a2) (b1, b2)) := fun A prog w E Q hu h =>
  richCompare_meets_room (op := .Lt) ⟨_, hl, rfl⟩ ⟨_, hb, rfl⟩ F.slot_tuple_lt F.entry_tuple_lt (F.args_tuple_lt_2 _ _) (tuple_lt2 l b a1 a2 b1 b2 t1 t2 u1 u2 n n2)
    ⟨hl, hb, show Value.bool (klt (a1, a2) (b1, b2)) ≠ Value.notImplemented ∧ Q (.bool (klt (a1, a2) (b1, b2))) s from ⟨(fun x => nomatch x), h⟩⟩ (by omega)
/-- an entry of a heap list: an int k (key (k, 0)), or a pair -/
def IntZ (z : ZV) : Prop := z.2.2 = 0 ∧ ∃ t, z.1 = .int z.2.1 t
def TupZ (h : Heap) (z : ZV) : Prop := ∃ l t1 t2 n, z.1 = .ref l ∧ h.get? l = some (tupOf #[.int z.2.1 t1, .int z.2.2 t2] n)
theorem ltAll_ints {a : Addr} {s : Shared} {zs : List ZV} (h : ∀ z ∈ zs, IntZ z) : LtAll a s zs := by
  intro h' _ z hz z' hz'
  obtain ⟨e1, t, e2⟩ := h z hz
  obtain ⟨e3, u, e4⟩ := h z' hz'
  rw [e2, e4]
  have k3 : klt z.2 z'.2 = decide (z.2.1 < z'.2.1) := by
    by_cases h5 : z.2.1 < z'.2.1
    · rw [decide_eq_true h5]; exact decide_eq_true (by omega)
    · rw [decide_eq_false h5]; exact decide_eq_false (by omega)
  rw [k3]
  exact LtR.ints
theorem TupZ.same {a : Addr} {h h' : Heap} {z : ZV} {its : Array Value} {n : Nat} (x : TupZ h z) (ha : h.get? a = some (listOf its n)) (hs : Heap.SameBut a h h') : TupZ h' z := by
  obtain ⟨l, t1, t2, n, e1, e2⟩ := x
  refine ⟨l, t1, t2, n, e1, (hs.2 l ?_).trans e2⟩
  intro e
  rw [e, ha] at e2
  injection e2 with e2
  have : (listOf its _).cls = (tupOf #[.int z.2.1 t1, .int z.2.2 t2] n).cls := congrArg (·.cls) e2
  simp at this
theorem ltAll_tups {a : Addr} {s : Shared} {zs : List ZV} {its : Array Value} {n : Nat} (ha : s.heap.get? a = some (listOf its n)) (h : ∀ z ∈ zs, TupZ s.heap z) : LtAll a s zs := by
  intro h' hs z hz z' hz'
  obtain ⟨l, t1, t2, n, e1, e2⟩ := (h z hz).same ha hs
  obtain ⟨l', u1, u2, n', e3, e4⟩ := (h z' hz').same ha hs
  rw [e1, e3]
  exact LtR.tups e2 e4
end
section
open PySem PySem.W PyProof.Rows
set_option maxHeartbeats 400000
/-- the first loop of is_digraphical, by the places seen -/
def sumTo (l : List Int) (i : Nat) : Int := (l.take i).sum
def maxTo (l : List Int) (i : Nat) : Int := (l.take i).foldl (fun a b => if b > a then b else a) 0
def stubsTo (is os : List Int) : Nat → List K2
  | 0 => []
  | i + 1 => if 0 < is.getD i 0 then stubsTo is os i ++ [(-1 * os.getD i 0, -1 * is.getD i 0)] else stubsTo is os i
def zerosTo (is os : List Int) : Nat → List Int
  | 0 => []
  | i + 1 => if 0 < is.getD i 0 then zerosTo is os i else if 0 < os.getD i 0 then zerosTo is os i ++ [-1 * os.getD i 0] else zerosTo is os i
/-- sorted lists of keys -/
def insK (k : K2) : List K2 → List K2
  | [] => [k]
  | x :: r => if klt x k then x :: insK k r else k :: x :: r
def srt : List K2 → List K2
  | [] => []
  | x :: r => insK x (srt r)
inductive SortedK : List K2 → Prop
  | nil : SortedK []
  | cons {x : K2} {r : List K2} : (∀ y ∈ r, klt y x = false) → SortedK r → SortedK (x :: r)
theorem insK_mem {k y : K2} : ∀ {l : List K2}, y ∈ insK k l ↔ y = k ∨ y ∈ l
  | [] => by simp [insK]
  | x :: r => by
    unfold insK
    split
    · rw [List.mem_cons, insK_mem, List.mem_cons]
      constructor
      · rintro (h | h | h)
        · exact .inr (.inl h)
        · exact .inl h
        · exact .inr (.inr h)
      · rintro (h | h | h)
        · exact .inr (.inl h)
        · exact .inl h
        · exact .inr (.inr h)
    · rw [List.mem_cons]
theorem insK_perm {k : K2} : ∀ {l : List K2}, (insK k l).Perm (k :: l)
  | [] => .refl _
  | x :: r => by
    unfold insK
    split
    · exact ((insK_perm (l := r)).cons x).trans (.swap ..)
    · exact .refl _
theorem srt_perm : ∀ {l : List K2}, (srt l).Perm l
  | [] => .refl _
  | _ :: _ => insK_perm.trans (srt_perm.cons _)
theorem insK_sorted {k : K2} : ∀ {l : List K2}, SortedK l → SortedK (insK k l)
  | [], _ => .cons (fun _ h => nomatch h) .nil
  | x :: r, .cons h1 h2 => by
    unfold insK
    split
    · next h =>
      refine .cons (fun y hy => ?_) (insK_sorted h2)
      rcases insK_mem.mp hy with rfl | hy
      · exact klt_asym h
      · exact h1 y hy
    · next h =>
      have h' : klt x k = false := by simpa using h
      refine .cons (fun y hy => ?_) (.cons h1 h2)
      rcases List.mem_cons.mp hy with rfl | hy
      · exact h'
      · exact klt_trans' h' (h1 y hy)
theorem srt_sorted : ∀ {l : List K2}, SortedK (srt l)
  | [] => .nil
  | _ :: _ => insK_sorted srt_sorted
theorem klt_eq {a b : K2} (h1 : klt a b = false) (h2 : klt b a = false) : a = b := by
  have h1 := of_decide_eq_false h1
  have h2 := of_decide_eq_false h2
  refine Prod.ext ?_ ?_ <;> omega
theorem sorted_uniq : ∀ {a b : List K2}, SortedK a → SortedK b → a.Perm b → a = b
  | [], [], _, _, _ => rfl
  | [], _ :: _, _, _, p => absurd p.symm.eq_nil (by simp)
  | _ :: _, [], _, _, p => absurd p.eq_nil (by simp)
  | x :: r, y :: t, .cons h1 h2, .cons h3 h4, p => by
    have hxy : x = y := by
      have hx : x ∈ y :: t := p.mem_iff.mp (.head _)
      have hy : y ∈ x :: r := p.mem_iff.mpr (.head _)
      refine klt_eq ?_ ?_
      · rcases List.mem_cons.mp hx with e | hx
        · rw [e]; exact klt_irr
        · exact h3 x hx
      · rcases List.mem_cons.mp hy with e | hy
        · rw [e]; exact klt_irr
        · exact h1 y hy
    subst hxy
    rw [sorted_uniq h2 h4 p.cons_inv]
theorem srt_eq {a b : List K2} (p : a.Perm b) : srt a = srt b := sorted_uniq srt_sorted srt_sorted (srt_perm.trans (p.trans srt_perm.symm))
theorem srt_cons {k : K2} {l : List K2} : srt (k :: l) = insK k (srt l) := rfl
theorem srt_min {k : K2} {l : List K2} (h : ∀ y ∈ l, klt y k = false) : srt (k :: l) = k :: srt l :=
  sorted_uniq srt_sorted (.cons (fun y hy => h y (srt_perm.mem_iff.mp hy)) srt_sorted) (insK_perm.trans (.refl _))
theorem srt_len {l : List K2} : (srt l).length = l.length := srt_perm.length_eq
abbrev keys (zs : List ZV) : List K2 := zs.map (·.2)
abbrev vals (zs : List ZV) : List Value := zs.map (·.1)
theorem srt_heap {z : ZV} {r ys : List ZV} (h : HeapOK (z :: r)) (p : ys.Perm r) : srt (keys (z :: r)) = z.2 :: srt (keys ys) := by
  have e : srt (keys (z :: r)) = z.2 :: srt (keys r) := srt_min fun y hy => by
    obtain ⟨v, hv, rfl⟩ := List.mem_map.mp hy
    exact h.min v (.tail _ hv)
  rw [e, srt_eq (p.map (·.2))]
theorem srt_push {z : ZV} {r ys : List ZV} (p : ys.Perm (z :: r)) : srt (keys ys) = insK z.2 (srt (keys r)) := srt_eq (p.map (·.2))
/-- what is_digraphical does, on sorted lists of keys -/
def digTake : Nat → List K2 → List K2 → List K2 → Option (List K2 × List K2 × List K2)
  | 0, S, Z, M => some (S, Z, M)
  | _ + 1, [], [], _ => none
  | n + 1, s :: S, [], M => if s.1 = 0 then none else digTake n S [] (if s.1 + 1 < 0 ∨ s.2 < 0 then M ++ [(s.1 + 1, s.2)] else M)
  | n + 1, [], z :: Z, M => if z.1 = 0 then none else digTake n [] Z (if z.1 + 1 < 0 ∨ (0 : Int) < 0 then M ++ [(z.1 + 1, 0)] else M)
  | n + 1, s :: S, z :: Z, M => if s.1 > z.1 then (if z.1 = 0 then none else digTake n (s :: S) Z (if z.1 + 1 < 0 ∨ (0 : Int) < 0 then M ++ [(z.1 + 1, 0)] else M))
      else (if s.1 = 0 then none else digTake n S (z :: Z) (if s.1 + 1 < 0 ∨ s.2 < 0 then M ++ [(s.1 + 1, s.2)] else M))
def digPut : List K2 → List K2 → List K2 → List K2 × List K2
  | [], S, Z => (S, Z)
  | m :: M, S, Z => if m.2 < 0 then digPut M (insK m S) Z else digPut M S (insK (m.1, 0) Z)
def digGo : Nat → List K2 → List K2 → Bool
  | 0, _, _ => false
  | _ + 1, [], _ => true
  | f + 1, s :: S, Z =>
    if s.2 * -1 > (S.length : Int) + (Z.length : Int) then false else
    match digTake (s.2 * -1).toNat S Z [] with
    | none => false
    | some (S', Z', M) => digGo f (digPut M S' Z').1 (if s.1 < 0 then insK (s.1, 0) (digPut M S' Z').2 else (digPut M S' Z').2)
def digF (is os : List Int) : Bool :=
  if is.length = 0 then true
  else if sumTo is is.length ≠ sumTo os is.length then false
  else digGo 6 (srt (stubsTo is os is.length)) (srt ((zerosTo is os is.length).map fun k => (k, 0)))
section
variable {is os : List Int} {n : Nat}
theorem getD_take (l : List Int) (i : Nat) (h : i < l.length) : l.take (i + 1) = l.take i ++ [l.getD i 0] := by
  rw [List.take_add_one, List.getElem?_eq_getElem h, List.getD_eq_getElem?_getD, List.getElem?_eq_getElem h]; rfl
theorem sumTo_s (l : List Int) (i : Nat) (h : i < l.length) : sumTo l i + l.getD i 0 = sumTo l (i + 1) := by
  unfold sumTo
  rw [getD_take l i h, List.sum_append]; simp
theorem maxTo_s (l : List Int) (i : Nat) (h : i < l.length) : (if l.getD i 0 > maxTo l i then l.getD i 0 else maxTo l i) = maxTo l (i + 1) := by
  unfold maxTo
  rw [getD_take l i h, List.foldl_append]; rfl
end
end
section
open PySem PySem.W PyProof.Rows PySem.Calls PySem.Spec
set_option maxHeartbeats 1000000
def TupL (led : List (Addr × Obj)) (z : ZV) : Prop := ∃ l t1 t2 n, z.1 = .ref l ∧ (l, tupOf #[.int z.2.1 t1, .int z.2.2 t2] n) ∈ led
theorem TupL.mono {led led' : List (Addr × Obj)} {z : ZV} (h : TupL led z) (hs : ∀ p ∈ led, p ∈ led') : TupL led' z := by
  obtain ⟨l, t1, t2, n, e1, e2⟩ := h
  exact ⟨l, t1, t2, n, e1, hs _ e2⟩
theorem TupL.heap {h₀ h : Heap} {L : Addr} {led : List (Addr × Obj)} {z : ZV} (N : News h₀ L h led) (x : TupL led z) : TupZ h z := by
  obtain ⟨l, t1, t2, n, e1, e2⟩ := x
  exact ⟨l, t1, t2, n, e1, (N _ e2).1⟩
theorem hk_of {led news : List (Addr × Obj)} {zs : List ZV} (h : ∀ z ∈ zs, TupL led z) (hs : ∀ p ∈ led, p ∈ news) : ∀ z ∈ zs, TupL news z := fun z hz => (h z hz).mono hs
theorem dat_zs {led : List (Addr × Obj)} : ∀ {us : List Value} {ks : List K2}, DatAll led us (ks.map fun k => Dat.tuple [Dat.int k.1, Dat.int k.2]) → ∃ zs : List ZV, us = vals zs ∧ keys zs = ks ∧ ∀ z ∈ zs, TupL led z
  | us, [], h => by
    cases h
    exact ⟨[], rfl, rfl, fun _ h => nomatch h⟩
  | us, k :: ks, h => by
    cases h with
    | cons h1 h2 =>
      obtain ⟨zs, e1, e2, h3⟩ := dat_zs h2
      cases h1 with
      | tuple hm hd =>
        cases hd with
        | cons a1 a2 =>
          cases a1
          cases a2 with
          | cons b1 b2 =>
            cases b1
            cases b2
            refine ⟨(_, k) :: zs, by rw [e1]; rfl, by rw [← e2]; rfl, fun z hz => ?_⟩
            rcases List.mem_cons.mp hz with rfl | hz
            · exact ⟨_, _, _, _, rfl, hm⟩
            · exact h3 z hz
theorem ints_zs {us : List Value} {l : List Int} (h : IntsAre us l) : ∃ zz : List ZV, us = vals zz ∧ keys zz = l.map (fun k => (k, 0)) ∧ ∀ z ∈ zz, IntZ z := by
  induction h with
  | nil => exact ⟨[], rfl, rfl, fun _ h => nomatch h⟩
  | cons k t r ih =>
    obtain ⟨zz, e1, e2, h3⟩ := ih
    refine ⟨(.int k t, (k, 0)) :: zz, by rw [e1]; rfl, (by show (k, 0) :: keys zz = (k, 0) :: _; rw [e2]), fun z hz => ?_⟩
    rcases List.mem_cons.mp hz with rfl | hz
    · exact ⟨rfl, t, rfl⟩
    · exact h3 z hz
section
variable {prog : Program} {w : World} {A : Around} {E : Value → Shared → Prop} {s : Shared} {h₀ : Heap} {L a : Addr} {m : Str → Option Value} {news tl : List (Addr × Obj)} {g : Obj → List (Addr × Obj)} {n : Nat}
theorem led_get {o : Obj} (N : News h₀ L s.heap news) (U : UpdF a o news g) : s.heap.get? a = some o ∧ a ≠ L ∧ h₀.get? a = none := by
  obtain ⟨pre, post, rfl, _, _, _⟩ := U.split
  exact N (a, o) (List.mem_append.mpr (.inr (.head _)))
theorem led_put {o o' : Obj} {h' : Heap} (N : News h₀ L s.heap news) (U : UpdF a o news g) (hs : Heap.SameBut a s.heap h') (ho : h'.get? a = some o') : News h₀ L h' (g o') := by
  obtain ⟨pre, post, rfl, e, p1, p2⟩ := U.split
  rw [e o']
  exact news_set N p1 p2 hs ho
theorem hify_L {zs : List ZV} {Q : Value → Shared → Prop} (F : Fr h₀ L s.heap m) (N : News h₀ L s.heap news) (U : UpdF a (listOf (vals zs).toArray n) news g) (hu : A.units + 11 < cLine) (hz : zs.length ≤ 4)
    (hk : (∀ z ∈ zs, IntZ z) ∨ (∀ z ∈ zs, TupL news z))
    (h : ∀ ys h' n', Fr h₀ L h' m → News h₀ L h' (g (listOf (vals ys).toArray n')) → HeapOK ys → ys.Perm zs → Q .none { s with heap := h' }) :
    wpAny (model prog w) A (call (.builtin "_heapq.heapify") [.ref a]) Q E s := by
  have G := led_get N U
  refine hify_call hu G.1 hz ?_ fun h' n' ys hs hg ok p => h ys h' n' (F.change hs G.2.1 G.2.2) (led_put N U hs hg) ok p
  rcases hk with hk | hk
  · exact ltAll_ints hk
  · exact ltAll_tups G.1 fun z hz => (hk z hz).heap N
theorem popS_L {zs : List ZV} {Q : Value → Shared → Prop} (F : Fr h₀ L s.heap m) (N : News h₀ L s.heap news) (U : UpdF a (listOf (vals zs).toArray n) news g) (hu : A.units + 11 < cLine) (hz : 0 < zs.length) (ok : HeapOK zs)
    (hk : ∀ z ∈ zs, TupL tl z) (hsub : ∀ p ∈ tl, p ∈ news)
    (h : ∀ z r l t1 t2 n0 ys h' n', zs = z :: r → z.1 = .ref l → (l, tupOf #[.int z.2.1 t1, .int z.2.2 t2] n0) ∈ tl → Fr h₀ L h' m → News h₀ L h' (g (listOf (vals ys).toArray n')) → HeapOK ys → ys.Perm r → Q (.ref l) { s with heap := h' }) :
    wpAny (model prog w) A (call (.builtin "_heapq.heappop") [.ref a]) Q E s := by
  have G := led_get N U
  rcases zs with _ | ⟨z, r⟩
  · exact absurd hz (Nat.lt_irrefl 0)
  obtain ⟨l, t1, t2, n0, e1, e2⟩ := hk z (.head _)
  refine hpop_call hu G.1 ok (ltAll_tups G.1 fun z hz => ((hk z hz).mono hsub).heap N) fun h' n' ys hs hg ok p => ?_
  rw [e1]
  exact h z r l t1 t2 n0 ys h' n' rfl e1 e2 (F.change hs G.2.1 G.2.2) (led_put N U hs hg) ok p
theorem popZ_L {zs : List ZV} {Q : Value → Shared → Prop} (F : Fr h₀ L s.heap m) (N : News h₀ L s.heap news) (U : UpdF a (listOf (vals zs).toArray n) news g) (hu : A.units + 11 < cLine) (hz : 0 < zs.length) (ok : HeapOK zs)
    (hk : ∀ z ∈ zs, IntZ z)
    (h : ∀ z r t ys h' n', zs = z :: r → z.1 = .int z.2.1 t → Fr h₀ L h' m → News h₀ L h' (g (listOf (vals ys).toArray n')) → HeapOK ys → ys.Perm r → Q (.int z.2.1 t) { s with heap := h' }) :
    wpAny (model prog w) A (call (.builtin "_heapq.heappop") [.ref a]) Q E s := by
  have G := led_get N U
  rcases zs with _ | ⟨z, r⟩
  · exact absurd hz (Nat.lt_irrefl 0)
  obtain ⟨e0, t, e1⟩ := hk z (.head _)
  refine hpop_call hu G.1 ok (ltAll_ints hk) fun h' n' ys hs hg ok p => ?_
  rw [e1]
  exact h z r t ys h' n' rfl e1 (F.change hs G.2.1 G.2.2) (led_put N U hs hg) ok p
theorem pushS_L {zs : List ZV} {l : Addr} {k1 k2 : Int} {t1 t2 : Tok} {n0 : Nat} {Q : Value → Shared → Prop} (F : Fr h₀ L s.heap m) (N : News h₀ L s.heap news) (U : UpdF a (listOf (vals zs).toArray n) news g) (hu : A.units + 11 < cLine) (hz : zs.length ≤ 3) (ok : HeapOK zs)
    (hk : ∀ z ∈ zs, TupL tl z) (hsub : ∀ p ∈ tl, p ∈ news) (hv : (l, tupOf #[.int k1 t1, .int k2 t2] n0) ∈ tl)
    (h : ∀ ys h' n', Fr h₀ L h' m → News h₀ L h' (g (listOf (vals ys).toArray n')) → HeapOK ys → ys.Perm ((Value.ref l, (k1, k2)) :: zs) → Q .none { s with heap := h' }) :
    wpAny (model prog w) A (call (.builtin "_heapq.heappush") [.ref a, .ref l]) Q E s := by
  have G := led_get N U
  refine hpush_call (z := (Value.ref l, (k1, k2))) hu G.1 ok hz (ltAll_tups G.1 fun z hz => ?_) fun h' n' ys hs hg ok p => h ys h' n' (F.change hs G.2.1 G.2.2) (led_put N U hs hg) ok p
  rcases List.mem_cons.mp hz with rfl | hz
  · exact TupL.heap N ⟨l, t1, t2, n0, rfl, hsub _ hv⟩
  · exact ((hk z hz).mono hsub).heap N
theorem pushZ_L {zs : List ZV} {k : Int} {t : Tok} {Q : Value → Shared → Prop} (F : Fr h₀ L s.heap m) (N : News h₀ L s.heap news) (U : UpdF a (listOf (vals zs).toArray n) news g) (hu : A.units + 11 < cLine) (hz : zs.length ≤ 3) (ok : HeapOK zs)
    (hk : ∀ z ∈ zs, IntZ z)
    (h : ∀ ys h' n', Fr h₀ L h' m → News h₀ L h' (g (listOf (vals ys).toArray n')) → HeapOK ys → ys.Perm ((Value.int k t, (k, 0)) :: zs) → Q .none { s with heap := h' }) :
    wpAny (model prog w) A (call (.builtin "_heapq.heappush") [.ref a, .int k t]) Q E s := by
  have G := led_get N U
  refine hpush_call (z := (Value.int k t, (k, 0))) hu G.1 ok hz (ltAll_ints fun z hz => ?_) fun h' n' ys hs hg ok p => h ys h' n' (F.change hs G.2.1 G.2.2) (led_put N U hs hg) ok p
  rcases List.mem_cons.mp hz with rfl | hz
  · exact ⟨rfl, t, rfl⟩
  · exact hk z hz
end
end
section
open PySem PySem.W PyProof.Rows PySem.Calls PySem.Spec
set_option maxHeartbeats 1000000
def Le4 (n : Nat) : Prop := n ≤ 4
structure St where
  zs : List ZV
  zz : List ZV
  ms : List ZV
  nS : Nat
  nZ : Nat
  nM : Nat
  tl : List (Addr × Obj)
def LedW (aS aZ aM : Addr) (c : St) : List (Addr × Obj) := (aS, listOf (vals c.zs).toArray c.nS) :: (aZ, listOf (vals c.zz).toArray c.nZ) :: (aM, listOf (vals c.ms).toArray c.nM) :: c.tl
def AllTup (tl : List (Addr × Obj)) : Prop := ∀ p ∈ tl, p.2.cls = .type "tuple"
structure FactsW (c : St) : Prop where
  all : AllTup c.tl
  zs : ∀ z ∈ c.zs, TupL c.tl z
  zz : ∀ z ∈ c.zz, IntZ z
  ms : ∀ z ∈ c.ms, TupL c.tl z
def KB (b : Nat) (zs : List ZV) : Prop := ∀ z ∈ zs, -z.2.2 < (b : Int) ∧ z.2.2 ≤ 0
structure PW (res : Bool) (c : St) : Prop where
  okS : HeapOK c.zs
  okZ : HeapOK c.zz
  len : Le4 (c.zs.length + c.zz.length)
  kb : KB c.ms.length c.zs
  go : ∃ f, c.zs.length < f ∧ digGo f (srt (keys c.zs)) (srt (keys c.zz)) = res
structure D1 (is os : List Int) (si so mx : Int) (zs zz : List ZV) : Prop where
  si : si = sumTo is is.length
  so : so = sumTo os is.length
  mx : mx = maxTo is is.length
  ks : keys zs = stubsTo is os is.length
  kz : keys zz = (zerosTo is os is.length).map fun k => (k, 0)
  len : Le4 (zs.length + zz.length)
def tupsOf (led : List (Addr × Obj)) : List (Addr × Obj) := led.filter fun p => p.2.cls == .type "tuple"
theorem tupsOf_all (led : List (Addr × Obj)) : AllTup (tupsOf led) := fun _ hp => eq_of_beq (List.mem_filter.mp hp).2
theorem tupsOf_sub (led : List (Addr × Obj)) : ∀ p ∈ tupsOf led, p ∈ led := fun _ hp => (List.mem_filter.mp hp).1
theorem TupL.tups {led : List (Addr × Obj)} {z : ZV} (h : TupL led z) : TupL (tupsOf led) z := by
  obtain ⟨l, t1, t2, n, e1, e2⟩ := h
  exact ⟨l, t1, t2, n, e1, List.mem_filter.mpr ⟨e2, beq_self_eq_true _⟩⟩
theorem off_of {h₀ h : Heap} {L aS aZ aM : Addr} {c : St} (N : News h₀ L h (LedW aS aZ aM c)) (ht : AllTup c.tl) : OwnOff c.tl [aS, aZ, aM] := by
  have key : ∀ (a : Addr) (its : Array Value) (n : Nat), (a, listOf its n) ∈ LedW aS aZ aM c → ∀ p ∈ c.tl, p.1 ≠ a := by
    intro a its n hm p hp e
    have h1 := (N _ hm).1
    have h2 := (N p (.tail _ (.tail _ (.tail _ hp)))).1
    rw [e] at h2
    dsimp only at h1
    rw [h1] at h2
    injection h2 with h2
    have := ht p hp
    rw [← h2] at this
    simp at this
  intro p hp b hb
  rcases List.mem_cons.mp hb with rfl | hb
  · exact key _ _ _ (.head _) p hp
  rcases List.mem_cons.mp hb with rfl | hb
  · exact key _ _ _ (.tail _ (.head _)) p hp
  rcases List.mem_cons.mp hb with rfl | hb
  · exact key _ _ _ (.tail _ (.tail _ (.head _))) p hp
  · cases hb
theorem fold_rep (v : Value) : ∀ (k : Nat) (acc : Array Value), List.foldl (fun x1 x2 => x1 ++ x2) acc (List.replicate k #[v]) = acc ++ (List.replicate k v).toArray
  | 0, acc => by simp
  | k + 1, acc => by
    rw [List.replicate_succ, List.foldl_cons, fold_rep v k, List.replicate_succ]
    apply Array.ext'
    simp
theorem mods_eq {D : Addr} {mx : Int} : (List.foldl (fun x1 x2 => x1 ++ x2) #[] (List.replicate (if (#[Value.ref D] : Array Value).isEmpty = true then 0 else (mx + 1).toNat) #[Value.ref D])) = (vals (List.replicate (mx + 1).toNat ((Value.ref D, ((0 : Int), (0 : Int))) : ZV))).toArray := by
  have e : (if (#[Value.ref D] : Array Value).isEmpty = true then 0 else (mx + 1).toNat) = (mx + 1).toNat := if_neg (by simp)
  rw [e, fold_rep]
  simp [vals]
theorem stubs_kb {is os : List Int} : ∀ (i : Nat), i ≤ is.length → ∀ k ∈ stubsTo is os i, -k.2 ≤ maxTo is i ∧ k.2 ≤ 0
  | 0, _, k, h => nomatch h
  | i + 1, hi, k, h => by
    have ih := stubs_kb (is := is) (os := os) i (by omega)
    have e := maxTo_s is i (by omega)
    have le1 : maxTo is i ≤ maxTo is (i + 1) := by rw [← e]; split <;> omega
    have le2 : is.getD i 0 ≤ maxTo is (i + 1) := by rw [← e]; split <;> omega
    unfold stubsTo at h
    split at h
    · next h0 =>
      rcases List.mem_append.mp h with h | h
      · exact ⟨Int.le_trans (ih k h).1 le1, (ih k h).2⟩
      · rw [List.mem_singleton.mp h]; simp only; omega
    · exact ⟨Int.le_trans (ih k h).1 le1, (ih k h).2⟩
abbrev storedW : List Str := [Str.ofString "freeout", Str.ofString "freein", Str.ofString "mslen", Str.ofString "i", Str.ofString "stubout", Str.ofString "stubin", Str.ofString "stub"]
abbrev psW : St → List (Str × Value) := fun _ => []
section
variable {prog : Program} {w : World} {A : Around} {E : Value → Shared → Prop} {Q : Flow → Shared → Prop} {s : Shared} {env : Env} {h₀ : Heap} {L aS aZ aM lx D : Addr} {ox : Obj} {led : List (Addr × Obj)}
/-- one turn of the outer while from here -/
abbrev EndW (h₀ : Heap) (L : Addr) (s : Shared) (aS aZ aM : Addr) (m₀ : Str → Option Value) (res : Bool) (Q : Flow → Shared → Prop) (c : St) : Flow → Shared → Prop :=
  KswPost h₀ L s (LedW aS aZ aM) psW FactsW storedW m₀ (PW res) (fun c => c.zs.length) Q c
theorem dig_while {test : Expr} {body : List Stmt} {pos : Pos} {m₀ : Str → Option Value} {is os : List Int} {si so mx : Int} {zs zz xs ys : List ZV} {t1 t2 : Tok} {n1 n2 nD : Nat}
    (F : Fr h₀ L s.heap m₀) (N : News h₀ L s.heap ((aM, ({ cls := .type "list", data := .seq (List.foldl (fun x1 x2 => x1 ++ x2) #[] (List.replicate (if (#[Value.ref D] : Array Value).isEmpty = true then 0 else (mx + 1).toNat) #[Value.ref D])) } : Obj)) :: (lx, ox) :: (D, tupOf #[.int 0 t1, .int 0 t2] nD) :: (aZ, listOf (vals ys).toArray n1) :: (aS, listOf (vals xs).toArray n2) :: led))
    (hD1 : D1 is os si so mx zs zz) (hz : ∀ z ∈ zs, TupL led z) (hzz : ∀ z ∈ zz, IntZ z) (ok1 : HeapOK xs) (p1 : xs.Perm zs) (ok2 : HeapOK ys) (p2 : ys.Perm zz) (he : si = so) (hl0 : is.length ≠ 0) (hm : 0 ≤ maxTo is is.length ∧ maxTo is is.length ≤ 1000)
    (turn : ∀ (c : St) (u : Str → Option Value) h tk, FactsW c → PW (digF is os) c → OwnOff c.tl [aS, aZ, aM] → Fr h₀ L h (fun z => if storedW.contains z then u z else m₀ z) → News h₀ L h (LedW aS aZ aM c) →
      wpAny (model prog w) A (isTrue test env (eval test env)) (fun b s₂ =>
        if b = true then wpAny (model prog w) A (execs body env) (EndW h₀ L s aS aZ aM m₀ (digF is os) Q c) E s₂ else Q .next s₂) E { s with heap := h, toks := tk })
    (hE : PassesOwn (model prog w) A env E) :
    wpAny (model prog w) A (exec (.While test body [] pos) env) Q E s := by
  rw [mods_eq] at N
  have hl := stubs_kb (is := is) (os := os) is.length (Nat.le_refl _)
  refine ksw_while (LedW aS aZ aM) psW FactsW storedW (PW (digF is os)) (fun c => c.zs.length) ⟨xs, ys, List.replicate (mx + 1).toNat ((Value.ref D, ((0 : Int), (0 : Int))) : ZV), n2, n1, 0, (D, tupOf #[.int 0 t1, .int 0 t2] nD) :: tupsOf led⟩ F ?_ ?_ (fun _ h => nomatch h) ?_ ?_ hE
  · intro p hp
    rcases List.mem_cons.mp hp with rfl | hp
    · exact N _ (.tail _ (.tail _ (.tail _ (.tail _ (.head _)))))
    rcases List.mem_cons.mp hp with rfl | hp
    · exact N _ (.tail _ (.tail _ (.tail _ (.head _))))
    rcases List.mem_cons.mp hp with rfl | hp
    · exact N _ (.head _)
    rcases List.mem_cons.mp hp with rfl | hp
    · exact N _ (.tail _ (.tail _ (.head _)))
    exact N _ (.tail _ (.tail _ (.tail _ (.tail _ (.tail _ (tupsOf_sub _ _ hp))))))
  · refine ⟨fun p hp => ?_, fun z hz' => ?_, fun z hz' => hzz z (p2.mem_iff.mp hz'), fun z hz' => ?_⟩
    · rcases List.mem_cons.mp hp with rfl | hp
      · rfl
      · exact tupsOf_all _ p hp
    · exact ((hz z (p1.mem_iff.mp hz')).tups).mono fun p hp => .tail _ hp
    · rw [List.eq_of_mem_replicate hz']
      exact ⟨D, t1, t2, nD, rfl, .head _⟩
  · have hlen := hD1.len
    refine ⟨ok1, ok2, ?_, fun z hz' => ?_, 6, ?_, ?_⟩
    · show xs.length + ys.length ≤ 4
      rw [p1.length_eq, p2.length_eq]; exact hlen
    · have hk : z.2 ∈ stubsTo is os is.length := by
        rw [← hD1.ks]
        exact List.mem_map_of_mem (p1.mem_iff.mp hz')
      have h3 := hl _ hk
      have h4 := hD1.mx
      show -z.2.2 < ((List.replicate (mx + 1).toNat _).length : Int) ∧ z.2.2 ≤ 0
      rw [List.length_replicate]
      omega
    · show xs.length < 6
      have : zs.length + zz.length ≤ 4 := hlen
      have := p1.length_eq
      omega
    · show digGo 6 (srt (keys xs)) (srt (keys ys)) = digF is os
      rw [srt_eq (p1.map (·.2)), srt_eq (p2.map (·.2))]
      show digGo 6 (srt (keys zs)) (srt (keys zz)) = digF is os
      rw [hD1.ks, hD1.kz]
      unfold digF
      rw [if_neg hl0, if_neg (by rw [← hD1.si, ← hD1.so]; exact fun h => h he)]
  · intro c u h tk hF hP F' N'
    exact turn c u h tk hF hP (off_of N' hF.all) F' N'
theorem w_end {c : St} {res : Bool} {m₀ m' : Str → Option Value} {h' : Heap} {tk : Nat} {news' : List (Addr × Obj)} {zs zz ms : List ZV} {nS nZ nM : Nat} {tl : List (Addr × Obj)}
    (F : Fr h₀ L h' m') (N : News h₀ L h' news') (hS : (aS, listOf (vals zs).toArray nS) ∈ news') (hZ : (aZ, listOf (vals zz).toArray nZ) ∈ news') (hM : (aM, listOf (vals ms).toArray nM) ∈ news') (ht : ∀ p ∈ tl, p ∈ news')
    (fall : AllTup tl) (fzs : ∀ z ∈ zs, TupL tl z) (fzz : ∀ z ∈ zz, IntZ z) (fms : ∀ z ∈ ms, TupL tl z) (hp : PW res ⟨zs, zz, ms, nS, nZ, nM, tl⟩) (hlt : zs.length < c.zs.length)
    (hr : ∀ z, storedW.contains z = false → m' z = m₀ z) :
    EndW h₀ L s aS aZ aM m₀ res Q c .next { s with heap := h', toks := tk } := by
  refine ksw_end ⟨zs, zz, ms, nS, nZ, nM, tl⟩ F N ?_ ⟨fall, fzs, fzz, fms⟩ (fun _ h => nomatch h) (fun z _ h => hr z h) hp hlt
  intro p hp
  rcases List.mem_cons.mp hp with rfl | hp
  · exact hS
  rcases List.mem_cons.mp hp with rfl | hp
  · exact hZ
  rcases List.mem_cons.mp hp with rfl | hp
  · exact hM
  exact ht p hp
end
end
section
open PySem PySem.W PyProof.Rows PySem.Calls PySem.Spec
set_option maxHeartbeats 1000000
section
variable {prog : Program} {w : World} {A : Around} {E : Value → Shared → Prop} {s : Shared} {h₀ : Heap} {L a : Addr} {m : Str → Option Value} {news tl : List (Addr × Obj)} {g : Obj → List (Addr × Obj)} {n : Nat} {zs : List ZV}
theorem w_ne3 {h : Heap} {aM lx D aZ aS : Addr} {o1 ox o2 o3 o4 : Obj} {led : List (Addr × Obj)} (_N : News h₀ L h ((aM, o1) :: (lx, ox) :: (D, o2) :: (aZ, o3) :: (aS, o4) :: led)) (h1 : @Ne Nat aS aM) (h2 : @Ne Nat aZ aM) (h3 : @Ne Nat aS aZ) : @Ne Nat aS aM ∧ @Ne Nat aZ aM ∧ @Ne Nat aS aZ := ⟨h1, h2, h3⟩
theorem vals_size : (vals zs).toArray.size = zs.length := by simp [vals]
theorem vals_fit (ok : zs.length ≤ 4) : ((vals zs).toArray.size : Int) < 2 ^ 63 := by rw [vals_size]; omega
theorem tr_L {Q : Bool → Shared → Prop} (N : News h₀ L s.heap news) (hm : (a, listOf (vals zs).toArray n) ∈ news) (ok : HeapOK zs) (h1 : zs.length = 0 → Q false { s with toks := s.toks + 1 + 1 }) (h2 : 0 < zs.length → Q true { s with toks := s.toks + 1 + 1 }) :
    wpAny (model prog w) A (truthy (.ref a)) Q E s := by
  have hl : s.heap.IsList a (vals zs).toArray := ⟨_, (N _ hm).1, rfl, n, rfl⟩
  refine wpAny_truthy_list hl (vals_fit ok.le) ?_
  rcases zs with _ | ⟨z, r⟩
  · exact h1 rfl
  · exact h2 (Nat.succ_pos _)
theorem len_L {Q : Value → Shared → Prop} (N : News h₀ L s.heap news) (hm : (a, listOf (vals zs).toArray n) ∈ news) (ok : HeapOK zs) (h : Q (.int (zs.length : Int) (s.toks + 1)) { s with toks := s.toks + 1 + 1 }) :
    wpAny (model prog w) A (call (.builtin "len") [.ref a]) Q E s := by
  have hl : s.heap.IsList a (vals zs).toArray := ⟨_, (N _ hm).1, rfl, n, rfl⟩
  refine PyProof.Rows.len_list hl (vals_fit ok.le) ?_
  rw [vals_size]; exact h
theorem vals_get {k : Nat} {z : ZV} (h : zs[k]? = some z) : (vals zs)[k]? = some z.1 := map_get h
theorem item0S {value slice : Expr} {u : Tok} {Q : Value → Shared → Prop} (N : News h₀ L s.heap news) (hm : (a, listOf (vals zs).toArray n) ∈ news) (hz : 0 < zs.length) (hk : ∀ z ∈ zs, TupL tl z)
    (h : ∀ z r l t1 t2 n0, zs = z :: r → (l, tupOf #[.int z.2.1 t1, .int z.2.2 t2] n0) ∈ tl → Q (.ref l) s)
    (hs : subscripted slice false (.ref a) (.int 0 u) = operate [.ref a, .int 0 u] (getItem (.ref a) (.int 0 u)) := by with_unfolding_all rfl) :
    wpAny (model prog w) A (subscriptTail value slice (.ref a) (.int 0 u)) Q E s := by
  have hl : s.heap.IsList a (vals zs).toArray := ⟨_, (N _ hm).1, rfl, n, rfl⟩
  rcases zs with _ | ⟨z, r⟩
  · exact absurd hz (Nat.lt_irrefl 0)
  obtain ⟨l, t1, t2, n0, e1, e2⟩ := hk z (.head _)
  refine tail_any hl.typeIs slot_list_getitem.lookup (wpAny_getItem_list hl (Int.le_refl _) (by decide) (x := z.1) (by simp [vals]) ?_) hs
  rw [e1]
  exact h z r l t1 t2 n0 rfl e2
theorem item0Z {value slice : Expr} {u : Tok} {Q : Value → Shared → Prop} (N : News h₀ L s.heap news) (hm : (a, listOf (vals zs).toArray n) ∈ news) (hz : 0 < zs.length) (hk : ∀ z ∈ zs, IntZ z)
    (h : ∀ z r t, zs = z :: r → Q (.int z.2.1 t) s)
    (hs : subscripted slice false (.ref a) (.int 0 u) = operate [.ref a, .int 0 u] (getItem (.ref a) (.int 0 u)) := by with_unfolding_all rfl) :
    wpAny (model prog w) A (subscriptTail value slice (.ref a) (.int 0 u)) Q E s := by
  have hl : s.heap.IsList a (vals zs).toArray := ⟨_, (N _ hm).1, rfl, n, rfl⟩
  rcases zs with _ | ⟨z, r⟩
  · exact absurd hz (Nat.lt_irrefl 0)
  obtain ⟨e0, t, e1⟩ := hk z (.head _)
  refine tail_any hl.typeIs slot_list_getitem.lookup (wpAny_getItem_list hl (Int.le_refl _) (by decide) (x := z.1) (by simp [vals]) ?_) hs
  rw [e1]
  exact h z r t rfl
theorem itemM {value slice : Expr} {k : Int} {u : Tok} {Q : Value → Shared → Prop} (N : News h₀ L s.heap news) (hm : (a, listOf (vals zs).toArray n) ∈ news) (h0 : 0 ≤ k) (h1 : k < (zs.length : Int)) (hf : k < 2 ^ 63) (hk : ∀ z ∈ zs, TupL tl z)
    (h : ∀ z l t1 t2 n0, zs[k.toNat]? = some z → z.1 = .ref l → (l, tupOf #[.int z.2.1 t1, .int z.2.2 t2] n0) ∈ tl → Q (.ref l) s)
    (hs : subscripted slice false (.ref a) (.int k u) = operate [.ref a, .int k u] (getItem (.ref a) (.int k u)) := by with_unfolding_all rfl) :
    wpAny (model prog w) A (subscriptTail value slice (.ref a) (.int k u)) Q E s := by
  have hl : s.heap.IsList a (vals zs).toArray := ⟨_, (N _ hm).1, rfl, n, rfl⟩
  have hi : k.toNat < zs.length := by omega
  have hg : zs[k.toNat]? = some zs[k.toNat] := List.getElem?_eq_getElem hi
  obtain ⟨l, t1, t2, n0, e1, e2⟩ := hk _ (List.getElem_mem hi)
  refine tail_any hl.typeIs slot_list_getitem.lookup (wpAny_getItem_list hl h0 hf (x := (zs[k.toNat]).1) (by simpa using vals_get hg) ?_) hs
  rw [e1]
  exact h _ l t1 t2 n0 hg e1 e2
theorem setM {k : Int} {t t1 t2 : Tok} {l : Addr} {k1 k2 : Int} {n0 : Nat} {Q : Unit → Shared → Prop} (hv : (l, tupOf #[.int k1 t1, .int k2 t2] n0) ∈ news) (F : Fr h₀ L s.heap m) (N : News h₀ L s.heap news) (U : UpdF a (listOf (vals zs).toArray n) news g) (h0 : 0 ≤ k) (h1 : k < (zs.length : Int)) (hf : k < 2 ^ 63)
    (h : ∀ h' n', Fr h₀ L h' m → News h₀ L h' (g (listOf (vals (zs.set k.toNat (Value.ref l, (k1, k2)))).toArray n')) → Q () { s with heap := h' }) :
    wpAny (model prog w) A (setItem (.ref a) (.int k t) (.ref l)) Q E s := by
  have _ := hv
  have G := led_get N U
  refine ki_setAt G.1 h0 hf (by rw [vals_size]; exact h1) ?_
  obtain ⟨n1, en1⟩ := mapSeq_is (f := fun x => x.setIfInBounds k.toNat (Value.ref l)) (its := (vals zs).toArray) (n := n)
  have g1 := get_ok (f := fun x => x.setIfInBounds k.toNat (Value.ref l)) G.1
  have e : (vals zs).toArray.setIfInBounds k.toNat (Value.ref l) = (vals (zs.set k.toNat (Value.ref l, (k1, k2)))).toArray := by
    simp [vals, List.map_set]
  rw [en1, e] at g1
  exact h _ n1 (F.change (Heap.SameBut.update ..) G.2.1 G.2.2) (led_put N U (Heap.SameBut.update ..) g1)
end
end
section
open PySem PySem.W PyProof.Rows PySem.Calls PySem.Spec
set_option maxHeartbeats 1000000
structure St1 where
  zs : List ZV
  zz : List ZV
  ms : List ZV
  nS : Nat
  nZ : Nat
  nM : Nat
  ml : Nat
  tk : Tok
abbrev TK := Option (List K2 × List K2 × List K2)
structure P1 (b N0 n : Nat) (T : TK) (i : Nat) (zs zz ms : List ZV) (ml : Nat) : Prop where
  okS : HeapOK zs
  okZ : HeapOK zz
  kb : KB b zs
  msl : ms.length = b
  mlb : ml ≤ i
  mkb : ∀ k ∈ (keys ms).take ml, -k.2 < (b : Int) ∧ k.2 ≤ 0
  cnt : zs.length + zz.length + i = N0
  nb : n ≤ N0
  nlt : n < b
  go : digTake (n - i) (srt (keys zs)) (srt (keys zz)) ((keys ms).take ml) = T
def ZFirst (zs zz : List ZV) : Prop := zs.length = 0 ∨ ∃ z r y t, zs = z :: r ∧ zz = y :: t ∧ z.2.1 > y.2.1
def SFirst (zs zz : List ZV) : Prop := zz.length = 0 ∨ ∃ z r y t, zs = z :: r ∧ zz = y :: t ∧ ¬ z.2.1 > y.2.1
section
variable {b N0 n i ml : Nat} {T : TK} {zs zz ms ys rp : List ZV} {zp : ZV} {v : Value}
theorem tk_Z {k : Nat} {M : List K2} (h : HeapOK zs) (hz : HeapOK zz) (ez : zz = zp :: rp) (py : ys.Perm rp) (hf : ZFirst zs zz) :
    digTake (k + 1) (srt (keys zs)) (srt (keys zz)) M = if zp.2.1 = 0 then none else digTake k (srt (keys zs)) (srt (keys ys)) (if zp.2.1 + 1 < 0 ∨ (0 : Int) < 0 then M ++ [(zp.2.1 + 1, 0)] else M) := by
  subst ez
  rw [srt_heap hz py]
  rcases hf with hf | ⟨z, r, y, t, rfl, e2, e3⟩
  · have : zs = [] := List.eq_nil_of_length_eq_zero hf
    subst this
    rfl
  · injection e2 with e2 e4
    subst e2
    rw [srt_heap h (List.Perm.refl r)]
    show (if z.2.1 > zp.2.1 then _ else _) = _
    rw [if_pos e3]
theorem tk_S {k : Nat} {M : List K2} (h : HeapOK zs) (hz : HeapOK zz) (ez : zs = zp :: rp) (py : ys.Perm rp) (hf : SFirst zs zz) :
    digTake (k + 1) (srt (keys zs)) (srt (keys zz)) M = if zp.2.1 = 0 then none else digTake k (srt (keys ys)) (srt (keys zz)) (if zp.2.1 + 1 < 0 ∨ zp.2.2 < 0 then M ++ [(zp.2.1 + 1, zp.2.2)] else M) := by
  subst ez
  rw [srt_heap h py]
  rcases hf with hf | ⟨z, r, y, t, e2, rfl, e3⟩
  · have : zz = [] := List.eq_nil_of_length_eq_zero hf
    subst this
    rfl
  · injection e2 with e2 e4
    subst e2
    rw [srt_heap hz (List.Perm.refl t)]
    show (if zp.2.1 > y.2.1 then _ else _) = _
    rw [if_neg e3]
theorem P1.Zn (p : P1 b N0 n T i zs zz ms ml) (hi : i < n) (ez : zz = zp :: rp) (hf : ZFirst zs zz) (h0 : zp.2.1 = 0) : T = none := by
  obtain ⟨k, hk⟩ : ∃ k, n - i = k + 1 := ⟨n - i - 1, by omega⟩
  rw [← p.go, hk, tk_Z p.okS p.okZ ez (List.Perm.refl rp) hf, if_pos h0]
theorem P1.Sn (p : P1 b N0 n T i zs zz ms ml) (hi : i < n) (ez : zs = zp :: rp) (hf : SFirst zs zz) (h0 : zp.2.1 = 0) : T = none := by
  obtain ⟨k, hk⟩ : ∃ k, n - i = k + 1 := ⟨n - i - 1, by omega⟩
  rw [← p.go, hk, tk_S p.okS p.okZ ez (List.Perm.refl rp) hf, if_pos h0]
theorem P1.Z0 (p : P1 b N0 n T i zs zz ms ml) (hi : i < n) (ez : zz = zp :: rp) (py : ys.Perm rp) (ok : HeapOK ys) (hf : ZFirst zs zz) (h0 : zp.2.1 ≠ 0) (h1 : ¬ zp.2.1 + 1 < 0) : P1 b N0 n T (i + 1) zs ys ms ml := by
  have hg := p.go
  obtain ⟨k, hk⟩ : ∃ k, n - i = k + 1 := ⟨n - i - 1, by omega⟩
  have hk' : n - (i + 1) = k := by omega
  rw [hk, tk_Z p.okS p.okZ ez py hf, if_neg h0, if_neg (by omega)] at hg
  refine ⟨p.okS, ok, p.kb, p.msl, Nat.le_succ_of_le p.mlb, p.mkb, ?_, p.nb, p.nlt, by rw [hk']; exact hg⟩
  have := p.cnt
  have h2 := py.length_eq
  rw [ez, List.length_cons] at this
  omega
theorem P1.S0 (p : P1 b N0 n T i zs zz ms ml) (hi : i < n) (ez : zs = zp :: rp) (py : ys.Perm rp) (ok : HeapOK ys) (hf : SFirst zs zz) (h0 : zp.2.1 ≠ 0) (h1 : ¬ zp.2.1 + 1 < 0) (h2 : ¬ zp.2.2 < 0) : P1 b N0 n T (i + 1) ys zz ms ml := by
  have hg := p.go
  obtain ⟨k, hk⟩ : ∃ k, n - i = k + 1 := ⟨n - i - 1, by omega⟩
  have hk' : n - (i + 1) = k := by omega
  rw [hk, tk_S p.okS p.okZ ez py hf, if_neg h0, if_neg (by omega)] at hg
  refine ⟨ok, p.okZ, fun z hz => p.kb z (by rw [ez]; exact .tail _ (py.mem_iff.mp hz)), p.msl, Nat.le_succ_of_le p.mlb, p.mkb, ?_, p.nb, p.nlt, by rw [hk']; exact hg⟩
  have := p.cnt
  have h2 := py.length_eq
  rw [ez, List.length_cons] at this
  omega
theorem take_set {k : K2} (hml : ml < ms.length) : (keys (ms.set ml (v, k))).take (ml + 1) = (keys ms).take ml ++ [k] := by
  have e : keys (ms.set ml (v, k)) = (keys ms).set ml k := List.map_set
  rw [e, List.take_add_one, List.getElem?_set_self (by simpa using hml), List.take_set_of_le (Nat.le_refl _)]
  rfl
theorem P1.Z1 (p : P1 b N0 n T i zs zz ms ml) (hi : i < n) (ez : zz = zp :: rp) (py : ys.Perm rp) (ok : HeapOK ys) (hf : ZFirst zs zz) (h0 : zp.2.1 ≠ 0) (h1 : zp.2.1 + 1 < 0) : P1 b N0 n T (i + 1) zs ys (ms.set ml (v, (zp.2.1 + 1, 0))) (ml + 1) := by
  have hg := p.go
  obtain ⟨k, hk⟩ : ∃ k, n - i = k + 1 := ⟨n - i - 1, by omega⟩
  have hk' : n - (i + 1) = k := by omega
  have hml : ml < ms.length := by have := p.mlb; have := p.nlt; have := p.msl; omega
  rw [hk, tk_Z p.okS p.okZ ez py hf, if_neg h0, if_pos (.inl h1)] at hg
  refine ⟨p.okS, ok, p.kb, by rw [List.length_set]; exact p.msl, Nat.succ_le_succ p.mlb, ?_, ?_, p.nb, p.nlt, by rw [hk', take_set hml]; exact hg⟩
  · rw [take_set hml]
    intro k hk
    rcases List.mem_append.mp hk with hk | hk
    · exact p.mkb k hk
    · rw [List.mem_singleton.mp hk]; have := p.nlt; simp only; omega
  have := p.cnt
  have h2 := py.length_eq
  rw [ez, List.length_cons] at this
  omega
theorem P1.S1 (p : P1 b N0 n T i zs zz ms ml) (hi : i < n) (ez : zs = zp :: rp) (py : ys.Perm rp) (ok : HeapOK ys) (hf : SFirst zs zz) (h0 : zp.2.1 ≠ 0) (h1 : zp.2.1 + 1 < 0 ∨ zp.2.2 < 0) : P1 b N0 n T (i + 1) ys zz (ms.set ml (v, (zp.2.1 + 1, zp.2.2))) (ml + 1) := by
  have hg := p.go
  obtain ⟨k, hk⟩ : ∃ k, n - i = k + 1 := ⟨n - i - 1, by omega⟩
  have hk' : n - (i + 1) = k := by omega
  have hml : ml < ms.length := by have := p.mlb; have := p.nlt; have := p.msl; omega
  rw [hk, tk_S p.okS p.okZ ez py hf, if_neg h0, if_pos h1] at hg
  refine ⟨ok, p.okZ, fun z hz => p.kb z (by rw [ez]; exact .tail _ (py.mem_iff.mp hz)), by rw [List.length_set]; exact p.msl, Nat.succ_le_succ p.mlb, ?_, ?_, p.nb, p.nlt, by rw [hk', take_set hml]; exact hg⟩
  · rw [take_set hml]
    intro k hk
    rcases List.mem_append.mp hk with hk | hk
    · exact p.mkb k hk
    · rw [List.mem_singleton.mp hk]
      have := p.kb zp (by rw [ez]; exact .head _)
      exact this
  have := p.cnt
  have h2 := py.length_eq
  rw [ez, List.length_cons] at this
  omega
theorem P1.mls (p : P1 b N0 n T i zs zz ms ml) (hi : i < n) (h4 : Le4 n) : 0 ≤ (ml : Int) ∧ (ml : Int) < (ms.length : Int) ∧ (ml : Int) < 1000000 := by
  have h : n ≤ 4 := h4
  have := p.mlb
  have := p.nlt
  have := p.msl
  omega
theorem P1.start (okZ : HeapOK zz) (hkb : KB ms.length zs) (e : zs = zp :: rp) (py : ys.Perm rp) (oky : HeapOK ys) (hle : ¬ (ys.length : Int) + (zz.length : Int) < zp.2.2 * -1) :
    P1 ms.length (ys.length + zz.length) (zp.2.2 * -1).toNat (digTake (zp.2.2 * -1).toNat (srt (keys ys)) (srt (keys zz)) []) 0 ys zz ms 0 := by
  have h1 := hkb zp (by rw [e]; exact .head _)
  refine ⟨oky, okZ, fun z hz => hkb z (by rw [e]; exact .tail _ (py.mem_iff.mp hz)), rfl, Nat.le_refl _, fun k hk => ?_, rfl, by omega, by omega, rfl⟩
  rw [List.take_zero] at hk
  cases hk
theorem free4 (hl : Le4 (zs.length + zz.length)) (e : zs = zp :: rp) (py : ys.Perm rp) (hle : ¬ (ys.length : Int) + (zz.length : Int) < zp.2.2 * -1) : Le4 (zp.2.2 * -1).toNat := by
  have h : zs.length + zz.length ≤ 4 := hl
  have h2 := py.length_eq
  rw [e, List.length_cons] at h
  show (zp.2.2 * -1).toNat ≤ 4
  omega
theorem free0 (hkb : KB b zs) (e : zs = zp :: rp) : 0 ≤ zp.2.2 * -1 := by
  have h1 := hkb zp (by rw [e]; exact .head _)
  omega
end
end
section
open PySem PySem.W PyProof.Rows PySem.Calls PySem.Spec
set_option maxHeartbeats 1000000
theorem range_sz4 {b : Int} (h0 : 0 ≤ b) (h : Le4 b.toNat) : Builtin.Range.small 0 b 1 = true ∧ Builtin.Range.rangeSize 0 b 1 = (b.toNat : Int) := by
  have h' : b.toNat ≤ 4 := h
  exact range_sz (by omega)
def Led1 (aS aZ aM : Addr) (c : St1) : List (Addr × Obj) := [(aS, listOf (vals c.zs).toArray c.nS), (aZ, listOf (vals c.zz).toArray c.nZ), (aM, listOf (vals c.ms).toArray c.nM)]
def ps1 (c : St1) : List (Str × Value) := [(Str.ofString "mslen", .int (c.ml : Int) c.tk)]
structure Facts1 (L9 : List (Addr × Obj)) (c : St1) : Prop where
  all : AllTup L9
  zs : ∀ z ∈ c.zs, TupL L9 z
  zz : ∀ z ∈ c.zz, IntZ z
  ms : ∀ z ∈ c.ms, TupL L9 z
abbrev stored1 : List Str := [Str.ofString "stubout", Str.ofString "stubin"]
abbrev adr1 (aS aZ aM : Addr) (tl : List (Addr × Obj)) : List Addr := aS :: aZ :: aM :: tl.map (·.1)
section
variable {prog : Program} {w : World} {A : Around} {E : Value → Shared → Prop} {Q : Flow → Shared → Prop} {s : Shared} {env : Env} {h₀ : Heap} {aS aZ aM : Addr} {tl : List (Addr × Obj)} {b N0 : Nat} {T : TK} {x : Str}
abbrev End1 (h₀ : Heap) (env : Env) (aS aZ aM : Addr) (tl : List (Addr × Obj)) (m₀ : Str → Option Value) (b N0 n : Nat) (T : TK) (x : Str) (pre : List Int) (own : List (Addr × Obj)) (s : Shared) (Q : Flow → Shared → Prop) : Flow → Shared → Prop :=
  InvPostG h₀ env.locals (KdS (Led1 aS aZ aM) tl ps1 Facts1 x stored1 m₀ (fun pre c => P1 b N0 n T pre.length c.zs c.zz c.ms c.ml) (adr1 aS aZ aM tl) pre) own s Q
theorem dig_in1 {body : List Stmt} {m₀ : Str → Option Value} {b₀ : Int} {t₀ u₀ v₀ tm : Tok} {r : Addr} {zs zz ms : List ZV} {nS nZ nM : Nat}
    (hh : A.handled = none) (hr : IsRange s.heap r 0 b₀ 1 t₀ u₀ v₀) (h0 : 0 ≤ b₀) (h4 : Le4 b₀.toNat)
    (F : Fr h₀ env.locals s.heap m₀) (N : News h₀ env.locals s.heap ((aS, listOf (vals zs).toArray nS) :: (aZ, listOf (vals zz).toArray nZ) :: (aM, listOf (vals ms).toArray nM) :: tl))
    (fall : AllTup tl) (fzs : ∀ z ∈ zs, TupL tl z) (fzz : ∀ z ∈ zz, IntZ z) (fms : ∀ z ∈ ms, TupL tl z) (hk : m₀ (Str.ofString "mslen") = some (.int 0 tm)) (hp : P1 b N0 b₀.toNat T 0 zs zz ms 0)
    (turn : ∀ (c : St1) tl' (pre : List Int) (k : Int) t (u : Str → Option Value) h tk own, k = 0 + (pre.length : Int) → pre.length < b₀.toNat → KdSep own tl' (adr1 aS aZ aM tl) → OwnOff tl' [aS, aZ, aM] → OwnOff own [aS, aZ, aM] → Facts1 (tl ++ tl') c → P1 b N0 b₀.toNat T pre.length c.zs c.zz c.ms c.ml →
      Fr h₀ env.locals h (fun y => if y = x then some (.int k t) else if y = Str.ofString "mslen" then some (.int (c.ml : Int) c.tk) else if stored1.contains y then u y else m₀ y) →
      News h₀ env.locals h ((aS, listOf (vals c.zs).toArray c.nS) :: (aZ, listOf (vals c.zz).toArray c.nZ) :: (aM, listOf (vals c.ms).toArray c.nM) :: (tl ++ (tl' ++ own))) →
      wpAny (model prog w) A (execs body env) (End1 h₀ env aS aZ aM tl m₀ b N0 b₀.toNat T x (pre ++ [k]) own { s with heap := h, toks := tk } Q) E { s with heap := h, toks := tk })
    (done : ∀ (c : St1) tl' (u : Str → Option Value) h tk, Facts1 (tl ++ tl') c → OwnOff (tl ++ tl') [aS, aZ, aM] → P1 b N0 b₀.toNat T b₀.toNat c.zs c.zz c.ms c.ml →
      Fr h₀ env.locals h (fun y => if y = x then u y else if y = Str.ofString "mslen" then some (.int (c.ml : Int) c.tk) else if stored1.contains y then u y else m₀ y) →
      News h₀ env.locals h ((aS, listOf (vals c.zs).toArray c.nS) :: (aZ, listOf (vals c.zz).toArray c.nZ) :: (aM, listOf (vals c.ms).toArray c.nM) :: (tl ++ tl')) → Q .next { s with heap := h, toks := tk }) :
    wpAny (model prog w) A (pyIter (.ref r)) (fun it s₂ => LoopAtV prog w A h₀ env x body Q E it s₂) E s := by
  obtain ⟨z1, z2⟩ := range_sz4 h0 h4
  have sub : ∀ b' ∈ [aS, aZ, aM], b' ∈ adr1 aS aZ aM tl := by
    intro b' hb
    rcases List.mem_cons.mp hb with rfl | hb
    · exact .head _
    rcases List.mem_cons.mp hb with rfl | hb
    · exact .tail _ (.head _)
    rcases List.mem_cons.mp hb with rfl | hb
    · exact .tail _ (.tail _ (.head _))
    · cases hb
  refine kd_range (Led1 aS aZ aM) tl ps1 Facts1 stored1 (fun pre c => P1 b N0 b₀.toNat T pre.length c.zs c.zz c.ms c.ml) (adr1 aS aZ aM tl) ⟨zs, zz, ms, nS, nZ, nM, 0, tm⟩ hh hr z1 z2 F N ?_ (fun c => rfl) ⟨?_, ?_, fzz, ?_⟩ ?_ hp ?_ ?_
  · rw [List.append_nil]; exact fun p hp => hp
  · rw [List.append_nil]; exact fall
  · rw [List.append_nil]; exact fzs
  · rw [List.append_nil]; exact fms
  · intro p hp
    rw [List.mem_singleton.mp hp]
    exact hk
  · intro c tl' pre k t u h tk own e1 e2 e3 e4 e5 e6 F' N'
    exact turn c tl' pre k t u h tk own e1 e2 e3 (fun p hp b' hb => e3.three p hp b' (sub b' hb)) (fun p hp b' hb => e3.one p hp b' (sub b' hb)) e5 e6 F' N'
  · intro c tl' u h tk e1 e2 e3 F' N'
    rw [rangeKs_length] at e3
    have N9 : News h₀ env.locals h (LedW aS aZ aM ⟨c.zs, c.zz, c.ms, c.nS, c.nZ, c.nM, tl ++ tl'⟩) := N'
    exact done c tl' u h tk e2 (off_of N9 e2.all) e3 F' N'
theorem in1_end {m₀ m' : Str → Option Value} {n : Nat} {pre : List Int} {k : Int} {h h' : Heap} {tk tk' tm : Tok} {news' add tl' own : List (Addr × Obj)} {zs zz ms : List ZV} {nS nZ nM ml : Nat}
    (hsep : KdSep own tl' (adr1 aS aZ aM tl)) (F : Fr h₀ env.locals h' m') (N : News h₀ env.locals h' news') (hS : (aS, listOf (vals zs).toArray nS) ∈ news') (hZ : (aZ, listOf (vals zz).toArray nZ) ∈ news') (hM : (aM, listOf (vals ms).toArray nM) ∈ news')
    (ht : ∀ p ∈ tl ++ (tl' ++ own), p ∈ news') (ha : ∀ p ∈ add, p ∈ news') (hcl : AllTup add) (hlt : ∀ q ∈ add, AllLt q.1 (tl ++ (tl' ++ own)))
    (f0 : AllTup (tl ++ tl')) (fzs : ∀ z ∈ zs, TupL (tl ++ (add ++ tl')) z) (fzz : ∀ z ∈ zz, IntZ z) (fms : ∀ z ∈ ms, TupL (tl ++ (add ++ tl')) z)
    (hk : m' (Str.ofString "mslen") = some (.int (ml : Int) tm)) (hr : ∀ z, z ≠ x → z ≠ Str.ofString "mslen" → stored1.contains z = false → m' z = m₀ z) (hp : P1 b N0 n T (pre.length + 1) zs zz ms ml) :
    End1 h₀ env aS aZ aM tl m₀ b N0 n T x (pre ++ [k]) own { s with heap := h, toks := tk } Q .next { s with heap := h', toks := tk' } := by
  have neq : ∀ (a : Addr) (its : Array Value) (n : Nat), (a, listOf its n) ∈ news' → ∀ q ∈ add, a ≠ q.1 := by
    intro a its n hm q hq e
    have h1 := (N _ hm).1
    have h2 := (N q (ha q hq)).1
    rw [← e] at h2
    dsimp only at h1
    rw [h1] at h2
    injection h2 with h2
    have := hcl q hq
    rw [← h2] at this
    simp at this
  refine kd_end (s₁ := { s with heap := h, toks := tk }) ⟨zs, zz, ms, nS, nZ, nM, ml, tm⟩ add hsep F N ?_ (fun p hp => ht p (List.mem_append.mpr (.inr (List.mem_append.mpr (.inr hp))))) rfl ?_ ?_ ?_ ?_ ⟨?_, fzs, fzz, fms⟩ ?_
  · intro p hp
    rcases List.mem_append.mp hp with hp | hp
    · rcases List.mem_cons.mp hp with rfl | hp
      · exact hS
      rcases List.mem_cons.mp hp with rfl | hp
      · exact hZ
      rcases List.mem_cons.mp hp with rfl | hp
      · exact hM
      · cases hp
    · rcases List.mem_append.mp hp with hp | hp
      · exact ht p (List.mem_append.mpr (.inl hp))
      rcases List.mem_append.mp hp with hp | hp
      · exact ha p hp
      · exact ht p (List.mem_append.mpr (.inr (List.mem_append.mpr (.inl hp))))
  · intro q hq b' hb
    rcases List.mem_cons.mp hb with rfl | hb
    · exact neq _ _ _ hS q hq
    rcases List.mem_cons.mp hb with rfl | hb
    · exact neq _ _ _ hZ q hq
    rcases List.mem_cons.mp hb with rfl | hb
    · exact neq _ _ _ hM q hq
    obtain ⟨p, hp, rfl⟩ := List.mem_map.mp hb
    exact Nat.ne_of_lt (tb_ltOf (hlt q hq) p (List.mem_append.mpr (.inl hp)))
  · intro q hq p hp
    exact Nat.ne_of_lt (tb_ltOf (hlt q hq) p (List.mem_append.mpr (.inr (List.mem_append.mpr (.inr hp)))))
  · intro p hp
    rw [List.mem_singleton.mp hp]
    exact hk
  · intro z h1 h2 h3
    exact hr z h1 (fun e => h2 _ (.head _) e) h3
  · intro p hp
    rcases List.mem_append.mp hp with hp | hp
    · exact f0 p (List.mem_append.mpr (.inl hp))
    rcases List.mem_append.mp hp with hp | hp
    · exact hcl p hp
    · exact f0 p (List.mem_append.mpr (.inr hp))
  · show P1 b N0 n T (pre ++ [k]).length zs zz ms ml
    rw [List.length_append]
    exact hp
end
end
section
open PySem PySem.W PyProof.Rows PySem.Calls PySem.Spec
set_option maxHeartbeats 1000000
theorem zfirst {zs zz r t : List ZV} {z y : ZV} (hc : y.2.1 < z.2.1) (h1 : zs = z :: r) (h2 : zz = y :: t) : ZFirst zs zz := .inr ⟨z, r, y, t, h1, h2, hc⟩
theorem sfirst {zs zz r t : List ZV} {z y : ZV} (hc : ¬ y.2.1 < z.2.1) (h1 : zs = z :: r) (h2 : zz = y :: t) : SFirst zs zz := .inr ⟨z, r, y, t, h1, h2, hc⟩
section
variable {f : Nat} {zs zz rp ys : List ZV} {zp : ZV} {res : Bool}
theorem go_step (hgo : digGo f (srt (keys zs)) (srt (keys zz)) = res) (hf : zs.length < f) (ok : HeapOK zs) (e : zs = zp :: rp) (py : ys.Perm rp) :
    ∃ f', f = f' + 1 ∧ (if zp.2.2 * -1 > (ys.length : Int) + (zz.length : Int) then false else
      match digTake (zp.2.2 * -1).toNat (srt (keys ys)) (srt (keys zz)) [] with
      | none => false
      | some (S', Z', M) => digGo f' (digPut M S' Z').1 (if zp.2.1 < 0 then insK (zp.2.1, 0) (digPut M S' Z').2 else (digPut M S' Z').2)) = res := by
  obtain ⟨f', rfl⟩ : ∃ f', f = f' + 1 := ⟨f - 1, by omega⟩
  refine ⟨f', rfl, ?_⟩
  subst e
  rw [srt_heap ok py] at hgo
  unfold digGo at hgo
  have e1 : (srt (keys ys)).length = ys.length := by rw [srt_len, List.length_map]
  have e2 : (srt (keys zz)).length = zz.length := by rw [srt_len, List.length_map]
  rw [e1, e2] at hgo
  exact hgo
theorem go_big (hgo : digGo f (srt (keys zs)) (srt (keys zz)) = res) (hf : zs.length < f) (ok : HeapOK zs) (e : zs = zp :: rp) (py : ys.Perm rp) (h : (ys.length : Int) + (zz.length : Int) < zp.2.2 * -1) : false = res := by
  obtain ⟨f', _, hg⟩ := go_step hgo hf ok e py
  rw [if_pos h] at hg
  exact hg
theorem go_none (hgo : digGo f (srt (keys zs)) (srt (keys zz)) = res) (hf : zs.length < f) (ok : HeapOK zs) (e : zs = zp :: rp) (py : ys.Perm rp) (h : ¬ (ys.length : Int) + (zz.length : Int) < zp.2.2 * -1)
    (ht : digTake (zp.2.2 * -1).toNat (srt (keys ys)) (srt (keys zz)) [] = none) : false = res := by
  obtain ⟨f', _, hg⟩ := go_step hgo hf ok e py
  rw [if_neg h, ht] at hg
  exact hg
theorem go_some {S' Z' M : List K2} (hgo : digGo f (srt (keys zs)) (srt (keys zz)) = res) (hf : zs.length < f) (ok : HeapOK zs) (e : zs = zp :: rp) (py : ys.Perm rp) (h : ¬ (ys.length : Int) + (zz.length : Int) < zp.2.2 * -1)
    (ht : digTake (zp.2.2 * -1).toNat (srt (keys ys)) (srt (keys zz)) [] = some (S', Z', M)) :
    ∃ f', ys.length < f' ∧ digGo f' (digPut M S' Z').1 (if zp.2.1 < 0 then insK (zp.2.1, 0) (digPut M S' Z').2 else (digPut M S' Z').2) = res := by
  obtain ⟨f', ef, hg⟩ := go_step hgo hf ok e py
  rw [if_neg h, ht] at hg
  have h2 := py.length_eq
  rw [e, List.length_cons] at hf
  exact ⟨f', by omega, hg⟩
theorem go_end (hgo : digGo f (srt (keys zs)) (srt (keys zz)) = res) (hf : zs.length < f) (h0 : zs.length = 0) : true = res := by
  obtain ⟨f', rfl⟩ : ∃ f', f = f' + 1 := ⟨f - 1, by omega⟩
  have : zs = [] := List.eq_nil_of_length_eq_zero h0
  subst this
  exact hgo
end
section
variable {led led' : List (Addr × Obj)} {zs rp ys ms : List ZV} {zp : ZV}
theorem fz_pop (py : ys.Perm rp) (e : zs = zp :: rp) (h : ∀ z ∈ zs, TupL led z) (hs : ∀ p ∈ led, p ∈ led') : ∀ z ∈ ys, TupL led' z := fun z hz => (h z (by rw [e]; exact .tail _ (py.mem_iff.mp hz))).mono hs
theorem fi_pop (py : ys.Perm rp) (e : zs = zp :: rp) (h : ∀ z ∈ zs, IntZ z) : ∀ z ∈ ys, IntZ z := fun z hz => h z (by rw [e]; exact .tail _ (py.mem_iff.mp hz))
theorem fm_set {l : Addr} {k1 k2 : Int} {t1 t2 : Tok} {n0 i : Nat} (h : ∀ z ∈ ms, TupL led z) (hs : ∀ p ∈ led, p ∈ led') (hv : (l, tupOf #[.int k1 t1, .int k2 t2] n0) ∈ led') : ∀ z ∈ ms.set i (Value.ref l, (k1, k2)), TupL led' z := by
  intro z hz
  rcases List.mem_or_eq_of_mem_set hz with hz | rfl
  · exact (h z hz).mono hs
  · exact ⟨l, t1, t2, n0, rfl, hv⟩
end
section
variable {prog : Program} {w : World} {A : Around} {E : Value → Shared → Prop} {Q : Flow → Shared → Prop} {s : Shared} {env : Env} {h₀ : Heap} {aS aZ aM : Addr} {tl : List (Addr × Obj)} {b N0 : Nat} {T : TK} {x : Str}
  {m₀ m' : Str → Option Value} {n : Nat} {pre : List Int} {k : Int} {h h' : Heap} {tk tk' tm : Tok} {news' tl' own : List (Addr × Obj)} {zs zz ms : List ZV} {nS nZ nM ml : Nat}
theorem in1_end0 (hsep : KdSep own tl' (adr1 aS aZ aM tl)) (F : Fr h₀ env.locals h' m') (N : News h₀ env.locals h' news') (hS : (aS, listOf (vals zs).toArray nS) ∈ news') (hZ : (aZ, listOf (vals zz).toArray nZ) ∈ news') (hM : (aM, listOf (vals ms).toArray nM) ∈ news')
    (ht : ∀ p ∈ tl ++ (tl' ++ own), p ∈ news') (f0 : AllTup (tl ++ tl')) (fzs : ∀ z ∈ zs, TupL (tl ++ tl') z) (fzz : ∀ z ∈ zz, IntZ z) (fms : ∀ z ∈ ms, TupL (tl ++ tl') z)
    (hk : m' (Str.ofString "mslen") = some (.int (ml : Int) tm)) (hr : ∀ z, z ≠ x → z ≠ Str.ofString "mslen" → stored1.contains z = false → m' z = m₀ z) (hp : P1 b N0 n T (pre.length + 1) zs zz ms ml) :
    End1 h₀ env aS aZ aM tl m₀ b N0 n T x (pre ++ [k]) own { s with heap := h, toks := tk } Q .next { s with heap := h', toks := tk' } :=
  in1_end (add := []) hsep F N hS hZ hM ht (fun _ h => nomatch h) (fun _ h => nomatch h) (fun _ h => nomatch h) f0 fzs fzz fms hk hr hp
theorem in1_end1 {D : Addr} {k1 k2 : Int} {t1 t2 : Tok} {ms0 : List ZV} {i0 : Nat} (hsep : KdSep own tl' (adr1 aS aZ aM tl)) (F : Fr h₀ env.locals h' m') (N : News h₀ env.locals h' news') (hS : (aS, listOf (vals zs).toArray nS) ∈ news') (hZ : (aZ, listOf (vals zz).toArray nZ) ∈ news') (hM : (aM, listOf (vals (ms0.set i0 (Value.ref D, (k1, k2)))).toArray nM) ∈ news')
    (hD : (D, tupOf #[.int k1 t1, .int k2 t2] 0) ∈ news') (hlt : AllLt D (tl ++ (tl' ++ own)))
    (ht : ∀ p ∈ tl ++ (tl' ++ own), p ∈ news') (f0 : AllTup (tl ++ tl')) (fzs : ∀ z ∈ zs, TupL (tl ++ tl') z) (fzz : ∀ z ∈ zz, IntZ z) (fms : ∀ z ∈ ms0, TupL (tl ++ tl') z)
    (hk : m' (Str.ofString "mslen") = some (.int (ml : Int) tm)) (hr : ∀ z, z ≠ x → z ≠ Str.ofString "mslen" → stored1.contains z = false → m' z = m₀ z) (hp : P1 b N0 n T (pre.length + 1) zs zz (ms0.set i0 (Value.ref D, (k1, k2))) ml) :
    End1 h₀ env aS aZ aM tl m₀ b N0 n T x (pre ++ [k]) own { s with heap := h, toks := tk } Q .next { s with heap := h', toks := tk' } := by
  refine in1_end (add := [(D, tupOf #[.int k1 t1, .int k2 t2] 0)]) hsep F N hS hZ hM ht ?_ ?_ ?_ f0 (fun z hz => (fzs z hz).mono kd_sub) fzz (fm_set fms kd_sub (List.mem_append.mpr (.inr (List.mem_append.mpr (.inl (.head _)))))) hk hr hp
  · intro p hp
    rw [List.mem_singleton.mp hp]; exact hD
  · intro p hp
    rw [List.mem_singleton.mp hp]
  · intro p hp
    rw [List.mem_singleton.mp hp]; exact hlt
end
end
section
open PySem PySem.W PyProof.Rows PySem.Calls PySem.Spec
set_option maxHeartbeats 1000000
def Le3 (n : Nat) : Prop := n ≤ 3
structure P2 (b n : Nat) (M : List K2) (R : List K2 × List K2) (i : Nat) (zs zz : List ZV) : Prop where
  okS : HeapOK zs
  okZ : HeapOK zz
  kb : KB b zs
  cnt : Le3 (zs.length + zz.length + (n - i))
  go : digPut (M.drop i) (srt (keys zs)) (srt (keys zz)) = R
structure MS (ms : List ZV) (ml : Nat) (M : List K2) : Prop where
  tk : (keys ms).take ml = M
  le : ml ≤ ms.length
  kb : ∀ k ∈ M, -k.2 < (ms.length : Int) ∧ k.2 ≤ 0
section
variable {b n i ml N0 : Nat} {M : List K2} {R : List K2 × List K2} {T : TK} {zs zz ms ys : List ZV} {z : ZV} {v : Value}
theorem P1.last (p : P1 b N0 n T n zs zz ms ml) : T = some (srt (keys zs), srt (keys zz), (keys ms).take ml) := by
  have h := p.go
  rw [Nat.sub_self] at h
  rw [← h]
  unfold digTake
  rfl
theorem P1.ms_ok (p : P1 b N0 n T n zs zz ms ml) : MS ms ml ((keys ms).take ml) := ⟨rfl, by have := p.mlb; have := p.nlt; have := p.msl; omega, by rw [p.msl]; exact p.mkb⟩
theorem P1.ml4 (p : P1 b N0 n T n zs zz ms ml) (h : Le4 n) : Le4 ml := Nat.le_trans p.mlb h
theorem P2.kr {k : Int} {l : Nat} (hi : l < n) (h4 : Le4 n) (hk : k = 0 + (l : Int)) : 0 ≤ k ∧ k < 1000000 := by
  have h : n ≤ 4 := h4
  omega
theorem P2.start (p : P1 b N0 n T n zs zz ms ml) (h : Le3 N0) : P2 ms.length ml ((keys ms).take ml) (digPut ((keys ms).take ml) (srt (keys zs)) (srt (keys zz))) 0 zs zz := by
  have h' : N0 ≤ 3 := h
  refine ⟨p.okS, p.okZ, by rw [p.msl]; exact p.kb, ?_, rfl⟩
  have := p.cnt
  have := p.mlb
  show zs.length + zz.length + (ml - 0) ≤ 3
  omega
theorem MS.at (q : MS ms n M) (hi : i < n) (hz : ms[i]? = some z) : M.drop i = z.2 :: M.drop (i + 1) := by
  have hle := q.le
  have e : M[i]? = some z.2 := by
    rw [← q.tk, List.getElem?_take, if_pos hi, List.getElem?_map, hz]; rfl
  obtain ⟨h1, h2⟩ := List.getElem?_eq_some_iff.mp e
  rw [List.drop_eq_getElem_cons h1, h2]
theorem P2.lenS (p : P2 b n M R i zs zz) : zs.length ≤ 3 := by
  have : zs.length + zz.length + (n - i) ≤ 3 := p.cnt
  omega
theorem P2.lenZ (p : P2 b n M R i zs zz) : zz.length ≤ 3 := by
  have : zs.length + zz.length + (n - i) ≤ 3 := p.cnt
  omega
theorem P2.S (p : P2 ms.length n M R i zs zz) (q : MS ms n M) (hi : i < n) (hz : ms[i]? = some z) (hneg : z.2.2 < 0) (py : ys.Perm ((v, (z.2.1, z.2.2)) :: zs)) (ok : HeapOK ys) : P2 ms.length n M R (i + 1) ys zz := by
  have e := q.at hi hz
  have hg := p.go
  have hc : zs.length + zz.length + (n - i) ≤ 3 := p.cnt
  rw [e] at hg
  unfold digPut at hg
  rw [if_pos hneg] at hg
  have hm : z.2 ∈ M := by
    have : z.2 ∈ M.drop i := by rw [e]; exact .head _
    exact List.mem_of_mem_drop this
  have hl := py.length_eq
  rw [List.length_cons] at hl
  refine ⟨ok, p.okZ, fun y hy => ?_, ?_, ?_⟩
  · rcases List.mem_cons.mp (py.mem_iff.mp hy) with rfl | hy
    · exact q.kb _ hm
    · exact p.kb y hy
  · show ys.length + zz.length + (n - (i + 1)) ≤ 3
    omega
  · rw [srt_push py]
    exact hg
theorem P2.Z (p : P2 ms.length n M R i zs zz) (q : MS ms n M) (hi : i < n) (hz : ms[i]? = some z) (hneg : ¬ z.2.2 < 0) (py : ys.Perm ((v, (z.2.1, 0)) :: zz)) (ok : HeapOK ys) : P2 ms.length n M R (i + 1) zs ys := by
  have e := q.at hi hz
  have hg := p.go
  have hc : zs.length + zz.length + (n - i) ≤ 3 := p.cnt
  rw [e] at hg
  unfold digPut at hg
  rw [if_neg hneg] at hg
  have hl := py.length_eq
  rw [List.length_cons] at hl
  refine ⟨p.okS, ok, p.kb, ?_, ?_⟩
  · show zs.length + ys.length + (n - (i + 1)) ≤ 3
    omega
  · rw [srt_push py]
    exact hg
theorem P2.last (p : P2 b n M R n zs zz) (hM : M.length ≤ n) : R = (srt (keys zs), srt (keys zz)) := by
  rw [← p.go, List.drop_of_length_le hM]
  rfl
theorem le3_of {rp zs0 : List ZV} {zp : ZV} (h : Le4 (zs0.length + zz.length)) (e : zs0 = zp :: rp) (py : ys.Perm rp) : Le3 (ys.length + zz.length) := by
  have h' : zs0.length + zz.length ≤ 4 := h
  have := py.length_eq
  rw [e, List.length_cons] at h'
  show ys.length + zz.length ≤ 3
  omega
end
structure St2 where
  zs : List ZV
  zz : List ZV
  nS : Nat
  nZ : Nat
def Led2 (aS aZ aM : Addr) (ms : List ZV) (nM : Nat) (c : St2) : List (Addr × Obj) := [(aS, listOf (vals c.zs).toArray c.nS), (aZ, listOf (vals c.zz).toArray c.nZ), (aM, listOf (vals ms).toArray nM)]
def ps2 (_ : St2) : List (Str × Value) := []
structure Facts2 (L9 : List (Addr × Obj)) (c : St2) : Prop where
  zs : ∀ z ∈ c.zs, TupL L9 z
  zz : ∀ z ∈ c.zz, IntZ z
abbrev stored2 : List Str := [Str.ofString "stub"]
section
variable {prog : Program} {w : World} {A : Around} {E : Value → Shared → Prop} {Q : Flow → Shared → Prop} {s : Shared} {env : Env} {h₀ : Heap} {aS aZ aM : Addr} {tl : List (Addr × Obj)} {b n : Nat} {M : List K2} {R : List K2 × List K2} {x : Str} {ms : List ZV} {nM : Nat}
abbrev End2 (h₀ : Heap) (env : Env) (aS aZ aM : Addr) (tl : List (Addr × Obj)) (ms : List ZV) (nM : Nat) (m₀ : Str → Option Value) (b n : Nat) (M : List K2) (R : List K2 × List K2) (x : Str) (pre : List Int) (own : List (Addr × Obj)) (s : Shared) (Q : Flow → Shared → Prop) : Flow → Shared → Prop :=
  InvPostG h₀ env.locals (KdS (Led2 aS aZ aM ms nM) tl ps2 Facts2 x stored2 m₀ (fun pre c => P2 b n M R pre.length c.zs c.zz) (adr1 aS aZ aM tl) pre) own s Q
theorem dig_in2 {body : List Stmt} {m₀ : Str → Option Value} {t₀ u₀ v₀ : Tok} {r : Addr} {zs zz : List ZV} {nS nZ : Nat}
    (hh : A.handled = none) (hr : IsRange s.heap r 0 (n : Int) 1 t₀ u₀ v₀) (h4 : Le4 n)
    (F : Fr h₀ env.locals s.heap m₀) (N : News h₀ env.locals s.heap ((aS, listOf (vals zs).toArray nS) :: (aZ, listOf (vals zz).toArray nZ) :: (aM, listOf (vals ms).toArray nM) :: tl))
    (fall : AllTup tl) (fzs : ∀ z ∈ zs, TupL tl z) (fzz : ∀ z ∈ zz, IntZ z) (hp : P2 b n M R 0 zs zz)
    (turn : ∀ (c : St2) tl' (pre : List Int) (k : Int) t (u : Str → Option Value) h tk own, k = 0 + (pre.length : Int) → pre.length < n → KdSep own tl' (adr1 aS aZ aM tl) → OwnOff tl' [aS, aZ, aM] → OwnOff own [aS, aZ, aM] → Facts2 (tl ++ tl') c → P2 b n M R pre.length c.zs c.zz →
      Fr h₀ env.locals h (fun y => if y = x then some (.int k t) else if stored2.contains y then u y else m₀ y) →
      News h₀ env.locals h ((aS, listOf (vals c.zs).toArray c.nS) :: (aZ, listOf (vals c.zz).toArray c.nZ) :: (aM, listOf (vals ms).toArray nM) :: (tl ++ (tl' ++ own))) →
      wpAny (model prog w) A (execs body env) (End2 h₀ env aS aZ aM tl ms nM m₀ b n M R x (pre ++ [k]) own { s with heap := h, toks := tk } Q) E { s with heap := h, toks := tk })
    (done : ∀ (c : St2) tl' (u : Str → Option Value) h tk, Facts2 (tl ++ tl') c → OwnOff tl' [aS, aZ, aM] → P2 b n M R n c.zs c.zz →
      Fr h₀ env.locals h (fun y => if y = x then u y else if stored2.contains y then u y else m₀ y) →
      News h₀ env.locals h ((aS, listOf (vals c.zs).toArray c.nS) :: (aZ, listOf (vals c.zz).toArray c.nZ) :: (aM, listOf (vals ms).toArray nM) :: (tl ++ tl')) → Q .next { s with heap := h, toks := tk }) :
    wpAny (model prog w) A (pyIter (.ref r)) (fun it s₂ => LoopAtV prog w A h₀ env x body Q E it s₂) E s := by
  obtain ⟨z1, z2⟩ := range_sz4 (b := (n : Int)) (by omega) (by simpa using h4)
  rw [Int.toNat_natCast] at z2
  have sub : ∀ b' ∈ [aS, aZ, aM], b' ∈ adr1 aS aZ aM tl := by
    intro b' hb
    rcases List.mem_cons.mp hb with rfl | hb
    · exact .head _
    rcases List.mem_cons.mp hb with rfl | hb
    · exact .tail _ (.head _)
    rcases List.mem_cons.mp hb with rfl | hb
    · exact .tail _ (.tail _ (.head _))
    · cases hb
  refine kd_range (Led2 aS aZ aM ms nM) tl ps2 Facts2 stored2 (fun pre c => P2 b n M R pre.length c.zs c.zz) (adr1 aS aZ aM tl) ⟨zs, zz, nS, nZ⟩ hh hr z1 z2 F N ?_ (fun c => rfl) ⟨?_, fzz⟩ (fun _ h => nomatch h) hp ?_ ?_
  · rw [List.append_nil]; exact fun p hp => hp
  · rw [List.append_nil]; exact fzs
  · intro c tl' pre k t u h tk own e1 e2 e3 e4 e5 e6 F' N'
    exact turn c tl' pre k t u h tk own e1 e2 e3 (fun p hp b' hb => e3.three p hp b' (sub b' hb)) (fun p hp b' hb => e3.one p hp b' (sub b' hb)) e5 e6 F' N'
  · intro c tl' u h tk e1 e2 e3 F' N'
    rw [rangeKs_length] at e3
    exact done c tl' u h tk e2 (fun p hp b' hb => e1 p hp b' (sub b' hb)) e3 F' N'
theorem in2_end {m₀ m' : Str → Option Value} {pre : List Int} {k : Int} {h h' : Heap} {tk tk' : Tok} {news' tl' own : List (Addr × Obj)} {zs zz : List ZV} {nS nZ : Nat}
    (hsep : KdSep own tl' (adr1 aS aZ aM tl)) (F : Fr h₀ env.locals h' m') (N : News h₀ env.locals h' news') (hS : (aS, listOf (vals zs).toArray nS) ∈ news') (hZ : (aZ, listOf (vals zz).toArray nZ) ∈ news') (hM : (aM, listOf (vals ms).toArray nM) ∈ news')
    (ht : ∀ p ∈ tl ++ (tl' ++ own), p ∈ news') (fzs : ∀ z ∈ zs, TupL (tl ++ tl') z) (fzz : ∀ z ∈ zz, IntZ z)
    (hr : ∀ z, z ≠ x → stored2.contains z = false → m' z = m₀ z) (hp : P2 b n M R (pre.length + 1) zs zz) :
    End2 h₀ env aS aZ aM tl ms nM m₀ b n M R x (pre ++ [k]) own { s with heap := h, toks := tk } Q .next { s with heap := h', toks := tk' } := by
  refine kd_end (s₁ := { s with heap := h, toks := tk }) ⟨zs, zz, nS, nZ⟩ [] hsep F N ?_ (fun p hp => ht p (List.mem_append.mpr (.inr (List.mem_append.mpr (.inr hp))))) rfl (fun _ h => nomatch h) (fun _ h => nomatch h) (fun _ h => nomatch h) ?_ ⟨fzs, fzz⟩ ?_
  · intro p hp
    rcases List.mem_append.mp hp with hp | hp
    · rcases List.mem_cons.mp hp with rfl | hp
      · exact hS
      rcases List.mem_cons.mp hp with rfl | hp
      · exact hZ
      rcases List.mem_cons.mp hp with rfl | hp
      · exact hM
      · cases hp
    · rcases List.mem_append.mp hp with hp | hp
      · exact ht p (List.mem_append.mpr (.inl hp))
      · exact ht p (List.mem_append.mpr (.inr (List.mem_append.mpr (.inl hp))))
  · intro z h1 h2 h3
    exact hr z h1 h3
  · show P2 b n M R (pre ++ [k]).length zs zz
    rw [List.length_append]
    exact hp
end
end
section
open PySem PySem.W PyProof.Rows PySem.Calls PySem.Spec
set_option maxHeartbeats 1000000
section
variable {led : List (Addr × Obj)} {zs ys : List ZV}
theorem fz_push {l : Addr} {k1 k2 : Int} {t1 t2 : Tok} {n0 : Nat} (py : ys.Perm ((Value.ref l, (k1, k2)) :: zs)) (hv : (l, tupOf #[.int k1 t1, .int k2 t2] n0) ∈ led) (h : ∀ z ∈ zs, TupL led z) : ∀ z ∈ ys, TupL led z := by
  intro z hz
  rcases List.mem_cons.mp (py.mem_iff.mp hz) with rfl | hz
  · exact ⟨l, t1, t2, n0, rfl, hv⟩
  · exact h z hz
theorem fi_push {k : Int} {t : Tok} (py : ys.Perm ((Value.int k t, (k, 0)) :: zs)) (h : ∀ z ∈ zs, IntZ z) : ∀ z ∈ ys, IntZ z := by
  intro z hz
  rcases List.mem_cons.mp (py.mem_iff.mp hz) with rfl | hz
  · exact ⟨rfl, t, rfl⟩
  · exact h z hz
end
theorem hk_tups {led : List (Addr × Obj)} {zs : List ZV} (h : ∀ z ∈ zs, TupL led z) : ∀ z ∈ zs, TupL (tupsOf led) z := fun z hz => (h z hz).tups
def cntN (M : List K2) : Nat := (M.filter fun k => decide (k.2 < 0)).length
theorem insK_len {k : K2} {l : List K2} : (insK k l).length = l.length + 1 := insK_perm.length_eq
theorem digPut_len : ∀ (M S Z : List K2), (digPut M S Z).1.length = S.length + cntN M
  | [], S, Z => rfl
  | m :: M, S, Z => by
    unfold digPut cntN
    by_cases h : m.2 < 0
    · rw [if_pos h, digPut_len, insK_len, List.filter_cons_of_pos (by simpa using h)]
      simp [cntN]; omega
    · rw [if_neg h, digPut_len, List.filter_cons_of_neg (by simpa using h)]
      rfl
theorem cntN_app (M : List K2) (k : K2) : cntN (M ++ [k]) = cntN M + (if k.2 < 0 then 1 else 0) := by
  unfold cntN
  rw [List.filter_append, List.length_append]
  by_cases h : k.2 < 0
  · rw [if_pos h, List.filter_cons_of_pos (by simpa using h)]; rfl
  · rw [if_neg h, List.filter_cons_of_neg (by simpa using h)]; rfl
theorem digTake_len : ∀ (n : Nat) (S Z M S' Z' M' : List K2), digTake n S Z M = some (S', Z', M') → S'.length + cntN M' ≤ S.length + cntN M
  | 0, S, Z, M, S', Z', M', h => by
    unfold digTake at h
    injection h with h
    injection h with h1 h2
    injection h2 with h2 h3
    rw [h1, h3]
    exact Nat.le_refl _
  | n + 1, [], [], M, S', Z', M', h => by unfold digTake at h; cases h
  | n + 1, s :: S, [], M, S', Z', M', h => by
    unfold digTake at h
    split at h
    · cases h
    · have := digTake_len n _ _ _ _ _ _ h
      refine Nat.le_trans this ?_
      rw [List.length_cons]
      split
      · rw [cntN_app]; split <;> omega
      · omega
  | n + 1, [], z :: Z, M, S', Z', M', h => by
    unfold digTake at h
    split at h
    · cases h
    · have := digTake_len n _ _ _ _ _ _ h
      refine Nat.le_trans this ?_
      split
      · rw [cntN_app, if_neg (by simp)]; simp
      · omega
  | n + 1, s :: S, z :: Z, M, S', Z', M', h => by
    unfold digTake at h
    split at h
    · split at h
      · cases h
      · have := digTake_len n _ _ _ _ _ _ h
        refine Nat.le_trans this ?_
        split
        · rw [cntN_app, if_neg (by simp)]; simp
        · omega
    · split at h
      · cases h
      · have := digTake_len n _ _ _ _ _ _ h
        refine Nat.le_trans this ?_
        rw [List.length_cons]
        split
        · rw [cntN_app]; split <;> omega
        · omega
section
variable {f n ml N0 : Nat} {zs zz rp ys zs1 zz1 zs2 zz2 zz3 ms0 ms : List ZV} {zp : ZV} {res : Bool} {v : Value} {nS nZ nM : Nat} {tl : List (Addr × Obj)} {T : TK}
theorem pw_len (hgo : digGo f (srt (keys zs)) (srt (keys zz)) = res) (hf : zs.length < f) (ok : HeapOK zs) (e : zs = zp :: rp) (py : ys.Perm rp) (h : ¬ (ys.length : Int) + (zz.length : Int) < zp.2.2 * -1)
    (hT : digTake (zp.2.2 * -1).toNat (srt (keys ys)) (srt (keys zz)) [] = some (srt (keys zs1), srt (keys zz1), (keys ms).take ml))
    (p2 : P2 ms.length ml ((keys ms).take ml) (digPut ((keys ms).take ml) (srt (keys zs1)) (srt (keys zz1))) ml zs2 zz2) :
    (∃ f', zs2.length < f' ∧ digGo f' (srt (keys zs2)) (if zp.2.1 < 0 then insK (zp.2.1, 0) (srt (keys zz2)) else srt (keys zz2)) = res) ∧ zs2.length < zs.length := by
  obtain ⟨f', hf', hg⟩ := go_some hgo hf ok e py h hT
  have hl := p2.last (by rw [List.length_take]; omega)
  have h1 := digTake_len _ _ _ _ _ _ _ hT
  have h2 := digPut_len ((keys ms).take ml) (srt (keys zs1)) (srt (keys zz1))
  rw [hl] at hg h2
  have h3 : (srt (keys zs2)).length = zs2.length := by rw [srt_len, List.length_map]
  have h4 : (srt (keys ys)).length = ys.length := by rw [srt_len, List.length_map]
  have h5 : cntN [] = 0 := rfl
  have h6 := py.length_eq
  have h7 : zs.length = rp.length + 1 := by rw [e]; rfl
  simp only at h2
  refine ⟨⟨f', by omega, hg⟩, by omega⟩
theorem pw_end1 (q : (∃ f', zs2.length < f' ∧ digGo f' (srt (keys zs2)) (if zp.2.1 < 0 then insK (zp.2.1, 0) (srt (keys zz2)) else srt (keys zz2)) = res) ∧ zs2.length < zs.length) {M : List K2} {R : List K2 × List K2} (p2 : P2 ms.length ml M R ml zs2 zz2)
    (hn : zp.2.1 < 0) (p3 : zz3.Perm ((v, (zp.2.1, 0)) :: zz2)) (ok3 : HeapOK zz3) : PW res ⟨zs2, zz3, ms, nS, nZ, nM, tl⟩ := by
  obtain ⟨⟨f', hf', hg⟩, hlt⟩ := q
  have hc : zs2.length + zz2.length + (ml - ml) ≤ 3 := p2.cnt
  have hl := p3.length_eq
  rw [List.length_cons] at hl
  rw [if_pos hn] at hg
  refine ⟨p2.okS, ok3, ?_, p2.kb, f', hf', ?_⟩
  · show zs2.length + zz3.length ≤ 4
    omega
  · show digGo f' (srt (keys zs2)) (srt (keys zz3)) = res
    rw [srt_push p3]
    exact hg
theorem pw_end0 (q : (∃ f', zs2.length < f' ∧ digGo f' (srt (keys zs2)) (if zp.2.1 < 0 then insK (zp.2.1, 0) (srt (keys zz2)) else srt (keys zz2)) = res) ∧ zs2.length < zs.length) {M : List K2} {R : List K2 × List K2} (p2 : P2 ms.length ml M R ml zs2 zz2)
    (hn : ¬ zp.2.1 < 0) : PW res ⟨zs2, zz2, ms, nS, nZ, nM, tl⟩ := by
  obtain ⟨⟨f', hf', hg⟩, hlt⟩ := q
  have hc : zs2.length + zz2.length + (ml - ml) ≤ 3 := p2.cnt
  rw [if_neg hn] at hg
  refine ⟨p2.okS, p2.okZ, ?_, p2.kb, f', hf', hg⟩
  show zs2.length + zz2.length ≤ 4
  omega
end
section
variable {Q : Flow → Shared → Prop} {s : Shared} {h₀ : Heap} {L aS aZ aM : Addr}
theorem w_end2 {c : St} {res : Bool} {m₀ m' : Str → Option Value} {h' : Heap} {tk : Nat} {news' led : List (Addr × Obj)} {zs zz ms : List ZV} {nS nZ nM : Nat}
    (F : Fr h₀ L h' m') (N : News h₀ L h' news') (hS : (aS, listOf (vals zs).toArray nS) ∈ news') (hZ : (aZ, listOf (vals zz).toArray nZ) ∈ news') (hM : (aM, listOf (vals ms).toArray nM) ∈ news')
    (fzs : ∀ z ∈ zs, TupL led z) (ht : ∀ p ∈ led, p ∈ news') (fzz : ∀ z ∈ zz, IntZ z) (fms : ∀ z ∈ ms, TupL led z) (hp : PW res ⟨zs, zz, ms, nS, nZ, nM, tupsOf led⟩) (hlt : zs.length < c.zs.length)
    (hr : ∀ z, storedW.contains z = false → m' z = m₀ z) :
    EndW h₀ L s aS aZ aM m₀ res Q c .next { s with heap := h', toks := tk } :=
  w_end F N hS hZ hM (fun p hp => ht p (tupsOf_sub _ p hp)) (tupsOf_all _) (hk_tups fzs) fzz (hk_tups fms) hp hlt hr
end
end
section
local macro_rules | `(tactic| walk_at "m_pad") => `(tactic| skip)
local macro_rules | `(tactic| walk_at "m_pad") => `(tactic| skip)
local macro_rules | `(tactic| walk_at "m_pad") => `(tactic| skip)
local macro_rules | `(tactic| walk_at "m_pad") => `(tactic| skip)
local macro_rules | `(tactic| walk_at "m_pad") => `(tactic| skip)
local macro_rules | `(tactic| walk_at "m_pad") => `(tactic| skip)
local macro_rules | `(tactic| walk_at "m_pad") => `(tactic| skip)
local macro_rules | `(tactic| walk_at "m_pad") => `(tactic| skip)
local macro_rules | `(tactic| walk_at "m_pad") => `(tactic| skip)
local macro_rules | `(tactic| walk_at "m_pad") => `(tactic| skip)
local macro_rules | `(tactic| walk_at "m_pad") => `(tactic| skip)
local macro_rules | `(tactic| walk_at "m_pad") => `(tactic| skip)
local macro_rules | `(tactic| walk_at "m_pad") => `(tactic| skip)
local macro_rules | `(tactic| walk_at "m_pad") => `(tactic| skip)
local macro_rules | `(tactic| walk_at "m_pad") => `(tactic| skip)
local macro_rules | `(tactic| walk_at "m_pad") => `(tactic| skip)
local macro_rules | `(tactic| walk_at "m_pad") => `(tactic| skip)
local macro_rules | `(tactic| walk_at "m_pad") => `(tactic| skip)
local macro_rules | `(tactic| walk_at "m_pad") => `(tactic| skip)
local macro_rules | `(tactic| walk_at "m_pad") => `(tactic| skip)
local macro_rules | `(tactic| walk_at "m_pad") => `(tactic| skip)
local macro_rules | `(tactic| walk_at "m_pad") => `(tactic| skip)
local macro_rules | `(tactic| walk_at "m_pad") => `(tactic| skip)
local macro_rules | `(tactic| walk_at "m_pad") => `(tactic| skip)
local macro_rules | `(tactic| walk_at "m_pad") => `(tactic| skip)
local macro_rules | `(tactic| walk_at "m_pad") => `(tactic| skip)
local macro_rules | `(tactic| walk_at "m_pad") => `(tactic| skip)
local macro_rules | `(tactic| walk_at "m_pad") => `(tactic| skip)
local macro_rules | `(tactic| walk_at "m_pad") => `(tactic| skip)
local macro_rules | `(tactic| walk_at "m_pad") => `(tactic| skip)
local macro_rules | `(tactic| walk_at "m_pad") => `(tactic| skip)
local macro_rules | `(tactic| walk_at "m_pad") => `(tactic| skip)
local macro_rules | `(tactic| walk_at "m_pad") => `(tactic| skip)
local macro_rules | `(tactic| walk_at "m_pad") => `(tactic| skip)
local macro_rules | `(tactic| walk_at "m_pad") => `(tactic| skip)
open PySem PySem.W PyProof.Rows PySem.Calls PySem.Spec
set_option maxHeartbeats 8000000
def D0 (is os : List Int) (i : Nat) (si so mx : Int) (st : List Dat) (ze : List Int) : Prop := si = sumTo is i ∧ so = sumTo os i ∧ mx = maxTo is i ∧ st = (stubsTo is os i).map (fun k => Dat.tuple [Dat.int k.1, Dat.int k.2]) ∧ ze = zerosTo is os i
section
variable {is os pre ze : List Int} {si so mx k : Int} {st : List Dat} {n : Nat}
theorem d0_0 : D0 is os ([] : List Int).length 0 0 0 [] [] ∧ ([] : List Dat).length ≤ ([] : List Int).length ∧ ([] : List Int).length ≤ ([] : List Int).length := ⟨⟨rfl, rfl, rfl, rfl, rfl⟩, Nat.le_refl _, Nat.le_refl _⟩
theorem d0_len : (pre ++ [k]).length = pre.length + 1 := by simp
theorem d0_a (h : D0 is os pre.length si so mx st ze) (hno : os.length = is.length) (hk : k = 0 + (pre.length : Int)) (hi : k < is.length) (h1 : 0 < is.getD k.toNat 0) : D0 is os (pre ++ [k]).length (si + is.getD k.toNat 0) (so + os.getD k.toNat 0) (if is.getD k.toNat 0 > mx then is.getD k.toNat 0 else mx) (st ++ [Dat.tuple [Dat.int (-1 * os.getD k.toNat 0), Dat.int (-1 * is.getD k.toNat 0)]]) ze := by
  obtain ⟨rfl, rfl, rfl, rfl, rfl⟩ := h
  have e : k = (pre.length : Int) := by omega
  subst e
  rw [d0_len]
  simp only [Int.toNat_natCast] at *
  refine ⟨sumTo_s _ _ (by omega), sumTo_s _ _ (by omega), maxTo_s _ _ (by omega), ?_, ?_⟩
  · rw [stubsTo, if_pos h1, List.map_append]; rfl
  · rw [zerosTo, if_pos h1]
theorem d0_b (h : D0 is os pre.length si so mx st ze) (hno : os.length = is.length) (hk : k = 0 + (pre.length : Int)) (hi : k < is.length) (h1 : ¬ 0 < is.getD k.toNat 0) (h2 : 0 < os.getD k.toNat 0) : D0 is os (pre ++ [k]).length (si + is.getD k.toNat 0) (so + os.getD k.toNat 0) (if is.getD k.toNat 0 > mx then is.getD k.toNat 0 else mx) st (ze ++ [-1 * os.getD k.toNat 0]) := by
  obtain ⟨rfl, rfl, rfl, rfl, rfl⟩ := h
  have e : k = (pre.length : Int) := by omega
  subst e
  rw [d0_len]
  simp only [Int.toNat_natCast] at *
  refine ⟨sumTo_s _ _ (by omega), sumTo_s _ _ (by omega), maxTo_s _ _ (by omega), ?_, ?_⟩
  · rw [stubsTo, if_neg h1]
  · rw [zerosTo, if_neg h1, if_pos h2]
theorem d0_c (h : D0 is os pre.length si so mx st ze) (hno : os.length = is.length) (hk : k = 0 + (pre.length : Int)) (hi : k < is.length) (h1 : ¬ 0 < is.getD k.toNat 0) (h2 : ¬ 0 < os.getD k.toNat 0) : D0 is os (pre ++ [k]).length (si + is.getD k.toNat 0) (so + os.getD k.toNat 0) (if is.getD k.toNat 0 > mx then is.getD k.toNat 0 else mx) st ze := by
  obtain ⟨rfl, rfl, rfl, rfl, rfl⟩ := h
  have e : k = (pre.length : Int) := by omega
  subst e
  rw [d0_len]
  simp only [Int.toNat_natCast] at *
  refine ⟨sumTo_s _ _ (by omega), sumTo_s _ _ (by omega), maxTo_s _ _ (by omega), ?_, ?_⟩
  · rw [stubsTo, if_neg h1]
  · rw [zerosTo, if_neg h1, if_neg h2]
end
theorem st_ze_len {is os : List Int} : ∀ i : Nat, (stubsTo is os i).length + (zerosTo is os i).length ≤ i
  | 0 => Nat.le_refl _
  | i + 1 => by
    have := st_ze_len (is := is) (os := os) i
    unfold stubsTo zerosTo
    split
    · simp; omega
    · split
      · simp; omega
      · omega
theorem d0_open {is os : List Int} {si so mx : Int} {st : List Dat} {ze : List Int} {led : List (Addr × Obj)} {us us2 : List Value} (hD : D0 is os (rangeKs 0 ((if (os.length : Int) > (is.length : Int) then (os.length : Int) else (is.length : Int)) - 0).toNat).length si so mx st ze) (hno : os.length = is.length) (hn : Le4 is.length) (hDA : DatAll led us st) (hIA : IntsAre us2 ze) :
    ∃ zs zz, us = vals zs ∧ us2 = vals zz ∧ D1 is os si so mx zs zz ∧ (∀ z ∈ zs, TupL led z) ∧ (∀ z ∈ zz, IntZ z) := by
  have e : (rangeKs 0 ((if (os.length : Int) > (is.length : Int) then (os.length : Int) else (is.length : Int)) - 0).toNat).length = is.length := by
    rw [rangeKs_length, hno]; simp
  rw [e] at hD
  obtain ⟨e1, e2, e3, e4, e5⟩ := hD
  subst e4 e5
  obtain ⟨zs, e6, hks, hzs⟩ := dat_zs hDA
  obtain ⟨zz, e7, hkz, hzz⟩ := ints_zs hIA
  refine ⟨zs, zz, e6, e7, ⟨e1, e2, e3, hks, hkz, ?_⟩, hzs, hzz⟩
  have h1 := congrArg List.length hks
  have h2 := congrArg List.length hkz
  have h3 := st_ze_len (is := is) (os := os) is.length
  have hn' : is.length ≤ 4 := hn
  simp only [List.length_map] at h1 h2
  show zs.length + zz.length ≤ 4
  omega
theorem D1.mb {is os : List Int} {si so mx : Int} {zs zz : List ZV} (h : D1 is os si so mx zs zz) (hp : 0 ≤ maxTo is is.length ∧ maxTo is is.length ≤ 1000) : 0 ≤ mx ∧ mx ≤ 1000 := by rw [h.mx]; exact hp
theorem D1.zs4 {is os : List Int} {si so mx : Int} {zs zz : List ZV} (h : D1 is os si so mx zs zz) : zs.length ≤ 4 := Nat.le_trans (Nat.le_add_right _ _) h.len
theorem D1.zz4 {is os : List Int} {si so mx : Int} {zs zz : List ZV} (h : D1 is os si so mx zs zz) : zz.length ≤ 4 := Nat.le_trans (Nat.le_add_left _ _) h.len
structure Stop (p : Prop) : Prop where
  out : p
theorem dig_zero {is os : List Int} (hno : os.length = is.length) (h : (if (os.length : Int) > (is.length : Int) then (os.length : Int) else (is.length : Int)) = 0) : true = digF is os := by
  rw [hno] at h
  have : is.length = 0 := by split at h <;> omega
  unfold digF
  rw [if_pos this]
theorem dig_pos {is os : List Int} (hno : os.length = is.length) (h : (if (os.length : Int) > (is.length : Int) then (os.length : Int) else (is.length : Int)) ≠ 0) : is.length ≠ 0 := by
  intro e
  rw [hno, e] at h
  exact h rfl
theorem dig_sum {is os : List Int} {si so mx : Int} {st : List Dat} {ze : List Int} (hD : D0 is os (rangeKs 0 ((if (os.length : Int) > (is.length : Int) then (os.length : Int) else (is.length : Int)) - 0).toNat).length si so mx st ze) (hno : os.length = is.length)
    (h : (if (os.length : Int) > (is.length : Int) then (os.length : Int) else (is.length : Int)) ≠ 0) (hs : si ≠ so) : false = digF is os := by
  have e : (rangeKs 0 ((if (os.length : Int) > (is.length : Int) then (os.length : Int) else (is.length : Int)) - 0).toNat).length = is.length := by
    rw [rangeKs_length, hno]; simp
  rw [e] at hD
  unfold digF
  rw [if_neg (dig_pos hno h), if_pos (by rw [← hD.1, ← hD.2.1]; exact hs)]
local macro_rules | `(tactic| walk_at "m_open") => `(tactic| ((rename D0 _ _ _ _ _ _ _ _ => hD0); (obtain ⟨zs, zz, e6, e7, hD1, hzs, hzz⟩ := d0_open hD0 (by assumption) (by assumption) (by assumption) (by assumption)); subst e6 e7; (have hmx := D1.mb hD1 (by assumption))))
local macro_rules | `(tactic| walk_at "m_hifyS") => `(tactic| ((refine' hify_L ?F ?N ?U ?hu ?hz (Or.inr ?hk) ?_); (case F => k_asm); (case N => k_asm); (case U => k_updF); (case hu => walk_at "m_room"); (case hz => exact D1.zs4 (by assumption)); (case hk => (refine' hk_of ?ka ?kb; (case ka => assumption); (case kb => kd_subs))); k_whole; intro ys h9 n9 F9 N9 ok9 p9; (try dsimp only at N9)))
local macro_rules | `(tactic| walk_at "m_hifyZ") => `(tactic| ((refine' hify_L ?F ?N ?U ?hu ?hz (Or.inl ?hk) ?_); (case F => k_asm); (case N => k_asm); (case U => k_updF); (case hu => walk_at "m_room"); (case hz => exact D1.zz4 (by assumption)); (case hk => assumption); k_whole; intro ys h9 n9 F9 N9 ok9 p9; (try dsimp only at N9)))
local macro_rules | `(tactic| walk_at "m_trL") => `(tactic| (refine' tr_L ?N ?m ?ok ?g1 ?g2; (case N => k_asm); (case m => k_mem); (case ok => assumption); (case' g1 => intro h9); (case' g2 => intro h9)))
local macro_rules | `(tactic| walk_at "m_lenL") => `(tactic| (refine' len_L ?N ?m ?ok ?_; (case N => k_asm); (case m => k_mem); (case ok => assumption)))
local macro_rules | `(tactic| walk_at "m_pop") => `(tactic| (first
  | (refine' popS_L ?F ?N ?U ?hu ?hz ?ok ?hk ?hsub ?_; (case F => k_asm); (case N => k_asm); (case U => k_updF); (case hu => walk_at "m_room"); (case ok => assumption); (case hk => assumption); (case hz => first | assumption | omega); (case hsub => kd_subs); intro z9 r9 l9 t8 t9 n8 ys9 h9 n9 e9 e8 hm9 F9 N9 ok9 p9; (try dsimp only at N9))
  | (refine' popZ_L ?F ?N ?U ?hu ?hz ?ok ?hk ?_; (case F => k_asm); (case N => k_asm); (case U => k_updF); (case hu => walk_at "m_room"); (case ok => assumption); (case hk => assumption); (case hz => first | assumption | omega); intro z9 r9 t9 ys9 h9 n9 e9 e8 F9 N9 ok9 p9; (try dsimp only at N9))))
local macro_rules | `(tactic| walk_at "subscriptTail") => `(tactic| ((with_reducible show wpAny _ _ (subscriptTail _ _ (Value.ref _) (Value.int _ _)) _ _ _); first
  | (refine' item0S ?N ?m ?hz ?hk ?_ ?_; (case N => with_unfolding_all k_asm); (case m => with_unfolding_all k_mem); (case hk => assumption); (case hz => assumption); rotate_left; (with_unfolding_all rfl); intro z9 r9 l9 t8 t9 n8 e9 hm9)
  | (refine' item0Z ?N ?m ?hz ?hk ?_ ?_; (case N => with_unfolding_all k_asm); (case m => with_unfolding_all k_mem); (case hk => assumption); (case hz => assumption); rotate_left; (with_unfolding_all rfl); intro z9 r9 t9 e9)
  | (refine' itemM ?N ?m ?h0 ?h1 ?hf ?hk ?_ ?_; (case N => with_unfolding_all k_asm); (case m => with_unfolding_all k_mem); (case hk => assumption); (case h0 => omega); (case h1 => omega); (case hf => omega); rotate_left; (with_unfolding_all rfl); intro z9 l9 t8 t9 n8 e9 e8 hm9)))
local macro_rules | `(tactic| walk_at "setItem ref int") => `(tactic| ((with_reducible show wpAny _ _ (setItem (Value.ref _) (Value.int _ _) (Value.ref _)) _ _ _); refine' setM ?hv ?F ?N ?U ?h0 ?h1 ?hf ?_; (case F => with_unfolding_all k_asm); (case N => with_unfolding_all k_asm); (case hv => with_unfolding_all k_mem); (case U => with_unfolding_all k_updF); (case h0 => omega); (case h1 => omega); (case hf => omega); intro h9 n9 F9 N9; (try dsimp only at N9); (try simp only [Int.toNat_natCast] at N9)))
local macro_rules | `(tactic| walk_at "m_zf") => `(tactic| first | exact Or.inl (by assumption) | exact zfirst (by assumption) (by assumption) (by assumption))
local macro_rules | `(tactic| walk_at "m_sf") => `(tactic| first | exact Or.inl (by assumption) | exact sfirst (by assumption) (by assumption) (by assumption))
local macro_rules | `(tactic| walk_at "m_lt") => `(tactic| first | assumption | exact And.right (And.right (And.right (by assumption))))
local macro_rules | `(tactic| walk_at "m_same1") => `(tactic| (intro z h1 h2 h3; (simp only [List.contains_cons, List.contains_nil, Bool.or_false, Bool.or_eq_false_iff, beq_eq_false_iff_ne, ne_eq] at h3); simp [h1, h2, h3]))
local macro_rules | `(tactic| walk_at "m_same2") => `(tactic| (intro z h1 h3; (simp only [List.contains_cons, List.contains_nil, Bool.or_false, Bool.or_eq_false_iff, beq_eq_false_iff_ne, ne_eq] at h3); simp [h1, h3]))
local macro_rules | `(tactic| walk_at "m_sameW") => `(tactic| (intro z h3; (simp only [List.contains_cons, List.contains_nil, Bool.or_false, Bool.or_eq_false_iff, beq_eq_false_iff_ne, ne_eq] at h3); simp [h3]))
local macro_rules | `(tactic| walk_at "m_push") => `(tactic| (first
  | (refine' pushS_L ?F ?N ?U ?hu ?hz ?ok ?hk ?hsub ?hv ?_; (case F => k_asm); (case N => k_asm); (case U => k_updF); (case hu => walk_at "m_room"); (case ok => assumption); (case hk => assumption); (case hz => assumption); (case hv => assumption); (case hsub => kd_subs); intro ys9 h9 n9 F9 N9 ok9 p9; (try dsimp only at N9))
  | (refine' pushZ_L ?F ?N ?U ?hu ?hz ?ok ?hk ?_; (case F => k_asm); (case N => k_asm); (case U => k_updF); (case hu => walk_at "m_room"); (case ok => assumption); (case hk => assumption); (case hz => assumption); intro ys9 h9 n9 F9 N9 ok9 p9; (try dsimp only at N9))))
local macro_rules | `(tactic| walk_at "m_hify") => `(tactic| (first | (walk_at "m_open"; walk_at "m_hifyS") | walk_at "m_hifyZ"))
local macro_rules | `(tactic| walk_at "m_stop") => `(tactic| refine Stop.out ?_)
theorem dig_ct {w : World} {mean : ExcName → Option Value} {mg mb : Str → Option Value} {is os : List Int} {l1 l2 : Addr} {vs1 vs2 : List Value} (hi1 : IntsAre vs1 is) (hi2 : IntsAre vs2 os) (hn : Le4 is.length) (hno : os.length = is.length) (hp1 : ∀ i : Nat, 0 ≤ is.getD i 0) (hp2 : ∀ i : Nat, 0 ≤ os.getD i 0) (hp3 : 0 ≤ maxTo is is.length ∧ maxTo is is.length ≤ 1000) :
    CtB w mean mg mb 148 [.ref l1, .ref l2] 100 1000 (fun h => h.IsList l1 vs1.toArray ∧ h.IsList l2 vs2.toArray) (digF is os) := by
  refine ⟨?_⟩
  intro A₀ base outer s R dp un gd B X T hls hdp hun ret
  obtain ⟨hl1, hl2⟩ := hls
  have hb1 : is.length < 2 ^ 20 := Nat.lt_of_le_of_lt hn (by decide)
  have hb2 : os.length < 2 ^ 20 := by rw [hno]; exact hb1
  w_top off; k_with_none
  revert X; k_fill; intro X
  replace B : Below (atop dp un gd outer) base outer s.heap := ⟨rfl, B.stays, B.frames⟩
  walk_at "m_enter"
  k_with "binaryOp Add int int" => walk_at "m_addG"
  k_with "binaryOp Sub int int" => walk_at "m_subG"
  k_with "call ref" => walk_at "m_mkl"
  k_with "pyIter ref" => k_dat (fun pre si so mx st ze => D0 is os pre.length si so mx st ze ∧ st.length ≤ pre.length ∧ ze.length ≤ pre.length) "sumin" "sumout" "maxin" "stubheap*" "zeroheap"
  k_with "state" => exact d0_0
  k_with "state" => exact ⟨d0_a (by assumption) (by assumption) (by assumption) (by omega) (by assumption), by simp only [List.length_append, List.length_cons, List.length_nil] at *; omega, by simp only [List.length_append, List.length_cons, List.length_nil] at *; omega⟩
  k_with "state" => exact ⟨d0_b (by assumption) (by assumption) (by assumption) (by omega) (by assumption) (by assumption), by simp only [List.length_append, List.length_cons, List.length_nil] at *; omega, by simp only [List.length_append, List.length_cons, List.length_nil] at *; omega⟩
  k_with "state" => exact ⟨d0_c (by assumption) (by assumption) (by assumption) (by omega) (by assumption) (by assumption), by simp only [List.length_append, List.length_cons, List.length_nil] at *; omega, by simp only [List.length_append, List.length_cons, List.length_nil] at *; omega⟩
  k_with "call builtin:_heapq.heapify" => walk_at "m_hify"
  k_with "exec While Name cons nil" => walk_at "m_stop"
  k_steps
  · ((try dsimp only); refine' retB9 ret ?_ ?m2; (case m2 => exact Fr.keep (by assumption)))
    exact dig_zero hno (by assumption)
  · ((try dsimp only); refine' retB9 ret ?_ ?m2; (case m2 => exact Fr.keep (by assumption)))
    exact (Int.not_lt.mpr (hp1 _) (by assumption)).elim
  · ((try dsimp only); refine' retB9 ret ?_ ?m2; (case m2 => exact Fr.keep (by assumption)))
    exact (Int.not_lt.mpr (hp2 _) (by assumption)).elim
  · ((try dsimp only); refine' retB9 ret ?_ ?m2; (case m2 => exact Fr.keep (by assumption)))
    exact dig_sum (by assumption) hno (by assumption) (by assumption)
  refine Stop.mk ?_
  with_reducible rename Fr _ _ _ _ => Fw
  with_reducible rename News _ _ _ _ => Nw
  have hne := w_ne3 Nw (Nat.ne_of_lt (Heap.lt_size (News.get (by assumption) (by k_mem)))) (Nat.ne_of_lt (Heap.lt_size (News.get (by assumption) (by k_mem)))) (by omega)
  dsimp only at hne Nw Fw
  refine' dig_while Fw Nw ?hD ?hz ?hzz ?ok1 ?p1 ?ok2 ?p2 ?he ?hl0 ?hm ?turn ?hE
  (case hD => assumption)
  (case hz => assumption)
  (case hzz => assumption)
  (case ok1 => assumption)
  (case ok2 => assumption)
  (case p1 => assumption)
  (case p2 => assumption)
  (case he => assumption)
  (case hl0 => exact dig_pos hno (by assumption))
  (case hm => assumption)
  (case hE => passes_own)
  case turn =>
    clear Fw Nw
    intro c u h tk hF hP hO F N
    obtain ⟨zs, zz, ms, nS, nZ, nM, tl⟩ := c
    obtain ⟨fall, fzs, fzz, fms⟩ := hF
    obtain ⟨okS, okZ, hlen, hkb, f, hf, hgo⟩ := hP
    dsimp only [LedW] at N
    dsimp only at hO fall fzs fzz fms okS okZ hlen hkb hf hgo
    w_top off; k_with_none
    k_with "binaryOp Add int int" => walk_at "m_addG"
    k_with "binaryOp Sub int int" => walk_at "m_subG"
    k_with "truthy ref" => walk_at "m_trL"
    k_with "call builtin:len" => walk_at "m_lenL"
    k_with "call builtin:_heapq.heappop" => walk_at "m_pop"
    k_with "call builtin:_heapq.heappush" => walk_at "m_push"
    k_with "pyIter ref" => walk_at "m_stop"
    k_steps
    · ((try dsimp only); refine' retB9 ret ?_ ?m2; (case m2 => exact Fr.keep (by assumption)))
      exact go_big (by assumption) (by assumption) (by assumption) (by assumption) (by assumption) (by assumption)
    · refine Stop.mk ?_
      with_reducible rename Fr _ _ _ _ => Fi
      with_reducible rename News _ _ _ _ => Ni
      have hf4 := free4 (by assumption) (by assumption) (by assumption) (by assumption : ¬ (_ : Int) + (_ : Int) < _ * -1)
      refine' dig_in1 ?hh ?hr ?h0 ?h4 Fi Ni ?fall ?fzs ?fzz ?fms ?hk (P1.start ?okZ ?hkb ?e ?py ?oky ?hle) ?turn ?done
      (case hh => exact rfl)
      (case hr => assumption)
      (case okZ => assumption)
      (case hkb => assumption)
      (case e => assumption)
      (case py => assumption)
      (case oky => assumption)
      (case h0 => exact free0 (by assumption) (by assumption))
      (case h4 => exact hf4)
      (case hle => assumption)
      (case fall => assumption)
      (case fzs => exact fz_pop (by assumption) (by assumption) (by assumption) (fun _ h => h))
      (case fzz => assumption)
      (case fms => assumption)
      (case hk => exact rfl)
      case turn =>
        clear Fi Ni
        intro c tl' pre k t u h tk own hk hlt hsep ho1 ho2 hF hP F N
        obtain ⟨zs, zz, ms, nS, nZ, nM, ml, tm⟩ := c
        obtain ⟨fall, fzs, fzz, fms⟩ := hF
        dsimp only at N F fall fzs fzz fms hP
        have okS := hP.okS
        have okZ := hP.okZ
        have hcnt : 0 < zs.length + zz.length := by have := hP.cnt; have := hP.nb; omega
        have hml : 0 ≤ (ml : Int) ∧ (ml : Int) < (ms.length : Int) ∧ (ml : Int) < 1000000 := P1.mls hP hlt (by assumption)
        k_steps
        · ((try dsimp only); refine' retB9 ret ?_ ?m2; (case m2 => exact Fr.keep (by assumption)))
          exact go_none (by assumption) (by assumption) (by assumption) (by assumption) (by assumption) (by assumption) (P1.Zn hP hlt (by assumption) (by walk_at "m_zf") (by assumption))
        · refine' in1_end1 ?hsep ?F ?N ?hS ?hZ ?hM ?hD ?hlt ?ht ?f0 ?fzs ?fzz ?fms ?hk ?hr ?hp
          case hsep => assumption
          case F => k_asm
          case N => k_asm
          case hS => k_mem
          case hZ => k_mem
          case hM => k_mem
          case hD => k_mem
          case hlt => walk_at "m_lt"
          case ht => kd_subs
          case f0 => assumption
          case hp => exact P1.Z1 hP hlt (by assumption) (by assumption) (by assumption) (by walk_at "m_zf") (by assumption) (by assumption)
          case fzs => assumption
          case fzz => exact fi_pop (by assumption) (by assumption) (by assumption)
          case fms => assumption
          case hk => exact rfl
          case hr => walk_at "m_same1"
        · refine' in1_end0 ?hsep ?F ?N ?hS ?hZ ?hM ?ht ?f0 ?fzs ?fzz ?fms ?hk ?hr ?hp
          case hsep => assumption
          case F => k_asm
          case N => k_asm
          case hS => k_mem
          case hZ => k_mem
          case hM => k_mem
          case ht => kd_subs
          case f0 => assumption
          case hp => exact P1.Z0 hP hlt (by assumption) (by assumption) (by assumption) (by walk_at "m_zf") (by assumption) (by assumption)
          case fzs => assumption
          case fzz => exact fi_pop (by assumption) (by assumption) (by assumption)
          case fms => assumption
          case hk => exact rfl
          case hr => walk_at "m_same1"
        · ((try dsimp only); refine' retB9 ret ?_ ?m2; (case m2 => exact Fr.keep (by assumption)))
          exact go_none (by assumption) (by assumption) (by assumption) (by assumption) (by assumption) (by assumption) (P1.Sn hP hlt (by assumption) (by walk_at "m_sf") (by assumption))
        · refine' in1_end1 ?hsep ?F ?N ?hS ?hZ ?hM ?hD ?hlt ?ht ?f0 ?fzs ?fzz ?fms ?hk ?hr ?hp
          case hsep => assumption
          case F => k_asm
          case N => k_asm
          case hS => k_mem
          case hZ => k_mem
          case hM => k_mem
          case hD => k_mem
          case hlt => walk_at "m_lt"
          case ht => kd_subs
          case f0 => assumption
          case hp => exact P1.S1 hP hlt (by assumption) (by assumption) (by assumption) (by walk_at "m_sf") (by assumption) (Or.inl (by assumption))
          case fzs => exact fz_pop (by assumption) (by assumption) (by assumption) (fun _ h => h)
          case fzz => assumption
          case fms => assumption
          case hk => exact rfl
          case hr => walk_at "m_same1"
        · refine' in1_end1 ?hsep ?F ?N ?hS ?hZ ?hM ?hD ?hlt ?ht ?f0 ?fzs ?fzz ?fms ?hk ?hr ?hp
          case hsep => assumption
          case F => k_asm
          case N => k_asm
          case hS => k_mem
          case hZ => k_mem
          case hM => k_mem
          case hD => k_mem
          case hlt => walk_at "m_lt"
          case ht => kd_subs
          case f0 => assumption
          case hp => exact P1.S1 hP hlt (by assumption) (by assumption) (by assumption) (by walk_at "m_sf") (by assumption) (Or.inr (by assumption))
          case fzs => exact fz_pop (by assumption) (by assumption) (by assumption) (fun _ h => h)
          case fzz => assumption
          case fms => assumption
          case hk => exact rfl
          case hr => walk_at "m_same1"
        · refine' in1_end0 ?hsep ?F ?N ?hS ?hZ ?hM ?ht ?f0 ?fzs ?fzz ?fms ?hk ?hr ?hp
          case hsep => assumption
          case F => k_asm
          case N => k_asm
          case hS => k_mem
          case hZ => k_mem
          case hM => k_mem
          case ht => kd_subs
          case f0 => assumption
          case hp => exact P1.S0 hP hlt (by assumption) (by assumption) (by assumption) (by walk_at "m_sf") (by assumption) (by assumption) (by assumption)
          case fzs => exact fz_pop (by assumption) (by assumption) (by assumption) (fun _ h => h)
          case fzz => assumption
          case fms => assumption
          case hk => exact rfl
          case hr => walk_at "m_same1"
        · ((try dsimp only); refine' retB9 ret ?_ ?m2; (case m2 => exact Fr.keep (by assumption)))
          exact go_none (by assumption) (by assumption) (by assumption) (by assumption) (by assumption) (by assumption) (P1.Zn hP hlt (by assumption) (by walk_at "m_zf") (by assumption))
        · refine' in1_end1 ?hsep ?F ?N ?hS ?hZ ?hM ?hD ?hlt ?ht ?f0 ?fzs ?fzz ?fms ?hk ?hr ?hp
          case hsep => assumption
          case F => k_asm
          case N => k_asm
          case hS => k_mem
          case hZ => k_mem
          case hM => k_mem
          case hD => k_mem
          case hlt => walk_at "m_lt"
          case ht => kd_subs
          case f0 => assumption
          case hp => exact P1.Z1 hP hlt (by assumption) (by assumption) (by assumption) (by walk_at "m_zf") (by assumption) (by assumption)
          case fzs => assumption
          case fzz => exact fi_pop (by assumption) (by assumption) (by assumption)
          case fms => assumption
          case hk => exact rfl
          case hr => walk_at "m_same1"
        · refine' in1_end0 ?hsep ?F ?N ?hS ?hZ ?hM ?ht ?f0 ?fzs ?fzz ?fms ?hk ?hr ?hp
          case hsep => assumption
          case F => k_asm
          case N => k_asm
          case hS => k_mem
          case hZ => k_mem
          case hM => k_mem
          case ht => kd_subs
          case f0 => assumption
          case hp => exact P1.Z0 hP hlt (by assumption) (by assumption) (by assumption) (by walk_at "m_zf") (by assumption) (by assumption)
          case fzs => assumption
          case fzz => exact fi_pop (by assumption) (by assumption) (by assumption)
          case fms => assumption
          case hk => exact rfl
          case hr => walk_at "m_same1"
        · ((try dsimp only); refine' retB9 ret ?_ ?m2; (case m2 => exact Fr.keep (by assumption)))
          exact go_none (by assumption) (by assumption) (by assumption) (by assumption) (by assumption) (by assumption) (P1.Sn hP hlt (by assumption) (by walk_at "m_sf") (by assumption))
        · refine' in1_end1 ?hsep ?F ?N ?hS ?hZ ?hM ?hD ?hlt ?ht ?f0 ?fzs ?fzz ?fms ?hk ?hr ?hp
          case hsep => assumption
          case F => k_asm
          case N => k_asm
          case hS => k_mem
          case hZ => k_mem
          case hM => k_mem
          case hD => k_mem
          case hlt => walk_at "m_lt"
          case ht => kd_subs
          case f0 => assumption
          case hp => exact P1.S1 hP hlt (by assumption) (by assumption) (by assumption) (by walk_at "m_sf") (by assumption) (Or.inl (by assumption))
          case fzs => exact fz_pop (by assumption) (by assumption) (by assumption) (fun _ h => h)
          case fzz => assumption
          case fms => assumption
          case hk => exact rfl
          case hr => walk_at "m_same1"
        · refine' in1_end1 ?hsep ?F ?N ?hS ?hZ ?hM ?hD ?hlt ?ht ?f0 ?fzs ?fzz ?fms ?hk ?hr ?hp
          case hsep => assumption
          case F => k_asm
          case N => k_asm
          case hS => k_mem
          case hZ => k_mem
          case hM => k_mem
          case hD => k_mem
          case hlt => walk_at "m_lt"
          case ht => kd_subs
          case f0 => assumption
          case hp => exact P1.S1 hP hlt (by assumption) (by assumption) (by assumption) (by walk_at "m_sf") (by assumption) (Or.inr (by assumption))
          case fzs => exact fz_pop (by assumption) (by assumption) (by assumption) (fun _ h => h)
          case fzz => assumption
          case fms => assumption
          case hk => exact rfl
          case hr => walk_at "m_same1"
        · refine' in1_end0 ?hsep ?F ?N ?hS ?hZ ?hM ?ht ?f0 ?fzs ?fzz ?fms ?hk ?hr ?hp
          case hsep => assumption
          case F => k_asm
          case N => k_asm
          case hS => k_mem
          case hZ => k_mem
          case hM => k_mem
          case ht => kd_subs
          case f0 => assumption
          case hp => exact P1.S0 hP hlt (by assumption) (by assumption) (by assumption) (by walk_at "m_sf") (by assumption) (by assumption) (by assumption)
          case fzs => exact fz_pop (by assumption) (by assumption) (by assumption) (fun _ h => h)
          case fzz => assumption
          case fms => assumption
          case hk => exact rfl
          case hr => walk_at "m_same1"
      case done =>
        clear Fi Ni
        intro c tl' u h tk hF hO hP F N
        obtain ⟨zs, zz, ms, nS, nZ, nM, ml, tm⟩ := c
        obtain ⟨fall, fzs, fzz, fms⟩ := hF
        dsimp only at N F fall fzs fzz fms hP
        have okS := hP.okS
        have okZ := hP.okZ
        k_steps
        refine Stop.mk ?_
        with_reducible rename Fr _ _ _ _ => Fi
        with_reducible rename News _ _ _ _ => Ni
        have hMS := hP.ms_ok
        have hT := hP.last
        have hL4 := P1.ml4 hP (by assumption)
        have hL3 := le3_of (by assumption : Le4 (List.length _ + List.length _)) (by assumption : _ = _ :: _) (by assumption)
        refine' dig_in2 ?hh ?hr ?h4 Fi Ni ?fall ?fzs ?fzz (P2.start hP hL3) ?turn ?done
        (case hh => exact rfl)
        (case hr => assumption)
        (case h4 => exact hL4)
        (case fall => assumption)
        (case fzs => assumption)
        (case fzz => assumption)
        case turn =>
          clear Fi Ni
          intro c tl2 pre k t u h tk own hk hlt hsep ho1 ho2 hF hP F N
          obtain ⟨zs, zz, nS, nZ⟩ := c
          obtain ⟨fzs, fzz⟩ := hF
          dsimp only at N F fzs fzz hP
          have okS := hP.okS
          have okZ := hP.okZ
          have hlS := hP.lenS
          have hlZ := hP.lenZ
          have hle := hMS.le
          have hki : k.toNat = pre.length := by omega
          have hkr : 0 ≤ k ∧ k < 1000000 := P2.kr hlt hL4 hk
          have fms := hk_of fms (fun p hp => List.mem_append.mpr (.inl hp) : ∀ p ∈ _, p ∈ _ ++ tl2)
          k_steps
          · refine' in2_end ?hsep ?F ?N ?hS ?hZ ?hM ?ht ?fzs ?fzz ?hr ?hp
            case hsep => assumption
            case F => k_asm
            case N => k_asm
            case hS => k_mem
            case hZ => k_mem
            case hM => k_mem
            case ht => kd_subs
            case hp => exact P2.S hP hMS hlt (by rw [← hki]; assumption) (by assumption) (by assumption) (by assumption)
            case fzs => exact fz_push (by assumption) (by assumption) (by assumption)
            case fzz => assumption
            case hr => walk_at "m_same2"
          · refine' in2_end ?hsep ?F ?N ?hS ?hZ ?hM ?ht ?fzs ?fzz ?hr ?hp
            case hsep => assumption
            case F => k_asm
            case N => k_asm
            case hS => k_mem
            case hZ => k_mem
            case hM => k_mem
            case ht => kd_subs
            case hp => exact P2.Z hP hMS hlt (by rw [← hki]; assumption) (by assumption) (by assumption) (by assumption)
            case fzs => assumption
            case fzz => exact fi_push (by assumption) (by assumption)
            case hr => walk_at "m_same2"
        case done =>
          clear Fi Ni
          intro c tl2 u h tk hF hO2 hP2 F N
          obtain ⟨zs, zz, nS, nZ⟩ := c
          obtain ⟨fzs, fzz⟩ := hF
          dsimp only at N F fzs fzz hP2
          have okS := hP2.okS
          have okZ := hP2.okZ
          have hlS := hP2.lenS
          have hlZ := hP2.lenZ
          have q := pw_len (by assumption) (by assumption) (by assumption) (by assumption) (by assumption) (by assumption) hT hP2
          k_steps
          · refine' w_end2 ?F ?N ?hS ?hZ ?hM ?fzs ?ht ?fzz ?fms ?hp ?hlt ?hr
            case F => first | k_asm | assumption
            case N => first | k_asm | assumption
            case hS => k_mem
            case hZ => k_mem
            case hM => k_mem
            case fzs => assumption
            case ht => kd_subs
            case fzz => exact fi_push (by assumption) (by assumption)
            case fms => exact hk_of (by assumption) (fun p hp => List.mem_append.mpr (.inl hp))
            case hp => exact pw_end1 q hP2 (by assumption) (by assumption) (by assumption)
            case hlt => exact q.2
            case hr => walk_at "m_sameW"
          · refine' w_end2 ?F ?N ?hS ?hZ ?hM ?fzs ?ht ?fzz ?fms ?hp ?hlt ?hr
            case F => first | k_asm | assumption
            case N => first | k_asm | assumption
            case hS => k_mem
            case hZ => k_mem
            case hM => k_mem
            case fzs => assumption
            case ht => kd_subs
            case fzz => assumption
            case fms => exact hk_of (by assumption) (fun p hp => List.mem_append.mpr (.inl hp))
            case hp => exact pw_end0 q hP2 (by assumption)
            case hlt => exact q.2
            case hr => walk_at "m_sameW"
    · ((try dsimp only); refine' retB9 ret ?_ ?m2; (case m2 => exact Fr.keep (by assumption)))
      exact go_end (by assumption) (by assumption) (by assumption)
end
section
open PySem PySem.W PyProof.Rows PySem.Calls PySem.Spec
set_option maxHeartbeats 1000000
section
variable {prog : Program} {w : World} {A : Around} {E : Value → Shared → Prop} {s : Shared} {h₀ : Heap} {L D D2 : Addr} {m : Str → Option Value} {news : List (Addr × Obj)} {ys : List Value}
theorem list_enters {α : Type} {t : Sem α} {Q : α → Shared → Prop} (hn : h₀.get? D = none) (F : Fr h₀ L s.heap m) (N : News h₀ L s.heap news) (hl : s.heap.IsList D ys.toArray)
    (k : ∀ o n, News h₀ L s.heap ((D, o) :: news) → (∀ p ∈ news, p.1 ≠ D → True) → o.cls = .type "list" → o.data = .seq ys.toArray n → wpAny (model prog w) A t Q E s) : wpAny (model prog w) A t Q E s := by
  obtain ⟨o, ho, hc, n, hd⟩ := hl
  refine k o n (fun p hp => ?_) (fun _ _ _ => trivial) hc hd
  rcases List.mem_cons.mp hp with rfl | hp
  · refine ⟨ho, fun e => ?_, hn⟩
    obtain ⟨oL, es, k', h1, h2, _⟩ := F.ns
    dsimp only at e
    rw [e, h1] at ho
    injection ho with ho
    rw [← ho, h2] at hd
    cases hd
  · exact N p hp
theorem eq_nil {o : Obj} {n n2 : Nat} {ds : List PyData} {Q : Value → Shared → Prop} (N : News h₀ L s.heap news) (hm : (D, o) ∈ news) (hc : o.cls = .type "list") (hd : o.data = .seq ys.toArray n) (hm2 : (D2, listOf #[] n2) ∈ news) (hy : CarriedAll ys ds) (hu : A.units < cLine)
    (h : Q (.bool (ds.length == 0)) s) : wpAny (model prog w) A (compareOp .Eq (.ref D) (.ref D2)) Q E s := by
  have l1 : s.heap.IsList D ys.toArray := ⟨o, (N _ hm).1, hc, n, hd⟩
  have l2 : s.heap.IsList D2 (#[] : Array Value) := ⟨_, (N _ hm2).1, rfl, n2, rfl⟩
  have e := hy.length_eq
  rcases ys with _ | ⟨y, ys⟩
  · have : (ds.length == 0) = true := by
      rw [List.length_nil] at e
      exact beq_iff_eq.mpr e.symm
    rw [this] at h
    refine PySem.SeqAt.eq_listAt (e := fun _ => true) l1 l2 rfl hu (fun j h1 h2 => absurd h1 (Nat.not_lt_zero _)) ?_
    exact h
  · have : (ds.length == 0) = false := by
      rw [List.length_cons] at e
      exact beq_eq_false_iff_ne.mpr (by omega)
    rw [this] at h
    exact PySem.SeqAt.eq_list_lengthsAt l1 l2 (by simp) hu h
end
end
section
open PySem PySem.W PyProof.Rows PySem.Calls PySem.Spec
set_option maxHeartbeats 1000000
theorem below_of {K : Frag} {h : Heap} (_ : K.In h) : Below callerA h [] h := below_caller h
theorem dicts_of {K : Frag} {h : Heap} (_ : K.In h) : KtsDicts (([] : List Env).filterMap (·.frame)) h := ktsDicts_nil
theorem u_law {env : Env} {n : Nat} (h : n ≤ 9800) : (callerA.deeper env).units + n < cLine := by
  rw [units_deeper, cLine_is]
  show 4 + 3 + n < 9900
  omega
theorem u_law0 {env : Env} : (callerA.deeper env).units < cLine := u_law (env := env) (n := 0) (Nat.zero_le _)
theorem d_law {env : Env} {n : Nat} (h : n ≤ 600) : (callerA.deeper env).depth + n < recursionLimit := by
  have e : (callerA.deeper env).depth = 302 := rfl
  have e2 : recursionLimit = 1000 := rfl
  rw [e, e2]
  omega
theorem kts_nil {g g' h : Heap} {L : Addr} {m : Str → Option Value} (T : KtsTurn [] g g') (F : Fr g' L h m) : Fr g L h m :=
  ⟨F.ns, fun b o e => F.keep b o (T.other b o e (fun hm => nomatch hm)), by rw [← T.size]; exact F.above⟩
theorem kts_nilN {g g' h : Heap} {L : Addr} {news : List (Addr × Obj)} (T : KtsTurn [] g g') (N : News g' L h news) : News g L h news := by
  intro p hp
  have q := N p hp
  refine ⟨q.1, q.2.1, ?_⟩
  cases e : g.get? p.1 with
  | none => rfl
  | some o =>
    have := T.other _ _ e (fun hm => nomatch hm)
    rw [q.2.2] at this
    cases this
section
variable {w : World} {mean : ExcName → Option Value} {mg mb : Str → Option Value} {h₀ : Heap} {env : Env} {L : Addr} {m : Str → Option Value} {news : List (Addr × Obj)} {s : Shared} {Q E : Value → Shared → Prop} {l : Addr} {vs : List Value} {ns : List Int}
theorem lawB_call {f : Addr} {args : List Value} {dn un' : Nat} {pre : Heap → Prop} {v : Bool} (C : CtB w mean mg mb f args dn un' pre v) (F : Fr h₀ L s.heap m) (X : (hd.heap_39 w.params).In h₀) (N : News h₀ L s.heap news) (T : Top hd.view_39 lse mean mg mb h₀)
    (hf : env.frame = some L) (hk : env.scope.kind = .function) (hp : pre s.heap) (hd1 : dn ≤ 600) (hu1 : un' ≤ 9800) (h : ∀ h' tk', Fr h₀ L h' m → News h₀ L h' news → Q (.bool v) { s with heap := h', toks := tk' }) :
    wpAny (model PySem.Challenge.rw_fc0138_01.row.prog w) (callerA.deeper env) (call (.ref f) args) Q E s :=
  ctb_call C (below_caller h₀) F X N T rfl rfl hf hk hp (d_law hd1) (u_law hu1) h
theorem multi_C (hi : IntsAre vs ns) (hn : ns.length < 2 ^ 20) : CtB w mean mg mb 134 [.ref l] 40 400 (fun h => h.IsList l vs.toArray) (multiF ns) :=
  ⟨fun B X T hp hdp hun ret => multi_ct B X T hp hi hn hdp hun ret⟩
theorem pseudo_C (hi : IntsAre vs ns) (hn : ns.length < 2 ^ 20) (h1 : 0 < ns.length) : CtB w mean mg mb 141 [.ref l] 80 800 (fun h => h.IsList l vs.toArray) (pseudoF ns) :=
  ⟨fun B X T hp hdp hun ret => pseudo_ct B X T hp hi hn h1 hdp hun ret⟩
theorem isg1_call (F : Fr h₀ L s.heap m) (X : (hd.heap_39 w.params).In h₀) (N : News h₀ L s.heap news) (T : Top hd.view_39 lse mean mg mb h₀) (hf : env.frame = some L) (hk : env.scope.kind = .function)
    (hl : s.heap.IsList l vs.toArray) (hi : IntsAre vs ns) (hn : ns.length < 2 ^ 20) (h : ∀ h' tk', Fr h₀ L h' m → News h₀ L h' news → Q (.bool (egF ns)) { s with heap := h', toks := tk' }) :
    wpAny (model PySem.Challenge.rw_fc0138_01.row.prog w) (callerA.deeper env) (call (.ref 106) [.ref l]) Q E s := by
  have B' := pushX (below_caller h₀) F hf hk
  refine wpAny_call (isg_ct1 (A₀ := atop 0 0 none [env]) (dp := (callerA.deeper env).depth) (un := (callerA.deeper env).units) (gd := (callerA.deeper env).guards) ⟨rfl, B'.stays, B'.frames⟩ (X.keeps F.keep) (T.keeps F.keep) X T (dicts_push F hf ktsDicts_nil) hl hi hn (d_law (by decide)) (u_law (by decide)) (fun h' tk' g' KT st => ?_))
  obtain ⟨g2, T2, F2, N2, _⟩ := reground (below_caller h₀) F N hf X T ktsDicts_nil KT st
  exact h h' tk' (kts_nil T2 F2) (kts_nilN T2 N2)
theorem isg2_code {tk : Tok} {R : Result → Shared → Prop} (F : Fr h₀ L s.heap m) (X : (hd.heap_39 w.params).In h₀) (N : News h₀ L s.heap news) (T : Top hd.view_39 lse mean mg mb h₀) (hf : env.frame = some L) (hk : env.scope.kind = .function)
    (hl : s.heap.IsList l vs.toArray) (hi : IntsAre vs ns) (hn : ns.length < 2 ^ 20) (h : ∀ h' tk', Fr h₀ L h' m → News h₀ L h' news → R (.ok (.ret (.bool (hhF ns)))) { s with heap := h', toks := tk' }) :
    codeAny (model PySem.Challenge.rw_fc0138_01.row.prog w) (callerA.deeper env) (.call (.ref 106) ⟨[.ref l], [(PySem.Str.ofString "method", .str (PySem.Str.ofString "hh") tk)]⟩) R s := by
  have B' := pushX (below_caller h₀) F hf hk
  refine isg_ct2 (A₀ := atop 0 0 none [env]) (dp := (callerA.deeper env).depth) (un := (callerA.deeper env).units) (gd := (callerA.deeper env).guards) ⟨rfl, B'.stays, B'.frames⟩ (X.keeps F.keep) (T.keeps F.keep) X T (dicts_push F hf ktsDicts_nil) hl hi hn (d_law (by decide)) (u_law (by decide)) (fun h' tk' g' KT st => ?_)
  obtain ⟨g2, T2, F2, N2, _⟩ := reground (below_caller h₀) F N hf X T ktsDicts_nil KT st
  exact h h' tk' (kts_nil T2 F2) (kts_nilN T2 N2)
theorem isg2_call {tk : Tok} {kws : List (Str × Value)} (hkw : kws = [(PySem.Str.ofString "method", .str (PySem.Str.ofString "hh") tk)]) (F : Fr h₀ L s.heap m) (X : (hd.heap_39 w.params).In h₀) (N : News h₀ L s.heap news) (T : Top hd.view_39 lse mean mg mb h₀) (hf : env.frame = some L) (hk : env.scope.kind = .function)
    (hl : s.heap.IsList l vs.toArray) (hi : IntsAre vs ns) (hn : ns.length < 2 ^ 20) (h : ∀ h' tk', Fr h₀ L h' m → News h₀ L h' news → Q (.bool (hhF ns)) { s with heap := h', toks := tk' }) :
    wpAny (model PySem.Challenge.rw_fc0138_01.row.prog w) (callerA.deeper env) (call (.ref 106) [.ref l] kws) Q E s := by
  subst hkw
  exact wpAny_call (isg2_code F X N T hf hk hl hi hn h)
theorem isg3_call {tk : Tok} (F : Fr h₀ L s.heap m) (X : (hd.heap_39 w.params).In h₀) (N : News h₀ L s.heap news) (T : Top hd.view_39 lse mean mg mb h₀) (hf : env.frame = some L) (hk : env.scope.kind = .function)
    (hl : IsTup s.heap l vs.toArray) (hi : IntsAre vs ns) (hn : ns.length < 2 ^ 20) (h : ∀ h' tk', Fr h₀ L h' m → News h₀ L h' news → Q (.bool (egF ns)) { s with heap := h', toks := tk' }) :
    wpAny (model PySem.Challenge.rw_fc0138_01.row.prog w) (callerA.deeper env) (call (.ref 106) [.ref l, .str (PySem.Str.ofString "eg") tk]) Q E s := by
  have B' := pushX (below_caller h₀) F hf hk
  refine wpAny_call (isg_ct3 (A₀ := atop 0 0 none [env]) (dp := (callerA.deeper env).depth) (un := (callerA.deeper env).units) (gd := (callerA.deeper env).guards) ⟨rfl, B'.stays, B'.frames⟩ (X.keeps F.keep) (T.keeps F.keep) X T (dicts_push F hf ktsDicts_nil) hl hi hn (d_law (by decide)) (u_law (by decide)) (fun h' tk' g' KT st => ?_))
  obtain ⟨g2, T2, F2, N2, _⟩ := reground (below_caller h₀) F N hf X T ktsDicts_nil KT st
  exact h h' tk' (kts_nil T2 F2) (kts_nilN T2 N2)
theorem isg4_call {tk : Tok} (F : Fr h₀ L s.heap m) (X : (hd.heap_39 w.params).In h₀) (_N : News h₀ L s.heap news) (T : Top hd.view_39 lse mean mg mb h₀) (hf : env.frame = some L) (hk : env.scope.kind = .function)
    (hl : s.heap.IsList l vs.toArray) (hi : IntsAre vs ns) (hn : ns.length < 2 ^ 20)
    (hE : ∀ e t x h' tk', RaisedS h₀ s.heap [env] e (.ref 52) t [x] [] h' → s.heap.UpToSlots h' → E (.ref e) { s with heap := h', toks := tk' }) :
    wpAny (model PySem.Challenge.rw_fc0138_01.row.prog w) (callerA.deeper env) (call (.ref 106) [.ref l, .str (PySem.Str.ofString "other") tk]) Q E s := by
  have B' := pushX (below_caller h₀) F hf hk
  exact wpAny_call (isg_ct4 (A₀ := atop 0 0 none [env]) (dp := (callerA.deeper env).depth) (un := (callerA.deeper env).units) (gd := (callerA.deeper env).guards) ⟨rfl, B'.stays, B'.frames⟩ (X.keeps F.keep) (T.keeps F.keep) X T (dicts_push F hf ktsDicts_nil) hl hi hn (d_law (by decide)) (u_law (by decide)) (fun e t x h' tk' R U => hE e t x h' tk' R U))
end
end
section
open PySem PySem.W PyProof.Rows PySem.Calls PySem.Spec
set_option maxHeartbeats 1000000
abbrev rowF (sc : List Int) : List Int := List.map (fun k' => if k'.fmod 13 = 0 then k'.fmod 7 - 1 else k'.fmod 6) (List.take 5 sc)
theorem row_len (sc : List Int) : (rowF sc).length ≤ 5 := by
  rw [List.length_map, List.length_take]; omega
theorem row_len20 (sc : List Int) : (rowF sc).length < 2 ^ 20 := Nat.lt_of_le_of_lt (row_len sc) (by decide)
theorem row_b (sc : List Int) : ∀ x ∈ rowF sc, -1 ≤ x ∧ x ≤ 5 := by
  intro x hx
  obtain ⟨k, _, rfl⟩ := List.mem_map.mp hx
  have h1 : 0 ≤ k.fmod 7 ∧ k.fmod 7 < 7 := ⟨Int.fmod_nonneg_of_pos _ (by decide), Int.fmod_lt_of_pos _ (by decide)⟩
  have h2 : 0 ≤ k.fmod 6 ∧ k.fmod 6 < 6 := ⟨Int.fmod_nonneg_of_pos _ (by decide), Int.fmod_lt_of_pos _ (by decide)⟩
  (try dsimp only)
  split <;> omega
theorem lmes_le : ∀ (l : List Int), (∀ x ∈ l, x ≤ 5) → lmes l ≤ 6 * l.length := by
  intro l h
  unfold lmes
  have : ∀ (l : List Int), (∀ x ∈ l, x ≤ 5) → l.sum ≤ 5 * (l.length : Int) := by
    intro l
    induction l with
    | nil => intro _; simp
    | cons a r ih =>
      intro h
      have h1 := h a (.head _)
      have h2 := ih fun x hx => h x (.tail _ hx)
      rw [List.sum_cons, List.length_cons]
      omega
  have := this l h
  omega
theorem row_mes (sc : List Int) : lmes (rowF sc) < 40 := by
  have h1 := lmes_le (rowF sc) fun x hx => (row_b sc x hx).2
  have h2 := row_len sc
  omega
theorem row_nn {sc : List Int} (h : ((List.map PyData.int (List.filter (fun a => decide (a < 0)) (rowF sc))).length == 0) = true) : ∀ x ∈ rowF sc, 0 ≤ x := by
  intro x hx
  have h1 := beq_iff_eq.mp h
  rw [List.length_map] at h1
  have h2 := List.eq_nil_of_length_eq_zero h1
  rcases Int.lt_or_le x 0 with h3 | h3
  · have : x ∈ List.filter (fun a => decide (a < 0)) (rowF sc) := List.mem_filter.mpr ⟨hx, decide_eq_true h3⟩
    rw [h2] at this
    cases this
  · exact h3
abbrev someC {w : World} {mean : ExcName → Option Value} {mg mb : Str → Option Value} {ns : List Int} {many : Bool} {l : Addr} {vs : List Value} (hi : IntsAre vs ns) (hnn : ∀ x ∈ ns, 0 ≤ x) (hm : lmes ns < 40) (hn : ns.length < 2 ^ 20) := (law_SM (w := w) (mean := mean) (mg := mg) (mb := mb) 40).1 ns many l vs hi hnn hm hn
end
section
open PySem PySem.W PyProof.Rows PySem.Calls PySem.Spec
set_option maxHeartbeats 1000000
theorem cut_at {M : Model} {A : Around} {env : Env} {a1 a2 a3 a4 a5 a6 : Stmt} {rest : List Stmt} {Q : Flow → Shared → Prop} {E : Value → Shared → Prop} {s : Shared} {h₀ : Heap} {L : Addr} {m₀ : Str → Option Value} (x : Str) {l : Addr} {vs : List Value} (_hl : h₀.IsList l vs.toArray) (_F : Fr h₀ L s.heap m₀)
    (tail : ∀ h tk (m : Str → Option Value), Fr h₀ L h (fun y => if y = x then some (.ref l) else m y) → News h₀ L h [] → wpAny M A (execs rest env) Q E { s with heap := h, toks := tk })
    (main : ∀ rest' : List Stmt, (∀ h tk (m : Str → Option Value), Fr h₀ L h m → m x = some (.ref l) → wpAny M A (execs rest' env) Q E { s with heap := h, toks := tk }) → wpAny M A (execs (a1 :: a2 :: a3 :: a4 :: a5 :: a6 :: rest') env) Q E s) : wpAny M A (execs (a1 :: a2 :: a3 :: a4 :: a5 :: a6 :: rest) env) Q E s := by
  refine main rest fun h tk m F hm => tail h tk m ?_ News.nil
  have e : (fun y => if y = x then some (.ref l) else m y) = m := by
    funext y
    by_cases hy : y = x
    · rw [if_pos hy, hy, hm]
    · rw [if_neg hy]
  rw [e]
  exact F
end
section
open PySem PySem.W PyProof.Rows PySem.Calls PySem.Spec
set_option maxHeartbeats 1000000
abbrev tk5 (sc : List Int) : List Int := List.take (min 9 sc.length - 5) (List.drop 5 sc)
abbrev insF (sc : List Int) : List Int := List.map (fun k' => k'.fmod 4) (tk5 sc)
abbrev outs0 (sc : List Int) : List Int := List.map (fun k' => (k'.fdiv 4).fmod 4) (tk5 sc)
abbrev outsF (sc : List Int) : List Int := List.take ((outs0 sc).length - 1) (outs0 sc) ++ [if (insF sc).sum - (List.take ((outs0 sc).length - 1) (outs0 sc)).sum > 0 then (insF sc).sum - (List.take ((outs0 sc).length - 1) (outs0 sc)).sum else 0]
theorem tk5_len (sc : List Int) : (tk5 sc).length ≤ 4 := by
  rw [List.length_take, List.length_drop]; omega
theorem ins_len (sc : List Int) : (insF sc).length ≤ 4 := by rw [List.length_map]; exact tk5_len sc
theorem outs0_len (sc : List Int) : (outs0 sc).length = (insF sc).length := by rw [List.length_map, List.length_map]
theorem outsF_len (sc : List Int) (h : 0 < (outs0 sc).length) : (outsF sc).length = (insF sc).length := by
  rw [List.length_append, List.length_take, ← outs0_len]
  simp only [List.length_cons, List.length_nil]
  omega
theorem ins_b (sc : List Int) : ∀ x ∈ insF sc, 0 ≤ x ∧ x ≤ 3 := by
  intro x hx
  obtain ⟨k, _, rfl⟩ := List.mem_map.mp hx
  have h1 : 0 ≤ k.fmod 4 ∧ k.fmod 4 < 4 := ⟨Int.fmod_nonneg_of_pos _ (by decide), Int.fmod_lt_of_pos _ (by decide)⟩
  omega
theorem outs0_b (sc : List Int) : ∀ x ∈ outs0 sc, 0 ≤ x ∧ x ≤ 3 := by
  intro x hx
  obtain ⟨k, _, rfl⟩ := List.mem_map.mp hx
  have h1 : 0 ≤ (k.fdiv 4).fmod 4 ∧ (k.fdiv 4).fmod 4 < 4 := ⟨Int.fmod_nonneg_of_pos _ (by decide), Int.fmod_lt_of_pos _ (by decide)⟩
  omega
theorem outsF_b (sc : List Int) : ∀ x ∈ outsF sc, 0 ≤ x := by
  intro x hx
  rcases List.mem_append.mp hx with hx | hx
  · exact (outs0_b sc x (List.mem_of_mem_take hx)).1
  · rw [List.mem_singleton.mp hx]
    split <;> omega
theorem getD_nn {l : List Int} (h : ∀ x ∈ l, 0 ≤ x) (i : Nat) : 0 ≤ l.getD i 0 := by
  rw [List.getD_eq_getElem?_getD]
  cases e : l[i]? with
  | none => exact Int.le_refl _
  | some x => exact h x (List.mem_of_getElem? e)
theorem foldmax_b (c : Int) (hc : 0 ≤ c) : ∀ (l : List Int) (a : Int), (∀ x ∈ l, 0 ≤ x ∧ x ≤ c) → 0 ≤ a ∧ a ≤ c → 0 ≤ l.foldl (fun a b => if b > a then b else a) a ∧ l.foldl (fun a b => if b > a then b else a) a ≤ c
  | [], _, _, h => h
  | x :: r, a, h, ha => by
    rw [List.foldl_cons]
    have hx := h x (.head _)
    refine foldmax_b c hc r _ (fun y hy => h y (.tail _ hy)) ?_
    split <;> omega
theorem max_b {l : List Int} (h : ∀ x ∈ l, 0 ≤ x ∧ x ≤ 3) : 0 ≤ maxTo l l.length ∧ maxTo l l.length ≤ 1000 := by
  unfold maxTo
  rw [List.take_length]
  have := foldmax_b 3 (by decide) l 0 h (by decide)
  omega
section
variable {w : World} {mean : ExcName → Option Value} {mg mb : Str → Option Value} {l1 l2 : Addr} {vs1 vs2 : List Value} {sc : List Int}
theorem dig_C0 (hi1 : IntsAre vs1 (insF sc)) (hi2 : IntsAre vs2 (outs0 sc)) : CtB w mean mg mb 148 [.ref l1, .ref l2] 100 1000 (fun h => h.IsList l1 vs1.toArray ∧ h.IsList l2 vs2.toArray) (digF (insF sc) (outs0 sc)) :=
  dig_ct hi1 hi2 (ins_len sc) (outs0_len sc) (getD_nn fun x hx => (ins_b sc x hx).1) (getD_nn fun x hx => (outs0_b sc x hx).1) (max_b (ins_b sc))
theorem dig_CF (hi1 : IntsAre vs1 (insF sc)) (hi2 : IntsAre vs2 (outsF sc)) (h0 : 0 < (outs0 sc).length) : CtB w mean mg mb 148 [.ref l1, .ref l2] 100 1000 (fun h => h.IsList l1 vs1.toArray ∧ h.IsList l2 vs2.toArray) (digF (insF sc) (outsF sc)) :=
  dig_ct hi1 hi2 (ins_len sc) (outsF_len sc h0) (getD_nn fun x hx => (ins_b sc x hx).1) (getD_nn (outsF_b sc)) (max_b (ins_b sc))
theorem dir_C0 {t : Tok} (hi1 : IntsAre vs1 (insF sc)) (hi2 : IntsAre vs2 (outs0 sc)) : CtB w mean mg mb 167 [.ref l1, .ref l2, .int 0 t] 25 240 (fun h => h.IsList l1 vs1.toArray ∧ h.IsList l2 vs2.toArray) (dirF 5 (insF sc) (outs0 sc) 0) :=
  law_D 5 _ _ 0 t l1 l2 vs1 vs2 hi1 hi2 ⟨ins_len sc, by rw [outs0_len]; exact ins_len sc⟩ ⟨Int.le_refl _, by omega⟩ (by have := ins_len sc; have := outs0_len sc; omega)
theorem dir_CF {t : Tok} (hi1 : IntsAre vs1 (insF sc)) (hi2 : IntsAre vs2 (outsF sc)) (h0 : 0 < (outs0 sc).length) : CtB w mean mg mb 167 [.ref l1, .ref l2, .int 0 t] 25 240 (fun h => h.IsList l1 vs1.toArray ∧ h.IsList l2 vs2.toArray) (dirF 5 (insF sc) (outsF sc) 0) :=
  law_D 5 _ _ 0 t l1 l2 vs1 vs2 hi1 hi2 ⟨ins_len sc, by rw [outsF_len sc h0]; exact ins_len sc⟩ ⟨Int.le_refl _, by omega⟩ (by have := ins_len sc; have := outsF_len sc h0; omega)
end
end
section
open PySem PySem.W
set_option maxHeartbeats 400000
/-- t is r with n places turned by d, each of them fit -/
inductive Low {α : Type} (p : α → Prop) (d : α → α) : List α → Int → List α → Prop
  | nil : Low p d [] 0 []
  | keep {x r n t} : Low p d r n t → Low p d (x :: r) n (x :: t)
  | take {x r n t} : p x → Low p d r n t → Low p d (x :: r) (n + 1) (d x :: t)
section
variable {α : Type} {p : α → Prop} {d : α → α}
theorem Low.nonneg {r t : List α} {n : Int} (h : Low p d r n t) : 0 ≤ n := by
  induction h with
  | nil => exact Int.le_refl _
  | keep _ ih => exact ih
  | take _ _ ih => omega
theorem Low.len {r t : List α} {n : Int} (h : Low p d r n t) : t.length = r.length := by
  induction h with
  | nil => rfl
  | keep _ ih => simp [ih]
  | take _ _ ih => simp [ih]
theorem Low.comm {r r1 : List α} {a : Int} (h : Low p d r a r1) : ∀ {b : Int} {r2 : List α}, Low p d r1 b r2 → ∃ t, Low p d r b t ∧ Low p d t a r2 := by
  induction h with
  | nil => intro b r2 h2; cases h2; exact ⟨[], .nil, .nil⟩
  | keep h1 ih =>
    intro b r2 h2
    cases h2 with
    | keep h2 => obtain ⟨t, e1, e2⟩ := ih h2; exact ⟨_, .keep e1, .keep e2⟩
    | take hp h2 => obtain ⟨t, e1, e2⟩ := ih h2; exact ⟨_, .take hp e1, .keep e2⟩
  | take hp h1 ih =>
    intro b r2 h2
    cases h2 with
    | keep h2 => obtain ⟨t, e1, e2⟩ := ih h2; exact ⟨_, .keep e1, .take hp e2⟩
    | take hp2 h2 => obtain ⟨t, e1, e2⟩ := ih h2; exact ⟨_, .take hp e1, .take hp2 e2⟩
theorem Low.perm {r r' : List α} (h : r.Perm r') : ∀ {n : Int} {t : List α}, Low p d r n t → ∃ t', t.Perm t' ∧ Low p d r' n t' := by
  induction h with
  | nil => intro n t h; exact ⟨t, .refl _, h⟩
  | cons x _ ih =>
    intro n t h
    cases h with
    | keep h => obtain ⟨t', e1, e2⟩ := ih h; exact ⟨_, e1.cons _, .keep e2⟩
    | take hp h => obtain ⟨t', e1, e2⟩ := ih h; exact ⟨_, e1.cons _, .take hp e2⟩
  | swap x y l =>
    intro n t h
    cases h with
    | keep h =>
      cases h with
      | keep h => exact ⟨_, .swap .., .keep (.keep h)⟩
      | take hp h => exact ⟨_, .swap .., .take hp (.keep h)⟩
    | take hp h =>
      cases h with
      | keep h => exact ⟨_, .swap .., .keep (.take hp h)⟩
      | take hp2 h => exact ⟨_, .swap .., .take hp2 (.take hp h)⟩
  | trans _ _ ih1 ih2 =>
    intro n t h
    obtain ⟨t1, e1, e2⟩ := ih1 h
    obtain ⟨t2, e3, e4⟩ := ih2 e2
    exact ⟨t2, e1.trans e3, e4⟩
theorem Low.zero {r t : List α} {n : Int} (h : Low p d r n t) (hn : n = 0) : t = r := by
  induction h with
  | nil => rfl
  | keep _ ih => rw [ih hn]
  | take _ h _ => have := h.nonneg; omega
theorem low_zero : ∀ (r : List α), Low p d r 0 r
  | [] => .nil
  | _ :: r => .keep (low_zero r)
theorem Low.skip : ∀ (w : List α) {r t : List α} {n : Int}, Low p d r n t → Low p d (w ++ r) n (w ++ t)
  | [], _, _, _, h => h
  | _ :: w, _, _, _, h => .keep (Low.skip w h)
theorem Low.first {r t : List α} {n : Int} (h : Low p d r n t) (hn : 0 < n) : ∃ w x v t', r = w ++ x :: v ∧ p x ∧ Low p d v (n - 1) t' ∧ t = w ++ d x :: t' := by
  induction h with
  | nil => omega
  | keep h ih =>
    obtain ⟨w, x, v, t', rfl, h1, h2, rfl⟩ := ih hn
    exact ⟨_ :: w, x, v, t', rfl, h1, h2, rfl⟩
  | @take x r n t hp h _ => exact ⟨[], x, r, t, rfl, hp, by rw [Int.add_sub_cancel]; exact h, rfl⟩
theorem Low.app : ∀ {u v t : List α} {n : Int}, Low p d (u ++ v) n t → ∃ a b u' v', Low p d u a u' ∧ Low p d v b v' ∧ a + b = n ∧ t = u' ++ v'
  | [], v, t, n, h => ⟨0, n, [], t, .nil, h, Int.zero_add _, rfl⟩
  | x :: u, v, t, n, h => by
    cases h with
    | keep h => obtain ⟨a, b, u', v', h1, h2, h3, rfl⟩ := Low.app h; exact ⟨a, b, _, v', .keep h1, h2, h3, rfl⟩
    | take hp h => obtain ⟨a, b, u', v', h1, h2, h3, rfl⟩ := Low.app h; exact ⟨a + 1, b, _, v', .take hp h1, h2, by omega, rfl⟩
theorem Low.join {u u' : List α} {a : Int} (h : Low p d u a u') : ∀ {v v' : List α} {b : Int}, Low p d v b v' → Low p d (u ++ v) (a + b) (u' ++ v') := by
  induction h with
  | nil => intro v v' b h; rw [Int.zero_add]; exact h
  | keep _ ih => intro v v' b h; exact .keep (ih h)
  | @take x r n t hp _ ih =>
    intro v v' b h
    have e : n + 1 + b = (n + b) + 1 := by omega
    rw [e]
    exact .take hp (ih h)
end
abbrev LowI := Low (fun x : Int => 0 < x) (fun x => x - 1)
/-- r are the degrees of a simple graph -/
inductive RG : List Int → Prop
  | nil : RG []
  | cons {a r t} : LowI r a t → RG t → RG (a :: r)
theorem rg_perm_aux : ∀ (n : Nat) {r r' : List Int}, r.Perm r' → r.length ≤ n → RG r → RG r'
  | 0, r, r', h, hn, g => by
    have : r = [] := List.eq_nil_of_length_eq_zero (by omega)
    subst this
    rw [h.symm.eq_nil]; exact .nil
  | n + 1, r, r', h, hn, g => by
    induction h with
    | nil => exact g
    | cons x hp _ =>
      cases g with
      | cons h1 g =>
        obtain ⟨t', e1, e2⟩ := Low.perm hp h1
        refine .cons e2 (rg_perm_aux n e1 ?_ g)
        rw [h1.len]; simp at hn; omega
    | swap x y l =>
      cases g with
      | cons h1 g =>
        cases h1 with
        | keep h1 =>
          cases g with
          | cons h2 g =>
            obtain ⟨t, e1, e2⟩ := h1.comm h2
            exact .cons (.keep e1) (.cons e2 g)
        | @take _ _ n1 _ hp h1 =>
          cases g with
          | cons h2 g =>
            obtain ⟨t, e1, e2⟩ := h1.comm h2
            have h0 := h1.nonneg
            have e3 : LowI ((n1 + 1) :: l) (x - 1 + 1) _ := Low.take (by show 0 < n1 + 1; omega) e1
            rw [Int.sub_add_cancel] at e3
            refine .cons e3 (.cons ?_ g)
            rw [Int.add_sub_cancel]; exact e2
    | trans h1 _ ih1 ih2 =>
      exact ih2 (by rw [← h1.length_eq]; exact hn) (ih1 hn g)
theorem RG.perm {r r' : List Int} (h : r.Perm r') (g : RG r) : RG r' := rg_perm_aux _ h (Nat.le_refl _) g
theorem lowRest_at {a x : Int} {u v : List Int} : lowRest (a :: (u ++ x :: v)) ((u.length : Int) + 1) = (a - 1) :: (u ++ (x - 1) :: v) := by
  have e1 : ((u.length : Int) + 1).toNat = u.length + 1 := by omega
  have e2 : ((u.length : Int) + 1 + 1).toNat = u.length + 2 := by omega
  unfold lowRest
  rw [e1, e2]
  have e3 : min (u.length + 1) (a :: (u ++ x :: v)).length - 1 = u.length := by simp
  rw [e3]
  simp
theorem getD_at {a x : Int} {u v : List Int} : (a :: (u ++ x :: v)).getD ((u.length : Int) + 1).toNat 0 = x := by
  have e1 : ((u.length : Int) + 1).toNat = u.length + 1 := by omega
  rw [e1]
  simp
theorem rangeKs_mem {a v : Int} {n : Nat} : v ∈ rangeKs a n ↔ a ≤ v ∧ v < a + n := by
  unfold rangeKs
  rw [List.mem_map]
  constructor
  · rintro ⟨i, hi, rfl⟩
    rw [List.mem_range] at hi
    omega
  · rintro ⟨h1, h2⟩
    exact ⟨(v - a).toNat, List.mem_range.mpr (by omega), by omega⟩
theorem split_at {r : List Int} {j : Nat} (h : j < r.length) : ∃ u x v, r = u ++ x :: v ∧ u.length = j :=
  ⟨r.take j, r[j], r.drop (j + 1), by rw [← List.drop_eq_getElem_cons h, List.take_append_drop], by simp; omega⟩
theorem any_split {P : List Int → Int → Bool} {a : Int} {r : List Int} {s : Int} (hs : 1 ≤ s) :
    ((rangeKs s (((a :: r).length : Int) - s).toNat).any fun k => decide (0 < (a :: r).getD k.toNat 0) && P (lowRest (a :: r) k) (k + 1)) = true ↔
      ∃ u x v, r = u ++ x :: v ∧ s ≤ u.length + 1 ∧ 0 < x ∧ P ((a - 1) :: (u ++ (x - 1) :: v)) (u.length + 2) = true := by
  rw [List.any_eq_true]
  constructor
  · rintro ⟨k, hk, h⟩
    rw [rangeKs_mem, List.length_cons] at hk
    obtain ⟨u, x, v, rfl, hu⟩ := split_at (r := r) (j := (k - 1).toNat) (by omega)
    have e : k = (u.length : Int) + 1 := by omega
    subst e
    rw [getD_at, lowRest_at, Bool.and_eq_true, decide_eq_true_eq] at h
    exact ⟨u, x, v, rfl, by omega, h.1, by have := h.2; rwa [show ((u.length : Int) + 1 + 1) = (u.length : Int) + 2 by omega] at this⟩
  · rintro ⟨u, x, v, rfl, h1, h2, h3⟩
    refine ⟨(u.length : Int) + 1, ?_, ?_⟩
    · rw [rangeKs_mem]
      simp only [List.length_cons, List.length_append]
      omega
    · rw [getD_at, lowRest_at, Bool.and_eq_true, decide_eq_true_eq]
      exact ⟨h2, by rw [show ((u.length : Int) + 1 + 1) = (u.length : Int) + 2 by omega]; exact h3⟩
theorem lmes_cons {a : Int} {r : List Int} : lmes (a :: r) = (a + r.sum).toNat + (r.length + 1) := by
  unfold lmes; rw [List.sum_cons, List.length_cons]
theorem nn_sum {r : List Int} (h : ∀ x ∈ r, 0 ≤ x) : 0 ≤ r.sum := sum_nonneg h
theorem lmes_low {a x : Int} {u v : List Int} {N : Nat} (h : ∀ y ∈ a :: (u ++ x :: v), 0 ≤ y) (ha : a ≠ 0) (hx : 0 < x) (hm : lmes (a :: (u ++ x :: v)) < N + 1) :
    (∀ y ∈ (a - 1) :: (u ++ (x - 1) :: v), 0 ≤ y) ∧ lmes ((a - 1) :: (u ++ (x - 1) :: v)) < N := by
  have h0 := h a (.head _)
  have hnn : ∀ y ∈ (a - 1) :: (u ++ (x - 1) :: v), 0 ≤ y := by
    intro y hy
    rcases List.mem_cons.mp hy with rfl | hy
    · omega
    rcases List.mem_append.mp hy with hy | hy
    · exact h y (.tail _ (List.mem_append.mpr (.inl hy)))
    rcases List.mem_cons.mp hy with rfl | hy
    · omega
    · exact h y (.tail _ (List.mem_append.mpr (.inr (.tail _ hy))))
  refine ⟨hnn, ?_⟩
  have h1 := sum_nonneg hnn
  unfold lmes at hm ⊢
  simp only [List.sum_cons, List.sum_append, List.length_cons, List.length_append] at hm h1 ⊢
  omega
theorem lmes_drop {r : List Int} {N : Nat} (hm : lmes (0 :: r) < N + 1) : lmes r < N := by
  unfold lmes at hm ⊢
  simp only [List.sum_cons, List.length_cons] at hm
  omega
theorem sem_simple : ∀ (N : Nat),
    (∀ ns : List Int, (∀ x ∈ ns, 0 ≤ x) → lmes ns < N → (someF N ns false = true ↔ RG ns)) ∧
    (∀ (a : Int) (u r : List Int), (∀ x ∈ a :: (u ++ r), 0 ≤ x) → lmes (a :: (u ++ r)) < N → (simpF N (a :: (u ++ r)) ((u.length : Int) + 1) = true ↔ ∃ t, LowI r a t ∧ RG (u ++ t)))
  | 0 => ⟨fun _ _ h => by omega, fun _ _ _ _ h => by omega⟩
  | N + 1 => by
    obtain ⟨ihA, ihB⟩ := sem_simple N
    refine ⟨fun ns hnn hm => ?_, fun a u r hnn hm => ?_⟩
    · cases ns with
      | nil => exact ⟨fun _ => .nil, fun _ => by unfold someF; rfl⟩
      | cons a r =>
        unfold someF
        rw [if_neg (by simp)]
        by_cases ha : a = 0
        · subst ha
          rw [if_pos (by simp)]
          show someF N r false = true ↔ _
          rw [ihA r (fun x hx => hnn x (.tail _ hx)) (lmes_drop hm)]
          constructor
          · intro g; exact .cons (low_zero r) g
          · intro g
            cases g with
            | cons h g => rw [h.zero rfl] at g; exact g
        · rw [if_neg (by simpa using ha)]
          simp only [Bool.false_eq_true, if_false]
          rw [any_split (P := fun l k => simpF N l k) (by omega)]
          constructor
          · rintro ⟨u, x, v, rfl, _, hx, h⟩
            obtain ⟨hnn', hm'⟩ := lmes_low hnn ha hx hm
            have e : (a - 1) :: (u ++ (x - 1) :: v) = (a - 1) :: ((u ++ [x - 1]) ++ v) := by simp
            have e2 : (u.length : Int) + 2 = ((u ++ [x - 1]).length : Int) + 1 := by simp; omega
            rw [e] at hnn' hm' h
            rw [e2] at h
            obtain ⟨t, h1, h2⟩ := (ihB _ _ _ hnn' hm').mp h
            have h3 := Low.skip u (Low.take (p := fun x : Int => 0 < x) (d := fun x => x - 1) hx h1)
            rw [Int.sub_add_cancel] at h3
            refine .cons h3 ?_
            simpa using h2
          · intro g
            cases g with
            | cons h g =>
              have h0 := h.nonneg
              obtain ⟨w, x, v, t', rfl, hx, h1, rfl⟩ := h.first (by omega)
              refine ⟨w, x, v, rfl, by omega, hx, ?_⟩
              obtain ⟨hnn', hm'⟩ := lmes_low hnn ha hx hm
              have e : (a - 1) :: (w ++ (x - 1) :: v) = (a - 1) :: ((w ++ [x - 1]) ++ v) := by simp
              have e2 : (w.length : Int) + 2 = ((w ++ [x - 1]).length : Int) + 1 := by simp; omega
              rw [e] at hnn' hm' ⊢
              rw [e2]
              exact (ihB _ _ _ hnn' hm').mpr ⟨t', h1, by simpa using g⟩
    · unfold simpF
      by_cases ha : a = 0
      · subst ha
        rw [if_pos (by simp)]
        show someF N (u ++ r) false = true ↔ _
        rw [ihA _ (fun x hx => hnn x (.tail _ hx)) (lmes_drop hm)]
        constructor
        · intro g; exact ⟨r, low_zero r, g⟩
        · rintro ⟨t, h, g⟩; rw [h.zero rfl] at g; exact g
      · rw [if_neg (by simpa using ha)]
        rw [any_split (P := fun l k => simpF N l k) (by omega)]
        constructor
        · rintro ⟨u', x, v, e0, hu, hx, h⟩
          obtain ⟨w, rfl, rfl⟩ : ∃ w, u' = u ++ w ∧ r = w ++ x :: v := by
            rcases List.append_eq_append_iff.mp e0 with ⟨w, h1, h2⟩ | ⟨w, h1, h2⟩
            · exact ⟨w, h1, h2⟩
            · have : w = [] := by
                apply List.eq_nil_of_length_eq_zero
                rw [h1, List.length_append] at hu
                omega
              subst this
              exact ⟨[], by simpa using h1.symm, by simpa using h2.symm⟩
          rw [e0] at hnn hm
          obtain ⟨hnn', hm'⟩ := lmes_low hnn ha hx hm
          have e : (a - 1) :: (u ++ w ++ (x - 1) :: v) = (a - 1) :: ((u ++ w ++ [x - 1]) ++ v) := by simp
          have e2 : ((u ++ w).length : Int) + 2 = ((u ++ w ++ [x - 1]).length : Int) + 1 := by simp only [List.length_append, List.length_cons, List.length_nil]; omega
          rw [e] at hnn' hm' h
          rw [e2] at h
          obtain ⟨t, h1, h2⟩ := (ihB _ _ _ hnn' hm').mp h
          have h3 := Low.skip w (Low.take (p := fun x : Int => 0 < x) (d := fun x => x - 1) hx h1)
          rw [Int.sub_add_cancel] at h3
          refine ⟨_, h3, ?_⟩
          simpa using h2
        · rintro ⟨t, h, g⟩
          have h0 := h.nonneg
          obtain ⟨w, x, v, t', rfl, hx, h1, rfl⟩ := h.first (by omega)
          refine ⟨u ++ w, x, v, by simp, by simp; omega, hx, ?_⟩
          rw [show a :: (u ++ (w ++ x :: v)) = a :: ((u ++ w) ++ x :: v) by simp] at hnn hm
          obtain ⟨hnn', hm'⟩ := lmes_low hnn ha hx hm
          have e : (a - 1) :: (u ++ w ++ (x - 1) :: v) = (a - 1) :: ((u ++ w ++ [x - 1]) ++ v) := by simp
          have e2 : ((u ++ w).length : Int) + 2 = ((u ++ w ++ [x - 1]).length : Int) + 1 := by simp only [List.length_append, List.length_cons, List.length_nil]; omega
          rw [e] at hnn' hm' ⊢
          rw [e2]
          exact (ihB _ _ _ hnn' hm').mpr ⟨t', h1, by simpa using g⟩
end
section
open PySem PySem.W
set_option maxHeartbeats 400000
/-- the degrees of a multigraph without loops -/
def MG (ns : List Int) : Prop := ns.sum % 2 = 0 ∧ ∀ x ∈ ns, 2 * x ≤ ns.sum
theorem exists_max : ∀ (l : List Int), l ≠ [] → ∃ x ∈ l, ∀ y ∈ l, y ≤ x
  | [], h => absurd rfl h
  | [a], _ => ⟨a, .head _, fun y hy => by rw [List.mem_singleton.mp hy]; exact Int.le_refl _⟩
  | a :: b :: r, _ => by
    obtain ⟨x, hx, hm⟩ := exists_max (b :: r) (by simp)
    by_cases h : a ≤ x
    · exact ⟨x, .tail _ hx, fun y hy => by rcases List.mem_cons.mp hy with rfl | hy; exact h; exact hm y hy⟩
    · exact ⟨a, .head _, fun y hy => by
        rcases List.mem_cons.mp hy with rfl | hy
        · exact Int.le_refl _
        · have := hm y hy; omega⟩
theorem sum_mid {a x : Int} {u v : List Int} : (a :: (u ++ x :: v)).sum = a + x + u.sum + v.sum := by
  simp only [List.sum_cons, List.sum_append]; omega
theorem sem_multi : ∀ (N : Nat) (ns : List Int), (∀ x ∈ ns, 0 ≤ x) → lmes ns < N → (someF N ns true = true ↔ MG ns)
  | 0, _, _, h => by omega
  | N + 1, ns, hnn, hm => by
    have ih := sem_multi N
    cases ns with
    | nil => exact ⟨fun _ => ⟨rfl, fun _ h => nomatch h⟩, fun _ => by unfold someF; rfl⟩
    | cons a r =>
      unfold someF
      rw [if_neg (by simp)]
      by_cases ha : a = 0
      · subst ha
        rw [if_pos (by simp)]
        show someF N r true = true ↔ _
        have hr : ∀ x ∈ r, 0 ≤ x := fun x hx => hnn x (.tail _ hx)
        rw [ih r hr (lmes_drop hm)]
        have h0 := sum_nonneg hr
        unfold MG
        rw [List.sum_cons, Int.zero_add]
        constructor
        · rintro ⟨h1, h2⟩
          refine ⟨h1, fun x hx => ?_⟩
          rcases List.mem_cons.mp hx with rfl | hx
          · omega
          · exact h2 x hx
        · rintro ⟨h1, h2⟩
          exact ⟨h1, fun x hx => h2 x (.tail _ hx)⟩
      · rw [if_neg (by simpa using ha)]
        simp only [if_true]
        rw [any_split (P := fun l _ => someF N l true) (by omega)]
        have ha0 := hnn a (.head _)
        constructor
        · rintro ⟨u, x, v, rfl, _, hx, h⟩
          obtain ⟨hnn', hm'⟩ := lmes_low hnn ha hx hm
          have h := (ih _ hnn' hm').mp h
          obtain ⟨h1, h2⟩ := h
          rw [sum_mid] at h1 h2
          refine ⟨by rw [sum_mid]; omega, fun y hy => ?_⟩
          rw [sum_mid]
          rcases List.mem_cons.mp hy with rfl | hy
          · have := h2 _ (.head _); omega
          rcases List.mem_append.mp hy with hy | hy
          · have := h2 y (.tail _ (List.mem_append.mpr (.inl hy))); omega
          rcases List.mem_cons.mp hy with rfl | hy
          · have := h2 (y - 1) (.tail _ (List.mem_append.mpr (.inr (.head _)))); omega
          · have := h2 y (.tail _ (List.mem_append.mpr (.inr (.tail _ hy)))); omega
        · rintro ⟨h1, h2⟩
          have hs := h2 a (.head _)
          rw [List.sum_cons] at hs
          have hrn : r ≠ [] := by
            rintro rfl
            simp at hs; omega
          obtain ⟨x, hx, hmax⟩ := exists_max r hrn
          obtain ⟨u, v, rfl⟩ := List.append_of_mem hx
          have hxp : 0 < x := by
            rcases Int.lt_or_le 0 x with h | h
            · exact h
            · exfalso
              have : ∀ (l : List Int), (∀ y ∈ l, y ≤ 0) → l.sum ≤ 0 := by
                intro l
                induction l with
                | nil => intro _; simp
                | cons y l ihl =>
                  intro hl
                  have e1 := hl y (.head _)
                  have e2 := ihl fun z hz => hl z (.tail _ hz)
                  rw [List.sum_cons]; omega
              have := this _ fun y hy => Int.le_trans (hmax y hy) h
              omega
          refine ⟨u, x, v, rfl, by omega, hxp, ?_⟩
          obtain ⟨hnn', hm'⟩ := lmes_low hnn ha hxp hm
          refine (ih _ hnn' hm').mpr ⟨?_, fun y hy => ?_⟩
          · rw [sum_mid] at h1 ⊢; omega
          · have hu : 0 ≤ u.sum := sum_nonneg fun z hz => hnn z (.tail _ (List.mem_append.mpr (.inl hz)))
            have hv : 0 ≤ v.sum := sum_nonneg fun z hz => hnn z (.tail _ (List.mem_append.mpr (.inr (.tail _ hz))))
            rw [sum_mid] at h1 h2 ⊢
            rw [List.sum_append, List.sum_cons] at hs
            rcases List.mem_cons.mp hy with rfl | hy
            · omega
            rcases List.mem_append.mp hy with hy | hy
            · have h3 := h2 x (.tail _ (List.mem_append.mpr (.inr (.head _))))
              have h4 := hmax y (List.mem_append.mpr (.inl hy))
              have h5 : y ≤ u.sum := by
                obtain ⟨u1, u2, rfl⟩ := List.append_of_mem hy
                have e1 : 0 ≤ u1.sum := sum_nonneg fun z hz => hnn z (.tail _ (List.mem_append.mpr (.inl (List.mem_append.mpr (.inl hz)))))
                have e2 : 0 ≤ u2.sum := sum_nonneg fun z hz => hnn z (.tail _ (List.mem_append.mpr (.inl (List.mem_append.mpr (.inr (.tail _ hz))))))
                rw [List.sum_append, List.sum_cons]; omega
              omega
            rcases List.mem_cons.mp hy with rfl | hy
            · have h3 := h2 x (.tail _ (List.mem_append.mpr (.inr (.head _)))); omega
            · have h3 := h2 x (.tail _ (List.mem_append.mpr (.inr (.head _))))
              have h4 := hmax y (List.mem_append.mpr (.inr (.tail _ hy)))
              have h5 : y ≤ v.sum := by
                obtain ⟨u1, u2, rfl⟩ := List.append_of_mem hy
                have e1 : 0 ≤ u1.sum := sum_nonneg fun z hz => hnn z (.tail _ (List.mem_append.mpr (.inr (.tail _ (List.mem_append.mpr (.inl hz))))))
                have e2 : 0 ≤ u2.sum := sum_nonneg fun z hz => hnn z (.tail _ (List.mem_append.mpr (.inr (.tail _ (List.mem_append.mpr (.inr (.tail _ hz)))))))
                rw [List.sum_append, List.sum_cons]; omega
              omega
theorem foldl_pmax {l : List Int} : ∀ {a c : Int}, l.foldl pmax a ≤ c ↔ a ≤ c ∧ ∀ x ∈ l, x ≤ c := by
  induction l with
  | nil => intro a c; simp
  | cons y l ih =>
    intro a c
    rw [List.foldl_cons, ih]
    have e : pmax a y = if y > a then y else a := rfl
    rw [e]
    constructor
    · rintro ⟨h1, h2⟩
      refine ⟨by split at h1 <;> omega, fun x hx => ?_⟩
      rcases List.mem_cons.mp hx with rfl | hx
      · split at h1 <;> omega
      · exact h2 x hx
    · rintro ⟨h1, h2⟩
      have h3 := h2 y (.head _)
      exact ⟨by split <;> omega, fun x hx => h2 x (.tail _ hx)⟩
theorem fmod2 (a : Int) : Int.fmod a 2 = a % 2 := Int.fmod_eq_emod_of_nonneg a (by decide)
theorem any_neg {ns : List Int} (h : ∀ x ∈ ns, 0 ≤ x) : ns.any (· < 0) = false := by
  rw [List.any_eq_false]
  intro x hx
  have := h x hx
  simp; omega
theorem multi_nn {ns : List Int} (h : ∀ x ∈ ns, 0 ≤ x) (hm : lmes ns < 40) : multiF ns = someF 40 ns true := by
  have key : multiF ns = true ↔ MG ns := by
    unfold multiF
    rw [any_neg h, fmod2]
    have h0 := sum_nonneg h
    unfold MG
    simp only [Bool.not_false, Bool.true_and, Bool.not_eq_true', Bool.or_eq_false_iff, bne_eq_false_iff_eq, decide_eq_false_iff_not, Int.not_lt]
    constructor
    · rintro ⟨h1, h2⟩
      refine ⟨h1, fun x hx => ?_⟩
      have h3 : ns.foldl pmax 0 ≤ ns.sum / 2 := by omega
      have := (foldl_pmax.mp h3).2 x hx
      omega
    · rintro ⟨h1, h2⟩
      refine ⟨h1, ?_⟩
      have h3 : ns.foldl pmax 0 ≤ ns.sum / 2 := foldl_pmax.mpr ⟨by omega, fun x hx => by have := h2 x hx; omega⟩
      omega
  rw [Bool.eq_iff_iff, key, sem_multi 40 ns h hm]
theorem multi_odd {ns : List Int} (h : ns.sum % 2 ≠ 0) : multiF ns = false := by
  unfold multiF
  rw [fmod2]
  simp [h]
theorem multi_ng {ns : List Int} (h : ns.any (· < 0) = true) : multiF ns = false := by
  unfold multiF
  rw [h]; rfl
theorem pseudo_odd {ns : List Int} (h : ns.sum % 2 ≠ 0) : pseudoF ns = false := by
  unfold pseudoF
  rw [fmod2]
  simp [h]
theorem pseudo_ng {ns : List Int} (h : ns.any (· < 0) = true) : pseudoF ns = false := by
  unfold pseudoF
  rw [h, Bool.not_true, Bool.and_false]
theorem pseudo_nn {ns : List Int} (h : ∀ x ∈ ns, 0 ≤ x) (h2 : ns.sum % 2 = 0) : pseudoF ns = true := by
  unfold pseudoF
  rw [any_neg h, fmod2, h2]; rfl
end
section
open PySem PySem.W
set_option maxHeartbeats 400000
theorem basicStep_comm (x y : Int) (z : BS) : basicStep (basicStep z x) y = basicStep (basicStep z y) x := by
  obtain ⟨a, b, s, n, nd⟩ := z
  by_cases e : x = y
  · rw [e]
  unfold basicStep
  by_cases hx : x > 0
  · by_cases hy : y > 0
    · simp only [if_pos hx, if_pos hy]
      have hne : x.toNat ≠ y.toNat := by omega
      simp only [Prod.mk.injEq]
      refine ⟨?_, ?_, by omega, trivial, ?_⟩
      · show (if y > (if x > a then x else a) then y else (if x > a then x else a)) = (if x > (if y > a then y else a) then x else (if y > a then y else a))
        split <;> split <;> (try split) <;> (try split) <;> omega
      · show (if y < (if x < b then x else b) then y else (if x < b then x else b)) = (if x < (if y < b then y else b) then x else (if y < b then y else b))
        split <;> split <;> (try split) <;> (try split) <;> omega
      · have e1 : (nd.set x.toNat (nd.getD x.toNat 0 + 1)).getD y.toNat 0 = nd.getD y.toNat 0 := by
          simp [List.getD_eq_getElem?_getD, List.getElem?_set_ne hne]
        have e2 : (nd.set y.toNat (nd.getD y.toNat 0 + 1)).getD x.toNat 0 = nd.getD x.toNat 0 := by
          simp [List.getD_eq_getElem?_getD, List.getElem?_set_ne hne.symm]
        rw [e1, e2]
        exact List.set_comm _ _ hne
    · simp only [if_pos hx, if_neg hy]
  · by_cases hy : y > 0
    · simp only [if_neg hx, if_pos hy]
    · simp only [if_neg hx, if_neg hy]
theorem basicRes_perm {r s : List Int} (h : r.Perm s) : basicRes r = basicRes s := by
  unfold basicRes basicBad basicFold
  rw [h.length_eq, h.any_eq, h.foldl_eq' fun x _ y _ z => basicStep_comm x y z]
theorem basicRes_ng {r : List Int} (h : r.any (· < 0) = true) : basicRes r = none := by
  unfold basicRes
  rw [if_pos]
  unfold basicBad
  rw [List.any_eq_true] at h ⊢
  obtain ⟨x, hx, h⟩ := h
  exact ⟨x, hx, by rw [h]; rfl⟩
theorem egF_perm {r s : List Int} (h : r.Perm s) : egF r = egF s := by unfold egF; rw [basicRes_perm h]
theorem hhF_perm {r s : List Int} (h : r.Perm s) : hhF r = hhF s := by unfold hhF; rw [basicRes_perm h]
theorem egF_ng {r : List Int} (h : r.any (· < 0) = true) : egF r = false := by unfold egF; rw [basicRes_ng h]
theorem hhF_ng {r : List Int} (h : r.any (· < 0) = true) : hhF r = false := by unfold hhF; rw [basicRes_ng h]
/-- all lists of n numbers that go down from hi -/
def allV : Nat → (Nat → Bool) → Bool
  | 0, t => t 0
  | n + 1, t => t (n + 1) && allV n t
def allD : Nat → Nat → (List Int → Bool) → Bool
  | 0, _, t => t []
  | n + 1, hi, t => allV hi fun v => allD n v fun l => t ((v : Int) :: l)
theorem allV_at : ∀ {n : Nat} {t : Nat → Bool}, allV n t = true → ∀ v, v ≤ n → t v = true
  | 0, t, h, v, hv => by rw [Nat.le_zero.mp hv]; exact h
  | n + 1, t, h, v, hv => by
    unfold allV at h
    rw [Bool.and_eq_true] at h
    by_cases e : v = n + 1
    · rw [e]; exact h.1
    · exact allV_at h.2 v (by omega)
theorem allD_at : ∀ {l : List Int} {hi : Nat} {t : List Int → Bool}, allD l.length hi t = true → l.Pairwise (fun a b => b ≤ a) → (∀ x ∈ l, 0 ≤ x ∧ x ≤ hi) → t l = true
  | [], _, _, h, _, _ => h
  | x :: l, hi, t, h, hp, hb => by
    have hx := hb x (.head _)
    rw [List.pairwise_cons] at hp
    have h1 := allV_at h x.toNat (by omega)
    have h2 := allD_at (l := l) (hi := x.toNat) h1 hp.2 fun y hy => by
      have e1 := hb y (.tail _ hy)
      have e2 := hp.1 y hy
      omega
    rwa [Int.toNat_of_nonneg hx.1] at h2
theorem exists_down (r : List Int) : ∃ s : List Int, r.Perm s ∧ s.Pairwise (fun a b => b ≤ a) := by
  refine ⟨r.mergeSort (fun a b => decide (b ≤ a)), (List.mergeSort_perm r _).symm, ?_⟩
  have := List.pairwise_mergeSort (le := fun a b : Int => decide (b ≤ a)) (by intro a b c h1 h2; simp only [decide_eq_true_eq] at *; omega) (by intro a b; simp only [Bool.or_eq_true, decide_eq_true_eq]; omega) r
  exact this.imp fun h => by simpa using h
def tRow (s : List Int) : Bool :=
  if s.sum % 2 = 0 then egF s == someF 40 s false && hhF s == someF 40 s false else !egF s && !hhF s
theorem tRow0 : allD 0 5 tRow = true := by decide +kernel
theorem tRow1 : allD 1 5 tRow = true := by decide +kernel
theorem tRow2 : allD 2 5 tRow = true := by decide +kernel
theorem tRow3 : allD 3 5 tRow = true := by decide +kernel
theorem tRow4 : allD 4 5 tRow = true := by decide +kernel
theorem allV_of : ∀ {n : Nat} {t : Nat → Bool}, (∀ v, v ≤ n → t v = true) → allV n t = true
  | 0, _, h => h 0 (Nat.le_refl _)
  | n + 1, t, h => by
    unfold allV
    rw [Bool.and_eq_true]
    exact ⟨h _ (Nat.le_refl _), allV_of fun v hv => h v (by omega)⟩
def fRow (v : Nat) : Bool := allD 4 v fun l => tRow ((v : Int) :: l)
theorem fR0 : fRow 0 = true := by decide +kernel
theorem fR1 : fRow 1 = true := by decide +kernel
theorem fR2 : fRow 2 = true := by decide +kernel
theorem fR3 : fRow 3 = true := by decide +kernel
theorem fR4 : fRow 4 = true := by decide +kernel
theorem fR5 : fRow 5 = true := by decide +kernel
theorem fRow_all : ∀ v, v ≤ 5 → fRow v = true
  | 0, _ => fR0
  | 1, _ => fR1
  | 2, _ => fR2
  | 3, _ => fR3
  | 4, _ => fR4
  | 5, _ => fR5
  | n + 6, h => by omega
theorem tRow5 : allD 5 5 tRow = true := allV_of fRow_all
theorem perm_sum {r s : List Int} (h : r.Perm s) : r.sum = s.sum := by
  induction h with
  | nil => rfl
  | cons x _ ih => simp [ih]
  | swap x y l => simp only [List.sum_cons]; omega
  | trans _ _ h1 h2 => exact h1.trans h2
theorem tRow_all {r : List Int} (hl : r.length ≤ 5) (hb : ∀ x ∈ r, 0 ≤ x ∧ x ≤ 5) (hm : lmes r < 40) :
    (r.sum % 2 = 0 → egF r = someF 40 r false ∧ hhF r = someF 40 r false) ∧ (r.sum % 2 ≠ 0 → egF r = false ∧ hhF r = false) := by
  obtain ⟨s, hp, hs⟩ := exists_down r
  have hb' : ∀ x ∈ s, 0 ≤ x ∧ x ≤ ((5 : Nat) : Int) := fun x hx => hb x (hp.mem_iff.mpr hx)
  have ht : tRow s = true := by
    have hl' : s.length ≤ 5 := by rw [← hp.length_eq]; exact hl
    have : allD s.length 5 tRow = true := by
      rcases (by omega : s.length = 0 ∨ s.length = 1 ∨ s.length = 2 ∨ s.length = 3 ∨ s.length = 4 ∨ s.length = 5) with e | e | e | e | e | e <;> rw [e]
      · exact tRow0
      · exact tRow1
      · exact tRow2
      · exact tRow3
      · exact tRow4
      · exact tRow5
    exact allD_at this hs hb'
  have hsm : lmes s < 40 := by unfold lmes at hm ⊢; rw [← perm_sum hp, ← hp.length_eq]; exact hm
  have e3 : someF 40 r false = someF 40 s false := by
    rw [Bool.eq_iff_iff, (sem_simple 40).1 r (fun x hx => (hb x hx).1) hm, (sem_simple 40).1 s (fun x hx => (hb' x hx).1) hsm]
    exact ⟨RG.perm hp, RG.perm hp.symm⟩
  rw [egF_perm hp, hhF_perm hp, e3, perm_sum hp]
  unfold tRow at ht
  refine ⟨fun h0 => ?_, fun h0 => ?_⟩
  · rw [if_pos h0, Bool.and_eq_true, beq_iff_eq, beq_iff_eq] at ht
    exact ht
  · rw [if_neg h0, Bool.and_eq_true, Bool.not_eq_true', Bool.not_eq_true'] at ht
    exact ht
end
section
open PySem PySem.W PyProof.Rows
set_option maxHeartbeats 400000
abbrev LowP := Low (fun x : Int × Int => 0 < x.1) (fun x => (x.1 - 1, x.2))
/-- the nodes of pend have still to send, those of done have sent -/
inductive DG : List (Int × Int) → List (Int × Int) → Prop
  | nil {done} : (∀ x ∈ done, x.1 = 0) → DG done []
  | cons {done done' x pend pend' a b} : LowP done a done' → LowP pend b pend' → a + b = x.2 → DG (done' ++ [x]) pend' → DG done (x :: pend)
theorem DG.permL {d p : List (Int × Int)} (g : DG d p) : ∀ {d'}, d.Perm d' → DG d' p := by
  induction g with
  | nil h => intro d' e; exact .nil fun x hx => h x (e.mem_iff.mpr hx)
  | cons h1 h2 h3 _ ih =>
    intro d' e
    obtain ⟨t', e1, e2⟩ := Low.perm e h1
    exact .cons e2 h2 h3 (ih (e1.append (.refl _)))
theorem dg_perm_aux : ∀ (n : Nat) {p p' : List (Int × Int)}, p.Perm p' → p.length ≤ n → ∀ d, DG d p → DG d p'
  | 0, p, p', h, hn, d, g => by
    have : p = [] := List.eq_nil_of_length_eq_zero (by omega)
    subst this
    rw [h.symm.eq_nil]; exact g
  | n + 1, p, p', h, hn, d, g => by
    induction h generalizing d with
    | nil => exact g
    | cons x hp _ =>
      cases g with
      | cons h1 h2 h3 g =>
        obtain ⟨t', e1, e2⟩ := Low.perm hp h2
        refine .cons h1 e2 h3 (dg_perm_aux n e1 ?_ _ g)
        rw [h2.len]; simp at hn; omega
    | swap x y l =>
      cases g with
      | @cons _ d1 _ _ _ a1 b1 h1 h2 h3 g =>
        cases h2 with
        | keep h2 =>
          cases g with
          | @cons _ _ _ _ l2 a2 b2 h4 h5 h6 g =>
            obtain ⟨a3, a4, u, v, k1, k2, k3, rfl⟩ := h4.app
            obtain ⟨dd, m1, m2⟩ := h1.comm k1
            obtain ⟨ll, m3, m4⟩ := h2.comm h5
            cases k2 with
            | keep k2 =>
              cases k2
              refine .cons m1 (.keep m3) (by omega) (.cons (m2.join (.keep .nil)) m4 (by omega) (g.permL ?_))
              simp only [List.append_assoc]
              exact List.Perm.append_left _ (.swap ..)
            | @take _ _ n1 _ hp k2 =>
              cases k2
              refine .cons m1 (.take hp m3) (by omega) (.cons (m2.join (.keep .nil)) m4 (by simp only; omega) (g.permL ?_))
              simp only [List.append_assoc]
              exact List.Perm.append_left _ (.swap ..)
        | @take _ _ n0 _ hp0 h2 =>
          cases g with
          | @cons _ _ _ _ l2 a2 b2 h4 h5 h6 g =>
            obtain ⟨a3, a4, u, v, k1, k2, k3, rfl⟩ := h4.app
            obtain ⟨dd, m1, m2⟩ := h1.comm k1
            obtain ⟨ll, m3, m4⟩ := h2.comm h5
            simp only at h6
            cases k2 with
            | keep k2 =>
              cases k2
              refine .cons m1 (.keep m3) (by omega) (.cons (m2.join (.take hp0 .nil)) m4 (by omega) (g.permL ?_))
              simp only [List.append_assoc]
              exact List.Perm.append_left _ (.swap ..)
            | @take _ _ n1 _ hp k2 =>
              cases k2
              refine .cons m1 (.take hp m3) (by omega) (.cons (m2.join (.take hp0 .nil)) m4 (by simp only; omega) (g.permL ?_))
              simp only [List.append_assoc]
              exact List.Perm.append_left _ (.swap ..)
    | trans h1 _ ih1 ih2 =>
      exact ih2 (by rw [← h1.length_eq]; exact hn) d (ih1 hn d g)
theorem DG.perm {d p p' : List (Int × Int)} (h : p.Perm p') (g : DG d p) : DG d p' := dg_perm_aux _ h (Nat.le_refl _) d g
/-- a quick way to ask DG -/
def lowK : List (Int × Int) → Int → (List (Int × Int) → Bool) → Bool
  | [], n, k => if n = 0 then k [] else false
  | x :: r, n, k => lowK r n (fun t => k (x :: t)) || (decide (0 < n) && (decide (0 < x.1) && lowK r (n - 1) (fun t => k ((x.1 - 1, x.2) :: t))))
def dgB : Nat → List (Int × Int) → List (Int × Int) → Bool
  | 0, _, _ => false
  | _ + 1, done, [] => done.all fun x => decide (x.1 = 0)
  | N + 1, done, x :: q => lowK (done ++ q) x.2 fun t => dgB N (t.take done.length ++ [x]) (t.drop done.length)
theorem lowK_iff : ∀ {L : List (Int × Int)} {n : Int} {k : List (Int × Int) → Bool}, lowK L n k = true ↔ ∃ t, LowP L n t ∧ k t = true
  | [], n, k => by
    unfold lowK
    constructor
    · intro h
      split at h
      · next e => subst e; exact ⟨[], .nil, h⟩
      · cases h
    · rintro ⟨t, h, hk⟩
      cases h
      rw [if_pos rfl]; exact hk
  | x :: r, n, k => by
    unfold lowK
    rw [Bool.or_eq_true, Bool.and_eq_true, Bool.and_eq_true, decide_eq_true_eq, decide_eq_true_eq, lowK_iff, lowK_iff]
    constructor
    · rintro (⟨t, h, hk⟩ | ⟨h1, h2, t, h, hk⟩)
      · exact ⟨_, .keep h, hk⟩
      · have h3 := Low.take (p := fun x : Int × Int => 0 < x.1) (d := fun x => (x.1 - 1, x.2)) h2 h
        rw [Int.sub_add_cancel] at h3
        exact ⟨_, h3, hk⟩
    · rintro ⟨t, h, hk⟩
      cases h with
      | keep h => exact .inl ⟨_, h, hk⟩
      | @take _ _ n1 _ hp h =>
        have h0 := h.nonneg
        refine .inr ⟨by omega, hp, _, ?_, hk⟩
        rw [Int.add_sub_cancel]; exact h
theorem dgB_iff : ∀ {N : Nat} {done pend : List (Int × Int)}, pend.length < N → (dgB N done pend = true ↔ DG done pend)
  | 0, _, _, h => by omega
  | N + 1, done, [], _ => by
    unfold dgB
    rw [List.all_eq_true]
    constructor
    · intro h; exact .nil fun x hx => by simpa using h x hx
    · intro g
      cases g with
      | nil h => intro x hx; simpa using h x hx
  | N + 1, done, x :: q, hN => by
    unfold dgB
    rw [lowK_iff]
    rw [List.length_cons] at hN
    constructor
    · rintro ⟨t, h, hk⟩
      obtain ⟨a, b, u, v, h1, h2, h3, rfl⟩ := h.app
      have e := h1.len
      rw [← e, List.take_left, List.drop_left] at hk
      refine .cons h1 h2 h3 ((dgB_iff ?_).mp hk)
      rw [h2.len]; omega
    · intro g
      cases g with
      | cons h1 h2 h3 g =>
        refine ⟨_, h3 ▸ h1.join h2, ?_⟩
        have e := h1.len
        rw [← e, List.take_left, List.drop_left]
        refine (dgB_iff ?_).mpr g
        rw [h2.len]; omega
/-- digF on pairs -/
def stubsL (L : List (Int × Int)) : List K2 := (L.filter fun x => decide (0 < x.1)).map fun x => (-1 * x.2, -1 * x.1)
def zerosL (L : List (Int × Int)) : List K2 := (L.filter fun x => !decide (0 < x.1) && decide (0 < x.2)).map fun x => (-1 * x.2, 0)
def digP (L : List (Int × Int)) : Bool := if L.length = 0 then true else if (L.map (·.1)).sum ≠ (L.map (·.2)).sum then false else digGo 6 (srt (stubsL L)) (srt (zerosL L))
theorem stubsTo_L (L : List (Int × Int)) : ∀ i, i ≤ L.length → stubsTo (L.map (·.1)) (L.map (·.2)) i = stubsL (L.take i)
  | 0, _ => rfl
  | i + 1, h => by
    have hi : i < L.length := h
    unfold stubsTo
    rw [stubsTo_L L i (by omega), List.take_add_one, List.getElem?_eq_getElem hi]
    have e1 : (L.map (·.1)).getD i 0 = L[i].1 := by simp [List.getD_eq_getElem?_getD, hi]
    have e2 : (L.map (·.2)).getD i 0 = L[i].2 := by simp [List.getD_eq_getElem?_getD, hi]
    rw [e1, e2]
    unfold stubsL
    rw [List.filter_append, List.map_append]
    by_cases hx : 0 < L[i].1
    · rw [if_pos hx]; simp [hx]
    · rw [if_neg hx]; simp [hx]
theorem zerosTo_L (L : List (Int × Int)) : ∀ i, i ≤ L.length → (zerosTo (L.map (·.1)) (L.map (·.2)) i).map (fun k => ((k, 0) : K2)) = zerosL (L.take i)
  | 0, _ => rfl
  | i + 1, h => by
    have hi : i < L.length := h
    have ih := zerosTo_L L i (by omega)
    unfold zerosTo
    rw [List.take_add_one, List.getElem?_eq_getElem hi]
    have e1 : (L.map (·.1)).getD i 0 = L[i].1 := by simp [List.getD_eq_getElem?_getD, hi]
    have e2 : (L.map (·.2)).getD i 0 = L[i].2 := by simp [List.getD_eq_getElem?_getD, hi]
    rw [e1, e2]
    unfold zerosL at ih ⊢
    rw [List.filter_append, List.map_append, ← ih]
    by_cases hx : 0 < L[i].1
    · rw [if_pos hx]; simp [hx]
    · rw [if_neg hx]
      by_cases hy : 0 < L[i].2
      · rw [if_pos hy]; simp [hx, hy]
      · rw [if_neg hy]; simp [hx, hy]
theorem digF_P (L : List (Int × Int)) : digF (L.map (·.1)) (L.map (·.2)) = digP L := by
  unfold digF digP sumTo
  rw [List.length_map, zerosTo_L L _ (Nat.le_refl _), stubsTo_L L _ (Nat.le_refl _), List.take_length]
  rw [List.take_of_length_le (by simp), List.take_of_length_le (by simp)]
theorem permSum {r s : List Int} (h : r.Perm s) : r.sum = s.sum := by
  induction h with
  | nil => rfl
  | cons x _ ih => simp [ih]
  | swap x y l => simp only [List.sum_cons]; omega
  | trans _ _ h1 h2 => exact h1.trans h2
theorem digP_perm {L M : List (Int × Int)} (h : L.Perm M) : digP L = digP M := by
  unfold digP
  rw [h.length_eq, permSum (h.map (·.1)), permSum (h.map (·.2))]
  unfold stubsL zerosL
  rw [srt_eq ((h.filter _).map _), srt_eq ((h.filter _).map _)]
/-- all lists of n pairs that go down, the first parts under 4 -/
def allW : Nat → (Nat → Bool) → Bool
  | 0, t => t 0
  | n + 1, t => t (n + 1) && allW n t
def allQ : Nat → Nat → Nat → Nat → (List (Int × Int) → Bool) → Bool
  | 0, _, si, so, t => !(Nat.beq si so) || t []
  | n + 1, hi, si, so, t => allW hi fun v => Nat.blt (si + v % 4 + 3 * n) (so + v / 4) || allQ n v (si + v % 4) (so + v / 4) fun l => t ((Int.ofNat (v % 4), Int.ofNat (v / 4)) :: l)
theorem allW_at : ∀ {n : Nat} {t : Nat → Bool}, allW n t = true → ∀ v, v ≤ n → t v = true
  | 0, t, h, v, hv => by rw [Nat.le_zero.mp hv]; exact h
  | n + 1, t, h, v, hv => by
    unfold allW at h
    rw [Bool.and_eq_true] at h
    by_cases e : v = n + 1
    · rw [e]; exact h.1
    · exact allW_at h.2 v (by omega)
def codeP (x : Int × Int) : Int := 4 * x.2 + x.1
theorem sums_b : ∀ (l : List (Int × Int)), (∀ x ∈ l, 0 ≤ x.1 ∧ x.1 ≤ 3 ∧ 0 ≤ x.2) → (l.map (·.1)).sum ≤ 3 * (l.length : Int) ∧ 0 ≤ (l.map (·.2)).sum
  | [], _ => by simp
  | x :: l, h => by
    obtain ⟨h1, h2⟩ := sums_b l fun y hy => h y (.tail _ hy)
    have hx := h x (.head _)
    simp only [List.map_cons, List.sum_cons, List.length_cons]
    omega
theorem allQ_at : ∀ {l : List (Int × Int)} {hi si so : Nat} {t : List (Int × Int) → Bool}, allQ l.length hi si so t = true → l.Pairwise (fun a b => codeP b ≤ codeP a) → (∀ x ∈ l, 0 ≤ x.1 ∧ x.1 ≤ 3 ∧ 0 ≤ x.2) → (∀ x ∈ l, codeP x ≤ hi) → (si : Int) + (l.map (·.1)).sum = so + (l.map (·.2)).sum → t l = true
  | [], hi, si, so, t, h, _, _, _, hs => by
    have e : si = so := by simp at hs; omega
    have h : (!(Nat.beq si so) || t []) = true := h
    rw [e, Nat.beq_refl] at h
    simpa using h
  | x :: l, hi, si, so, t, h, hp, hb, hc, hs => by
    have hx := hb x (.head _)
    have hcx := hc x (.head _)
    rw [List.pairwise_cons] at hp
    rw [List.map_cons, List.sum_cons, List.map_cons, List.sum_cons] at hs
    have hl := sums_b l fun y hy => hb y (.tail _ hy)
    unfold codeP at hcx
    have h1 := allW_at h (codeP x).toNat (by unfold codeP; omega)
    have e1 : (codeP x).toNat / 4 = x.2.toNat := by unfold codeP; omega
    have e2 : (codeP x).toNat % 4 = x.1.toNat := by unfold codeP; omega
    rw [e1, e2, Bool.or_eq_true] at h1
    rcases h1 with h1 | h1
    · have := Nat.le_of_ble_eq_true h1
      omega
    · have h2 := allQ_at (l := l) h1 hp.2 (fun y hy => hb y (.tail _ hy)) (fun y hy => by have := hp.1 y hy; have : 0 ≤ codeP x := (by unfold codeP; omega); omega) (by omega)
      have e3 : Int.ofNat x.1.toNat = x.1 := Int.toNat_of_nonneg hx.1
      have e4 : Int.ofNat x.2.toNat = x.2 := Int.toNat_of_nonneg hx.2.2
      rw [e3, e4] at h2
      exact h2
theorem exists_downP (r : List (Int × Int)) : ∃ s : List (Int × Int), r.Perm s ∧ s.Pairwise (fun a b => codeP b ≤ codeP a) := by
  refine ⟨r.mergeSort (fun a b => decide (codeP b ≤ codeP a)), (List.mergeSort_perm r _).symm, ?_⟩
  have := List.pairwise_mergeSort (le := fun a b : Int × Int => decide (codeP b ≤ codeP a)) (by intro a b c h1 h2; simp only [decide_eq_true_eq] at *; omega) (by intro a b; simp only [Bool.or_eq_true, decide_eq_true_eq]; omega) r
  exact this.imp fun h => by simpa using h
def tPair (L : List (Int × Int)) : Bool := digP L == dgB 5 [] L
theorem tPair0 : allQ 0 51 0 0 tPair = true := by decide +kernel
theorem tPair1 : allQ 1 51 0 0 tPair = true := by decide +kernel
theorem tPair2 : allQ 2 51 0 0 tPair = true := by decide +kernel
theorem tPair3 : allQ 3 51 0 0 tPair = true := by decide +kernel
theorem allW_of : ∀ {n : Nat} {t : Nat → Bool}, (∀ v, v ≤ n → t v = true) → allW n t = true
  | 0, _, h => h 0 (Nat.le_refl _)
  | n + 1, t, h => by
    unfold allW
    rw [Bool.and_eq_true]
    exact ⟨h _ (Nat.le_refl _), allW_of fun v hv => h v (by omega)⟩
def fPair (v : Nat) : Bool := Nat.blt (0 + v % 4 + 3 * 3) (0 + v / 4) || allQ 3 v (0 + v % 4) (0 + v / 4) fun l => tPair ((Int.ofNat (v % 4), Int.ofNat (v / 4)) :: l)
theorem fP0 : fPair 0 = true ∧ fPair 1 = true := by decide +kernel
theorem fP1 : fPair 2 = true ∧ fPair 3 = true := by decide +kernel
theorem fP2 : fPair 4 = true ∧ fPair 5 = true := by decide +kernel
theorem fP3 : fPair 6 = true ∧ fPair 7 = true := by decide +kernel
theorem fP4 : fPair 8 = true ∧ fPair 9 = true := by decide +kernel
theorem fP5 : fPair 10 = true ∧ fPair 11 = true := by decide +kernel
theorem fP6 : fPair 12 = true ∧ fPair 13 = true := by decide +kernel
theorem fP7 : fPair 14 = true ∧ fPair 15 = true := by decide +kernel
theorem fP8 : fPair 16 = true ∧ fPair 17 = true := by decide +kernel
theorem fP9 : fPair 18 = true ∧ fPair 19 = true := by decide +kernel
theorem fP10 : fPair 20 = true ∧ fPair 21 = true := by decide +kernel
theorem fP11 : fPair 22 = true ∧ fPair 23 = true := by decide +kernel
theorem fP12 : fPair 24 = true ∧ fPair 25 = true := by decide +kernel
theorem fP13 : fPair 26 = true ∧ fPair 27 = true := by decide +kernel
theorem fP14 : fPair 28 = true ∧ fPair 29 = true := by decide +kernel
theorem fP15 : fPair 30 = true ∧ fPair 31 = true := by decide +kernel
theorem fP16 : fPair 32 = true ∧ fPair 33 = true := by decide +kernel
theorem fP17 : fPair 34 = true ∧ fPair 35 = true := by decide +kernel
theorem fP18 : fPair 36 = true ∧ fPair 37 = true := by decide +kernel
theorem fP19 : fPair 38 = true ∧ fPair 39 = true := by decide +kernel
theorem fP20 : fPair 40 = true ∧ fPair 41 = true := by decide +kernel
theorem fP21 : fPair 42 = true ∧ fPair 43 = true := by decide +kernel
theorem fP22 : fPair 44 = true ∧ fPair 45 = true := by decide +kernel
theorem fP23 : fPair 46 = true ∧ fPair 47 = true := by decide +kernel
theorem fP24 : fPair 48 = true ∧ fPair 49 = true := by decide +kernel
theorem fP25 : fPair 50 = true ∧ fPair 51 = true := by decide +kernel
theorem fPair_all : ∀ v, v ≤ 51 → fPair v = true
  | 0, _ => fP0.1
  | 1, _ => fP0.2
  | 2, _ => fP1.1
  | 3, _ => fP1.2
  | 4, _ => fP2.1
  | 5, _ => fP2.2
  | 6, _ => fP3.1
  | 7, _ => fP3.2
  | 8, _ => fP4.1
  | 9, _ => fP4.2
  | 10, _ => fP5.1
  | 11, _ => fP5.2
  | 12, _ => fP6.1
  | 13, _ => fP6.2
  | 14, _ => fP7.1
  | 15, _ => fP7.2
  | 16, _ => fP8.1
  | 17, _ => fP8.2
  | 18, _ => fP9.1
  | 19, _ => fP9.2
  | 20, _ => fP10.1
  | 21, _ => fP10.2
  | 22, _ => fP11.1
  | 23, _ => fP11.2
  | 24, _ => fP12.1
  | 25, _ => fP12.2
  | 26, _ => fP13.1
  | 27, _ => fP13.2
  | 28, _ => fP14.1
  | 29, _ => fP14.2
  | 30, _ => fP15.1
  | 31, _ => fP15.2
  | 32, _ => fP16.1
  | 33, _ => fP16.2
  | 34, _ => fP17.1
  | 35, _ => fP17.2
  | 36, _ => fP18.1
  | 37, _ => fP18.2
  | 38, _ => fP19.1
  | 39, _ => fP19.2
  | 40, _ => fP20.1
  | 41, _ => fP20.2
  | 42, _ => fP21.1
  | 43, _ => fP21.2
  | 44, _ => fP22.1
  | 45, _ => fP22.2
  | 46, _ => fP23.1
  | 47, _ => fP23.2
  | 48, _ => fP24.1
  | 49, _ => fP24.2
  | 50, _ => fP25.1
  | 51, _ => fP25.2
  | n + 52, h => by omega
theorem tPair4 : allQ 4 51 0 0 tPair = true := allW_of fPair_all
end
section
open PySem PySem.W PyProof.Rows
set_option maxHeartbeats 400000
def bitsF (n : Nat) (k : Int) : List Bool := (List.range n).map fun i => decide ((k.fdiv (2 ^ i)).fmod 2 = 1)
def idxs : Int → List Bool → List Int
  | _, [] => []
  | o, b :: r => if b then o :: idxs (o + 1) r else idxs (o + 1) r
def cntB : List Bool → Int
  | [] => 0
  | b :: r => if b then cntB r + 1 else cntB r
def codeB : List Bool → Int
  | [] => 0
  | b :: r => if b then 2 * codeB r + 1 else 2 * codeB r
def appB : List (Int × Int) → List Bool → List (Int × Int)
  | x :: r, b :: bs => (if b then (x.1 - 1, x.2) else x) :: appB r bs
  | r, _ => r
def OkB (is : List Int) (bs : List Bool) : Prop := ∀ i : Nat, bs.getD i false = true → 0 < is.getD i 0
theorem ends_bits : ∀ n ∈ List.range 5, ∀ k ∈ List.range (2 ^ n), endsF n (k : Int) = idxs 0 (bitsF n (k : Int)) := by decide +kernel
theorem bits_len {n : Nat} {k : Int} : (bitsF n k).length = n := by simp [bitsF]
theorem bits_code : ∀ (bs : List Bool), bs.length ≤ 4 → bitsF bs.length (codeB bs) = bs ∧ 0 ≤ codeB bs ∧ codeB bs < 2 ^ bs.length
  | [], _ => by decide +kernel
  | [a], _ => by cases a <;> decide +kernel
  | [a, b], _ => by revert a b; decide +kernel
  | [a, b, c], _ => by revert a b c; decide +kernel
  | [a, b, c, d], _ => by revert a b c d; decide +kernel
  | _ :: _ :: _ :: _ :: _ :: _, h => by simp at h
theorem idxs_len : ∀ {bs : List Bool} {o : Int}, ((idxs o bs).length : Int) = cntB bs
  | [], _ => rfl
  | b :: r, o => by
    unfold idxs cntB
    cases b
    · simp only [Bool.false_eq_true, if_false]; exact idxs_len
    · simp only [if_true, List.length_cons]
      have := idxs_len (bs := r) (o := o + 1)
      omega
theorem idxs_mem : ∀ {bs : List Bool} {o x : Int}, x ∈ idxs o bs ↔ ∃ i : Nat, x = o + i ∧ bs.getD i false = true
  | [], o, x => by
    unfold idxs
    constructor
    · intro h; cases h
    · rintro ⟨i, _, h⟩; simp at h
  | b :: r, o, x => by
    have ih := idxs_mem (bs := r) (o := o + 1) (x := x)
    have e : x ∈ idxs o (b :: r) ↔ (x = o ∧ b = true) ∨ x ∈ idxs (o + 1) r := by
      show x ∈ (if b then o :: idxs (o + 1) r else idxs (o + 1) r) ↔ _
      cases b <;> simp
    rw [e, ih]
    constructor
    · rintro (⟨h1, h2⟩ | ⟨i, h1, h2⟩)
      · exact ⟨0, by omega, by simpa using h2⟩
      · exact ⟨i + 1, by omega, by simpa using h2⟩
    · rintro ⟨i, h1, h2⟩
      cases i with
      | zero => exact .inl ⟨by omega, by simpa using h2⟩
      | succ i => exact .inr ⟨i, by omega, by simpa using h2⟩
theorem idxs_any {bs : List Bool} {i : Nat} : ((idxs 0 bs).any fun x => x == (i : Int)) = bs.getD i false := by
  rw [Bool.eq_iff_iff, List.any_eq_true]
  constructor
  · rintro ⟨x, hx, h⟩
    rw [beq_iff_eq] at h
    obtain ⟨j, h1, h2⟩ := idxs_mem.mp hx
    have : j = i := by omega
    rw [← this]; exact h2
  · intro h
    exact ⟨(i : Int), idxs_mem.mpr ⟨i, by omega, h⟩, by simp⟩
theorem idxs_bad {is : List Int} {bs : List Bool} (hnn : ∀ x ∈ is, 0 ≤ x) :
    decide (0 < ((List.filter (fun a => is.getD a.toNat 0 == 0) (idxs 0 bs)).map PyData.int).length) = false ↔ OkB is bs := by
  rw [decide_eq_false_iff_not, List.length_map, Nat.not_lt, Nat.le_zero, List.length_eq_zero_iff, List.filter_eq_nil_iff]
  unfold OkB
  have hg : ∀ i : Nat, 0 ≤ is.getD i 0 := by
    intro i
    rw [List.getD_eq_getElem?_getD]
    cases e : is[i]? with
    | none => exact Int.le_refl _
    | some x => exact hnn x (List.mem_of_getElem? e)
  constructor
  · intro h i hi
    have h1 := h (i : Int) (idxs_mem.mpr ⟨i, by omega, hi⟩)
    rw [Int.toNat_natCast, beq_iff_eq] at h1
    have := hg i
    omega
  · intro h x hx h1
    obtain ⟨i, h2, h3⟩ := idxs_mem.mp hx
    have e : x.toNat = i := by omega
    rw [e, beq_iff_eq] at h1
    have := h i h3
    omega
theorem appB_len : ∀ {L : List (Int × Int)} {bs : List Bool}, (appB L bs).length = L.length
  | [], [] => rfl
  | [], _ :: _ => rfl
  | _ :: _, [] => rfl
  | x :: r, b :: bs => by unfold appB; rw [List.length_cons, List.length_cons, appB_len]
theorem appB_snd : ∀ {L : List (Int × Int)} {bs : List Bool}, (appB L bs).map (·.2) = L.map (·.2)
  | [], [] => rfl
  | [], _ :: _ => rfl
  | _ :: _, [] => rfl
  | x :: r, b :: bs => by
    unfold appB
    rw [List.map_cons, List.map_cons, appB_snd]
    cases b <;> rfl
theorem appB_fst : ∀ {L : List (Int × Int)} {bs : List Bool}, bs.length = L.length → ∀ i : Nat, ((appB L bs).map (·.1)).getD i 0 = (L.map (·.1)).getD i 0 - if bs.getD i false then 1 else 0
  | [], [], _, i => by simp [appB]
  | x :: r, b :: bs, h, i => by
    unfold appB
    cases i with
    | zero => cases b <;> simp
    | succ i =>
      have := appB_fst (L := r) (bs := bs) (by simpa using h) i
      simpa using this
theorem minus_app {L : List (Int × Int)} {bs : List Bool} (hl : bs.length = L.length) : minusE (L.map (·.1)) (idxs 0 bs) = (appB L bs).map (·.1) := by
  apply List.ext_getElem?
  intro i
  unfold minusE
  by_cases hi : i < L.length
  · have hm : (L.map (·.1)).length = L.length := List.length_map _
    have h2 : i < ((appB L bs).map (·.1)).length := by rw [List.length_map, appB_len]; exact hi
    rw [List.getElem?_map, rangeInts_get (by rw [hm]; exact hi)]
    have e : (0 : Int) + (i : Nat) * 1 = (i : Int) := by omega
    rw [e, Option.map_some, Int.toNat_natCast, idxs_any, ← appB_fst hl, List.getD_eq_getElem?_getD, List.getElem?_eq_getElem h2]
    rfl
  · rw [List.getElem?_eq_none (by rw [List.length_map, rangeInts_length, List.length_map]; omega), List.getElem?_eq_none (by rw [List.length_map, appB_len]; omega)]
theorem low_bits : ∀ {L : List (Int × Int)} {n : Int} {t : List (Int × Int)}, LowP L n t ↔ ∃ bs : List Bool, bs.length = L.length ∧ OkB (L.map (·.1)) bs ∧ cntB bs = n ∧ t = appB L bs
  | [], n, t => by
    constructor
    · intro h; cases h; exact ⟨[], rfl, fun i h => by simp at h, rfl, rfl⟩
    · rintro ⟨bs, h1, _, h2, rfl⟩
      have : bs = [] := List.eq_nil_of_length_eq_zero h1
      subst this
      cases h2
      exact .nil
  | x :: r, n, t => by
    constructor
    · intro h
      cases h with
      | keep h =>
        obtain ⟨bs, h1, h2, h3, rfl⟩ := low_bits.mp h
        refine ⟨false :: bs, by simp [h1], fun i hi => ?_, by simpa [cntB] using h3, by simp [appB]⟩
        cases i with
        | zero => simp at hi
        | succ i => simpa using h2 i (by simpa using hi)
      | take hp h =>
        obtain ⟨bs, h1, h2, h3, rfl⟩ := low_bits.mp h
        refine ⟨true :: bs, by simp [h1], fun i hi => ?_, by simpa [cntB] using h3, by simp [appB]⟩
        cases i with
        | zero => simpa using hp
        | succ i => simpa using h2 i (by simpa using hi)
    · rintro ⟨bs, h1, h2, h3, rfl⟩
      cases bs with
      | nil => simp at h1
      | cons b bs =>
        have h4 : LowP r (cntB bs) (appB r bs) := low_bits.mpr ⟨bs, by simpa using h1, fun i hi => by simpa using h2 (i + 1) (by simpa using hi), rfl, rfl⟩
        unfold cntB at h3
        unfold appB
        cases b
        · simp only [Bool.false_eq_true, if_false] at h3 ⊢
          rw [← h3]; exact .keep h4
        · simp only [if_true] at h3 ⊢
          rw [← h3]; exact .take (by simpa using h2 0 rfl) h4
theorem low_nn {L t : List (Int × Int)} {n : Int} (h : LowP L n t) : (∀ x ∈ L, 0 ≤ x.1) → ∀ x ∈ t, 0 ≤ x.1 := by
  induction h with
  | nil => intro h; exact h
  | keep _ ih =>
    intro h x hx
    rcases List.mem_cons.mp hx with rfl | hx
    · exact h _ (.head _)
    · exact ih (fun y hy => h y (.tail _ hy)) x hx
  | take hp _ ih =>
    intro h x hx
    rcases List.mem_cons.mp hx with rfl | hx
    · simp only; omega
    · exact ih (fun y hy => h y (.tail _ hy)) x hx
theorem low_snd {L t : List (Int × Int)} {n : Int} (h : LowP L n t) : t.map (·.2) = L.map (·.2) := by
  induction h with
  | nil => rfl
  | keep _ ih => simp [ih]
  | take _ _ ih => simp [ih]
theorem bits_split {bs : List Bool} {j : Nat} (h : j < bs.length) (hb : bs.getD j false = false) : ∃ b1 b2, bs = b1 ++ false :: b2 ∧ b1.length = j := by
  refine ⟨bs.take j, bs.drop (j + 1), ?_, by simp; omega⟩
  have e : bs[j] = false := by simpa [List.getD_eq_getElem?_getD, h] using hb
  have := List.drop_eq_getElem_cons h
  rw [e] at this
  rw [← this, List.take_append_drop]
theorem appB_app : ∀ {L M : List (Int × Int)} {b1 b2 : List Bool}, b1.length = L.length → appB (L ++ M) (b1 ++ b2) = appB L b1 ++ appB M b2
  | [], M, [], b2, _ => by simp [appB]
  | x :: L, M, b :: b1, b2, h => by
    show (if b then (x.1 - 1, x.2) else x) :: appB (L ++ M) (b1 ++ b2) = ((if b then (x.1 - 1, x.2) else x) :: appB L b1) ++ appB M b2
    rw [appB_app (by simpa using h)]
    rfl
theorem cntB_app : ∀ (b1 b2 : List Bool), cntB (b1 ++ false :: b2) = cntB b1 + cntB b2
  | [], b2 => by simp [cntB]
  | b :: b1, b2 => by
    have ih := cntB_app b1 b2
    show (if b then cntB (b1 ++ false :: b2) + 1 else cntB (b1 ++ false :: b2)) = (if b then cntB b1 + 1 else cntB b1) + cntB b2
    cases b
    · simpa using ih
    · simp only [if_true]; rw [ih]; omega
theorem low_mid {done q : List (Int × Int)} {x : Int × Int} {n : Int} {t : List (Int × Int)} :
    (∃ bs : List Bool, bs.length = (done ++ x :: q).length ∧ cntB bs = n ∧ bs.getD done.length false = false ∧ OkB ((done ++ x :: q).map (·.1)) bs ∧ t = appB (done ++ x :: q) bs) ↔
      ∃ a b d' q', LowP done a d' ∧ LowP q b q' ∧ a + b = n ∧ t = (d' ++ [x]) ++ q' := by
  constructor
  · rintro ⟨bs, h1, h2, h3, h4, rfl⟩
    have hl : LowP (done ++ x :: q) n (appB (done ++ x :: q) bs) := low_bits.mpr ⟨bs, h1, h4, h2, rfl⟩
    obtain ⟨a, b, u, v, k1, k2, k3, k4⟩ := hl.app
    obtain ⟨b1, b2, rfl, hb1⟩ := bits_split (by rw [h1]; simp) h3
    rw [appB_app hb1] at k4 ⊢
    have hx : appB (x :: q) (false :: b2) = x :: appB q b2 := by simp [appB]
    rw [hx] at k4 ⊢
    have hlen : (appB done b1).length = u.length := by rw [appB_len, k1.len]
    obtain ⟨e1, e2⟩ := List.append_inj k4 hlen
    have k5 : LowP done (cntB b1) (appB done b1) := low_bits.mpr ⟨b1, hb1, fun i hi => by
      have hi1 : i < b1.length := by
        rcases Nat.lt_or_ge i b1.length with h | h
        · exact h
        · rw [List.getD_eq_getElem?_getD, List.getElem?_eq_none h] at hi; cases hi
      have := h4 i (by rw [List.getD_eq_getElem?_getD, List.getElem?_append_left hi1, ← List.getD_eq_getElem?_getD]; exact hi)
      rw [List.map_append, List.getD_eq_getElem?_getD, List.getElem?_append_left (by rw [List.length_map, ← hb1]; exact hi1), ← List.getD_eq_getElem?_getD] at this
      exact this, rfl, rfl⟩
    have k6 : LowP q (cntB b2) (appB q b2) := low_bits.mpr ⟨b2, by rw [List.length_append, List.length_append, List.length_cons, List.length_cons] at h1; omega, fun i hi => by
      have := h4 (done.length + 1 + i) (by
        rw [List.getD_eq_getElem?_getD, List.getElem?_append_right (by omega)]
        rw [show done.length + 1 + i - b1.length = i + 1 by omega, List.getElem?_cons_succ, ← List.getD_eq_getElem?_getD]
        exact hi)
      rw [List.map_append, List.map_cons, List.getD_eq_getElem?_getD, List.getElem?_append_right (by rw [List.length_map]; omega), List.length_map, show done.length + 1 + i - done.length = i + 1 by omega, List.getElem?_cons_succ, ← List.getD_eq_getElem?_getD] at this
      exact this, rfl, rfl⟩
    have hcnt := cntB_app
    exact ⟨_, _, _, _, k5, k6, by rw [← hcnt]; exact h2, by simp⟩
  · rintro ⟨a, b, d', q', h1, h2, h3, rfl⟩
    obtain ⟨b1, k1, k2, k3, rfl⟩ := low_bits.mp h1
    obtain ⟨b2, k4, k5, k6, rfl⟩ := low_bits.mp h2
    have hj : LowP (done ++ x :: q) (a + b) (appB done b1 ++ (x :: appB q b2)) := h1.join (.keep h2)
    have hcnt := cntB_app
    refine ⟨b1 ++ false :: b2, by simp [k1, k4], by rw [hcnt]; omega, ?_, ?_, ?_⟩
    · rw [List.getD_eq_getElem?_getD, ← k1]; simp
    · intro i hi
      rw [List.map_append, List.map_cons]
      rcases Nat.lt_trichotomy i done.length with h | h | h
      · rw [List.getD_eq_getElem?_getD, List.getElem?_append_left (by omega), ← List.getD_eq_getElem?_getD] at hi
        rw [List.getD_eq_getElem?_getD, List.getElem?_append_left (by rw [List.length_map]; exact h), ← List.getD_eq_getElem?_getD]
        exact k2 i hi
      · rw [List.getD_eq_getElem?_getD, h, ← k1] at hi; simp at hi
      · obtain ⟨j, rfl⟩ : ∃ j, i = done.length + 1 + j := ⟨i - done.length - 1, by omega⟩
        rw [List.getD_eq_getElem?_getD, List.getElem?_append_right (by omega), show done.length + 1 + j - b1.length = j + 1 by omega, List.getElem?_cons_succ, ← List.getD_eq_getElem?_getD] at hi
        rw [List.getD_eq_getElem?_getD, List.getElem?_append_right (by rw [List.length_map]; omega), List.length_map, show done.length + 1 + j - done.length = j + 1 by omega, List.getElem?_cons_succ, ← List.getD_eq_getElem?_getD]
        exact k5 j hi
    · rw [appB_app k1]; simp [appB]
theorem flatZ {p : Nat} : (List.replicate p [(0 : Int)]).flatten = List.replicate p 0 := by
  induction p with
  | zero => rfl
  | succ p ih => simp [List.replicate_succ, ih]
theorem dirF_iff : ∀ {N : Nat} {done pend : List (Int × Int)}, (done ++ pend).length ≤ 4 → (∀ x ∈ done ++ pend, 0 ≤ x.1) → pend.length < N →
    (dirF N ((done ++ pend).map (·.1)) ((done ++ pend).map (·.2)) (done.length : Int) = true ↔ DG done pend)
  | 0, _, _, _, _, h => by omega
  | N + 1, done, [], hl, hnn, _ => by
    rw [List.append_nil] at *
    unfold dirF
    rw [if_pos (by simp), flatZ, decide_eq_true_eq]
    constructor
    · intro h
      refine .nil fun x hx => ?_
      have h1 : x.1 ∈ done.map (·.1) := List.mem_map.mpr ⟨x, hx, rfl⟩
      rw [h] at h1
      exact List.eq_of_mem_replicate h1
    · intro g
      cases g with
      | nil h =>
        apply List.eq_replicate_iff.mpr
        refine ⟨by simp, fun y hy => ?_⟩
        obtain ⟨x, hx, rfl⟩ := List.mem_map.mp hy
        exact h x hx
  | N + 1, done, x :: q, hl, hnn, hN => by
    have hlen : ((done ++ x :: q).map (·.1)).length = (done ++ x :: q).length := List.length_map _
    have hp : done.length < (done ++ x :: q).length := by simp
    unfold dirF
    rw [if_neg (by rw [List.length_map]; omega), List.any_eq_true, hlen]
    have hos : ((done ++ x :: q).map (·.2)).getD ((done.length : Int)).toNat 0 = x.2 := by simp
    rw [hos]
    have step : ∀ bs : List Bool, bs.length = (done ++ x :: q).length →
        ((decide (((idxs 0 bs).length : Int) = x.2) && (!((idxs 0 bs).any fun y => y == (done.length : Int)) && (!(decide (0 < ((List.filter (fun a => ((done ++ x :: q).map (·.1)).getD a.toNat 0 == 0) (idxs 0 bs)).map PyData.int).length)) && dirF N (minusE ((done ++ x :: q).map (·.1)) (idxs 0 bs)) ((done ++ x :: q).map (·.2)) ((done.length : Int) + 1)))) = true ↔
        (cntB bs = x.2 ∧ bs.getD done.length false = false ∧ OkB ((done ++ x :: q).map (·.1)) bs ∧ dirF N ((appB (done ++ x :: q) bs).map (·.1)) ((done ++ x :: q).map (·.2)) ((done.length : Int) + 1) = true)) := by
      intro bs hb
      rw [Bool.and_eq_true, Bool.and_eq_true, Bool.and_eq_true, decide_eq_true_eq, idxs_len, idxs_any, Bool.not_eq_true', Bool.not_eq_true', idxs_bad (fun y hy => by obtain ⟨z, hz, rfl⟩ := List.mem_map.mp hy; exact hnn z hz), minus_app hb]
    have next : ∀ d' q' a b, LowP done a d' → LowP q b q' → (dirF N ((d' ++ [x] ++ q').map (·.1)) ((done ++ x :: q).map (·.2)) ((done.length : Int) + 1) = true ↔ DG (d' ++ [x]) q') := by
      intro d' q' a b h1 h2
      have e1 : (done ++ x :: q).map (·.2) = (d' ++ [x] ++ q').map (·.2) := by
        simp [low_snd h1, low_snd h2]
      have e2 : ((done.length : Int) + 1) = (((d' ++ [x]).length : Nat) : Int) := by simp [h1.len]
      rw [e1, e2]
      refine dirF_iff ?_ ?_ ?_
      · simp only [List.length_append, List.length_cons, List.length_nil] at hl ⊢
        rw [h1.len, h2.len]; omega
      · intro y hy
        rcases List.mem_append.mp hy with hy | hy
        · rcases List.mem_append.mp hy with hy | hy
          · exact low_nn h1 (fun z hz => hnn z (List.mem_append.mpr (.inl hz))) y hy
          · rw [List.mem_singleton.mp hy]; exact hnn x (List.mem_append.mpr (.inr (.head _)))
        · exact low_nn h2 (fun z hz => hnn z (List.mem_append.mpr (.inr (.tail _ hz)))) y hy
      · rw [h2.len]; simp at hN; omega
    constructor
    · rintro ⟨k, hk, h⟩
      have hk0 := List.mem_map.mp hk
      obtain ⟨j, hj, rfl⟩ := hk0
      rw [Int.zero_add] at h
      have hj2 : j < 2 ^ (done ++ x :: q).length := by
        have := List.mem_range.mp hj
        have e : ((2 : Int) ^ (((done ++ x :: q).length : Int)).toNat).toNat = 2 ^ (done ++ x :: q).length := by
          rw [Int.toNat_natCast]
          have : ((2 : Int) ^ (done ++ x :: q).length) = ((2 ^ (done ++ x :: q).length : Nat) : Int) := by simp
          rw [this, Int.toNat_natCast]
        omega
      rw [ends_bits _ (List.mem_range.mpr (by omega)) j (List.mem_range.mpr hj2)] at h
      obtain ⟨h1, h2, h3, h4⟩ := (step _ bits_len).mp h
      obtain ⟨a, b, d', q', k1, k2, k3, k4⟩ := low_mid.mp ⟨_, bits_len, h1, h2, h3, rfl⟩
      rw [k4] at h4
      exact .cons k1 k2 k3 ((next d' q' a b k1 k2).mp h4)
    · intro g
      cases g with
      | @cons _ d' _ _ q' a b k1 k2 k3 g =>
        obtain ⟨bs, h1, h2, h3, h4, h5⟩ := low_mid.mpr ⟨a, b, d', q', k1, k2, k3, rfl⟩
        obtain ⟨c1, c2, c3⟩ := bits_code bs (by rw [h1]; exact hl)
        have c4 := (next d' q' a b k1 k2).mpr g
        rw [h5] at c4
        have c5 := (step bs h1).mpr ⟨h2, h3, h4, c4⟩
        refine ⟨codeB bs, ?_, ?_⟩
        · rw [← h1]
          refine List.mem_map.mpr ⟨(codeB bs).toNat, List.mem_range.mpr ?_, by omega⟩
          rw [Int.toNat_natCast]; omega
        · have c6 := ends_bits bs.length (List.mem_range.mpr (by rw [h1]; omega)) (codeB bs).toNat (List.mem_range.mpr (by
            have e : ((2 : Int) ^ bs.length) = ((2 ^ bs.length : Nat) : Int) := by simp
            omega))
          rw [Int.toNat_of_nonneg c2, c1, h1] at c6
          rw [c6]; exact c5
theorem zip_maps : ∀ {is os : List Int}, os.length = is.length → (is.zip os).map (·.1) = is ∧ (is.zip os).map (·.2) = os
  | [], [], _ => ⟨rfl, rfl⟩
  | x :: is, y :: os, h => by
    obtain ⟨h1, h2⟩ := zip_maps (is := is) (os := os) (by simpa using h)
    simp [h1, h2]
  | [], _ :: _, h => by simp at h
  | _ :: _, [], h => by simp at h
theorem sum_le3 : ∀ (l : List Int), (∀ x ∈ l, x ≤ 3) → l.sum ≤ 3 * (l.length : Int)
  | [], _ => by simp
  | a :: r, h => by
    have h1 := h a (.head _)
    have h2 := sum_le3 r fun x hx => h x (.tail _ hx)
    rw [List.sum_cons, List.length_cons]; omega
theorem le_sum : ∀ {l : List Int}, (∀ x ∈ l, 0 ≤ x) → ∀ x ∈ l, x ≤ l.sum
  | a :: r, h, x, hx => by
    have h0 : 0 ≤ r.sum := by
      have : ∀ (m : List Int), (∀ y ∈ m, 0 ≤ y) → 0 ≤ m.sum := by
        intro m
        induction m with
        | nil => intro _; exact Int.le_refl _
        | cons y m ih =>
          intro h
          have e1 := h y (.head _)
          have e2 := ih fun z hz => h z (.tail _ hz)
          rw [List.sum_cons]; omega
      exact this r fun y hy => h y (.tail _ hy)
    have ha := h a (.head _)
    rw [List.sum_cons]
    rcases List.mem_cons.mp hx with rfl | hx
    · omega
    · have := le_sum (fun y hy => h y (.tail _ hy)) x hx
      omega
/-- the plain law of the second half -/
theorem plain_dig {is os : List Int} (h1 : is.length ≤ 4) (h2 : os.length = is.length) (b1 : ∀ x ∈ is, 0 ≤ x ∧ x ≤ 3) (b2 : ∀ x ∈ os, 0 ≤ x) (hs : is.sum = os.sum) : digF is os = dirF 5 is os 0 := by
  obtain ⟨e1, e2⟩ := zip_maps h2
  have hlen : (is.zip os).length = is.length := by rw [List.length_zip, h2, Nat.min_self]
  have hb : ∀ x ∈ is.zip os, 0 ≤ x.1 ∧ x.1 ≤ 3 ∧ 0 ≤ x.2 := by
    intro x hx
    have m1 : x.1 ∈ is := e1 ▸ List.mem_map.mpr ⟨x, hx, rfl⟩
    have m2 : x.2 ∈ os := e2 ▸ List.mem_map.mpr ⟨x, hx, rfl⟩
    exact ⟨(b1 _ m1).1, (b1 _ m1).2, b2 _ m2⟩
  have hd : dirF 5 is os 0 = true ↔ DG [] (is.zip os) := by
    have := dirF_iff (N := 5) (done := []) (pend := is.zip os) (by rw [List.nil_append, hlen]; exact h1) (fun x hx => (hb x hx).1) (by omega)
    rw [List.nil_append, e1, e2] at this
    exact this
  have hf := digF_P (is.zip os)
  rw [e1, e2] at hf
  obtain ⟨M, hp, hsrt⟩ := exists_downP (is.zip os)
  have hM : M.length ≤ 4 := by rw [← hp.length_eq, hlen]; exact h1
  have hb' : ∀ x ∈ M, 0 ≤ x.1 ∧ x.1 ≤ 3 ∧ 0 ≤ x.2 := fun x hx => hb x (hp.mem_iff.mpr hx)
  have s1 : (M.map (·.1)).sum = is.sum := by rw [← permSum (hp.map (·.1)), e1]
  have s2 : (M.map (·.2)).sum = os.sum := by rw [← permSum (hp.map (·.2)), e2]
  have hsum : (M.map (·.2)).sum ≤ ((12 : Nat) : Int) := by
    rw [s2, ← hs]
    have := sum_le3 is fun x hx => (b1 x hx).2
    omega
  have ht : tPair M = true := by
    have : allQ M.length 51 0 0 tPair = true := by
      rcases (by omega : M.length = 0 ∨ M.length = 1 ∨ M.length = 2 ∨ M.length = 3 ∨ M.length = 4) with e | e | e | e | e <;> rw [e]
      · exact tPair0
      · exact tPair1
      · exact tPair2
      · exact tPair3
      · exact tPair4
    refine allQ_at this hsrt hb' (fun x hx => ?_) (by rw [s1, s2, hs])
    have k1 := hb' x hx
    have k2 := le_sum (l := M.map (·.2)) (fun y hy => by obtain ⟨z, hz, rfl⟩ := List.mem_map.mp hy; exact (hb' z hz).2.2) x.2 (List.mem_map.mpr ⟨x, hx, rfl⟩)
    unfold codeP
    omega
  unfold tPair at ht
  rw [beq_iff_eq] at ht
  rw [hf, digP_perm hp, ht, Bool.eq_iff_iff, hd, dgB_iff (by omega)]
  exact ⟨DG.perm hp.symm, DG.perm hp⟩
end
section
open PySem PySem.W PyProof.Rows PySem.Calls PySem.Spec
set_option maxHeartbeats 1000000
theorem plain_dig_ne {is os : List Int} (h2 : os.length = is.length) (hs : is.sum ≠ os.sum) : digF is os = (is.sum == os.sum) := by
  have e : (is.sum == os.sum) = false := by simpa using hs
  rw [e]
  unfold digF
  by_cases h0 : is.length = 0
  · have h1 : is = [] := List.eq_nil_of_length_eq_zero h0
    have h3 : os = [] := List.eq_nil_of_length_eq_zero (by rw [h2, h0])
    rw [h1, h3] at hs
    exact absurd rfl hs
  · rw [if_neg h0, if_pos]
    unfold sumTo
    rw [List.take_length, ← h2, List.take_length]
    exact hs
section
variable {prog : Program} {w : World} {A : Around} {E : Value → Shared → Prop} {s : Shared} {Q : Value → Shared → Prop} {sc : List Int}
theorem eqB {a b : Bool} (e : a = b) (h : Q (.bool true) s) : wpAny (model prog w) A (compareOp .Eq (.bool a) (.bool b)) Q E s := by
  subst e
  refine PyProof.Rows.eq_bool ?_
  simpa using h
theorem pd0 (hs : (insF sc).sum = (outs0 sc).sum) : digF (insF sc) (outs0 sc) = dirF 5 (insF sc) (outs0 sc) 0 := plain_dig (ins_len sc) (outs0_len sc) (ins_b sc) (fun x hx => (outs0_b sc x hx).1) hs
theorem pdF (h0 : 0 < (outs0 sc).length) (hs : (insF sc).sum = (outsF sc).sum) : digF (insF sc) (outsF sc) = dirF 5 (insF sc) (outsF sc) 0 := plain_dig (ins_len sc) (outsF_len sc h0) (ins_b sc) (outsF_b sc) hs
theorem pn0 (hs : (insF sc).sum ≠ (outs0 sc).sum) : digF (insF sc) (outs0 sc) = ((insF sc).sum == (outs0 sc).sum) := plain_dig_ne (outs0_len sc) hs
theorem pnF (h0 : 0 < (outs0 sc).length) (hs : (insF sc).sum ≠ (outsF sc).sum) : digF (insF sc) (outsF sc) = ((insF sc).sum == (outsF sc).sum) := plain_dig_ne (outsF_len sc h0) hs
end
end
section
open PySem PySem.W PyProof.Rows PySem.Calls PySem.Spec
set_option maxHeartbeats 1000000
/-- the law's first half, in plain words -/
abbrev NN (sc : List Int) : Bool := (List.map PyData.int (List.filter (fun a => decide (a < 0)) (rowF sc))).length == 0
section
variable {sc : List Int}
theorem row_ng (h : NN sc = false) : (rowF sc).any (· < 0) = true := by
  rw [List.any_eq_true]
  have h1 : ¬ (List.map PyData.int (List.filter (fun a => decide (a < 0)) (rowF sc))).length = 0 := by simpa using h
  rw [List.length_map] at h1
  obtain ⟨x, hx⟩ := List.exists_mem_of_length_pos (Nat.pos_of_ne_zero h1)
  obtain ⟨h2, h3⟩ := List.mem_filter.mp hx
  exact ⟨x, h2, by simpa using h3⟩
theorem row_b0 (h : NN sc = true) : ∀ x ∈ rowF sc, 0 ≤ x ∧ x ≤ 5 := fun x hx => ⟨row_nn h x hx, (row_b sc x hx).2⟩
theorem rA1 (h1 : NN sc = true) (h2 : (rowF sc).sum.fmod 2 = 0) : egF (rowF sc) = someF 40 (rowF sc) false :=
  ((tRow_all (row_len sc) (row_b0 h1) (row_mes sc)).1 (by rw [← fmod2]; exact h2)).1
theorem rA2 (h1 : NN sc = true) (h2 : (rowF sc).sum.fmod 2 = 0) : hhF (rowF sc) = someF 40 (rowF sc) false :=
  ((tRow_all (row_len sc) (row_b0 h1) (row_mes sc)).1 (by rw [← fmod2]; exact h2)).2
theorem rA3 (h1 : NN sc = true) : multiF (rowF sc) = someF 40 (rowF sc) true := multi_nn (row_nn h1) (row_mes sc)
theorem rA4 (h1 : NN sc = true) (h2 : (rowF sc).sum.fmod 2 = 0) : pseudoF (rowF sc) = ((rowF sc).sum.fmod 2 == 0) := by
  rw [pseudo_nn (row_nn h1) (by rw [← fmod2]; exact h2), h2]; rfl
theorem b_odd (h2 : (rowF sc).sum.fmod 2 ≠ 0) : ((rowF sc).sum.fmod 2 == 0) = false := by simpa using h2
theorem odd_of (h2 : (rowF sc).sum.fmod 2 ≠ 0) : (rowF sc).sum % 2 ≠ 0 := by rw [← fmod2]; exact h2
theorem rB1 (h1 : NN sc = true) (h2 : (rowF sc).sum.fmod 2 ≠ 0) : egF (rowF sc) = ((rowF sc).sum.fmod 2 == 0) := by
  rw [b_odd h2]; exact ((tRow_all (row_len sc) (row_b0 h1) (row_mes sc)).2 (odd_of h2)).1
theorem rB2 (h1 : NN sc = true) (h2 : (rowF sc).sum.fmod 2 ≠ 0) : hhF (rowF sc) = ((rowF sc).sum.fmod 2 == 0) := by
  rw [b_odd h2]; exact ((tRow_all (row_len sc) (row_b0 h1) (row_mes sc)).2 (odd_of h2)).2
theorem rB3 (h2 : (rowF sc).sum.fmod 2 ≠ 0) : multiF (rowF sc) = ((rowF sc).sum.fmod 2 == 0) := by
  rw [b_odd h2]; exact multi_odd (odd_of h2)
theorem rB4 (h2 : (rowF sc).sum.fmod 2 ≠ 0) : pseudoF (rowF sc) = ((rowF sc).sum.fmod 2 == 0) := by
  rw [b_odd h2]; exact pseudo_odd (odd_of h2)
theorem pos_odd (h2 : (rowF sc).sum.fmod 2 ≠ 0) : 0 < (rowF sc).length := by
  rcases Nat.eq_zero_or_pos (rowF sc).length with h | h
  · rw [List.eq_nil_of_length_eq_zero h] at h2
    exact absurd rfl h2
  · exact h
theorem pos_ng (h1 : NN sc = false) : 0 < (rowF sc).length := by
  rcases Nat.eq_zero_or_pos (rowF sc).length with h | h
  · have := row_ng h1
    rw [List.eq_nil_of_length_eq_zero h] at this
    cases this
  · exact h
theorem rC1 (h1 : NN sc = false) : egF (rowF sc) = NN sc := by rw [h1]; exact egF_ng (row_ng h1)
theorem rC2 (h1 : NN sc = false) : hhF (rowF sc) = NN sc := by rw [h1]; exact hhF_ng (row_ng h1)
theorem rC3 (h1 : NN sc = false) : multiF (rowF sc) = NN sc := by rw [h1]; exact multi_ng (row_ng h1)
theorem rC4 (h1 : NN sc = false) : pseudoF (rowF sc) = NN sc := by rw [h1]; exact pseudo_ng (row_ng h1)
end
section
variable {prog : Program} {w : World} {A : Around} {E : Value → Shared → Prop} {s : Shared} {Q : Value → Shared → Prop}
theorem neB {a b : Bool} (e : a = b) (h : Q (.bool false) s) : wpAny (model prog w) A (compareOp .NotEq (.bool a) (.bool b)) Q E s := by
  subst e
  refine PyProof.Rows.ne_bool ?_
  simpa using h
end
end
section
local macro_rules | `(tactic| walk_at "m_pad") => `(tactic| skip)
local macro_rules | `(tactic| walk_at "m_pad") => `(tactic| skip)
local macro_rules | `(tactic| walk_at "m_pad") => `(tactic| skip)
local macro_rules | `(tactic| walk_at "m_pad") => `(tactic| skip)
local macro_rules | `(tactic| walk_at "m_pad") => `(tactic| skip)
local macro_rules | `(tactic| walk_at "m_pad") => `(tactic| skip)
local macro_rules | `(tactic| walk_at "m_pad") => `(tactic| skip)
local macro_rules | `(tactic| walk_at "m_pad") => `(tactic| skip)
local macro_rules | `(tactic| walk_at "m_pad") => `(tactic| skip)
local macro_rules | `(tactic| walk_at "m_pad") => `(tactic| skip)
local macro_rules | `(tactic| walk_at "m_pad") => `(tactic| skip)
local macro_rules | `(tactic| walk_at "m_pad") => `(tactic| skip)
local macro_rules | `(tactic| walk_at "m_pad") => `(tactic| skip)
local macro_rules | `(tactic| walk_at "m_pad") => `(tactic| skip)
local macro_rules | `(tactic| walk_at "m_pad") => `(tactic| skip)
local macro_rules | `(tactic| walk_at "m_pad") => `(tactic| skip)
local macro_rules | `(tactic| walk_at "m_pad") => `(tactic| skip)
local macro_rules | `(tactic| walk_at "m_pad") => `(tactic| skip)
local macro_rules | `(tactic| walk_at "m_pad") => `(tactic| skip)
local macro_rules | `(tactic| walk_at "m_pad") => `(tactic| skip)
local macro_rules | `(tactic| walk_at "m_pad") => `(tactic| skip)
local macro_rules | `(tactic| walk_at "m_pad") => `(tactic| skip)
local macro_rules | `(tactic| walk_at "m_pad") => `(tactic| skip)
local macro_rules | `(tactic| walk_at "m_pad") => `(tactic| skip)
local macro_rules | `(tactic| walk_at "m_pad") => `(tactic| skip)
local macro_rules | `(tactic| walk_at "m_pad") => `(tactic| skip)
local macro_rules | `(tactic| walk_at "m_pad") => `(tactic| skip)
local macro_rules | `(tactic| walk_at "m_pad") => `(tactic| skip)
local macro_rules | `(tactic| walk_at "m_pad") => `(tactic| skip)
local macro_rules | `(tactic| walk_at "m_pad") => `(tactic| skip)
local macro_rules | `(tactic| walk_at "m_pad") => `(tactic| skip)
local macro_rules | `(tactic| walk_at "m_pad") => `(tactic| skip)
local macro_rules | `(tactic| walk_at "m_pad") => `(tactic| skip)
local macro_rules | `(tactic| walk_at "m_pad") => `(tactic| skip)
local macro_rules | `(tactic| walk_at "m_pad") => `(tactic| skip)
local macro_rules | `(tactic| walk_at "m_pad") => `(tactic| skip)
local macro_rules | `(tactic| walk_at "m_pad") => `(tactic| skip)
local macro_rules | `(tactic| walk_at "m_pad") => `(tactic| skip)
local macro_rules | `(tactic| walk_at "m_pad") => `(tactic| skip)
local macro_rules | `(tactic| walk_at "m_pad") => `(tactic| skip)
local macro_rules | `(tactic| walk_at "m_pad") => `(tactic| skip)
local macro_rules | `(tactic| walk_at "m_pad") => `(tactic| skip)
local macro_rules | `(tactic| walk_at "m_pad") => `(tactic| skip)
local macro_rules | `(tactic| walk_at "m_pad") => `(tactic| skip)
local macro_rules | `(tactic| walk_at "m_pad") => `(tactic| skip)
local macro_rules | `(tactic| walk_at "m_pad") => `(tactic| skip)
local macro_rules | `(tactic| walk_at "m_pad") => `(tactic| skip)
local macro_rules | `(tactic| walk_at "m_pad") => `(tactic| skip)
local macro_rules | `(tactic| walk_at "m_pad") => `(tactic| skip)
local macro_rules | `(tactic| walk_at "m_pad") => `(tactic| skip)
local macro_rules | `(tactic| walk_at "m_pad") => `(tactic| skip)
local macro_rules | `(tactic| walk_at "m_pad") => `(tactic| skip)
local macro_rules | `(tactic| walk_at "m_pad") => `(tactic| skip)
open PySem PySem.W PyProof.Rows PySem.Calls PySem.Spec
set_option maxHeartbeats 8000000
local macro_rules | `(tactic| walk_at "m_digF") => `(tactic| ((with_reducible show wpAny _ _ (call (Value.ref 148) _) _ _ _); refine' lawB_call (dig_CF ?hi1 ?hi2 ?h0) ?F ?X ?N ?T ?hf ?hk ⟨?hp1, ?hp2⟩ ?hd1 ?hu1 ?_; (case hi1 => with_reducible assumption); (case hi2 => with_reducible assumption); (case h0 => with_reducible assumption); (case F => with_unfolding_all k_asm); (case X => with_unfolding_all k_asm); (case N => with_unfolding_all k_asm); (case T => with_unfolding_all k_asm); (case hf => with_unfolding_all exact rfl); (case hk => with_unfolding_all exact rfl); (case hp1 => with_unfolding_all is_list); (case hp2 => with_unfolding_all is_list); (case hd1 => with_unfolding_all decide); (case hu1 => with_unfolding_all decide); intro h9 tk9 F9 N9))
local macro_rules | `(tactic| walk_at "m_dig0") => `(tactic| ((with_reducible show wpAny _ _ (call (Value.ref 148) _) _ _ _); refine' lawB_call (dig_C0 ?hi1 ?hi2) ?F ?X ?N ?T ?hf ?hk ⟨?hp1, ?hp2⟩ ?hd1 ?hu1 ?_; (case hi1 => with_reducible assumption); (case hi2 => with_reducible assumption); (case F => with_unfolding_all k_asm); (case X => with_unfolding_all k_asm); (case N => with_unfolding_all k_asm); (case T => with_unfolding_all k_asm); (case hf => with_unfolding_all exact rfl); (case hk => with_unfolding_all exact rfl); (case hp1 => with_unfolding_all is_list); (case hp2 => with_unfolding_all is_list); (case hd1 => with_unfolding_all decide); (case hu1 => with_unfolding_all decide); intro h9 tk9 F9 N9))
local macro_rules | `(tactic| walk_at "m_dirF") => `(tactic| ((with_reducible show wpAny _ _ (call (Value.ref 167) _) _ _ _); refine' lawB_call (dir_CF ?hi1 ?hi2 ?h0) ?F ?X ?N ?T ?hf ?hk ⟨?hp1, ?hp2⟩ ?hd1 ?hu1 ?_; (case hi1 => with_reducible assumption); (case hi2 => with_reducible assumption); (case h0 => with_reducible assumption); (case F => with_unfolding_all k_asm); (case X => with_unfolding_all k_asm); (case N => with_unfolding_all k_asm); (case T => with_unfolding_all k_asm); (case hf => with_unfolding_all exact rfl); (case hk => with_unfolding_all exact rfl); (case hp1 => with_unfolding_all is_list); (case hp2 => with_unfolding_all is_list); (case hd1 => with_unfolding_all decide); (case hu1 => with_unfolding_all decide); intro h9 tk9 F9 N9))
local macro_rules | `(tactic| walk_at "m_dir0") => `(tactic| ((with_reducible show wpAny _ _ (call (Value.ref 167) _) _ _ _); refine' lawB_call (dir_C0 ?hi1 ?hi2) ?F ?X ?N ?T ?hf ?hk ⟨?hp1, ?hp2⟩ ?hd1 ?hu1 ?_; (case hi1 => with_reducible assumption); (case hi2 => with_reducible assumption); (case F => with_unfolding_all k_asm); (case X => with_unfolding_all k_asm); (case N => with_unfolding_all k_asm); (case T => with_unfolding_all k_asm); (case hf => with_unfolding_all exact rfl); (case hk => with_unfolding_all exact rfl); (case hp1 => with_unfolding_all is_list); (case hp2 => with_unfolding_all is_list); (case hd1 => with_unfolding_all decide); (case hu1 => with_unfolding_all decide); intro h9 tk9 F9 N9))
local macro_rules | `(tactic| walk_at "m_eqB") => `(tactic| (refine' eqB ?e ?_; (case e => with_reducible (first | exact pdF (by assumption) (by assumption) | exact pnF (by assumption) (by assumption) | exact pd0 (by assumption) | exact pn0 (by assumption)))))
local macro_rules | `(tactic| walk_at "m_enterL") => `(tactic| ((with_reducible rename Heap.get? _ _ = none => hnX); refine' list_enters hnX ?F ?N ?hl ?_; (case F => k_asm); (case N => k_asm); (case hl => assumption); clear hnX; intro oX nX NX _ cX dX))
local macro_rules | `(tactic| walk_at "m_eqnil") => `(tactic| (refine' eq_nil ?N ?m ?c ?d ?m2 ?y ?u ?_; (case N => k_asm); (case m => k_mem); (case c => assumption); (case d => assumption); (case m2 => k_mem); (case y => assumption); (case u => exact u_law0)))
local macro_rules | `(tactic| walk_at "m_some") => `(tactic| ((with_reducible show wpAny _ _ (call (Value.ref 155) _) _ _ _); refine' lawB_call (someC ?hi ?hnn ?hm ?hn) ?F ?X ?N ?T ?hf ?hk ?hp ?hd1 ?hu1 ?_; (case F => with_unfolding_all k_asm); (case X => with_unfolding_all k_asm); (case N => with_unfolding_all k_asm); (case T => with_unfolding_all k_asm); (case hf => with_unfolding_all exact rfl); (case hk => with_unfolding_all exact rfl); (case hp => with_unfolding_all is_list); (case hi => with_unfolding_all l_ints); (case hnn => with_unfolding_all exact row_nn (by assumption)); (case hm => with_unfolding_all exact row_mes _); (case hn => with_unfolding_all exact row_len20 _); (case hd1 => with_unfolding_all decide); (case hu1 => with_unfolding_all decide); intro h9 tk9 F9 N9))
local macro_rules | `(tactic| walk_at "m_multi") => `(tactic| ((with_reducible show wpAny _ _ (call (Value.ref 134) _) _ _ _); refine' lawB_call (multi_C ?hi ?hn) ?F ?X ?N ?T ?hf ?hk ?hp ?hd1 ?hu1 ?_; (case F => with_unfolding_all k_asm); (case X => with_unfolding_all k_asm); (case N => with_unfolding_all k_asm); (case T => with_unfolding_all k_asm); (case hf => with_unfolding_all exact rfl); (case hk => with_unfolding_all exact rfl); (case hp => with_unfolding_all is_list); (case hi => with_unfolding_all l_ints); (case hn => with_unfolding_all exact row_len20 _); (case hd1 => with_unfolding_all decide); (case hu1 => with_unfolding_all decide); intro h9 tk9 F9 N9))
local macro_rules | `(tactic| walk_at "m_pseudo") => `(tactic| ((with_reducible show wpAny _ _ (call (Value.ref 141) _) _ _ _); refine' lawB_call (pseudo_C ?hi ?hn ?h1) ?F ?X ?N ?T ?hf ?hk ?hp ?hd1 ?hu1 ?_; (case F => with_unfolding_all k_asm); (case X => with_unfolding_all k_asm); (case N => with_unfolding_all k_asm); (case T => with_unfolding_all k_asm); (case hf => with_unfolding_all exact rfl); (case hk => with_unfolding_all exact rfl); (case hp => with_unfolding_all is_list); (case hi => with_unfolding_all l_ints); (case hn => with_unfolding_all exact row_len20 _); (case h1 => first | (with_unfolding_all assumption) | (with_reducible exact pos_odd (by assumption)) | (with_reducible exact pos_ng (by assumption))); (case hd1 => with_unfolding_all decide); (case hu1 => with_unfolding_all decide); intro h9 tk9 F9 N9))
local macro_rules | `(tactic| walk_at "m_isg1") => `(tactic| (refine' isg1_call ?F ?X ?N ?T ?hf ?hk ?hl ?hi ?hn ?_; (case F => with_unfolding_all k_asm); (case X => with_unfolding_all k_asm); (case N => with_unfolding_all k_asm); (case T => with_unfolding_all k_asm); (case hf => with_unfolding_all exact rfl); (case hk => with_unfolding_all exact rfl); (case hl => with_unfolding_all is_list); (case hi => with_unfolding_all l_ints); (case hn => with_unfolding_all exact row_len20 _); intro h9 tk9 F9 N9))
local macro_rules | `(tactic| walk_at "m_isg2") => `(tactic| (refine' isg2_call ?hkw ?F ?X ?N ?T ?hf ?hk ?hl ?hi ?hn ?_; (case hkw => with_unfolding_all rfl); (case F => with_unfolding_all k_asm); (case X => with_unfolding_all k_asm); (case N => with_unfolding_all k_asm); (case T => with_unfolding_all k_asm); (case hf => with_unfolding_all exact rfl); (case hk => with_unfolding_all exact rfl); (case hl => with_unfolding_all is_list); (case hi => with_unfolding_all l_ints); (case hn => with_unfolding_all exact row_len20 _); intro h9 tk9 F9 N9))
local macro_rules | `(tactic| walk_at "m_isg3") => `(tactic| (refine' isg3_call ?F ?X ?N ?T ?hf ?hk ?hl ?hi ?hn ?_; (case F => with_unfolding_all k_asm); (case X => with_unfolding_all k_asm); (case N => with_unfolding_all k_asm); (case T => with_unfolding_all k_asm); (case hf => with_unfolding_all exact rfl); (case hk => with_unfolding_all exact rfl); (case hl => with_unfolding_all is_tup); (case hi => with_unfolding_all l_ints); (case hn => with_unfolding_all exact row_len20 _); intro h9 tk9 F9 N9))
local macro_rules | `(tactic| walk_at "m_isg4") => `(tactic| (refine' isg4_call ?F ?X ?N ?T ?hf ?hk ?hl ?hi ?hn ?_; (case F => with_unfolding_all k_asm); (case X => with_unfolding_all k_asm); (case N => with_unfolding_all k_asm); (case T => with_unfolding_all k_asm); (case hf => with_unfolding_all exact rfl); (case hk => with_unfolding_all exact rfl); (case hl => with_unfolding_all is_list); (case hi => with_unfolding_all l_ints); (case hn => with_unfolding_all exact row_len20 _); intro e9 t9 x9 h9 tk9 S' U'; (try dsimp only at S' U' ⊢)))
local macro_rules | `(tactic| walk_at "m_neB") => `(tactic| (refine' neB ?e ?_; (case e => with_reducible (first | exact rA1 (by assumption) (by assumption) | exact rA2 (by assumption) (by assumption) | exact rA3 (by assumption) | exact rA4 (by assumption) (by assumption) | exact rB1 (by assumption) (by assumption) | exact rB2 (by assumption) (by assumption) | exact rB3 (by assumption) | exact rB4 (by assumption) | exact rC1 (by assumption) | exact rC2 (by assumption) | exact rC3 (by assumption) | exact rC4 (by assumption)))))
theorem law_holds : PySem.Challenge.rw_fc0138_01.Holds := hd (by
  k_with_none
  k_go0
  w_top off
  rename PySem.W.Frag.In _ _ => X9
  have K9 := below_of X9
  have D9 := dicts_of X9
  rename Fr _ _ _ _ => F9
  refine' cut_at (Str.ofString "script") (by assumption) F9 ?tail ?main
  case tail =>
    clear F9
    intro h tk m F N
    k_with_none
    revert X9; k_fill; intro X9
    k_with "call ref" => (first | walk_at "m_digF" | walk_at "m_dig0" | walk_at "m_dirF" | walk_at "m_dir0")
    k_with "compareOp Eq bool bool" => walk_at "m_eqB"
    k_steps
  case main =>
    intro rest' tailH
    w_top off
    k_with_none
    revert X9; k_fill; intro X9
    k_with "eval List" => walk_at "m_enterL"
    k_with "compareOp Eq ref ref" => walk_at "m_eqnil"
    k_with "compareOp NotEq bool bool" => walk_at "m_neB"
    k_with "call ref" => (first | walk_at "m_some" | walk_at "m_multi" | walk_at "m_pseudo" | walk_at "m_isg1" | walk_at "m_isg2" | walk_at "m_isg3" | walk_at "m_isg4")
    k_steps
    all_goals ((try dsimp only); exact tailH _ _ _ (kts_nil (by assumption) (by k_asm)) rfl))
end
end Mine
theorem PySem.Challenge.cw_fc0138_01_holds : PySem.Challenge.rw_fc0138_01.Holds :=
  Mine.law_holds
