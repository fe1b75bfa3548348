import PyProof.Rows.All
import Wide.All
import OpenK.AllK
import Wide.FinOn
import PyProof.FactsTree
import Lean
import PySem.Challenge.RW_pg0217_01
set_option Elab.async false
set_option maxRecDepth 100000
set_option maxHeartbeats 8000000
section
open PySem PySem.W PyProof.Rows
open_top hd for PySem.Challenge.rw_pg0217_01
namespace Mine
theorem walk_off : True := by
  w_top off
  exact True.intro
end Mine
end
section
open PySem PySem.W PyProof.Rows PySem.Spec PySem.Calls
noncomputable section
namespace Mine
noncomputable abbrev loo : List Str := looseW hd.view_39 [Str.ofString "tspecials", Str.ofString "_name_disallowed_re", Str.ofString "_value_disallowed_re", Str.ofString "_formatparam"]

/-- all that stood stands, but what the list names -/
def But (news : List (Addr × Obj)) (h h' : Heap) : Prop := ∀ b o, h.get? b = some o → b ∉ news.map (·.1) → h'.get? b = some o

section
variable {prog : Program} {w : World} {A A₀ : Around} {s : Shared} {K : Frag} {L : Addr} {h₀ base : Heap} {m mg mb : Str → Option Value} {news : List (Addr × Obj)} {p : Program} {loose : List Str} {mean : ExcName → Option Value}
theorem enter {env : Env} {outer : List Env} {R : Result → Shared → Prop} {name qual : Str} {params : Arguments} {body : List Stmt} {scope : Scope} {dV kV doc pm cdv ct oc : Value} {an od : Option Addr} {osl : Array (Option Value)} {f : Addr} {args : Args} {binds : List (Str × Value)}
    (B : Below A₀ base outer h₀) (F : Fr h₀ L s.heap m) (X₀ : K.In h₀) (N : News h₀ L s.heap news) (T : Top p loose mean mg mb h₀) (hA : A.frames = some (env :: outer)) (hf : env.frame = some L) (hke : env.scope.kind = .function)
    (ho : K.lookup f = some ⟨oc, od, .func (fnOf name qual params body scope dV kV doc pm an cdv ct), osl⟩) (hcd : codeIn K cdv qual = true) (hroom : A.depth < recursionLimit)
    (hbind : BindsTo s (fnOf name qual params body scope dV kV doc pm an cdv ct) args binds) (hloc : ∀ y ∈ binds, scope.names.lookup y.1 = some .local)
    (h : ∀ g L' h₁, Fr h₀ L g m → Fr g L' h₁ (fun y => binds.reverse.lookup y) → News g L' h₁ news → Below A base (env :: outer) g → K.In g → Top p loose mean mg mb g → But news s.heap g → (∀ q ∈ news, q.1 < L') →
      wpAny (model prog w) (A.deeper (envOf qual scope L' f cdv)) (execs body (envOf qual scope L' f cdv))
        (fun fl s' => LeaveK h₀ L m g R (match fl with | .ret v => v | _ => .none) s')
        (fun e s' => wpAny (model prog w) (A.deeper (envOf qual scope L' f cdv)) (leaving (envOf qual scope L' f cdv) e) (fun _ s'' => R (.error e) s'') (fun e' s'' => R (.error e') s'') s')
        { s with heap := h₁, toks := s.toks + binds.length })
    (hco : scope.isCoroutine = false) (hgen : scope.isGenerator = false) (hk : scope.kind = .function)
    (hcell : ∀ x ∈ scope.names, x.2 ≠ .cell) : codeAny (model prog w) A (.call (.ref f) args) R s := by
  obtain ⟨FG, BG, st, lv⟩ := groundX (R := R) B F N hA hf hke
  refine codeAny_call_def (fd := fnX name qual params body scope [] dV kV doc pm an cdv ct) (body := body) (binds := binds) hroom ((X₀.keeps F.keep) _ _ ho) rfl (T.nolimit.keeps F.keep) (codeRec_of (X₀.keeps F.keep) hcd) rfl hbind hcell hloc (fun h₁ hns hk₁ => ?_) hco hgen hk
  exact wpAny_mono (h _ s.heap.objs.size h₁ FG ⟨hns, fun b o e => hk₁ b o (of_hideAll _ e), Nat.le_of_eq (hideAll_size _ _)⟩
    (fun p hp => ⟨hk₁ _ _ (N p hp).1, Nat.ne_of_lt (Heap.lt_size (N p hp).1), hideAll_none _ (List.mem_map_of_mem hp)⟩) BG (X₀.keeps st) (T.keeps st) (fun b o e hn => hideAll_get _ e hn) (fun p hp => Heap.lt_size (N p hp).1)) (fun fl s' hl => lv _ _ hl) fun _ _ y => y
end

section
variable {h₀ g h h' : Heap} {L L' : Addr} {m' : Str → Option Value} {news tl : List (Addr × Obj)}
theorem end_but (hb : But news h g) (F' : Fr g L' h' m') : But news h h' := fun b o e hn => F'.keep b o (hb b o e hn)
theorem end_stays (hb : But news h g) (F' : Fr g L' h' m') (N : News h₀ L h news) (N' : News g L' h' news) : h.StaysIn h' := fun b o e => by
  by_cases hn : b ∈ news.map (·.1)
  · obtain ⟨p, hp, rfl⟩ := List.mem_map.mp hn
    have := (N p hp).1
    rw [e] at this
    cases this
    exact (N' p hp).1
  · exact F'.keep b o (hb b o e hn)
theorem end_new (hb : But news h g) (N' : News g L' h' tl) (hn : ∀ p ∈ tl, ∀ q ∈ news, p.1 ≠ q.1) : ∀ p ∈ tl, h'.get? p.1 = some p.2 ∧ h.get? p.1 = none := fun p hp => by
  refine ⟨(N' p hp).1, ?_⟩
  cases q : h.get? p.1 with
  | none => rfl
  | some o =>
    have := hb _ _ q fun hm => by
      obtain ⟨r, hr, e⟩ := List.mem_map.mp hm
      exact hn p hp r hr e.symm
    rw [(N' p hp).2.2] at this; cases this
end

/-- what a call of one def of the text promises, from any def's frame -/
def Ct (w : World) (mean : ExcName → Option Value) (mg mb : Str → Option Value) (f : Addr) (n : Nat) (vs : List Value) (kw : List (Str × Value)) (news : List (Addr × Obj)) (pre : Heap → Prop) (post : Heap → Heap → Value → Prop) : Prop :=
  ∀ (dp un : Nat) (gd : Option (List Code)) (cn : Str) (cs : Scope) (a : Addr) (ccd : Value) (cl : List (Str × Addr)) (outer : List Env) (A₀ : Around) (base h₀ : Heap) (L : Addr) (m : Str → Option Value) (s : Shared) (Q E : Value → Shared → Prop),
    Below A₀ base outer h₀ → Fr h₀ L s.heap m → (hd.heap_39 w.params).In h₀ → News h₀ L s.heap news → Top hd.view_39 loo mean mg mb h₀ → cs.kind = .function → dp + n < recursionLimit → un + 8 * n + 64 < cLine → pre s.heap →
    (∀ r h' tk', Fr h₀ L h' m → But news s.heap h' → post s.heap h' r → Q r { s with heap := h', toks := tk' }) →
    wpAny (model PySem.Challenge.rw_pg0217_01.row.prog w) (ktrTop dp un gd cn cs L a ccd cl outer) (call (.ref f) vs kw) Q E s

local macro_rules | `(tactic| walk_at "m enter") => `(tactic| (k_dflt (refine' enter ?k1 ?k2 ?k3 ?k4 ?k5 ?kA ?kF ?kK ?k6 ?k7 ?k8 ?k9 ?kB ?_ ?c2 ?c3 ?c4 ?c5; (case kA => exact rfl); (case kF => exact rfl); (case kK => assumption); (case k1 => k_asm); (case k2 => k_asm); (case k3 => k_asm); (case k4 => k_asm); (case k5 => k_asm); (case k6 => k_is); (case k7 => k_is); (case k8 => ktr_room); (case k9 => first | exact BindsTo.of_eq rfl | exact binds_K (by k_in) rfl (by k_is) rfl rfl rfl); (case c5 => decide); (case kB => exact locs rfl); (case c2 => exact rfl); (case c3 => exact rfl); (case c4 => exact rfl); k_whole; intro g' L' h' FG' F' N' B' X' T' hBut' hLt'; (try dsimp only); (try k_fold))))

end Mine
noncomputable section
namespace Mine
section
variable {w : World} {mean : ExcName → Option Value} {mg mb : Str → Option Value} {f : Addr} {n : Nat} {vs : List Value} {kw : List (Str × Value)} {pre : Heap → Prop} {post : Heap → Heap → Value → Prop}
  {dp un : Nat} {gd : Option (List Code)} {cn : Str} {cs : Scope} {a : Addr} {ccd : Value} {cl : List (Str × Addr)} {outer : List Env} {A₀ : Around} {base h₀ : Heap} {L : Addr} {m : Str → Option Value} {s : Shared} {Q E : Value → Shared → Prop} {news big : List (Addr × Obj)}
theorem use (C : Ct w mean mg mb f n vs kw news pre post) (B : Below A₀ base outer h₀) (F : Fr h₀ L s.heap m) (X : (hd.heap_39 w.params).In h₀) (N : News h₀ L s.heap news) (T : Top hd.view_39 loo mean mg mb h₀) (hk : cs.kind = .function) (hd : dp + n < recursionLimit) (hu : un + 8 * n + 64 < cLine) (hpre : pre s.heap)
    (ret : ∀ r h' tk', Fr h₀ L h' m → But news s.heap h' → post s.heap h' r → Q r { s with heap := h', toks := tk' }) :
    wpAny (model PySem.Challenge.rw_pg0217_01.row.prog w) (ktrTop dp un gd cn cs L a ccd cl outer) (call (.ref f) vs kw) Q E s := C _ _ _ _ _ _ _ _ _ _ _ _ _ _ _ _ _ B F X N T hk hd hu hpre ret
/-- a call that reads no object of the call's own -/
theorem useT (C : Ct w mean mg mb f n vs kw [] pre post) (B : Below A₀ base outer h₀) (F : Fr h₀ L s.heap m) (X : (hd.heap_39 w.params).In h₀) (N : News h₀ L s.heap big) (T : Top hd.view_39 loo mean mg mb h₀) (hk : cs.kind = .function) (hd : dp + n < recursionLimit) (hu : un + 8 * n + 64 < cLine) (hpre : pre s.heap)
    (ret : ∀ r h' tk', Fr h₀ L h' m → News h₀ L h' big → s.heap.StaysIn h' → post s.heap h' r → Q r { s with heap := h', toks := tk' }) :
    wpAny (model PySem.Challenge.rw_pg0217_01.row.prog w) (ktrTop dp un gd cn cs L a ccd cl outer) (call (.ref f) vs kw) Q E s :=
  use C B F X (fun _ hp => nomatch hp) T hk hd hu hpre fun r h' tk' F' b p => ret r h' tk' F' (fun q hq => ⟨b _ _ (N q hq).1 (by simp), (N q hq).2⟩) (fun x o e => b x o e (by simp)) p
end
end Mine
end
end
end
section
open PySem PySem.W PyProof.Rows PySem.Spec PySem.Calls
noncomputable section
namespace Mine
local macro_rules | `(tactic| walk_at "m args") => `(tactic| ((case kB => k_asm); (case kF => k_asm); (case kX => k_asm); (case kN => k_asm); (case kT => k_asm); (case kK => first | exact rfl | assumption); (case kd => ktr_room); (case ku => ktr_units)))
section
variable {prog : Program} {w : World} {A A₀ : Around} {s : Shared} {K : Frag} {L : Addr} {h₀ base : Heap} {m mg mb : Str → Option Value} {news : List (Addr × Obj)} {p : Program} {loose : List Str} {mean : ExcName → Option Value}
theorem enterC {env : Env} {outer : List Env} {R : Result → Shared → Prop} {name qual : Str} {params : Arguments} {body : List Stmt} {scope : Scope} {dV kV doc pm cdv ct oc : Value} {an od : Option Addr} {osl : Array (Option Value)} {f : Addr} {args : Args} {binds : List (Str × Value)}
    (B : Below A₀ base outer h₀) (F : Fr h₀ L s.heap m) (X₀ : K.In h₀) (N : News h₀ L s.heap news) (T : Top p loose mean mg mb h₀) (hA : A.frames = some (env :: outer)) (hf : env.frame = some L) (hke : env.scope.kind = .function)
    (ho : K.lookup f = some ⟨oc, od, .func (fnOf name qual params body scope dV kV doc pm an cdv ct), osl⟩) (hcd : codeIn K cdv qual = true) (hroom : A.depth < recursionLimit)
    (hbind : BindsTo s (fnOf name qual params body scope dV kV doc pm an cdv ct) args binds) (hkind : (binds.all fun y => scope.names.lookup y.1 == some .local || scope.names.lookup y.1 == some .cell) = true)
    (hnd : ((cellsFrom 0 scope.names []).map (·.1)).Nodup)
    (h : ∀ g L' h₁ tk cells, Fr h₀ L g m → Fr g L' h₁ (bindL (envOfC qual scope L' f cdv).kindOf binds fun _ => none) → News g L' h₁ (cells ++ news) →
      CellsAre (bindC (envOfC qual scope L' f cdv).kindOf binds fun _ => none) (cellsFrom (L' + 1) scope.names []) cells → Below A base (env :: outer) g → K.In g → Top p loose mean mg mb g → But news s.heap g → (∀ q ∈ news, q.1 < L') →
      wpAny (model prog w) (A.deeper (envOfC qual scope L' f cdv)) (execs body (envOfC qual scope L' f cdv))
        (fun fl s' => LeaveK h₀ L m g R (match fl with | .ret v => v | _ => .none) s')
        (fun e s' => wpAny (model prog w) (A.deeper (envOfC qual scope L' f cdv)) (leaving (envOfC qual scope L' f cdv) e) (fun _ s'' => R (.error e) s'') (fun e' s'' => R (.error e') s'') s')
        { s with heap := h₁, toks := tk })
    (hco : scope.isCoroutine = false) (hgen : scope.isGenerator = false) (hk : scope.kind = .function) : codeAny (model prog w) A (.call (.ref f) args) R s := by
  obtain ⟨FG, BG, st, lv⟩ := groundX (R := R) B F N hA hf hke
  refine codeAny_call_function (fd := fnX name qual params body scope [] dV kV doc pm an cdv ct) (body := body) hroom ((X₀.keeps F.keep) _ _ ho) rfl hco hgen rfl (codeRec_of (X₀.keeps F.keep) hcd) (hbind _ _ _ _ ?_)
  refine wpAny_newFunctionEnv_cells hk (kindsX hkind _) fun env' he s' x => ?_
  subst he
  refine ⟨(T.nolimit.keeps F.keep).keeps x.toInCall.keep, codeAny_func ?_⟩
  obtain ⟨h₁, tk, rfl, _⟩ := x.done
  have hk₁ := x.toInCall.keep
  obtain ⟨cells, NC, Y⟩ := Cl.news (h₀ := s.heap) (Nat.le_refl _) fun n c hm => ⟨x.cell n c (lookup_of_mem_nodup (cellsFrom_names scope.names 0 (s.heap.objs.size + 1) [] [] rfl ▸ hnd) hm), x.above n c hm⟩
  refine wpAny_mono (h _ s.heap.objs.size h₁ tk cells FG ⟨x.toInCall.ns, fun b o e => hk₁ b o (of_hideAll _ e), Nat.le_of_eq (hideAll_size _ _)⟩ (fun p hp => ?_) Y BG (X₀.keeps st) (T.keeps st) (fun b o e hn => hideAll_get _ e hn) (fun p hp => Heap.lt_size (N p hp).1)) (fun fl s' hl => lv _ _ hl) fun _ _ y => y
  rcases List.mem_append.mp hp with hp | hp
  · refine ⟨(NC p hp).1, (NC p hp).2.1, ?_⟩
    cases q : (hideAll s.heap (news.map (·.1))).get? p.1 with
    | none => rfl
    | some o => have := of_hideAll _ q; rw [(NC p hp).2.2] at this; cases this
  · exact ⟨hk₁ _ _ (N p hp).1, Nat.ne_of_lt (Heap.lt_size (N p hp).1), hideAll_none _ (List.mem_map_of_mem hp)⟩
theorem wp_of_peekA' {α : Type} {K : Frag} {M : Model} {A : Around} {E : Value → Shared → Prop} {Q : α → Shared → Prop} {s : Shared} {o : Obj} (X : K.In s.heap) :
    ∀ (t : Sem α) (g : Addr → Sem α), peekA K ⟨M.prog, M.w.params⟩ t = some (o, g) → wpAny M A (g s.heap.objs.size) Q E { s with heap := s.heap.push o } → wpAny M A t Q E s := by
  intro t
  induction t with
  | rule _ k ih => intro g e q Γ p hΓ; exact ih () g e q Γ p hΓ
  | point _ k ih => intro g e q Γ p hΓ; exact ih () g e q Γ p hΓ
  | ask k ih => intro g e q Γ p hΓ; exact ih _ g e q Γ p hΓ
  | load a _ k ih =>
    intro g e q Γ p hΓ
    simp only [peekA] at e
    split at e
    · rename_i ob ho; exact ⟨ob, X _ _ ho, ih ob g e q Γ p hΓ⟩
    · cases e
  | alloc ob k _ =>
    intro g e q
    have e : some (ob, k) = some (o, g) := e
    obtain ⟨e1, e2⟩ := Prod.mk.inj (Option.some.inj e)
    subst e1
    subst e2
    show wpAny M A (alloc ob >>= k) Q E s
    exact wpAny_bind (wpAny_alloc q)
  | _ => intro g e; cases e
end

end Mine
end
end
section
open PySem PySem.W PyProof.Rows PySem.Spec PySem.Calls
noncomputable section
namespace Mine
local macro_rules | `(tactic| walk_at "m args") => `(tactic| ((case kB => k_asm); (case kF => k_asm); (case kX => k_asm); (case kN => k_asm); (case kT => k_asm); (case kK => first | exact rfl | assumption); (case kd => ktr_room); (case ku => ktr_units)))
local macro_rules | `(tactic| walk_at "m stop") => `(tactic| first | (with_reducible show wpAny _ _ (eval (Expr.ListComp _ _ _ _) _) _ _ _) | (with_reducible show wpAny _ _ (exec (Stmt.For _ _ _ _ _) _) _ _ _) | (with_reducible show LCt.CompSrcT _ _ _ _ _ _ _ _ _ _ _ _ _ _ _) | (with_reducible show wpAny _ _ (pyIter _) (fun it s₂ => TurnsAt _ _ _ _ _ _ _ _ _ it s₂) _ _))
local macro_rules | `(tactic| walk_at "m steps") => `(tactic| repeat' (first | ((fail_if_success (walk_at "m stop")); first | (k_unfold; (try dsimp only)) | (k_end; wrow_close) | walk1 | (dsimp only; walk1) | (leave1; walk_say "STEP leave1"; try dsimp only))))
/-- the call goes on with the same frame, the same ledger -/
def Same (h₀ : Heap) (L : Addr) (m : Str → Option Value) (s : Shared) (news : List (Addr × Obj)) (s' : Shared) : Prop := ∃ h' tk', s' = { s with heap := h', toks := tk' } ∧ Fr h₀ L h' m ∧ News h₀ L h' news
section
variable {prog : Program} {w : World} {A : Around} {s : Shared} {h₀ : Heap} {L : Addr} {m : Str → Option Value} {env : Env}
theorem rest_filter {α : Type} (rs : List α) (f val : α → Value) (p : α → Bool) {ct elt : Expr} {x : Str} {scope : Scope} {cl : List (Str × Addr)} {S : List (Addr × Obj) → Prop} {Fin : List Value → List (Addr × Obj) → Prop} {news : List (Addr × Obj)} (hS : S news)
    (turn : ∀ r ∈ rs, ∀ I oI C oC D ys m₂ h tk (E' : Value → Shared → Prop), LCg.NsObj oC m₂ → m₂ x = some (f r) → Fr h₀ L h m → News h₀ L h ((I, oI) :: (C, oC) :: (D, LCg.lst ys) :: news) → LCg.Off3 I C D news → ((@Ne Nat I C) ∧ (@Ne Nat I D) ∧ (@Ne Nat C D)) →
      wpAny (model prog w) A (isTrue ct (compEnvC scope cl C env) (eval ct (compEnvC scope cl C env))) (fun ok s' => if ok = true then
        p r = true ∧ wpAny (model prog w) A (eval elt (compEnvC scope cl C env)) (fun y s'' => y = val r ∧ Same h₀ L m { s with heap := h, toks := tk } ((I, oI) :: (C, oC) :: (D, LCg.lst ys) :: news) s'') E' s'
        else p r = false ∧ Same h₀ L m { s with heap := h, toks := tk } ((I, oI) :: (C, oC) :: (D, LCg.lst ys) :: news) s') E' { s with heap := h, toks := tk })
    (fin : Fin ((rs.filter p).map val) news) :
    LCt.CompRestT prog w A h₀ L m env ct elt x scope cl s S (fun i v => (rs.map f).toArray[i]? = some v) Fin (rs.map f).toArray.size 0 [] news := by
  have key : ∀ (j i : Nat), i + j = rs.length → LCt.CompRestT prog w A h₀ L m env ct elt x scope cl s S (fun i v => (rs.map f).toArray[i]? = some v) Fin j i (((rs.take i).filter p).map val) news := by
    intro j
    induction j with
    | zero =>
      intro i hi
      have : rs.take i = rs := List.take_of_length_le (by omega)
      rw [this]
      exact LCt.CompRestT.zero fin
    | succ j ih =>
      intro i hi
      have hlt : i < rs.length := by omega
      refine LCt.CompRestT.succ fun v I oI C oC D m₂ h tk E' hP hoC hx F N off ne => ?_
      have hv : v = f (rs[i]'hlt) := by
        have : (rs.map f).toArray[i]? = some (f (rs[i]'hlt)) := by rw [List.getElem?_toArray, List.getElem?_map, List.getElem?_eq_getElem hlt]; rfl
        exact Option.some.inj (hP.symm.trans this)
      have ht : rs.take (i + 1) = rs.take i ++ [rs[i]'hlt] := by rw [List.take_add_one, List.getElem?_eq_getElem hlt]; rfl
      have nx := ih (i + 1) (by omega)
      refine wpAny_mono (turn (rs[i]'hlt) (List.getElem_mem hlt) I oI C oC D _ m₂ h tk E' hoC (hv ▸ hx) F N off ne) (fun ok s' q => ?_) fun _ _ e => e
      cases ok with
      | true =>
        simp only [if_true] at q ⊢
        obtain ⟨hp, q⟩ := q
        refine wpAny_mono q (fun y s'' z => ?_) fun _ _ e => e
        obtain ⟨rfl, h', tk', rfl, F', N'⟩ := z
        refine ⟨h', tk', news, rfl, F', N', off, hS, ?_⟩
        rw [ht, List.filter_append, List.map_append, List.filter_cons, hp] at nx
        exact nx
      | false =>
        simp only [Bool.false_eq_true, if_false] at q ⊢
        obtain ⟨hp, h', tk', rfl, F', N'⟩ := q
        refine ⟨h', tk', news, rfl, F', N', off, hS, ?_⟩
        rw [ht, List.filter_append, List.map_append, List.filter_cons, hp, if_neg Bool.false_ne_true, List.filter_nil, List.map_nil, List.append_nil] at nx
        exact nx
  have e : (rs.map f).toArray.size = rs.length := by rw [List.size_toArray, List.length_map]
  rw [e]
  exact key rs.length 0 (by omega)
end
/-- a row of a table: its tuple, the name, the value -/
structure HR where
  t : Addr
  n : Nat
  k : Str
  kt : Tok
  v : Str
  vt : Tok
def HR.obj (r : HR) : Obj := { cls := .type "tuple", data := .seq #[.str r.k r.kt, .str r.v r.vt] r.n }
def HR.ref (r : HR) : Value := .ref r.t
def HR.value (r : HR) : Value := .str r.v r.vt
def RowsAt (h : Heap) (rs : List HR) : Prop := ∀ r ∈ rs, h.get? r.t = some r.obj
/-- the ledger of a table: the object, its dict, its list -/
abbrev tab (x dx l : Addr) (hsh : Int) (tk : Tok) (n k : Nat) (vs : List Value) : List (Addr × Obj) := [(x, instObj 175 dx), (dx, dictOf [⟨hsh, .str (Str.ofString "_headers") tk, .ref l⟩] n), (l, listOf vs.toArray k)]
theorem rows_but {h g h₀ : Heap} {L : Addr} {news : List (Addr × Obj)} {rs : List HR} (R : RowsAt h rs) (b : But news h g) (N : News h₀ L h news) (hc : ∀ p ∈ news, p.2.cls ≠ .type "tuple") : RowsAt g rs := fun r hr => by
  refine b _ _ (R r hr) fun hm => ?_
  obtain ⟨p, hp, e⟩ := List.mem_map.mp hm
  have h1 := (N p hp).1
  rw [e, R r hr] at h1
  exact hc p hp ((congrArg Obj.cls (Option.some.inj h1)).symm)
theorem tab_cls {x dx l : Addr} {hsh : Int} {tk : Tok} {n k : Nat} {vs : List Value} : ∀ p ∈ tab x dx l hsh tk n k vs, p.2.cls ≠ .type "tuple" := by
  intro p hp
  rcases List.mem_cons.mp hp with rfl | hp
  · intro e; cases e
  · rcases List.mem_cons.mp hp with rfl | hp
    · intro e; simp at e
    · rw [List.mem_singleton.mp hp]; intro e; simp [W.listOf] at e
theorem RowsAt.tup {h : Heap} {rs : List HR} (R : RowsAt h rs) {r : HR} (hr : r ∈ rs) : IsTup h r.t #[.str r.k r.kt, .str r.v r.vt] := ⟨_, R r hr, rfl, r.n, rfl⟩
theorem off1_all {D : Addr} : ∀ {l : List (Addr × Obj)}, LCg.Off1 D l → ∀ p ∈ l, D ≠ p.1
  | [], _, _, h => nomatch h
  | _ :: _, x, p, h => by
    rcases List.mem_cons.mp h with rfl | h
    · exact fun e => x.1 e.symm
    · exact off1_all x.2 p h
/-- one new object at the end of a call -/
theorem end_one {h g h' h₀ : Heap} {L' D : Addr} {o : Obj} {news all : List (Addr × Obj)} (b : But news h g) (N' : News g L' h' all) (hm : (D, o) ∈ all) (hn : ∀ q ∈ news, D ≠ q.1) : h.get? D = none ∧ h'.get? D = some o := by
  have := end_new (tl := [(D, o)]) b (fun p hp => N' p (by rw [List.mem_singleton.mp hp]; exact hm)) (fun p hp q hq => by rw [List.mem_singleton.mp hp]; exact hn q hq) (D, o) (.head _)
  exact ⟨this.2, this.1⟩

end Mine
end
end
section
open PySem PySem.W PyProof.Rows PySem.Spec PySem.Calls
noncomputable section
namespace Mine
local macro_rules | `(tactic| walk_at "m args") => `(tactic| ((case kB => k_asm); (case kF => k_asm); (case kX => k_asm); (case kN => k_asm); (case kT => k_asm); (case kK => first | exact rfl | assumption); (case kd => ktr_room); (case ku => ktr_units)))
local macro_rules | `(tactic| walk_at "m stop") => `(tactic| first | (with_reducible show wpAny _ _ (eval (Expr.ListComp _ _ _ _) _) _ _ _) | (with_reducible show wpAny _ _ (exec (Stmt.For _ _ _ _ _) _) _ _ _) | (with_reducible show LCt.CompSrcT _ _ _ _ _ _ _ _ _ _ _ _ _ _ _) | (with_reducible show wpAny _ _ (pyIter _) (fun it s₂ => TurnsAt _ _ _ _ _ _ _ _ _ it s₂) _ _))
local macro_rules | `(tactic| walk_at "m steps") => `(tactic| repeat' (first | ((fail_if_success (walk_at "m stop")); first | (k_unfold; (try dsimp only)) | (k_end; wrow_close) | walk1 | (dsimp only; walk1) | (leave1; walk_say "STEP leave1"; try dsimp only))))
theorem wp_listItems {M : Model} {A : Around} {E : Value → Shared → Prop} {s : Shared} {l : Addr} {o : Obj} {xs : Array Value} {n : Nat} {Q : Array Value → Shared → Prop} (ho : s.heap.get? l = some o) (hd : o.data = .seq xs n) (h : Q xs s) : wpAny M A (Builtin.List.listItems (.ref l)) Q E s := by
  unfold Builtin.List.listItems
  exact wpAny_bind (wpAny_seqItems ho hd (wpAny_pure h))
open Builtin Builtin.List in
theorem setItem_all {prog : Program} {w : World} {A : Around} {E : Value → Shared → Prop} {s : Shared} {l sl d : Addr} {items new : Array Value} {k : Nat} {Q : Unit → Shared → Prop} (ho : s.heap.get? l = some (W.listOf items k))
    (hs : s.heap.IsSliceOf sl .none .none .none) (hn : s.heap.IsList d new) (hne : l ≠ d) (hz : items.size + new.size ≤ sizeLine)
    (hQ : ∀ h' k', h'.get? l = some (W.listOf new k') → Heap.SameBut l s.heap h' → Q () { s with heap := h' }) : wpAny (model prog w) A (setItem (.ref l) (.ref sl) (.ref d)) Q E s := by
  have hl : s.heap.IsList l items := ⟨_, ho, rfl, k, rfl⟩
  obtain ⟨os, hos, hcs, hds⟩ := id hs
  obtain ⟨on, hon, hcn, kn, hdn⟩ := id hn
  have hTs : s.TypeIs (.ref sl) "slice" := ⟨os, hos, hcs⟩
  have hTn : s.TypeIs (.ref d) "list" := ⟨on, hon, hcn⟩
  unfold setItem
  try with_reducible refine wpAny_holding ?_
  first | refine wpAny_bind (wpAny_pure ?_) | skip
  refine wpAny_bind (wpAny_sequenceKey hl.typeIs (by decide) ?_)
  refine wpAny_bind (wpAny_callSpecial?_slot (name := Str.ofString "__setitem__") hl.typeIs slot_list_setitem
    (wpAny_call_entry slot_list_setitem hl.typeIs entry_list_setitem ?_ (args_list_setitem _ _ _)))
  show wpAny _ _ (Builtin.List.listSubscript? (.ref sl) >>= _) _ _ s
  refine wpAny_bind ?_
  unfold Builtin.List.listSubscript?
  refine wpAny_bind (wpAny_specialOf hTs slice_no_index ?_)
  simp only [Option.isNone_none, if_true]
  refine wpAny_pure ?_
  show wpAny _ _ (typeOf (.ref sl) >>= _) _ _ s
  refine wpAny_bind (wpAny_typeOf hTs ?_)
  rw [if_neg (by decide)]
  rw [listSliceParts_eq]
  refine wpAny_bind (wpAny_bind (wpAny_field hos hds (x := .none) rfl (wpAny_bind (wpAny_listPart .none ?_))))
  rw [if_neg (show ¬ ((rawPart none == rawInt 0) = true) from Bool.false_ne_true)]
  refine wpAny_bind (wpAny_field hos hds (x := .none) rfl (wpAny_bind (wpAny_listPart .none ?_)))
  refine wpAny_bind (wpAny_field hos hds (x := .none) rfl (wpAny_bind (wpAny_listPart .none (wpAny_pure ?_))))
  have hsame : ¬ (listSameRef (.ref l) (.ref d) = true) := fun e => hne (by simpa [listSameRef] using e)
  rw [if_neg hsame]
  unfold listAllItems
  refine wpAny_bind (wpAny_bind (wpAny_typeOf hTn ?_))
  rw [if_pos (by decide)]
  refine wp_listItems hon hdn ?_
  refine wpAny_bind (m := listItems (.ref l)) (wp_listItems ho rfl ?_)
  refine wpAny_bind (wpAny_of_eq (sliceIndices_raw none none none items.size (by simp)) ?_)
  have e1 : sliceBounds none none none items.size = (0, (items.size : Int), 1) := rfl
  rw [e1]
  rw [if_pos (show ((1 : Int) == 1) = true from rfl)]
  refine wpAny_bind (wpAny_rule ?_)
  have hlong : ¬ (listTooLong (items.size + new.size) = true) := by
    unfold listTooLong
    simpa using hz
  rw [if_neg hlong]
  have ef : items.extract 0 (0 : Int).toNat ++ new ++ items.extract (max (0 : Int) (items.size : Int)).toNat items.size = new := by
    have a1 : (max (0 : Int) (items.size : Int)).toNat = items.size := by omega
    rw [a1]
    simp
  unfold listUpdate
  refine wpAny_bind (wpAny_updateSeq (xs := items) (n := k) ho rfl ?_ (by omega) (by
    show (items.extract 0 (0 : Int).toNat ++ new ++ items.extract (max (0 : Int) (items.size : Int)).toNat items.size).size ≤ sizeLine + 1
    rw [ef]; omega))
  refine wpAny_bind (wpAny_letGo (wpAny_bind (wpAny_pure (wpAny_pure ⟨_, rfl, wpAny_pure ?_⟩))))
  have eo : Obj.mapSeq (fun xs => xs.extract 0 (0 : Int).toNat ++ new ++ xs.extract (max (0 : Int) (items.size : Int)).toNat xs.size) (W.listOf items k) = W.listOf new (if new.size == items.size then k else k + 1) := by
    show (⟨.type "list", none, .seq (items.extract 0 (0 : Int).toNat ++ new ++ items.extract (max (0 : Int) (items.size : Int)).toNat items.size) (if (items.extract 0 (0 : Int).toNat ++ new ++ items.extract (max (0 : Int) (items.size : Int)).toNat items.size).size == items.size then k else k + 1), #[]⟩ : Obj) = _
    rw [ef]
  have hg : (s.heap.update l (Obj.mapSeq (fun xs => xs.extract 0 (0 : Int).toNat ++ new ++ xs.extract (max (0 : Int) (items.size : Int)).toNat xs.size))).get? l = some (W.listOf new (if new.size == items.size then k else k + 1)) := (Heap.get?_update_self _ ho rfl).trans (congrArg some eo)
  exact hQ _ _ hg (Heap.SameBut.update ..)
theorem fr_same {h₀ h h' : Heap} {L l : Addr} {m : Str → Option Value} (F : Fr h₀ L h m) (hs : Heap.SameBut l h h') (hl : L ≠ l) (h0 : h₀.get? l = none) : Fr h₀ L h' m :=
  ⟨F.ns.sameBut hs hl, fun b o e => (hs.2 b (fun q => by rw [q, h0] at e; cases e)).trans (F.keep b o e), F.above⟩
theorem tab_set {h₀ h h' : Heap} {L x dx l : Addr} {hsh : Int} {tk : Tok} {n k k' : Nat} {vs vs' : List Value} (N : News h₀ L h (tab x dx l hsh tk n k vs)) (hs : Heap.SameBut l h h') (ho : h'.get? l = some (W.listOf vs'.toArray k')) : News h₀ L h' (tab x dx l hsh tk n k' vs') := fun p hp => by
  have hL := N (l, W.listOf vs.toArray k) (by k_mem)
  rcases List.mem_cons.mp hp with rfl | hp
  · have hX := N (x, instObj 175 dx) (by k_mem)
    refine ⟨(hs.2 x fun e => ?_).trans hX.1, hX.2⟩
    have h1 := hX.1
    rw [show (x, instObj 175 dx).1 = l from e, hL.1] at h1
    cases congrArg Obj.cls (Option.some.inj h1)
  · rcases List.mem_cons.mp hp with rfl | hp
    · have hX := N (dx, dictOf [⟨hsh, .str (Str.ofString "_headers") tk, .ref l⟩] n) (by k_mem)
      refine ⟨(hs.2 dx fun e => ?_).trans hX.1, hX.2⟩
      have h1 := hX.1
      rw [show (dx, dictOf [⟨hsh, .str (Str.ofString "_headers") tk, .ref l⟩] n).1 = l from e, hL.1] at h1
      have := congrArg Obj.cls (Option.some.inj h1)
      simp at this
    · rw [List.mem_singleton.mp hp]
      exact ⟨ho, hL.2⟩
theorem tab_ne {h₀ h : Heap} {L x dx l : Addr} {hsh : Int} {tk : Tok} {n k : Nat} {vs : List Value} (N : News h₀ L h (tab x dx l hsh tk n k vs)) : (@Ne Nat x l) ∧ (@Ne Nat dx l) ∧ (@Ne Nat x dx) := by
  have hL := N (l, W.listOf vs.toArray k) (by k_mem)
  have hX := N (x, instObj 175 dx) (by k_mem)
  have hD := N (dx, dictOf [⟨hsh, .str (Str.ofString "_headers") tk, .ref l⟩] n) (by k_mem)
  refine ⟨fun e => ?_, fun e => ?_, fun e => ?_⟩
  · have h1 := hX.1
    rw [show (x, instObj 175 dx).1 = l from e, hL.1] at h1
    cases congrArg Obj.cls (Option.some.inj h1)
  · have h1 := hD.1
    rw [show (dx, dictOf [⟨hsh, .str (Str.ofString "_headers") tk, .ref l⟩] n).1 = l from e, hL.1] at h1
    have := congrArg Obj.cls (Option.some.inj h1)
    simp at this
  · have h1 := hX.1
    rw [show (x, instObj 175 dx).1 = dx from e, hD.1] at h1
    cases congrArg Obj.cls (Option.some.inj h1)
section
variable {w : World} {mean : ExcName → Option Value} {mg mb : Str → Option Value} {f : Addr} {nn : Nat} {vs : List Value} {kw : List (Str × Value)} {pre : Heap → Prop} {post : Heap → Heap → Value → Prop}
  {dp un : Nat} {gd : Option (List Code)} {cn : Str} {cs : Scope} {a : Addr} {ccd : Value} {cl : List (Str × Addr)} {outer : List Env} {A₀ : Around} {base h₀ : Heap} {L : Addr} {m : Str → Option Value} {s : Shared} {Q E : Value → Shared → Prop} {big : List (Addr × Obj)}
  {x dx l : Addr} {hsh : Int} {tk : Tok} {n k : Nat} {us ws : List Value} {rv : Value}
/-- a call that may turn one table -/
theorem use_tab (C : Ct w mean mg mb f nn vs kw (tab x dx l hsh tk n k us) pre (fun _ h' r => r = rv ∧ ∃ k', ∀ p ∈ tab x dx l hsh tk n k' ws, h'.get? p.1 = some p.2)) (B : Below A₀ base outer h₀) (F : Fr h₀ L s.heap m) (X : (hd.heap_39 w.params).In h₀) (N : News h₀ L s.heap (tab x dx l hsh tk n k us)) (T : Top hd.view_39 loo mean mg mb h₀) (hk : cs.kind = .function) (hd : dp + nn < recursionLimit) (hu : un + 8 * nn + 64 < cLine) (hpre : pre s.heap)
    (ret : ∀ k' h' tk', Fr h₀ L h' m → News h₀ L h' (tab x dx l hsh tk n k' ws) → But (tab x dx l hsh tk n k us) s.heap h' → Q rv { s with heap := h', toks := tk' }) :
    wpAny (model PySem.Challenge.rw_pg0217_01.row.prog w) (ktrTop dp un gd cn cs L a ccd cl outer) (call (.ref f) vs kw) Q E s :=
  use C B F X N T hk hd hu hpre fun r h' tk' F' b p => by
    obtain ⟨rfl, k', hp⟩ := p
    refine ret k' h' tk' F' (fun q hq => ⟨hp q hq, ?_⟩) b
    rcases List.mem_cons.mp hq with rfl | hq
    · exact (N (x, instObj 175 dx) (by k_mem)).2
    · rcases List.mem_cons.mp hq with rfl | hq
      · exact (N (dx, dictOf [⟨hsh, .str (Str.ofString "_headers") tk, .ref l⟩] n) (by k_mem)).2
      · rw [List.mem_singleton.mp hq]
        exact (N (l, W.listOf us.toArray k) (by k_mem)).2
end
section
variable {prog : Program} {w : World} {A : Around} {E : Value → Shared → Prop} {s : Shared} {env : Env} {h₀ : Heap} {target : Expr} {body : List Stmt} {Q : Flow → Shared → Prop} {ws : List (Addr × String)} {keep : List (Addr × Obj)}
/-- a loop by what holds of the items left, the frame and the ledger -/
theorem items_rest {α : Type} (f : α → Itm) (J : List α → (Str → Option Value) → List (Addr × Obj) → Prop)
    (step : ∀ r rest m₁ news₁, J (r :: rest) m₁ news₁ → ∀ v h tk, (f r).Is v h → Fr h₀ env.locals h m₁ → AllObj ws (fun its => News h₀ env.locals h (its ++ news₁) →
      wpAny (model prog w) A (assign target env v) (fun _ s₂ => wpAny (model prog w) A (execs body env) (UnrPostW h₀ env.locals { s with heap := h, toks := tk } its (fun m' n' => SubL keep n' ∧ J rest m' n') Q) E s₂) E { s with heap := h, toks := tk }))
    (fin : ∀ m₁ news₁ h tk, J [] m₁ news₁ → Fr h₀ env.locals h m₁ → News h₀ env.locals h news₁ → Q .next { s with heap := h, toks := tk }) :
    ∀ (rs : List α) (m : Str → Option Value) (news : List (Addr × Obj)), J rs m news → ItemsRest prog w A E h₀ env target body Q s ws keep (rs.map f) m news := by
  have allMono : ∀ (ws : List (Addr × String)) (k k' : List (Addr × Obj) → Prop), (∀ its, k its → k' its) → AllObj ws k → AllObj ws k' := by
    intro ws
    induction ws with
    | nil => exact fun k k' hk h => hk _ h
    | cons a r ih => exact fun k k' hk h o ho => ih _ _ (fun its => hk _) (h o ho)
  intro rs
  induction rs with
  | nil => exact fun m news hJ h tk F N => fin m news h tk hJ F N
  | cons r rest ih =>
    intro m news hJ v h tk hv F
    refine allMono ws _ _ (fun its q N => ?_) (step r rest m news hJ v h tk hv F)
    refine wpAny_mono (q N) (fun _ s₂ q₂ => wpAny_mono q₂ (fun fl s₃ q₃ => ?_) fun _ _ e => e) fun _ _ e => e
    have hend : ∀ s₃, UnrEndW h₀ env.locals { s with heap := h, toks := tk } its (fun m' n' => SubL keep n' ∧ J rest m' n') s₃ → UnrEndW h₀ env.locals { s with heap := h, toks := tk } its (fun m' n' => SubL keep n' ∧ ItemsRest prog w A E h₀ env target body Q s ws keep (rest.map f) m' n') s₃ := by
      rintro s₃ ⟨h', tk', m', news', e, F', N', ho, hk, hJ'⟩
      exact ⟨h', tk', m', news', e, F', N', ho, hk, ih m' news' hJ'⟩
    cases fl with
    | ret v => exact q₃
    | brk => exact q₃
    | next => exact hend _ q₃
    | cont => exact hend _ q₃
end
theorem look_ne {a y : Str} {u v X : Option Value} (h : ¬ y = a) (hm : X = v) : (if y = a then u else X) = v := by rw [if_neg h]; exact hm
theorem own_delItem {M : Model} {A : Around} {E : Value → Shared → Prop} {s : Shared} {K : Frag} {x C L f : Addr} {h₀ : Heap} {m : Str → Option Value} {ox : Obj} {od : Option Obj} {i : Value} {Q : Unit → Shared → Prop} (F : Fr h₀ L s.heap m) (X₀ : K.In h₀) (I : InstAt s.heap x ox C od) (hq : noSeq K C = true) (hs : findIn K (.ref C) "__delitem__" = some (some (.ref f))) (hf : isFn K (.ref f) = true)
    (h : wpAny M A (call (.ref f) [.ref x, i]) (fun _ s' => Q () s') E s) : wpAny M A (delItem (.ref x) i) Q E s := by
  have X := X₀.keeps F.keep
  unfold delItem sequenceKey
  refine wpAny_holding (wpAny_bind (wpAny_bind (I.type.here ?_)))
  refine wpAny_bind ((anyM_none X hq).here ?_)
  rw [if_pos (show (!false) = true from rfl)]
  exact wpAny_pure (wpAny_bind (special_fn X I hs (beq_iff_eq.mp hf) (wpAny_mono h (fun _ _ z => wpAny_pure z) fun _ _ z => z)))
theorem tab_off {g h : Heap} {L x dx l D : Addr} {hsh : Int} {tk : Tok} {n k k' : Nat} {vs vs' : List Value} {o : Obj} {all : List (Addr × Obj)} (N : News g L h all) (hD : (D, o) ∈ all) (ho : o.cls = .type "tuple") (ht : ∀ p ∈ tab x dx l hsh tk n k' vs', p ∈ all) : ∀ q ∈ tab x dx l hsh tk n k vs, D ≠ q.1 := by
  have key : ∀ q ∈ tab x dx l hsh tk n k' vs', D ≠ q.1 := fun q hq e => by
    have h1 := (N _ hD).1
    have h2 := (N _ (ht q hq)).1
    rw [show (D, o).1 = q.1 from e, h2] at h1
    exact tab_cls q hq ((congrArg Obj.cls (Option.some.inj h1)).trans ho)
  intro q hq
  rcases List.mem_cons.mp hq with rfl | hq
  · exact key (x, instObj 175 dx) (by k_mem)
  · rcases List.mem_cons.mp hq with rfl | hq
    · exact key (dx, dictOf [⟨hsh, .str (Str.ofString "_headers") tk, .ref l⟩] n) (by k_mem)
    · rw [List.mem_singleton.mp hq]
      exact key (l, W.listOf vs'.toArray k') (by k_mem)
theorem rows_push (us : List HR) (R : HR) : (us.map HR.ref).toArray.push (.ref R.t) = ((us ++ [R]).map HR.ref).toArray := by
  rw [List.push_toArray, List.map_append]; rfl

end Mine
end
end
section
open PySem PySem.W PyProof.Rows PySem.Spec PySem.Calls
noncomputable section
namespace Mine
local macro_rules | `(tactic| walk_at "m args") => `(tactic| ((case kB => k_asm); (case kF => k_asm); (case kX => k_asm); (case kN => k_asm); (case kT => k_asm); (case kK => first | exact rfl | assumption); (case kd => ktr_room); (case ku => ktr_units)))
local macro_rules | `(tactic| walk_at "m stop") => `(tactic| first | (with_reducible show wpAny _ _ (exec (Stmt.Assign _ (Expr.ListComp _ _ _ _) _) _) _ _ _) | (with_reducible show wpAny _ _ (eval (Expr.ListComp _ _ _ _) _) _ _ _) | (with_reducible show wpAny _ _ (exec (Stmt.For _ _ _ _ _) _) _ _ _) | (with_reducible show LCt.CompSrcT _ _ _ _ _ _ _ _ _ _ _ _ _ _ _) | (with_reducible show wpAny _ _ (pyIter _) (fun it s₂ => TurnsAt _ _ _ _ _ _ _ _ _ it s₂) _ _))
local macro_rules | `(tactic| walk_at "m steps") => `(tactic| repeat' (first | ((fail_if_success (walk_at "m stop")); first | (k_unfold; (try dsimp only)) | (k_end; wrow_close) | walk1 | (dsimp only; walk1) | (leave1; walk_say "STEP leave1"; try dsimp only))))
section
variable {prog : Program} {w : World} {A A₀ : Around} {s : Shared} {K : Frag} {L : Addr} {h₀ base : Heap} {m mg mb : Str → Option Value} {news : List (Addr × Obj)} {p : Program} {loose : List Str} {mean : ExcName → Option Value}
theorem enterN {env : Env} {outer : List Env} {R : Result → Shared → Prop} {name qual : Str} {params : Arguments} {body : List Stmt} {scope : Scope} {dV kV doc pm cdv ct oc : Value} {an od : Option Addr} {osl : Array (Option Value)} {f : Addr} {args : Args} {binds : Addr → List (Str × Value)} {g₁ : Addr → Sem (List (Str × Value))}
    (B : Below A₀ base outer h₀) (F : Fr h₀ L s.heap m) (X₀ : K.In h₀) (N : News h₀ L s.heap news) (T : Top p loose mean mg mb h₀) (hA : A.frames = some (env :: outer)) (hf : env.frame = some L) (hke : env.scope.kind = .function)
    (ho : K.lookup f = some ⟨oc, od, .func (fnOf name qual params body scope dV kV doc pm an cdv ct), osl⟩) (hcd : codeIn K cdv qual = true) (hroom : A.depth < recursionLimit)
    (hp : peekA K ⟨prog, w.params⟩ (bindArgs (fnOf name qual params body scope dV kV doc pm an cdv ct) args) = some (dictOf [] 0, g₁))
    (hk₁ : ∀ D, g₁ D = pure (binds D))
    (hloc : ∀ D, ∀ y ∈ binds D, scope.names.lookup y.1 = some .local)
    (h : ∀ D g L' h₁ tk, (D == sysModules) = false → (∀ p ∈ news, p.1 < D) → Fr h₀ L g m → Fr g L' h₁ (fun y => (binds D).reverse.lookup y) → News g L' h₁ ((D, dictOf [] 0) :: news) → Below A base (env :: outer) g → K.In g → Top p loose mean mg mb g → But news s.heap g →
      wpAny (model prog w) (A.deeper (envOf qual scope L' f cdv)) (execs body (envOf qual scope L' f cdv))
        (fun fl s' => LeaveK h₀ L m g R (match fl with | .ret v => v | _ => .none) s')
        (fun e s' => wpAny (model prog w) (A.deeper (envOf qual scope L' f cdv)) (leaving (envOf qual scope L' f cdv) e) (fun _ s'' => R (.error e) s'') (fun e' s'' => R (.error e') s'') s')
        { s with heap := h₁, toks := tk })
    (hco : scope.isCoroutine = false) (hgen : scope.isGenerator = false) (hk : scope.kind = .function)
    (hcell : ∀ x ∈ scope.names, x.2 ≠ .cell) : codeAny (model prog w) A (.call (.ref f) args) R s := by
  refine codeAny_call_function (fd := fnOf name qual params body scope dV kV doc pm an cdv ct) (body := body) hroom ((X₀.keeps F.keep) _ _ ho) rfl hco hgen rfl (codeRec_of (X₀.keeps F.keep) hcd) ?_
  refine wp_of_peekA' (o := dictOf [] 0) (X₀.keeps F.keep) _ g₁ hp ?_
  rw [hk₁]
  refine wpAny_pure ?_
  have F'' : Fr h₀ L (s.heap.push (dictOf [] 0)) m := F.push _
  have N'' : News h₀ L (s.heap.push (dictOf [] 0)) ((s.heap.objs.size, dictOf [] 0) :: news) := News.push F N _ rfl
  obtain ⟨FG, BG, st, lv⟩ := groundX (s := { s with heap := s.heap.push (dictOf [] 0) }) (R := R) B F'' N'' hA hf hke
  refine wpAny_newFunctionEnv hcell (hloc _) (fun h₁ hns hsb => ⟨(T.nolimit.keeps F''.keep).fresh _ hsb, codeAny_func ?_⟩) hk
  have hk₁ : ∀ b o, (s.heap.push (dictOf [] 0)).get? b = some o → h₁.get? b = some o := fun b o e => hsb.extBut b o (Nat.ne_of_lt (Heap.lt_size e)) (Heap.get?_push_of_some _ e)
  refine wpAny_mono (h s.heap.objs.size _ (s.heap.push (dictOf [] 0)).objs.size h₁ _ (F.notModules (modules_low T.nolimit)) (fun p hp => Heap.lt_size (N p hp).1) FG ⟨hns, fun b o e => hk₁ b o (of_hideAll _ e), Nat.le_of_eq (hideAll_size _ _)⟩
    (fun p hp => ⟨hk₁ _ _ (N'' p hp).1, Nat.ne_of_lt (Heap.lt_size (N'' p hp).1), hideAll_none _ (List.mem_map_of_mem hp)⟩) BG (X₀.keeps st) (T.keeps st) (fun b o e hn => hideAll_get _ (Heap.get?_push_of_some _ e) fun hm => ?_)) (fun fl s' hl => lv _ _ hl) fun _ _ y => y
  rcases List.mem_cons.mp (show b ∈ s.heap.objs.size :: news.map (·.1) from hm) with q | q
  · exact absurd (Heap.lt_size e) (by rw [q]; exact Nat.lt_irrefl _)
  · exact hn q
end
theorem ne_of_news {g h : Heap} {L l : Addr} {o : Obj} {news : List (Addr × Obj)} (N : News g L h news) (hm : (l, o) ∈ news) : (@Ne Nat h.objs.size l) := Nat.ne_of_gt (Heap.lt_size (N _ hm).1)
theorem fmod2 (a : Int) : Int.fmod a 2 = a % 2 := Int.fmod_eq_emod_of_nonneg a (by decide)

end Mine
end
end
section
open PySem PySem.W PyProof.Rows PySem.Spec PySem.Calls
noncomputable section
namespace Mine
local macro_rules | `(tactic| walk_at "m args") => `(tactic| ((case kB => k_asm); (case kF => k_asm); (case kX => k_asm); (case kN => k_asm); (case kT => k_asm); (case kK => first | exact rfl | assumption); (case kd => ktr_room); (case ku => ktr_units)))
local macro_rules | `(tactic| walk_at "m stop") => `(tactic| first | (with_reducible show wpAny _ _ (eval (Expr.ListComp _ _ _ _) _) _ _ _) | (with_reducible show wpAny _ _ (exec (Stmt.For _ _ _ _ _) _) _ _ _) | (with_reducible show LCt.CompSrcT _ _ _ _ _ _ _ _ _ _ _ _ _ _ _) | (with_reducible show wpAny _ _ (pyIter _) (fun it s₂ => TurnsAt _ _ _ _ _ _ _ _ _ it s₂) _ _))
local macro_rules | `(tactic| walk_at "m steps") => `(tactic| repeat' (first | ((fail_if_success (walk_at "m stop")); first | (k_unfold; (try dsimp only)) | (k_end; wrow_close) | walk1 | (dsimp only; walk1) | (leave1; walk_say "STEP leave1"; try dsimp only))))
/-- a word's objects -/
inductive WordIn : List (Addr × Obj) → Value → List (Int × Int) → Prop
  | nil (l : Addr) (n : Nat) : WordIn [(l, W.listOf #[] n)] (.ref l) []
  | one (l a : Addr) (n k : Nat) (f b : Int) (t u : Tok) : 0 ≤ f → f < 32 → 0 ≤ b → b < 2 → WordIn [(l, W.listOf #[.ref a] n), (a, { cls := .type "tuple", data := .seq #[.int f t, .int b u] k })] (.ref l) [(f, b)]
  | two (l a c : Addr) (n k j : Nat) (f b f' b' : Int) (t u t' u' : Tok) : 0 ≤ f → f < 32 → 0 ≤ b → b < 2 → 0 ≤ f' → f' < 32 → 0 ≤ b' → b' < 2 → (@Ne Nat a c) →
      WordIn [(l, W.listOf #[.ref a, .ref c] n), (a, { cls := .type "tuple", data := .seq #[.int f t, .int b u] k }), (c, { cls := .type "tuple", data := .seq #[.int f' t', .int b' u'] j })] (.ref l) [(f, b), (f', b')]
def sg (turned : Int) (q : Int × Int) : Nat := (64 + q.1 + Int.fmod (q.2 + turned) 2 * 32).toNat + 128
def nmOf (turned : Int) (w : List (Int × Int)) : Str := Str.mk (w.map (sg turned)).toArray
def nkV (turned f b : Int) : Int := if ([23, 31].any fun x => x == f) = true then Int.fmod (b + turned) 2 else 0
theorem nkVt {turned f b : Int} (h : ([23, 31].any fun x => x == f) = true) : nkV turned f b = Int.fmod (b + turned) 2 := by unfold nkV; rw [if_pos h]
theorem nkVf {turned f b : Int} (h : ([23, 31].any fun x => x == f) = false) : nkV turned f b = 0 := by unfold nkV; rw [if_neg (by rw [h]; exact Bool.false_ne_true)]
def nkOf (turned : Int) (w : List (Int × Int)) : List (Int × Int) := w.map fun q => (q.1, nkV turned q.1 q.2)
def nkDat (k : List (Int × Int)) : Dat := .list (k.map fun q => .tuple [.int q.1, .int q.2])
def fkDat (k : List Int) : Dat := .list (k.map .int)
/-- new objects -/
def New (h h' : Heap) (led : List (Addr × Obj)) : Prop := ∀ p ∈ led, h'.get? p.1 = some p.2 ∧ h.get? p.1 = none
theorem end_fresh {h g h' : Heap} {L' D : Addr} {o : Obj} {news all : List (Addr × Obj)} (b : But news h g) (N' : News g L' h' all) (hm : (D, o) ∈ all) (hn : ∀ q ∈ news, q.1 ≠ D) : h'.get? D = some o ∧ h.get? D = none :=
  let z := end_one (h₀ := h) b N' hm (fun q hq e => hn q hq e.symm); ⟨z.2, z.1⟩
theorem fmod01 {b tn : Int} (h3 : 0 ≤ b) (h4 : b < 2) (ht : tn = 0 ∨ tn = 1) : 0 ≤ Int.fmod (b + tn) 2 ∧ Int.fmod (b + tn) 2 < 2 := by
  rw [fmod2]; omega

end Mine
end
end
section
open PySem PySem.W PyProof.Rows PySem.Spec PySem.Calls
noncomputable section
namespace Mine
local macro_rules | `(tactic| walk_at "m args") => `(tactic| ((case kB => k_asm); (case kF => k_asm); (case kX => k_asm); (case kN => k_asm); (case kT => k_asm); (case kK => first | exact rfl | assumption); (case kd => ktr_room); (case ku => ktr_units)))
local macro_rules | `(tactic| walk_at "m stop") => `(tactic| first | (with_reducible show wpAny _ _ (eval (Expr.ListComp _ _ _ _) _) _ _ _) | (with_reducible show wpAny _ _ (exec (Stmt.For _ _ _ _ _) _) _ _ _) | (with_reducible show LCt.CompSrcT _ _ _ _ _ _ _ _ _ _ _ _ _ _ _) | (with_reducible show wpAny _ _ (pyIter _) (fun it s₂ => TurnsAt _ _ _ _ _ _ _ _ _ it s₂) _ _))
local macro_rules | `(tactic| walk_at "m steps") => `(tactic| repeat' (first | ((fail_if_success (walk_at "m stop")); first | (k_unfold; (try dsimp only)) | (k_end; wrow_close) | walk1 | (dsimp only; walk1) | (leave1; walk_say "STEP leave1"; try dsimp only))))
section
variable {prog : Program} {w : World} {A : Around} {E : Value → Shared → Prop} {s : Shared} {D : Addr} {sep : Str} {t : Tok} {Q : Value → Shared → Prop}
theorem join_one {x : Str} {u : Tok} (ho : s.heap.get? D = some (LCg.lst [.str x u])) (hok : PySem.JoinOk sep [x] = true) (h : ∀ t' k, Q (.str (Txt.join sep [x]) t') { s with toks := k }) : wpAny (model prog w) A (call (.builtin "str.join") [.str sep t, .ref D]) Q E s :=
  SC.join (l := [(x, u)]) ⟨_, ho, rfl, _, rfl⟩ rfl hok h
theorem join_two {x y : Str} {u v : Tok} (ho : s.heap.get? D = some (LCg.lst [.str x u, .str y v])) (hok : PySem.JoinOk sep [x, y] = true) (h : ∀ t' k, Q (.str (Txt.join sep [x, y]) t') { s with toks := k }) : wpAny (model prog w) A (call (.builtin "str.join") [.str sep t, .ref D]) Q E s :=
  SC.join (l := [(x, u), (y, v)]) ⟨_, ho, rfl, _, rfl⟩ rfl hok h
end

end Mine
end
end
section
open PySem PySem.W PyProof.Rows PySem.Spec PySem.Calls
noncomputable section
namespace Mine
local macro_rules | `(tactic| walk_at "m args") => `(tactic| ((case kB => k_asm); (case kF => k_asm); (case kX => k_asm); (case kN => k_asm); (case kT => k_asm); (case kK => first | exact rfl | assumption); (case kd => ktr_room); (case ku => ktr_units)))
local macro_rules | `(tactic| walk_at "m stop") => `(tactic| first | (with_reducible show wpAny _ _ (eval (Expr.ListComp _ _ _ _) _) _ _ _) | (with_reducible show wpAny _ _ (exec (Stmt.For _ _ _ _ _) _) _ _ _) | (with_reducible show LCt.CompSrcT _ _ _ _ _ _ _ _ _ _ _ _ _ _ _) | (with_reducible show wpAny _ _ (pyIter _) (fun it s₂ => TurnsAt _ _ _ _ _ _ _ _ _ it s₂) _ _))
local macro_rules | `(tactic| walk_at "m steps") => `(tactic| repeat' (first | ((fail_if_success (walk_at "m stop")); first | (k_unfold; (try dsimp only)) | (k_end; wrow_close) | walk1 | (dsimp only; walk1) | (leave1; walk_say "STEP leave1"; try dsimp only))))
theorem near_end0 {h g h' : Heap} {L' D : Addr} {news all : List (Addr × Obj)} (b : But news h g) (NZ : News g L' h' all) (hm : (D, LCg.lst []) ∈ all) (o1 : ∀ q ∈ news, q.1 ≠ D) : ∃ led', DatIn led' (.ref D) (nkDat []) ∧ New h h' led' :=
  ⟨[(D, LCg.lst [])], DatIn.list (vs := []) (n := 0) (List.Mem.head _) .nil, List.forall_mem_cons.mpr ⟨end_fresh b NZ hm o1, List.forall_mem_nil _⟩⟩
theorem near_end1 {h g h' : Heap} {L' D D1 : Addr} {news all : List (Addr × Obj)} {tn f b0 x : Int} {t u : Tok} {n : Nat} (b : But news h g) (NZ : News g L' h' all) (hm : (D, LCg.lst [.ref D1]) ∈ all) (hm1 : (D1, ({ cls := .type "tuple", data := .seq #[.int f t, .int x u] n } : Obj)) ∈ all) (o1 : ∀ q ∈ news, q.1 ≠ D) (o2 : ∀ q ∈ news, q.1 ≠ D1) (e1 : nkV tn f b0 = x) : ∃ led', DatIn led' (.ref D) (nkDat (nkOf tn [(f, b0)])) ∧ New h h' led' := by
  rw [show nkDat (nkOf tn [(f, b0)]) = nkDat [(f, x)] from by rw [← e1]; rfl]
  exact
  ⟨[(D, LCg.lst [.ref D1]), (D1, { cls := .type "tuple", data := .seq #[.int f t, .int x u] n })],
    DatIn.list (vs := [.ref D1]) (n := 1) (List.Mem.head _) (.cons (DatIn.tuple (vs := [.int f t, .int x u]) (.tail _ (.head _)) (.cons (.int _ _) (.cons (.int _ _) .nil))) .nil),
    List.forall_mem_cons.mpr ⟨end_fresh b NZ hm o1, List.forall_mem_cons.mpr ⟨end_fresh b NZ hm1 o2, List.forall_mem_nil _⟩⟩⟩
theorem near_end2 {h g h' : Heap} {L' D D1 D2 : Addr} {news all : List (Addr × Obj)} {tn f b0 x f2 b2 x2 : Int} {t u t2 u2 : Tok} {n n2 : Nat} (b : But news h g) (NZ : News g L' h' all) (hm : (D, LCg.lst [.ref D1, .ref D2]) ∈ all) (hm1 : (D1, ({ cls := .type "tuple", data := .seq #[.int f t, .int x u] n } : Obj)) ∈ all) (hm2 : (D2, ({ cls := .type "tuple", data := .seq #[.int f2 t2, .int x2 u2] n2 } : Obj)) ∈ all) (o1 : ∀ q ∈ news, q.1 ≠ D) (o2 : ∀ q ∈ news, q.1 ≠ D1) (o3 : ∀ q ∈ news, q.1 ≠ D2) (e1 : nkV tn f b0 = x) (e2 : nkV tn f2 b2 = x2) : ∃ led', DatIn led' (.ref D) (nkDat (nkOf tn [(f, b0), (f2, b2)])) ∧ New h h' led' := by
  rw [show nkDat (nkOf tn [(f, b0), (f2, b2)]) = nkDat [(f, x), (f2, x2)] from by rw [← e1, ← e2]; rfl]
  exact
  ⟨[(D, LCg.lst [.ref D1, .ref D2]), (D1, { cls := .type "tuple", data := .seq #[.int f t, .int x u] n }), (D2, { cls := .type "tuple", data := .seq #[.int f2 t2, .int x2 u2] n2 })],
    DatIn.list (vs := [.ref D1, .ref D2]) (n := 2) (List.Mem.head _) (.cons (DatIn.tuple (vs := [.int f t, .int x u]) (.tail _ (.head _)) (.cons (.int _ _) (.cons (.int _ _) .nil))) (.cons (DatIn.tuple (vs := [.int f2 t2, .int x2 u2]) (.tail _ (.tail _ (.head _))) (.cons (.int _ _) (.cons (.int _ _) .nil))) .nil)),
    List.forall_mem_cons.mpr ⟨end_fresh b NZ hm o1, List.forall_mem_cons.mpr ⟨end_fresh b NZ hm1 o2, List.forall_mem_cons.mpr ⟨end_fresh b NZ hm2 o3, List.forall_mem_nil _⟩⟩⟩⟩

end Mine
end
end
section
open PySem PySem.W PyProof.Rows PySem.Spec PySem.Calls
noncomputable section
namespace Mine
local macro_rules | `(tactic| walk_at "m args") => `(tactic| ((case kB => k_asm); (case kF => k_asm); (case kX => k_asm); (case kN => k_asm); (case kT => k_asm); (case kK => first | exact rfl | assumption); (case kd => ktr_room); (case ku => ktr_units)))
local macro_rules | `(tactic| walk_at "m stop") => `(tactic| first | (with_reducible show wpAny _ _ (eval (Expr.ListComp _ _ _ _) _) _ _ _) | (with_reducible show wpAny _ _ (exec (Stmt.For _ _ _ _ _) _) _ _ _) | (with_reducible show LCt.CompSrcT _ _ _ _ _ _ _ _ _ _ _ _ _ _ _) | (with_reducible show wpAny _ _ (pyIter _) (fun it s₂ => TurnsAt _ _ _ _ _ _ _ _ _ it s₂) _ _))
local macro_rules | `(tactic| walk_at "m steps") => `(tactic| repeat' (first | ((fail_if_success (walk_at "m stop")); first | (k_unfold; (try dsimp only)) | (k_end; wrow_close) | walk1 | (dsimp only; walk1) | (leave1; walk_say "STEP leave1"; try dsimp only))))
section
variable {prog : Program} {w : World} {A : Around} {E : Value → Shared → Prop} {s : Shared} {h₀ : Heap} {L : Addr} {m : Str → Option Value} {env : Env}
def TextSrc (prog : Program) (w : World) (A : Around) (h₀ : Heap) (L : Addr) (m : Str → Option Value) (env : Env) (elt : Expr) (x : Str) (scope : Scope) (cl : List (Str × Addr)) (Q : Value → Shared → Prop) (xv : Value) (s₁ : Shared) : Prop :=
  ∃ (z : Str) (t : Tok) (news : List (Addr × Obj)), xv = .str z t ∧ A.handled = none ∧ Fr h₀ L s₁.heap m ∧ News h₀ L s₁.heap news ∧ z.cps.size ≤ sizeLine ∧
    ∀ s₂ : Shared, (∃ h, s₂ = { s₁ with heap := h }) → LCg.CompRest prog w A h₀ L m env elt x scope cl s₂ (fun _ => True) (fun i v => SignAt z i v) (LCg.FinE h₀ L m s₂ Q) z.cps.size 0 [] news
/-- a comprehension over the signs of a text -/
theorem ListComp_S {elt iter : Expr} {x : Str} {px : Pos} {scope : Scope} {cl : List (Str × Addr)} {pos : Pos} {Q : Value → Shared → Prop} (_F₀ : Fr h₀ L s.heap m)
    (hclos : closureFor scope env = pure cl) (hcell : ∀ y ∈ scope.names, y.2 ≠ .cell) (hkind : scope.kind = .function)
    (hnames : ∀ y ∈ scope.names, y.2 = .local → scope.names.lookup y.1 = some .local) (hx : scope.names.lookup x = some .local)
    (h : wpAny (model prog w) A (eval iter env) (TextSrc prog w A h₀ L m env elt x scope cl Q) E s)
    (hs : ∀ x, foldedSetIterable iter env x = pure x := by intro _; rfl) :
    wpAny (model prog w) A (eval (.ListComp elt [⟨.Name x px, iter, [], 0⟩] scope pos) env) Q E s := by
  rw [eval_ListComp]
  refine wpAny_comprehension_free (use := none) rfl hs hclos hkind hnames (wpAny_mono h (fun xv s₁ h₁ => ?_) fun _ _ e => e)
  obtain ⟨z, t, news, rfl, hh, F, N, hsz, R⟩ := h₁
  cases ha : z.cps.all (· < 128)
  · refine wpAny_pyIter_wide ha ?_
    refine LCg.block_U (Walks.strWide hh s₁.heap.objs.size z t) hsz (fun i h st => by obtain ⟨o, e, _⟩ := st; exact ⟨o, e⟩) (S := fun _ => True)
      (fun i h h' o nw st e e' _ _ _ => by obtain ⟨o1, e1, r⟩ := st; rw [e] at e1; cases e1; exact ⟨o, e', r⟩) hcell hkind hx ⟨_, Heap.get?_push_size _ rfl, rfl, rfl⟩ (fun b hb => ?_)
      (F.keeps fun _ _ e => Heap.get?_push_of_some _ e) (N.grown fun _ _ e => Heap.get?_push_of_some _ e) (Nat.ne_of_lt F.ns.lt) (next_is_new F) (fun p hp => Nat.ne_of_lt (Heap.lt_size (N p hp).1)) trivial (R _ ⟨_, rfl⟩) ?_
    · rw [List.mem_singleton.mp hb]
      show s₁.heap.objs.size < (s₁.heap.push _).objs.size
      rw [Heap.size_push]; exact Nat.lt_succ_self _
    · intro D C h tk m' ys news' F' N' o1 hn hC₀ hD₀ hCL hDL hCD offC fin
      refine ⟨m', hn, fun h'' hs'' => fin D h'' tk (F'.change hs'' hCL hC₀) (fun p hp => ?_) o1⟩
      refine ⟨hs''.extBut _ _ ?_ (N' p hp).1, (N' p hp).2⟩
      rcases List.mem_cons.mp hp with rfl | hp
      · exact Ne.symm hCD
      · exact offC p hp
  · refine wpAny_pyIter_ascii ha ?_
    refine LCg.block_U (Walks.strAscii hh s₁.heap.objs.size z t) hsz (fun i h st => by obtain ⟨o, e, _⟩ := st; exact ⟨o, e⟩) (S := fun _ => True)
      (fun i h h' o nw st e e' _ _ _ => by obtain ⟨o1, e1, r⟩ := st; rw [e] at e1; cases e1; exact ⟨o, e', r⟩) hcell hkind hx ⟨_, Heap.get?_push_size _ rfl, rfl, rfl⟩ (fun b hb => ?_)
      (F.keeps fun _ _ e => Heap.get?_push_of_some _ e) (N.grown fun _ _ e => Heap.get?_push_of_some _ e) (Nat.ne_of_lt F.ns.lt) (next_is_new F) (fun p hp => Nat.ne_of_lt (Heap.lt_size (N p hp).1)) trivial (R _ ⟨_, rfl⟩) ?_
    · rw [List.mem_singleton.mp hb]
      show s₁.heap.objs.size < (s₁.heap.push _).objs.size
      rw [Heap.size_push]; exact Nat.lt_succ_self _
    · intro D C h tk m' ys news' F' N' o1 hn hC₀ hD₀ hCL hDL hCD offC fin
      refine ⟨m', hn, fun h'' hs'' => fin D h'' tk (F'.change hs'' hCL hC₀) (fun p hp => ?_) o1⟩
      refine ⟨hs''.extBut _ _ ?_ (N' p hp).1, (N' p hp).2⟩
      rcases List.mem_cons.mp hp with rfl | hp
      · exact Ne.symm hCD
      · exact offC p hp
end
section
variable {prog : Program} {w : World} {A : Around} {s : Shared} {h₀ : Heap} {L : Addr} {m : Str → Option Value} {env : Env}
theorem rest_text (cs : List Nat) (G : Nat → Str) {elt : Expr} {x : Str} {scope : Scope} {cl : List (Str × Addr)} {S : List (Addr × Obj) → Prop} {Fin : List Value → List (Addr × Obj) → Prop} {news : List (Addr × Obj)} (hS : S news)
    (turn : ∀ c ∈ cs, ∀ u I oI C oC D ys m₂ h tk (E' : Value → Shared → Prop), LCg.NsObj oC m₂ → m₂ x = some (.str ⟨#[c]⟩ u) → Fr h₀ L h m → News h₀ L h ((I, oI) :: (C, oC) :: (D, LCg.lst ys) :: news) → LCg.Off3 I C D news → ((@Ne Nat I C) ∧ (@Ne Nat I D) ∧ (@Ne Nat C D)) →
      wpAny (model prog w) A (eval elt (compEnvC scope cl C env)) (fun y s'' => (∃ t, y = .str (G c) t) ∧ Same h₀ L m { s with heap := h, toks := tk } ((I, oI) :: (C, oC) :: (D, LCg.lst ys) :: news) s'') E' { s with heap := h, toks := tk })
    (fin : ∀ l : List (Str × Tok), l.map (·.1) = cs.map G → Fin (strValues l) news) :
    LCg.CompRest prog w A h₀ L m env elt x scope cl s S (fun i v => SignAt ⟨cs.toArray⟩ i v) Fin (Str.mk cs.toArray).cps.size 0 [] news := by
  have key : ∀ (j i : Nat) (l : List (Str × Tok)), i + j = cs.length → l.map (·.1) = (cs.take i).map G → LCg.CompRest prog w A h₀ L m env elt x scope cl s S (fun i v => SignAt ⟨cs.toArray⟩ i v) Fin j i (strValues l) news := by
    intro j
    induction j with
    | zero =>
      intro i l hi hl
      have : cs.take i = cs := List.take_of_length_le (by omega)
      rw [this] at hl
      exact LCg.CompRest.zero (fin l hl)
    | succ j ih =>
      intro i l hi hl
      have hlt : i < cs.length := by omega
      refine LCg.CompRest.succ fun v I oI C oC D m₂ h tk E' hP hoC hx F N off ne => ?_
      obtain ⟨c, u, hc, hv⟩ := hP
      have hc' : c = cs[i]'hlt := by
        have : (Str.mk cs.toArray).cps[i]? = some (cs[i]'hlt) := by show cs.toArray[i]? = _; rw [List.getElem?_toArray, List.getElem?_eq_getElem hlt]
        exact Option.some.inj (hc.symm.trans this)
      have ht : cs.take (i + 1) = cs.take i ++ [c] := by rw [List.take_add_one, List.getElem?_eq_getElem hlt, hc']; rfl
      refine wpAny_mono (turn c (hc' ▸ List.getElem_mem hlt) u I oI C oC D _ m₂ h tk E' hoC (hv ▸ hx) F N off ne) (fun y s'' q => ?_) fun _ _ e => e
      obtain ⟨⟨t, rfl⟩, h', tk', rfl, F', N'⟩ := q
      refine ⟨h', tk', news, rfl, F', N', off, hS, ?_⟩
      have nx := ih (i + 1) (l ++ [(G c, t)]) (by omega) (by rw [List.map_append, hl, ht, List.map_append]; rfl)
      rw [show strValues (l ++ [(G c, t)]) = strValues l ++ [Value.str (G c) t] from by unfold strValues; rw [List.map_append]; rfl] at nx
      exact nx
  have e : (Str.mk cs.toArray).cps.size = cs.length := List.size_toArray
  rw [e]
  exact key cs.length 0 [] (by omega) rfl
end
theorem fmod_32 (x : Int) : 0 ≤ Int.fmod x 32 ∧ Int.fmod x 32 < 32 := by
  rw [Int.fmod_eq_emod_of_nonneg x (by decide)]; omega
theorem fmod_2 (x : Int) : 0 ≤ Int.fmod x 2 ∧ Int.fmod x 2 < 2 := by
  rw [Int.fmod_eq_emod_of_nonneg x (by decide)]; omega
theorem word_end0 {h g h' : Heap} {L' l : Addr} {all : List (Addr × Obj)} {n : Nat} (b : But [] h g) (NZ : News g L' h' all) (hm : (l, W.listOf #[] n) ∈ all) : ∃ led wd, WordIn led (.ref l) wd ∧ New h h' led :=
  ⟨_, _, .nil l n, List.forall_mem_cons.mpr ⟨end_fresh b NZ hm (fun _ h => nomatch h), List.forall_mem_nil _⟩⟩
theorem word_end1 {h g h' : Heap} {L' l D : Addr} {all : List (Addr × Obj)} {n c : Nat} {X Y : Int} {t u : Tok} (b : But [] h g) (NZ : News g L' h' all) (hm : (l, W.listOf (#[].push (.ref D)) n) ∈ all) (hm1 : (D, ({ cls := .type "tuple", data := .seq #[.int (Int.fmod X 32) t, .int (Int.fmod Y 2) u] c } : Obj)) ∈ all) : ∃ led wd, WordIn led (.ref l) wd ∧ New h h' led :=
  ⟨_, _, .one l D n c (Int.fmod X 32) (Int.fmod Y 2) t u (fmod_32 X).1 (fmod_32 X).2 (fmod_2 Y).1 (fmod_2 Y).2,
    List.forall_mem_cons.mpr ⟨end_fresh b NZ hm (fun _ h => nomatch h), List.forall_mem_cons.mpr ⟨end_fresh b NZ hm1 (fun _ h => nomatch h), List.forall_mem_nil _⟩⟩⟩
theorem word_end2 {h g h' : Heap} {L' l D D2 : Addr} {all : List (Addr × Obj)} {n c c2 : Nat} {X Y X2 Y2 : Int} {t u t2 u2 : Tok} (b : But [] h g) (NZ : News g L' h' all) (hm : (l, W.listOf ((#[].push (.ref D)).push (.ref D2)) n) ∈ all) (hm1 : (D, ({ cls := .type "tuple", data := .seq #[.int (Int.fmod X 32) t, .int (Int.fmod Y 2) u] c } : Obj)) ∈ all)
    (hm2 : (D2, ({ cls := .type "tuple", data := .seq #[.int (Int.fmod X2 32) t2, .int (Int.fmod Y2 2) u2] c2 } : Obj)) ∈ all) (hne : (@Ne Nat D D2)) : ∃ led wd, WordIn led (.ref l) wd ∧ New h h' led :=
  ⟨_, _, .two l D D2 n c c2 (Int.fmod X 32) (Int.fmod Y 2) (Int.fmod X2 32) (Int.fmod Y2 2) t u t2 u2 (fmod_32 X).1 (fmod_32 X).2 (fmod_2 Y).1 (fmod_2 Y).2 (fmod_32 X2).1 (fmod_32 X2).2 (fmod_2 Y2).1 (fmod_2 Y2).2 hne,
    List.forall_mem_cons.mpr ⟨end_fresh b NZ hm (fun _ h => nomatch h), List.forall_mem_cons.mpr ⟨end_fresh b NZ hm1 (fun _ h => nomatch h), List.forall_mem_cons.mpr ⟨end_fresh b NZ hm2 (fun _ h => nomatch h), List.forall_mem_nil _⟩⟩⟩⟩

end Mine
end
end
section
open PySem PySem.W PyProof.Rows PySem.Spec PySem.Calls
noncomputable section
namespace Mine
local macro_rules | `(tactic| walk_at "m args") => `(tactic| ((case kB => k_asm); (case kF => k_asm); (case kX => k_asm); (case kN => k_asm); (case kT => k_asm); (case kK => first | exact rfl | assumption); (case kd => ktr_room); (case ku => ktr_units)))
local macro_rules | `(tactic| walk_at "m stop") => `(tactic| first | (with_reducible show wpAny _ _ (exec (Stmt.Assign _ (Expr.ListComp _ _ _ _) _) _) _ _ _) | (with_reducible show wpAny _ _ (eval (Expr.ListComp _ _ _ _) _) _ _ _) | (with_reducible show wpAny _ _ (exec (Stmt.For _ _ _ _ _) _) _ _ _) | (with_reducible show LCt.CompSrcT _ _ _ _ _ _ _ _ _ _ _ _ _ _ _) | (with_reducible show wpAny _ _ (pyIter _) (fun it s₂ => TurnsAt _ _ _ _ _ _ _ _ _ it s₂) _ _))
local macro_rules | `(tactic| walk_at "m steps") => `(tactic| repeat' (first | ((fail_if_success (walk_at "m stop")); first | (k_unfold; (try dsimp only)) | (k_end; wrow_close) | walk1 | (dsimp only; walk1) | (leave1; walk_say "STEP leave1"; try dsimp only))))
def Has (h : Heap) (led : List (Addr × Obj)) : Prop := ∀ p ∈ led, h.get? p.1 = some p.2
theorem Has.news {h : Heap} {led : List (Addr × Obj)} (H : Has h led) : News (hideAll h (led.map (·.1))) h.objs.size h led := fun p hp => ⟨H p hp, Nat.ne_of_lt (Heap.lt_size (H p hp)), hideAll_none _ (List.mem_map_of_mem hp)⟩
theorem Has.keeps {h h' : Heap} {led : List (Addr × Obj)} (H : Has h led) (st : ∀ b o, h.get? b = some o → h'.get? b = some o) : Has h' led := fun p hp => st _ _ (H p hp)
section
variable {prog : Program} {w : World} {A : Around} {E : Value → Shared → Prop} {s : Shared} {a b : Addr} {led : List (Addr × Obj)} {ds es : List Dat} {Q : Value → Shared → Prop}
open Classical in
theorem eq_dat (H : Has s.heap led) (Da : DatIn led (.ref a) (.list ds)) (Db : DatIn led (.ref b) (.list es)) (ha : ∀ d ∈ ds, kqdOk 8 d = true) (hb : ∀ d ∈ es, kqdOk 8 d = true) (hu : A.units + 64 < cLine) (h : Q (.bool (decide (ds = es))) s) : wpAny (model prog w) A (compareOp .Eq (.ref a) (.ref b)) Q E s := by
  cases Da with
  | list ma Da =>
    cases Db with
    | list mb Db => exact kqd_eq H.news ma rfl rfl Da (fun _ h => h) mb rfl rfl Db (fun _ h => h) ha hb hu h
open Classical in
theorem ne_dat (H : Has s.heap led) (Da : DatIn led (.ref a) (.list ds)) (Db : DatIn led (.ref b) (.list es)) (ha : ∀ d ∈ ds, kqdOk 8 d = true) (hb : ∀ d ∈ es, kqdOk 8 d = true) (hu : A.units + 64 < cLine) (h : Q (.bool (!decide (ds = es))) s) : wpAny (model prog w) A (compareOp .NotEq (.ref a) (.ref b)) Q E s := by
  cases Da with
  | list ma Da =>
    cases Db with
    | list mb Db => exact kqd_ne H.news ma rfl rfl Da (fun _ h => h) mb rfl rfl Db (fun _ h => h) ha hb hu h
end
/-- a row of the plain lists: the key (a list of data), the told name, the value -/
structure NR where
  t : Addr
  n : Nat
  ka : Addr
  kd : List Dat
  d : Str
  dt : Tok
  v : Str
  vt : Tok
def NR.obj (r : NR) : Obj := { cls := .type "tuple", data := .seq #[.ref r.ka, .str r.d r.dt, .str r.v r.vt] r.n }
def NR.ref (r : NR) : Value := .ref r.t
def NR.value (r : NR) : Value := .str r.v r.vt
/-- a row and its key lie in a ledger -/
def NR.In (led : List (Addr × Obj)) (r : NR) : Prop := (r.t, r.obj) ∈ led ∧ DatIn led (.ref r.ka) (.list r.kd) ∧ ∀ d ∈ r.kd, kqdOk 8 d = true
theorem NR.In.tup {h : Heap} {led : List (Addr × Obj)} {r : NR} (i : r.In led) (H : Has h led) : IsTup h r.t #[.ref r.ka, .str r.d r.dt, .str r.v r.vt] := ⟨_, H _ i.1, rfl, r.n, rfl⟩
open Classical in
def sameKey (a b : List Dat) : Bool := decide (a = b)
open Classical in
theorem sameKey_iff {a b : List Dat} : sameKey a b = true ↔ a = b := by unfold sameKey; exact decide_eq_true_iff
section
variable {prog : Program} {w : World} {A : Around} {E : Value → Shared → Prop} {s : Shared} {a b : Addr} {led : List (Addr × Obj)} {ds es : List Dat} {Q : Value → Shared → Prop}
theorem eq_key (H : Has s.heap led) (Da : DatIn led (.ref a) (.list ds)) (Db : DatIn led (.ref b) (.list es)) (ha : ∀ d ∈ ds, kqdOk 8 d = true) (hb : ∀ d ∈ es, kqdOk 8 d = true) (hu : A.units + 64 < cLine) (h : Q (.bool (sameKey ds es)) s) : wpAny (model prog w) A (compareOp .Eq (.ref a) (.ref b)) Q E s := eq_dat H Da Db ha hb hu h
theorem ne_key (H : Has s.heap led) (Da : DatIn led (.ref a) (.list ds)) (Db : DatIn led (.ref b) (.list es)) (ha : ∀ d ∈ ds, kqdOk 8 d = true) (hb : ∀ d ∈ es, kqdOk 8 d = true) (hu : A.units + 64 < cLine) (h : Q (.bool (!sameKey ds es)) s) : wpAny (model prog w) A (compareOp .NotEq (.ref a) (.ref b)) Q E s := ne_dat H Da Db ha hb hu h
end
/-- what _law_meant hands back where it makes a new list -/
def Meant (h h' : Heap) (r : Value) (rs : List NR) (first : Value) : Prop :=
  ∃ (T n lr k : Nat), r = .ref T ∧ h.get? T = none ∧ h'.get? T = some { cls := .type "tuple", data := .seq #[.ref lr, first] n } ∧ h.get? lr = none ∧ h'.get? lr = some (W.listOf (rs.map NR.ref).toArray k)
theorem end_meant {h g h' : Heap} {L' T lr : Addr} {n k : Nat} {its : Array Value} {first : Value} {all : List (Addr × Obj)} {rs : List NR} (b : But [] h g) (NZ : News g L' h' all) (hT : (T, ({ cls := .type "tuple", data := .seq #[.ref lr, first] n } : Obj)) ∈ all) (hl : (lr, W.listOf its k) ∈ all) (e : its = (rs.map NR.ref).toArray) : Meant h h' (.ref T) rs first := by
  subst e
  have z1 := end_fresh b NZ hT (fun _ h => nomatch h)
  have z2 := end_fresh b NZ hl (fun _ h => nomatch h)
  exact ⟨T, n, lr, k, rfl, z1.2, z1.1, z2.2, z2.1⟩

end Mine
end
end
section
open PySem PySem.W PyProof.Rows PySem.Spec PySem.Calls
noncomputable section
namespace Mine
local macro_rules | `(tactic| walk_at "m none") => `(tactic| fail)
local macro_rules | `(tactic| walk_at "m none") => `(tactic| fail)
local macro_rules | `(tactic| walk_at "m none") => `(tactic| fail)
local macro_rules | `(tactic| walk_at "m none") => `(tactic| fail)
local macro_rules | `(tactic| walk_at "m none") => `(tactic| fail)
local macro_rules | `(tactic| walk_at "m none") => `(tactic| fail)
local macro_rules | `(tactic| walk_at "m none") => `(tactic| fail)
local macro_rules | `(tactic| walk_at "m none") => `(tactic| fail)
local macro_rules | `(tactic| walk_at "m none") => `(tactic| fail)
local macro_rules | `(tactic| walk_at "m none") => `(tactic| fail)
local macro_rules | `(tactic| walk_at "m none") => `(tactic| fail)
local macro_rules | `(tactic| walk_at "m none") => `(tactic| fail)
local macro_rules | `(tactic| walk_at "m none") => `(tactic| fail)
local macro_rules | `(tactic| walk_at "m none") => `(tactic| fail)
local macro_rules | `(tactic| walk_at "m none") => `(tactic| fail)
local macro_rules | `(tactic| walk_at "m none") => `(tactic| fail)
local macro_rules | `(tactic| walk_at "m none") => `(tactic| fail)
local macro_rules | `(tactic| walk_at "m none") => `(tactic| fail)
local macro_rules | `(tactic| walk_at "m none") => `(tactic| fail)
local macro_rules | `(tactic| walk_at "m none") => `(tactic| fail)
local macro_rules | `(tactic| walk_at "m none") => `(tactic| fail)
local macro_rules | `(tactic| walk_at "m none") => `(tactic| fail)
local macro_rules | `(tactic| walk_at "m none") => `(tactic| fail)
local macro_rules | `(tactic| walk_at "m none") => `(tactic| fail)
local macro_rules | `(tactic| walk_at "m none") => `(tactic| fail)
local macro_rules | `(tactic| walk_at "m none") => `(tactic| fail)
local macro_rules | `(tactic| walk_at "m none") => `(tactic| fail)
local macro_rules | `(tactic| walk_at "m none") => `(tactic| fail)
local macro_rules | `(tactic| walk_at "m none") => `(tactic| fail)
local macro_rules | `(tactic| walk_at "m none") => `(tactic| fail)
local macro_rules | `(tactic| walk_at "m args") => `(tactic| ((case kB => k_asm); (case kF => k_asm); (case kX => k_asm); (case kN => k_asm); (case kT => k_asm); (case kK => first | exact rfl | assumption); (case kd => ktr_room); (case ku => ktr_units)))
local macro_rules | `(tactic| walk_at "m stop") => `(tactic| first | (with_reducible show wpAny _ _ (exec (Stmt.Assign _ (Expr.ListComp _ _ _ _) _) _) _ _ _) | (with_reducible show wpAny _ _ (eval (Expr.ListComp _ _ _ _) _) _ _ _) | (with_reducible show wpAny _ _ (exec (Stmt.For _ _ _ _ _) _) _ _ _) | (with_reducible show LCt.CompSrcT _ _ _ _ _ _ _ _ _ _ _ _ _ _ _) | (with_reducible show wpAny _ _ (pyIter _) (fun it s₂ => TurnsAt _ _ _ _ _ _ _ _ _ it s₂) _ _))
local macro_rules | `(tactic| walk_at "m steps") => `(tactic| repeat' (first | ((fail_if_success (walk_at "m stop")); first | (k_unfold; (try dsimp only)) | (k_end; wrow_close) | walk1 | (dsimp only; walk1) | (leave1; walk_say "STEP leave1"; try dsimp only))))
local macro_rules | `(tactic| walk_at "subscriptTail") => `(tactic| (k_here; (with_reducible show wpAny _ _ (subscriptTail _ _ (Value.ref _) (Value.int _ _)) _ _ _); (with_reducible rename IsTup _ _ _ => hTup'); k_dflt (refine' item_tupleT ?t ?a ?b ?c ?d ?_; (case t => (refine IsTup.keeps ?kt (Fr.keep (by k_asm)); assumption)); (case a => decide); (case b => decide); (case c => rfl); (case d => rfl); k_whole)))
local macro_rules | `(tactic| walk_at "compareOp Eq ref ref") => `(tactic| (k_here; (with_reducible rename Has _ _ => hHas'); k_dflt (refine' eq_key (Has.keeps hHas' (Fr.keep (by k_asm))) ?da ?db ?ha ?hb ?hu ?_; (case da => assumption); (case db => assumption); (case ha => assumption); (case hb => assumption); (case hu => ktr_units); k_whole)))
local macro_rules | `(tactic| walk_at "compareOp NotEq ref ref") => `(tactic| (k_here; (with_reducible rename Has _ _ => hHas'); k_dflt (refine' ne_key (Has.keeps hHas' (Fr.keep (by k_asm))) ?da ?db ?ha ?hb ?hu ?_; (case da => assumption); (case db => assumption); (case ha => assumption); (case hb => assumption); (case hu => ktr_units); k_whole)))
theorem meant0_ok (w : World) (mean : ExcName → Option Value) (mg mb : Str → Option Value) (led : List (Addr × Obj)) (lr : Addr) (k : Nat) (rs : List NR) (R : NR) (t : Tok) (hz : rs.length ≤ 100) (hR : R.In led) (hrs : ∀ r ∈ rs, r.In led) (hl : (lr, W.listOf (rs.map NR.ref).toArray k) ∈ led) :
   Ct w mean mg mb 253 12 [.ref lr, .int 0 t, .ref R.t] [] [] (fun h => Has h led)
     (fun h h' r => Meant h h' r ((rs.filter fun r => !sameKey r.kd R.kd) ++ [R]) .none) := by
  unfold Ct
  k_fill
  intro dp un gd cn cs a ccd cl outer A₀ base h₀ L m s Q E B F X N T hck hdp hun hpre hret
  refine wpAny_call ?_
  k_dflt (refine' enterC ?k1 ?k2 ?k3 ?k4 ?k5 ?kA ?kF ?kK ?k6 ?k7 ?k8 ?k9 ?kB ?kD ?_ ?c2 ?c3 ?c4; (case kA => exact rfl); (case kF => exact rfl); (case kK => first | assumption | exact rfl); (case k1 => k_asm); (case k2 => k_asm); (case k3 => k_asm); (case k4 => k_asm); (case k5 => k_asm); (case k6 => k_is); (case k7 => k_is); (case k8 => ktr_room); (case k9 => first | exact BindsTo.of_eq rfl | exact binds_K (by k_in) rfl (by k_is) rfl rfl rfl); (case kB => exact rfl); (case kD => decide +kernel); (case c2 => exact rfl); (case c3 => exact rfl); (case c4 => exact rfl); k_whole; intro g L' h' tk' cells' FG F' N' Y' B' X' T' hBut hLt)
  have l1 := hLt
  (try k_lt l1)
  k_cells Y'
  (try simp only [List.cons_append, List.nil_append] at N')
  (try dsimp only)
  (try k_fold)
  have HB : Has g led := hpre.keeps (fun b o e => hBut b o e (by simp))
  have hTR := hR.tup HB
  obtain ⟨_, hRD, hRK⟩ := id hR
  have hLB : g.IsList lr (rs.map NR.ref).toArray := ⟨_, HB _ hl, rfl, k, rfl⟩
  have hsz : (rs.map NR.ref).toArray.size ≤ sizeLine := by rw [List.size_toArray, List.length_map]; exact Nat.le_trans hz (by decide)
  walk_at "m steps"
  k_dflt (refine LCt.Assign_ListComp_T (F₀ := by k_asm) (by rfl) (by with_unfolding_all rfl) (by with_unfolding_all rfl) (by decide) (by rfl) (by decide) (by rfl) (by rfl) (by rfl) ?_)
  walk_at "m steps"
  refine LCt.CompSrcT.base rfl (by k_asm) (by k_asm) hLB hsz ?_
  intro g1
  refine rest_filter rs NR.ref NR.value (fun r => sameKey r.kd R.kd) (.inl hLB) ?_ ?_
  · intro r hr I oI C oC D ys m₂ h2 tk2 E' hoC hmx F2 N2 off ne
    have hT := (hrs r hr).tup HB
    obtain ⟨_, hrD, hrK⟩ := hrs r hr
    simp only [NR.ref] at hmx
    k_steps
    all_goals exact ⟨_, _, rfl, by k_asm, by k_asm⟩
  · intro D hD tkD FD ND offD
    walk_at "m steps"
    k_dflt (refine LCt.Assign_ListComp_T (F₀ := by k_asm) (by rfl) (by with_unfolding_all rfl) (by with_unfolding_all rfl) (by decide) (by rfl) (by decide) (by rfl) (by rfl) (by rfl) ?_)
    walk_at "m steps"
    refine LCt.CompSrcT.base rfl (by k_asm) (by k_asm) hLB hsz ?_
    intro g2
    refine rest_filter rs NR.ref NR.ref (fun r => !sameKey r.kd R.kd) (.inl hLB) ?_ ?_
    · intro r hr I oI C oC D ys m₂ h2 tk2 E' hoC hmx F2 N2 off ne
      have hT := (hrs r hr).tup HB
      obtain ⟨_, hrD, hrK⟩ := hrs r hr
      simp only [NR.ref] at hmx
      k_steps
      all_goals first
        | exact (⟨_, _, rfl, by k_asm, by k_asm⟩ : Same _ _ _ _ _ _)
        | assumption
        | (rw [(by assumption : sameKey r.kd R.kd = true)]; rfl)
        | (rw [(by assumption : sameKey r.kd R.kd = false)]; rfl)
        | rfl
    intro D2 hD2 tkD2 FD2 ND2 offD2
    walk_at "m steps"
    k_dflt (refine' add_lists (vs := (rs.filter fun r => !sameKey r.kd R.kd).map NR.ref) (ws := [.ref R.t]) ?F ?N ?a ?b ?_ ?z)
    case F => k_asm
    case N => k_asm
    case a => exact News.isList (by k_asm) (by k_mem)
    case b => exact News.isList (by k_asm) (by k_mem)
    case z =>
      have := List.length_filter_le (fun r => !sameKey r.kd R.kd) rs
      have : sizeLine = 2 ^ 24 := rfl
      simp only [List.length_map, List.length_singleton]
      omega
    intro h9 F9 N9
    walk_at "m steps"
    (rename News g L' _ _ => NZ)
    (rename Fr g L' _ _ => FZ)
    first
      | exact hret _ _ _ (by k_asm) (end_but hBut FZ) (end_meant hBut NZ (by k_mem) (by k_mem) (by first | rfl | (simp only [List.map_append, List.map_cons, List.map_nil]; rfl) | (simp [NR.ref])))
theorem meant1_ok (w : World) (mean : ExcName → Option Value) (mg mb : Str → Option Value) (led : List (Addr × Obj)) (lr : Addr) (k : Nat) (rs : List NR) (R : NR) (t : Tok) (hz : rs.length ≤ 100) (hR : R.In led) (hrs : ∀ r ∈ rs, r.In led) (hl : (lr, W.listOf (rs.map NR.ref).toArray k) ∈ led) :
   Ct w mean mg mb 253 12 [.ref lr, .int 1 t, .ref R.t] [] [] (fun h => Has h led)
     (fun h h' r => Meant h h' r (rs.filter fun r => !sameKey r.kd R.kd) .none) := by
  unfold Ct
  k_fill
  intro dp un gd cn cs a ccd cl outer A₀ base h₀ L m s Q E B F X N T hck hdp hun hpre hret
  refine wpAny_call ?_
  k_dflt (refine' enterC ?k1 ?k2 ?k3 ?k4 ?k5 ?kA ?kF ?kK ?k6 ?k7 ?k8 ?k9 ?kB ?kD ?_ ?c2 ?c3 ?c4; (case kA => exact rfl); (case kF => exact rfl); (case kK => first | assumption | exact rfl); (case k1 => k_asm); (case k2 => k_asm); (case k3 => k_asm); (case k4 => k_asm); (case k5 => k_asm); (case k6 => k_is); (case k7 => k_is); (case k8 => ktr_room); (case k9 => first | exact BindsTo.of_eq rfl | exact binds_K (by k_in) rfl (by k_is) rfl rfl rfl); (case kB => exact rfl); (case kD => decide +kernel); (case c2 => exact rfl); (case c3 => exact rfl); (case c4 => exact rfl); k_whole; intro g L' h' tk' cells' FG F' N' Y' B' X' T' hBut hLt)
  have l1 := hLt
  (try k_lt l1)
  k_cells Y'
  (try simp only [List.cons_append, List.nil_append] at N')
  (try dsimp only)
  (try k_fold)
  have HB : Has g led := hpre.keeps (fun b o e => hBut b o e (by simp))
  have hTR := hR.tup HB
  obtain ⟨_, hRD, hRK⟩ := id hR
  have hLB : g.IsList lr (rs.map NR.ref).toArray := ⟨_, HB _ hl, rfl, k, rfl⟩
  have hsz : (rs.map NR.ref).toArray.size ≤ sizeLine := by rw [List.size_toArray, List.length_map]; exact Nat.le_trans hz (by decide)
  walk_at "m steps"
  k_dflt (refine LCt.Assign_ListComp_T (F₀ := by k_asm) (by rfl) (by with_unfolding_all rfl) (by with_unfolding_all rfl) (by decide) (by rfl) (by decide) (by rfl) (by rfl) (by rfl) ?_)
  walk_at "m steps"
  refine LCt.CompSrcT.base rfl (by k_asm) (by k_asm) hLB hsz ?_
  intro g1
  refine rest_filter rs NR.ref NR.value (fun r => sameKey r.kd R.kd) (.inl hLB) ?_ ?_
  · intro r hr I oI C oC D ys m₂ h2 tk2 E' hoC hmx F2 N2 off ne
    have hT := (hrs r hr).tup HB
    obtain ⟨_, hrD, hrK⟩ := hrs r hr
    simp only [NR.ref] at hmx
    k_steps
    all_goals exact ⟨_, _, rfl, by k_asm, by k_asm⟩
  · intro D hD tkD FD ND offD
    walk_at "m steps"
    k_dflt (refine LCt.Assign_ListComp_T (F₀ := by k_asm) (by rfl) (by with_unfolding_all rfl) (by with_unfolding_all rfl) (by decide) (by rfl) (by decide) (by rfl) (by rfl) (by rfl) ?_)
    walk_at "m steps"
    refine LCt.CompSrcT.base rfl (by k_asm) (by k_asm) hLB hsz ?_
    intro g2
    refine rest_filter rs NR.ref NR.ref (fun r => !sameKey r.kd R.kd) (.inl hLB) ?_ ?_
    · intro r hr I oI C oC D ys m₂ h2 tk2 E' hoC hmx F2 N2 off ne
      have hT := (hrs r hr).tup HB
      obtain ⟨_, hrD, hrK⟩ := hrs r hr
      simp only [NR.ref] at hmx
      k_steps
      all_goals first
        | exact (⟨_, _, rfl, by k_asm, by k_asm⟩ : Same _ _ _ _ _ _)
        | assumption
        | (rw [(by assumption : sameKey r.kd R.kd = true)]; rfl)
        | (rw [(by assumption : sameKey r.kd R.kd = false)]; rfl)
        | rfl
    intro D2 hD2 tkD2 FD2 ND2 offD2
    walk_at "m steps"
    (rename News g L' _ _ => NZ)
    (rename Fr g L' _ _ => FZ)
    first
      | exact hret _ _ _ (by k_asm) (end_but hBut FZ) (end_meant hBut NZ (by k_mem) (by k_mem) (by first | rfl | (simp only [List.map_append, List.map_cons, List.map_nil]; rfl) | (simp [NR.ref])))

end Mine
end
end
section
open PySem PySem.W PyProof.Rows PySem.Spec PySem.Calls
noncomputable section
namespace Mine
local macro_rules | `(tactic| walk_at "m args") => `(tactic| ((case kB => k_asm); (case kF => k_asm); (case kX => k_asm); (case kN => k_asm); (case kT => k_asm); (case kK => first | exact rfl | assumption); (case kd => ktr_room); (case ku => ktr_units)))
local macro_rules | `(tactic| walk_at "m stop") => `(tactic| first | (with_reducible show wpAny _ _ (exec (Stmt.Assign _ (Expr.ListComp _ _ _ _) _) _) _ _ _) | (with_reducible show wpAny _ _ (eval (Expr.ListComp _ _ _ _) _) _ _ _) | (with_reducible show wpAny _ _ (exec (Stmt.For _ _ _ _ _) _) _ _ _) | (with_reducible show LCt.CompSrcT _ _ _ _ _ _ _ _ _ _ _ _ _ _ _) | (with_reducible show wpAny _ _ (pyIter _) (fun it s₂ => TurnsAt _ _ _ _ _ _ _ _ _ it s₂) _ _))
local macro_rules | `(tactic| walk_at "m steps") => `(tactic| repeat' (first | ((fail_if_success (walk_at "m stop")); first | (k_unfold; (try dsimp only)) | (k_end; wrow_close) | walk1 | (dsimp only; walk1) | (leave1; walk_say "STEP leave1"; try dsimp only))))
local macro_rules | `(tactic| walk_at "subscriptTail") => `(tactic| (k_here; (with_reducible show wpAny _ _ (subscriptTail _ _ (Value.ref _) (Value.int _ _)) _ _ _); (with_reducible rename IsTup _ _ _ => hTup'); k_dflt (refine' item_tupleT ?t ?a ?b ?c ?d ?_; (case t => (refine IsTup.keeps ?kt (Fr.keep (by k_asm)); assumption)); (case a => decide); (case b => decide); (case c => rfl); (case d => rfl); k_whole)))
local macro_rules | `(tactic| walk_at "compareOp Eq ref ref") => `(tactic| (k_here; (with_reducible rename Has _ _ => hHas'); k_dflt (refine' eq_key (Has.keeps hHas' (Fr.keep (by k_asm))) ?da ?db ?ha ?hb ?hu ?_; (case da => assumption); (case db => assumption); (case ha => assumption); (case hb => assumption); (case hu => ktr_units); k_whole)))
local macro_rules | `(tactic| walk_at "compareOp NotEq ref ref") => `(tactic| (k_here; (with_reducible rename Has _ _ => hHas'); k_dflt (refine' ne_key (Has.keeps hHas' (Fr.keep (by k_asm))) ?da ?db ?ha ?hb ?hu ?_; (case da => assumption); (case db => assumption); (case ha => assumption); (case hb => assumption); (case hu => ktr_units); k_whole)))
theorem meant3_ok (w : World) (mean : ExcName → Option Value) (mg mb : Str → Option Value) (led : List (Addr × Obj)) (lr : Addr) (k : Nat) (rs : List NR) (R : NR) (t : Tok) (hz : rs.length ≤ 100) (hR : R.In led) (hrs : ∀ r ∈ rs, r.In led) (hl : (lr, W.listOf (rs.map NR.ref).toArray k) ∈ led) :
   Ct w mean mg mb 253 12 [.ref lr, .int 3 t, .ref R.t] [] [] (fun h => Has h led)
     (fun h h' r => Meant h h' r (rs ++ [R]) .none) := by
  unfold Ct
  k_fill
  intro dp un gd cn cs a ccd cl outer A₀ base h₀ L m s Q E B F X N T hck hdp hun hpre hret
  refine wpAny_call ?_
  k_dflt (refine' enterC ?k1 ?k2 ?k3 ?k4 ?k5 ?kA ?kF ?kK ?k6 ?k7 ?k8 ?k9 ?kB ?kD ?_ ?c2 ?c3 ?c4; (case kA => exact rfl); (case kF => exact rfl); (case kK => first | assumption | exact rfl); (case k1 => k_asm); (case k2 => k_asm); (case k3 => k_asm); (case k4 => k_asm); (case k5 => k_asm); (case k6 => k_is); (case k7 => k_is); (case k8 => ktr_room); (case k9 => first | exact BindsTo.of_eq rfl | exact binds_K (by k_in) rfl (by k_is) rfl rfl rfl); (case kB => exact rfl); (case kD => decide +kernel); (case c2 => exact rfl); (case c3 => exact rfl); (case c4 => exact rfl); k_whole; intro g L' h' tk' cells' FG F' N' Y' B' X' T' hBut hLt)
  have l1 := hLt
  (try k_lt l1)
  k_cells Y'
  (try simp only [List.cons_append, List.nil_append] at N')
  (try dsimp only)
  (try k_fold)
  have HB : Has g led := hpre.keeps (fun b o e => hBut b o e (by simp))
  have hTR := hR.tup HB
  obtain ⟨_, hRD, hRK⟩ := id hR
  have hLB : g.IsList lr (rs.map NR.ref).toArray := ⟨_, HB _ hl, rfl, k, rfl⟩
  have hsz : (rs.map NR.ref).toArray.size ≤ sizeLine := by rw [List.size_toArray, List.length_map]; exact Nat.le_trans hz (by decide)
  walk_at "m steps"
  k_dflt (refine LCt.Assign_ListComp_T (F₀ := by k_asm) (by rfl) (by with_unfolding_all rfl) (by with_unfolding_all rfl) (by decide) (by rfl) (by decide) (by rfl) (by rfl) (by rfl) ?_)
  walk_at "m steps"
  refine LCt.CompSrcT.base rfl (by k_asm) (by k_asm) hLB hsz ?_
  intro g1
  refine rest_filter rs NR.ref NR.value (fun r => sameKey r.kd R.kd) (.inl hLB) ?_ ?_
  · intro r hr I oI C oC D ys m₂ h2 tk2 E' hoC hmx F2 N2 off ne
    have hT := (hrs r hr).tup HB
    obtain ⟨_, hrD, hrK⟩ := hrs r hr
    simp only [NR.ref] at hmx
    k_steps
    all_goals exact ⟨_, _, rfl, by k_asm, by k_asm⟩
  · intro D hD tkD FD ND offD
    walk_at "m steps"
    (rename News g L' _ _ => NZ)
    (rename Fr g L' _ _ => FZ)
    first
      | exact hret _ _ _ (by k_asm) (end_but hBut FZ) (end_meant hBut NZ (by k_mem) (by k_mem) (by first | rfl | (simp only [List.map_append, List.map_cons, List.map_nil]; rfl) | (simp [NR.ref])))

end Mine
end
end
section
open PySem PySem.W PyProof.Rows PySem.Spec PySem.Calls
noncomputable section
namespace Mine
local macro_rules | `(tactic| walk_at "m none") => `(tactic| fail)
local macro_rules | `(tactic| walk_at "m none") => `(tactic| fail)
local macro_rules | `(tactic| walk_at "m none") => `(tactic| fail)
local macro_rules | `(tactic| walk_at "m none") => `(tactic| fail)
local macro_rules | `(tactic| walk_at "m none") => `(tactic| fail)
local macro_rules | `(tactic| walk_at "m none") => `(tactic| fail)
local macro_rules | `(tactic| walk_at "m none") => `(tactic| fail)
local macro_rules | `(tactic| walk_at "m none") => `(tactic| fail)
local macro_rules | `(tactic| walk_at "m none") => `(tactic| fail)
local macro_rules | `(tactic| walk_at "m none") => `(tactic| fail)
local macro_rules | `(tactic| walk_at "m none") => `(tactic| fail)
local macro_rules | `(tactic| walk_at "m none") => `(tactic| fail)
local macro_rules | `(tactic| walk_at "m none") => `(tactic| fail)
local macro_rules | `(tactic| walk_at "m none") => `(tactic| fail)
local macro_rules | `(tactic| walk_at "m none") => `(tactic| fail)
local macro_rules | `(tactic| walk_at "m none") => `(tactic| fail)
local macro_rules | `(tactic| walk_at "m none") => `(tactic| fail)
local macro_rules | `(tactic| walk_at "m none") => `(tactic| fail)
local macro_rules | `(tactic| walk_at "m none") => `(tactic| fail)
local macro_rules | `(tactic| walk_at "m none") => `(tactic| fail)
local macro_rules | `(tactic| walk_at "m none") => `(tactic| fail)
local macro_rules | `(tactic| walk_at "m none") => `(tactic| fail)
local macro_rules | `(tactic| walk_at "m none") => `(tactic| fail)
local macro_rules | `(tactic| walk_at "m none") => `(tactic| fail)
local macro_rules | `(tactic| walk_at "m none") => `(tactic| fail)
local macro_rules | `(tactic| walk_at "m none") => `(tactic| fail)
local macro_rules | `(tactic| walk_at "m none") => `(tactic| fail)
local macro_rules | `(tactic| walk_at "m none") => `(tactic| fail)
local macro_rules | `(tactic| walk_at "m none") => `(tactic| fail)
local macro_rules | `(tactic| walk_at "m none") => `(tactic| fail)
local macro_rules | `(tactic| walk_at "m args") => `(tactic| ((case kB => k_asm); (case kF => k_asm); (case kX => k_asm); (case kN => k_asm); (case kT => k_asm); (case kK => first | exact rfl | assumption); (case kd => ktr_room); (case ku => ktr_units)))
local macro_rules | `(tactic| walk_at "m stop") => `(tactic| first | (with_reducible show wpAny _ _ (exec (Stmt.Assign _ (Expr.ListComp _ _ _ _) _) _) _ _ _) | (with_reducible show wpAny _ _ (eval (Expr.ListComp _ _ _ _) _) _ _ _) | (with_reducible show wpAny _ _ (exec (Stmt.For _ _ _ _ _) _) _ _ _) | (with_reducible show LCt.CompSrcT _ _ _ _ _ _ _ _ _ _ _ _ _ _ _) | (with_reducible show wpAny _ _ (pyIter _) (fun it s₂ => TurnsAt _ _ _ _ _ _ _ _ _ it s₂) _ _))
local macro_rules | `(tactic| walk_at "m steps") => `(tactic| repeat' (first | ((fail_if_success (walk_at "m stop")); first | (k_unfold; (try dsimp only)) | (k_end; wrow_close) | walk1 | (dsimp only; walk1) | (leave1; walk_say "STEP leave1"; try dsimp only))))
local macro_rules | `(tactic| walk_at "subscriptTail") => `(tactic| (k_here; (with_reducible show wpAny _ _ (subscriptTail _ _ (Value.ref _) (Value.int _ _)) _ _ _); (with_reducible rename IsTup _ _ _ => hTup'); k_dflt (refine' item_tupleT ?t ?a ?b ?c ?d ?_; (case t => (refine IsTup.keeps ?kt (Fr.keep (by k_asm)); assumption)); (case a => decide); (case b => decide); (case c => rfl); (case d => rfl); k_whole)))
local macro_rules | `(tactic| walk_at "compareOp Eq ref ref") => `(tactic| (k_here; (with_reducible rename Has _ _ => hHas'); k_dflt (refine' eq_key (Has.keeps hHas' (Fr.keep (by k_asm))) ?da ?db ?ha ?hb ?hu ?_; (case da => assumption); (case db => assumption); (case ha => assumption); (case hb => assumption); (case hu => ktr_units); k_whole)))
local macro_rules | `(tactic| walk_at "compareOp NotEq ref ref") => `(tactic| (k_here; (with_reducible rename Has _ _ => hHas'); k_dflt (refine' ne_key (Has.keeps hHas' (Fr.keep (by k_asm))) ?da ?db ?ha ?hb ?hu ?_; (case da => assumption); (case db => assumption); (case ha => assumption); (case hb => assumption); (case hu => ktr_units); k_whole)))
theorem meant2a_ok (w : World) (mean : ExcName → Option Value) (mg mb : Str → Option Value) (led : List (Addr × Obj)) (lr : Addr) (k : Nat) (rs : List NR) (R : NR) (t : Tok) (hz : rs.length ≤ 100) (hR : R.In led) (hrs : ∀ r ∈ rs, r.In led) (hl : (lr, W.listOf (rs.map NR.ref).toArray k) ∈ led) (hno : (rs.filter fun r => sameKey r.kd R.kd) = []) :
   Ct w mean mg mb 253 12 [.ref lr, .int 2 t, .ref R.t] [] [] (fun h => Has h led)
     (fun h h' r => Meant h h' r (rs ++ [R]) R.value) := by
  unfold Ct
  k_fill
  intro dp un gd cn cs a ccd cl outer A₀ base h₀ L m s Q E B F X N T hck hdp hun hpre hret
  refine wpAny_call ?_
  k_dflt (refine' enterC ?k1 ?k2 ?k3 ?k4 ?k5 ?kA ?kF ?kK ?k6 ?k7 ?k8 ?k9 ?kB ?kD ?_ ?c2 ?c3 ?c4; (case kA => exact rfl); (case kF => exact rfl); (case kK => first | assumption | exact rfl); (case k1 => k_asm); (case k2 => k_asm); (case k3 => k_asm); (case k4 => k_asm); (case k5 => k_asm); (case k6 => k_is); (case k7 => k_is); (case k8 => ktr_room); (case k9 => first | exact BindsTo.of_eq rfl | exact binds_K (by k_in) rfl (by k_is) rfl rfl rfl); (case kB => exact rfl); (case kD => decide +kernel); (case c2 => exact rfl); (case c3 => exact rfl); (case c4 => exact rfl); k_whole; intro g L' h' tk' cells' FG F' N' Y' B' X' T' hBut hLt)
  have l1 := hLt
  (try k_lt l1)
  k_cells Y'
  (try simp only [List.cons_append, List.nil_append] at N')
  (try dsimp only)
  (try k_fold)
  have HB : Has g led := hpre.keeps (fun b o e => hBut b o e (by simp))
  have hTR := hR.tup HB
  obtain ⟨_, hRD, hRK⟩ := id hR
  have hLB : g.IsList lr (rs.map NR.ref).toArray := ⟨_, HB _ hl, rfl, k, rfl⟩
  have hsz : (rs.map NR.ref).toArray.size ≤ sizeLine := by rw [List.size_toArray, List.length_map]; exact Nat.le_trans hz (by decide)
  walk_at "m steps"
  k_dflt (refine LCt.Assign_ListComp_T (F₀ := by k_asm) (by rfl) (by with_unfolding_all rfl) (by with_unfolding_all rfl) (by decide) (by rfl) (by decide) (by rfl) (by rfl) (by rfl) ?_)
  walk_at "m steps"
  refine LCt.CompSrcT.base rfl (by k_asm) (by k_asm) hLB hsz ?_
  intro g1
  refine rest_filter rs NR.ref NR.value (fun r => sameKey r.kd R.kd) (.inl hLB) ?_ ?_
  · intro r hr I oI C oC D ys m₂ h2 tk2 E' hoC hmx F2 N2 off ne
    have hT := (hrs r hr).tup HB
    obtain ⟨_, hrD, hrK⟩ := hrs r hr
    simp only [NR.ref] at hmx
    k_steps
    all_goals exact ⟨_, _, rfl, by k_asm, by k_asm⟩
  · rw [hno]
    intro D hD tkD FD ND offD
    simp only [List.map_nil] at ND
    walk_at "m steps"
    (rename News g L' _ _ => NZ)
    (rename Fr g L' _ _ => FZ)
    exact hret _ _ _ (by k_asm) (end_but hBut FZ) (end_meant hBut NZ (by k_mem) (by k_mem) (by first | rfl | (simp only [List.map_append, List.map_cons, List.map_nil]; rfl) | (simp [NR.ref])))
theorem meant2b_ok (w : World) (mean : ExcName → Option Value) (mg mb : Str → Option Value) (led : List (Addr × Obj)) (lr : Addr) (k : Nat) (rs : List NR) (R q : NR) (qs : List NR) (t : Tok) (hz : rs.length ≤ 100) (hR : R.In led) (hrs : ∀ r ∈ rs, r.In led) (hl : (lr, W.listOf (rs.map NR.ref).toArray k) ∈ led) (hno : (rs.filter fun r => sameKey r.kd R.kd) = q :: qs) :
   Ct w mean mg mb 253 12 [.ref lr, .int 2 t, .ref R.t] [] [] (fun h => Has h led)
     (fun h h' r => ∃ (T n : Nat), r = .ref T ∧ h.get? T = none ∧ h'.get? T = some { cls := .type "tuple", data := .seq #[.ref lr, q.value] n }) := by
  unfold Ct
  k_fill
  intro dp un gd cn cs a ccd cl outer A₀ base h₀ L m s Q E B F X N T hck hdp hun hpre hret
  refine wpAny_call ?_
  k_dflt (refine' enterC ?k1 ?k2 ?k3 ?k4 ?k5 ?kA ?kF ?kK ?k6 ?k7 ?k8 ?k9 ?kB ?kD ?_ ?c2 ?c3 ?c4; (case kA => exact rfl); (case kF => exact rfl); (case kK => first | assumption | exact rfl); (case k1 => k_asm); (case k2 => k_asm); (case k3 => k_asm); (case k4 => k_asm); (case k5 => k_asm); (case k6 => k_is); (case k7 => k_is); (case k8 => ktr_room); (case k9 => first | exact BindsTo.of_eq rfl | exact binds_K (by k_in) rfl (by k_is) rfl rfl rfl); (case kB => exact rfl); (case kD => decide +kernel); (case c2 => exact rfl); (case c3 => exact rfl); (case c4 => exact rfl); k_whole; intro g L' h' tk' cells' FG F' N' Y' B' X' T' hBut hLt)
  have l1 := hLt
  (try k_lt l1)
  k_cells Y'
  (try simp only [List.cons_append, List.nil_append] at N')
  (try dsimp only)
  (try k_fold)
  have HB : Has g led := hpre.keeps (fun b o e => hBut b o e (by simp))
  have hTR := hR.tup HB
  obtain ⟨_, hRD, hRK⟩ := id hR
  have hLB : g.IsList lr (rs.map NR.ref).toArray := ⟨_, HB _ hl, rfl, k, rfl⟩
  have hsz : (rs.map NR.ref).toArray.size ≤ sizeLine := by rw [List.size_toArray, List.length_map]; exact Nat.le_trans hz (by decide)
  walk_at "m steps"
  k_dflt (refine LCt.Assign_ListComp_T (F₀ := by k_asm) (by rfl) (by with_unfolding_all rfl) (by with_unfolding_all rfl) (by decide) (by rfl) (by decide) (by rfl) (by rfl) (by rfl) ?_)
  walk_at "m steps"
  refine LCt.CompSrcT.base rfl (by k_asm) (by k_asm) hLB hsz ?_
  intro g1
  refine rest_filter rs NR.ref NR.value (fun r => sameKey r.kd R.kd) (.inl hLB) ?_ ?_
  · intro r hr I oI C oC D ys m₂ h2 tk2 E' hoC hmx F2 N2 off ne
    have hT := (hrs r hr).tup HB
    obtain ⟨_, hrD, hrK⟩ := hrs r hr
    simp only [NR.ref] at hmx
    k_steps
    all_goals exact ⟨_, _, rfl, by k_asm, by k_asm⟩
  · rw [hno]
    intro D hD tkD FD ND offD
    simp only [List.map_cons, NR.value] at ND
    walk_at "m steps"
    have hLD : hD.IsList D (Value.str q.v q.vt :: List.map NR.value qs).toArray := ⟨_, (ND _ (.head _)).1, rfl, _, rfl⟩
    have hqz : qs.length ≤ 100 := by
      have h1 := List.length_filter_le (fun r => sameKey r.kd R.kd) rs
      rw [hno, List.length_cons] at h1
      omega
    refine wpAny_truthy_list hLD ?_ ?_
    · simp only [List.size_toArray, List.length_cons, List.length_map]; omega
    simp only [List.isEmpty_toArray, List.isEmpty_cons, Bool.not_false]
    walk_at "m steps"
    (rename News g L' _ _ => NZ)
    (rename Fr g L' _ _ => FZ)
    have z := end_fresh hBut NZ (List.Mem.head _) (fun _ h => nomatch h)
    exact hret _ _ _ (by k_asm) (end_but hBut FZ) ⟨_, _, rfl, z.2, z.1⟩

end Mine
end
end
section
open PySem PySem.W PyProof.Rows PySem.Spec PySem.Calls
noncomputable section
namespace Mine
local macro_rules | `(tactic| walk_at "m args") => `(tactic| ((case kB => k_asm); (case kF => k_asm); (case kX => k_asm); (case kN => k_asm); (case kT => k_asm); (case kK => first | exact rfl | assumption); (case kd => ktr_room); (case ku => ktr_units)))
section Search
open PySem.Builtin.Re
theorem slot_search : Slot "re.Pattern" "search" "re.Pattern.search" :=
  .of (owner := "re.Pattern") (n := "search") (by rw [typeLookup_type, builtinLookup_eq_fast]; kernel_rfl) (by decide +kernel) (by decide +kernel) (by decide +kernel)
    (by first | exact .inl (by decide +kernel) | exact .inr (by decide +kernel)) (by rw [isSubtype_type]; kernel_rfl)
theorem type_search : typeOf (.builtin "re.Pattern.search") = pure (.type "method_descriptor") := by show builtinType _ = _; rw [builtinType_eq_fast]; kernel_rfl
theorem entry_search : entryFor table "re.Pattern.search" = some Builtin.«re.Pattern.search» := entryFor_of_tree (by kernel_rfl)
theorem plainAttrs_pattern : PlainAttrs "re.Pattern" :=
  ⟨⟨"object.__getattribute__", by rw [typeLookup_type, builtinLookup_eq_fast]; kernel_rfl, by decide +kernel⟩, by rw [typeLookup_type, builtinLookup_eq_fast]; kernel_rfl⟩
theorem owner_pattern : Manifest.owners.lookup (String.ofList ['n', 'r', 'e', 't', 't', 'a', 'P', '.', 'e', 'r'].reverse) = some Manifest.sig_re_Pattern := by kernel_rfl
theorem args_search (a b : Value) : argsOk "re.Pattern.search" ⟨[a, b], []⟩ := by
  unfold argsOk; rw [signature?_of (id := "re.Pattern.search") (n := ['h', 'c', 'r', 'a', 'e', 's']) (o := ['n', 'r', 'e', 't', 't', 'a', 'P', '.', 'e', 'r']) (by kernel_rfl) owner_pattern]; kernel_rfl
theorem named_search (v : Value) : reNamed "re.Pattern.search" "search" ["string", "pos", "endpos"] 1 [v] [] = pure [some v, none, none] := by
  rfl
theorem wpAny_rules {M : Model} {A : Around} {E : Value → Shared → Prop} {Q : PUnit → Shared → Prop} {f : Nat → PUnit → Sem (ForInStep PUnit)} (hf : ∀ i s, wpAny M A (f i ⟨⟩) (fun r s' => r = .yield ⟨⟩ ∧ s' = s) E s) :
    ∀ (l : List Nat) (s : Shared), Q ⟨⟩ s → wpAny M A (forIn l PUnit.unit f) Q E s
  | [], s, h => by simpa using wpAny_pure h
  | i :: l, s, h => by
    rw [List.forIn_cons]
    refine wpAny_bind (wpAny_mono (hf i s) (fun r s' h' => ?_) fun _ _ x => x)
    obtain ⟨rfl, rfl⟩ := h'
    exact wpAny_rules hf l _ h
theorem run_failed (m : Sre.M) (h1 : m.outcome = none) (h2 : m.answer = some false) (h3 : m.frames = []) : (m.runFor reTurnSteps).outcome = some .failed := by
  have e : m.step = { m with outcome := some .failed } := by
    unfold Sre.M.step
    rw [h1, h2, h3]
    rfl
  show (Sre.M.runFor 4 m).outcome = _
  rw [Sre.M.runFor, h1, e]
  rfl
theorem runs_to_none {M : Model} {A : Around} {E : Value → Shared → Prop} {s : Shared} {Q : Option Sre.M → Shared → Prop} (m : Sre.M) (h1 : m.outcome = none) (h2 : m.answer = some false) (h3 : m.frames = []) (h : Q none s) : wpAny M A (reRunToEnd m) Q E s := by
  unfold reRunToEnd
  have d : reDrive (2 ^ 64) m = pure (m.runFor reTurnSteps) := by
    rw [show (2 ^ 64 : Nat) = (2 ^ 64 - 1) + 1 from rfl, reDrive]
    simp only [run_failed m h1 h2 h3, Option.isSome_some, if_true]
  rw [d]
  refine wpAny_bind (wpAny_pure (wpAny_bind (wpAny_rules (fun i s' => ?_) _ _ ?_)))
  · split
    · exact wpAny_bind (wpAny_rule (wpAny_pure ⟨rfl, rfl⟩))
    · exact wpAny_pure ⟨rfl, rfl⟩
  · rw [run_failed m h1 h2 h3]
    exact wpAny_pure h
def nameCode : Array Nat := #[14, 10, 4, 1, 1, 22, 0, 31, 16, 127, 0, 13, 7, 22, 0, 31, 16, 127, 0, 1]
def valueCode : Array Nat := #[14, 14, 4, 1, 1, 9, 4294966783, 0, 0, 2147483648, 0, 0, 0, 0, 0, 13, 11, 9, 4294966783, 0, 0, 2147483648, 0, 0, 0, 0, 0, 1]
def Out (code : Array Nat) (c : Nat) : Prop := ∀ seen, ∃ seen', Sre.inSet code c code.size 5 true seen = .ok (false, seen')
theorem admitted_none (m : Sre.M) (h : ∀ i < m.lim, Out m.code (m.text.getD i 0)) : ∀ fuel s seen, ∃ seen', Sre.M.admitted m fuel s seen = .ok (none, seen')
  | 0, _, seen => ⟨seen, rfl⟩
  | fuel + 1, s, seen => by
    rw [Sre.M.admitted]
    split
    · exact ⟨_, rfl⟩
    · rename_i hs
      obtain ⟨seen', e⟩ := h s (by omega) seen
      rw [e]
      exact admitted_none m h fuel (s + 1) seen'
theorem attempt_false (m : Sre.M) (h : ∀ i < m.lim, Out m.code (m.text.getD i 0)) (hf : m.hasFirstSet = true) (ho : m.outcome = none) (hr : m.frames = []) (s : Nat) (first : Bool) :
    (m.attemptFrom s first).outcome = none ∧ (m.attemptFrom s first).answer = some false ∧ (m.attemptFrom s first).frames = [] := by
  unfold Sre.M.attemptFrom
  obtain ⟨seen', e⟩ := admitted_none m h (m.lim + 1 - s) s m.seen
  rw [hf, e]
  exact ⟨ho, rfl, hr⟩
theorem search_false (code text : Array Nat) (lim : Nat) (h : ∀ i < lim, Out code (text.getD i 0)) (hf : ∀ m : Sre.M, m.code = code → m.hasFirstSet = true) (groups pos : Nat) :
    (Sre.forSearch code text groups pos lim false).outcome = none ∧ (Sre.forSearch code text groups pos lim false).answer = some false ∧ (Sre.forSearch code text groups pos lim false).frames = [] := by
  unfold Sre.forSearch
  dsimp only
  split
  · exact ⟨rfl, rfl, rfl⟩
  · exact attempt_false _ h (hf _ rfl) rfl rfl _ _
theorem out_name {c : Nat} (h1 : 32 ≤ c) (h2 : c ≠ 127) : Out nameCode c := by
  intro seen
  have a1 : (decide (0 ≤ c) && decide (c ≤ 31)) = false := by rw [decide_eq_false (show ¬ c ≤ 31 by omega), Bool.and_false]
  have a2 : (c == 127) = false := by simpa using h2
  refine ⟨((seen.add 22).add 16).add 0, ?_⟩
  show Sre.inSet nameCode c 20 5 true seen = _
  rw [Sre.inSet]
  show (if (decide (0 ≤ c) && decide (c ≤ 31)) = true then _ else _) = _
  rw [a1, if_neg Bool.false_ne_true, Sre.inSet]
  show (if (c == 127) = true then _ else _) = _
  rw [a2, if_neg Bool.false_ne_true, Sre.inSet]
  rfl
theorem out_value {c : Nat} (h1 : 48 ≤ c) (h2 : c ≤ 57) : Out valueCode c := by
  intro seen
  have all : ∀ n : Nat, n < 10 → (decide (48 + n < 256) && (valueCode.getD (5 + (1 + (48 + n) / 32)) 0).testBit ((48 + n) % 32)) = false := by decide +kernel
  have a1 : (decide (c < 256) && (valueCode.getD (5 + (1 + c / 32)) 0).testBit (c % 32)) = false := by
    have := all (c - 48) (by omega)
    rwa [show 48 + (c - 48) = c by omega] at this
  refine ⟨(seen.add 9).add 0, ?_⟩
  show Sre.inSet valueCode c 28 5 true seen = _
  rw [Sre.inSet]
  show (if (decide (c < 256) && (valueCode.getD (5 + (1 + c / 32)) 0).testBit (c % 32)) = true then _ else _) = _
  rw [a1, if_neg Bool.false_ne_true, Sre.inSet]
  rfl
set_option maxHeartbeats 400000 in
theorem call_search {prog : Program} {w : World} {A : Around} {E : Value → Shared → Prop} {s : Shared} {a ac : Addr} {o oc : Obj} {p0 p1 : Value} {items : Array Value} {k : Nat} {code : Array Nat} {x : Str} {t : Tok} {Q : Value → Shared → Prop}
    (ho : s.heap.get? a = some o) (hcls : o.cls = .type "re.Pattern") (hd : o.data = .fields #[p0, p1, .int 0 0, .none, .none, .ref ac, .int 0 0]) (hc : s.heap.get? ac = some oc) (hcd : oc.data = .seq items k)
    (hcode : (items.map reRawOf).map (·.toNat) = code) (hf : ∀ m : Sre.M, m.code = code → m.hasFirstSet = true) (hout : ∀ c ∈ x.cps, Out code c) (h : Q .none s) :
    wpAny (model prog w) A (call (.builtin "re.Pattern.search") [.ref a, .str x t]) Q E s := by
  refine wpAny_call (codeAny_call_builtin slot_search.plain entry_search (slot_search.check _ _ _ _ _ _ _ _ ⟨o, ho, hcls⟩ (args_search _ _) ?_))
  unfold Builtin.«re.Pattern.search» reTarget
  simp only
  rw [named_search]
  refine wpAny_bind (wpAny_bind (wpAny_pure (wpAny_bind (wpAny_pure (wpAny_bind (wpAny_pure (wpAny_bind (wpAny_fieldsOf ho hd (wpAny_bind ?_)))))))))
  unfold reTextOf
  refine wpAny_bind (wpAny_pure ?_)
  dsimp only
  refine wpAny_pure ?_
  rw [if_neg (by show ¬ ((0 : Nat) == 0 && (0 : Nat) == 1) = true; decide), if_neg (by show ¬ ((0 : Nat) == 1 && (0 : Nat) == 0) = true; decide)]
  unfold reNoCollectionInside
  rw [if_neg (by show ¬ ((0 : Nat) == 1) = true; decide)]
  refine wpAny_bind (wpAny_pure ?_)
  show wpAny _ _ (reRawItems (.ref ac) >>= _) _ _ _
  unfold reRawItems seqItems?
  refine wpAny_bind (wpAny_bind (wpAny_bind (wpAny_load hc ?_)))
  rw [hcd]
  refine wpAny_pure (wpAny_pure (wpAny_pure ?_))
  dsimp only [Option.getD_some]
  rw [hcode]
  unfold reAnswer
  have key : ∀ lim groups pos, lim ≤ x.cps.size → (Sre.forSearch code x.cps groups pos lim false).outcome = none ∧ (Sre.forSearch code x.cps groups pos lim false).answer = some false ∧ (Sre.forSearch code x.cps groups pos lim false).frames = [] := by
    intro lim groups pos hl
    refine search_false code x.cps lim (fun i hi => ?_) hf groups pos
    have hi' : i < x.cps.size := Nat.lt_of_lt_of_le hi hl
    rw [Array.getD_eq_getD_getElem?, Array.getElem?_eq_getElem hi', Option.getD_some]
    exact hout _ (Array.getElem_mem hi')
  refine wpAny_bind (runs_to_none _ ?_ ?_ ?_ ?_)
  · exact (key _ _ _ (Nat.min_le_right _ _)).1
  · exact (key _ _ _ (Nat.min_le_right _ _)).2.1
  · exact (key _ _ _ (Nat.min_le_right _ _)).2.2
  · exact wpAny_pure h
end Search

end Mine
end
end
section
open PySem PySem.W PyProof.Rows PySem.Spec PySem.Calls
noncomputable section
namespace Mine
local macro_rules | `(tactic| walk_at "m args") => `(tactic| ((case kB => k_asm); (case kF => k_asm); (case kX => k_asm); (case kN => k_asm); (case kT => k_asm); (case kK => first | exact rfl | assumption); (case kd => ktr_room); (case ku => ktr_units)))
theorem at_name {w : World} {h : Heap} (X : (hd.heap_39 w.params).In h) : ∃ p0 p1 o oc k, h.get? 41 = some o ∧ o.cls = .type "re.Pattern" ∧ o.dict = none ∧ o.data = .fields #[p0, p1, .int 0 0, .none, .none, .ref 40, .int 0 0] ∧ h.get? 40 = some oc ∧
    oc.data = .seq #[.int 14 0, .int 10 0, .int 4 0, .int 1 0, .int 1 0, .int 22 0, .int 0 0, .int 31 0, .int 16 0, .int 127 0, .int 0 0, .int 13 0, .int 7 0, .int 22 0, .int 0 0, .int 31 0, .int 16 0, .int 127 0, .int 0 0, .int 1 0] k :=
  ⟨_, _, _, _, _, X 41 _ (by rfl), rfl, rfl, rfl, X 40 _ (by rfl), rfl⟩
theorem at_value {w : World} {h : Heap} (X : (hd.heap_39 w.params).In h) : ∃ p0 p1 o oc k, h.get? 46 = some o ∧ o.cls = .type "re.Pattern" ∧ o.dict = none ∧ o.data = .fields #[p0, p1, .int 0 0, .none, .none, .ref 45, .int 0 0] ∧ h.get? 45 = some oc ∧
    oc.data = .seq #[.int 14 0, .int 14 0, .int 4 0, .int 1 0, .int 1 0, .int 9 0, .int 4294966783 0, .int 0 0, .int 0 0, .int 2147483648 0, .int 0 0, .int 0 0, .int 0 0, .int 0 0, .int 0 0, .int 13 0, .int 11 0, .int 9 0, .int 4294966783 0, .int 0 0, .int 0 0, .int 2147483648 0, .int 0 0, .int 0 0, .int 0 0, .int 0 0, .int 0 0, .int 1 0] k :=
  ⟨_, _, _, _, _, X 46 _ (by rfl), rfl, rfl, rfl, X 45 _ (by rfl), rfl⟩
section
variable {prog : Program} {w : World} {A : Around} {E : Value → Shared → Prop} {s : Shared} {h₀ : Heap} {L : Addr} {m : Str → Option Value}
theorem meth_name {pl : Sem Bool} {Q : Value × List Value → Shared → Prop} (F : Fr h₀ L s.heap m) (X : (hd.heap_39 w.params).In h₀) (h : Q (.builtin "re.Pattern.search", [.ref 41]) s) : wpAny (model prog w) A (getMethod (.ref 41) "search" pl) Q E s := by
  obtain ⟨p0, p1, o, oc, k, ho, hc, hn, _⟩ := at_name (X.keeps F.keep)
  exact getMethod_builtin (T := "re.Pattern") ⟨o, ho, hc⟩ plainAttrs_pattern slot_search type_search (fun a e => by cases e; exact ⟨o, ho, hn⟩) h
theorem meth_value {pl : Sem Bool} {Q : Value × List Value → Shared → Prop} (F : Fr h₀ L s.heap m) (X : (hd.heap_39 w.params).In h₀) (h : Q (.builtin "re.Pattern.search", [.ref 46]) s) : wpAny (model prog w) A (getMethod (.ref 46) "search" pl) Q E s := by
  obtain ⟨p0, p1, o, oc, k, ho, hc, hn, _⟩ := at_value (X.keeps F.keep)
  exact getMethod_builtin (T := "re.Pattern") ⟨o, ho, hc⟩ plainAttrs_pattern slot_search type_search (fun a e => by cases e; exact ⟨o, ho, hn⟩) h
def NameOk (x : Str) : Prop := ∀ c ∈ x.cps, 32 ≤ c ∧ c ≠ 127
def ValueOk (x : Str) : Prop := ∀ c ∈ x.cps, 48 ≤ c ∧ c ≤ 57
theorem search_name {x : Str} {t : Tok} {Q : Value → Shared → Prop} (F : Fr h₀ L s.heap m) (X : (hd.heap_39 w.params).In h₀) (hx : NameOk x) (h : Q .none s) : wpAny (model prog w) A (call (.builtin "re.Pattern.search") [.ref 41, .str x t]) Q E s := by
  obtain ⟨p0, p1, o, oc, k, ho, hc, hn, hd, hoc, hcd⟩ := at_name (X.keeps F.keep)
  exact call_search ho hc hd hoc hcd (code := nameCode) (by kernel_rfl) (fun m e => by unfold Sre.M.hasFirstSet; rw [e]; rfl) (fun c hm => out_name (hx c hm).1 (hx c hm).2) h
theorem search_value {x : Str} {t : Tok} {Q : Value → Shared → Prop} (F : Fr h₀ L s.heap m) (X : (hd.heap_39 w.params).In h₀) (hx : ValueOk x) (h : Q .none s) : wpAny (model prog w) A (call (.builtin "re.Pattern.search") [.ref 46, .str x t]) Q E s := by
  obtain ⟨p0, p1, o, oc, k, ho, hc, hn, hd, hoc, hcd⟩ := at_value (X.keeps F.keep)
  exact call_search ho hc hd hoc hcd (code := valueCode) (by kernel_rfl) (fun m e => by unfold Sre.M.hasFirstSet; rw [e]; rfl) (fun c hm => out_value (hx c hm).1 (hx c hm).2) h
end
local macro_rules | `(tactic| walk_at "getMethod ref") => `(tactic| (k_here; (with_reducible show wpAny _ _ (getMethod (Value.ref 41) _ _) _ _ _); k_dflt (refine meth_name (by k_asm) (by k_asm) ?_)))
local macro_rules | `(tactic| walk_at "getMethod ref") => `(tactic| (k_here; (with_reducible show wpAny _ _ (getMethod (Value.ref 46) _ _) _ _ _); k_dflt (refine meth_value (by k_asm) (by k_asm) ?_)))
local macro_rules | `(tactic| walk_at "call builtin:re.Pattern.search") => `(tactic| (k_here; (with_reducible show wpAny _ _ (call _ (Value.ref 41 :: _) _) _ _ _); k_dflt (refine search_name (by k_asm) (by k_asm) (by k_asm) ?_)))
local macro_rules | `(tactic| walk_at "call builtin:re.Pattern.search") => `(tactic| (k_here; (with_reducible show wpAny _ _ (call _ (Value.ref 46 :: _) _) _ _ _); k_dflt (refine search_value (by k_asm) (by k_asm) (by k_asm) ?_)))
theorem conv_name (w : World) (mean : ExcName → Option Value) (mg mb : Str → Option Value) (x : Str) (t : Tok) (sf : Addr) (hx : NameOk x) : Ct w mean mg mb 76 6 [.ref sf, .str x t] [(Str.ofString "name", .bool true)] [] (fun _ => True) (fun _ _ r => r = .str x t) := by
  unfold Ct
  k_fill
  intro dp un gd cn cs a ccd cl outer A₀ base h₀ L m s Q E B F X N T hck hdp hun hpre hret
  refine wpAny_call ?_
  k_dflt (refine' enter ?k1 ?k2 ?k3 ?k4 ?k5 ?kA ?kF ?kK ?k6 ?k7 ?k8 ?k9 ?kB ?_ ?c2 ?c3 ?c4 ?c5; (case kA => exact rfl); (case kF => exact rfl); (case kK => first | assumption | exact rfl); (case k1 => k_asm); (case k2 => k_asm); (case k3 => k_asm); (case k4 => k_asm); (case k5 => k_asm); (case k6 => k_is); (case k7 => k_is); (case k8 => ktr_room); (case k9 => first | exact BindsTo.of_eq rfl | exact binds_K (by k_in) rfl (by k_is) rfl rfl rfl); (case c5 => decide); (case kB => exact locs rfl); (case c2 => exact rfl); (case c3 => exact rfl); (case c4 => exact rfl); k_whole; intro g L' h' FG F' N' B' X' T' hBut hLt; (try dsimp only); (try k_fold))
  k_steps
  all_goals first
    | exact hret _ _ _ (by k_asm) (end_but (by k_asm) (by k_asm)) rfl
theorem conv_value (w : World) (mean : ExcName → Option Value) (mg mb : Str → Option Value) (x : Str) (t : Tok) (sf : Addr) (hx : ValueOk x) : Ct w mean mg mb 76 6 [.ref sf, .str x t] [(Str.ofString "name", .bool false)] [] (fun _ => True) (fun _ _ r => r = .str x t) := by
  unfold Ct
  k_fill
  intro dp un gd cn cs a ccd cl outer A₀ base h₀ L m s Q E B F X N T hck hdp hun hpre hret
  refine wpAny_call ?_
  k_dflt (refine' enter ?k1 ?k2 ?k3 ?k4 ?k5 ?kA ?kF ?kK ?k6 ?k7 ?k8 ?k9 ?kB ?_ ?c2 ?c3 ?c4 ?c5; (case kA => exact rfl); (case kF => exact rfl); (case kK => first | assumption | exact rfl); (case k1 => k_asm); (case k2 => k_asm); (case k3 => k_asm); (case k4 => k_asm); (case k5 => k_asm); (case k6 => k_is); (case k7 => k_is); (case k8 => ktr_room); (case k9 => first | exact BindsTo.of_eq rfl | exact binds_K (by k_in) rfl (by k_is) rfl rfl rfl); (case c5 => decide); (case kB => exact locs rfl); (case c2 => exact rfl); (case c3 => exact rfl); (case c4 => exact rfl); k_whole; intro g L' h' FG F' N' B' X' T' hBut hLt; (try dsimp only); (try k_fold))
  k_steps
  all_goals first
    | exact hret _ _ _ (by k_asm) (end_but (by k_asm) (by k_asm)) rfl

end Mine
end
end
section
open PySem PySem.W PyProof.Rows PySem.Spec PySem.Calls
noncomputable section
namespace Mine
local macro_rules | `(tactic| walk_at "m none") => `(tactic| fail)
local macro_rules | `(tactic| walk_at "m none") => `(tactic| fail)
local macro_rules | `(tactic| walk_at "m none") => `(tactic| fail)
local macro_rules | `(tactic| walk_at "m none") => `(tactic| fail)
local macro_rules | `(tactic| walk_at "m none") => `(tactic| fail)
local macro_rules | `(tactic| walk_at "m none") => `(tactic| fail)
local macro_rules | `(tactic| walk_at "m none") => `(tactic| fail)
local macro_rules | `(tactic| walk_at "m none") => `(tactic| fail)
local macro_rules | `(tactic| walk_at "m none") => `(tactic| fail)
local macro_rules | `(tactic| walk_at "m none") => `(tactic| fail)
local macro_rules | `(tactic| walk_at "m none") => `(tactic| fail)
local macro_rules | `(tactic| walk_at "m none") => `(tactic| fail)
local macro_rules | `(tactic| walk_at "m none") => `(tactic| fail)
local macro_rules | `(tactic| walk_at "m none") => `(tactic| fail)
local macro_rules | `(tactic| walk_at "m none") => `(tactic| fail)
local macro_rules | `(tactic| walk_at "m none") => `(tactic| fail)
local macro_rules | `(tactic| walk_at "m none") => `(tactic| fail)
local macro_rules | `(tactic| walk_at "m none") => `(tactic| fail)
local macro_rules | `(tactic| walk_at "m none") => `(tactic| fail)
local macro_rules | `(tactic| walk_at "m none") => `(tactic| fail)
local macro_rules | `(tactic| walk_at "m none") => `(tactic| fail)
local macro_rules | `(tactic| walk_at "m none") => `(tactic| fail)
local macro_rules | `(tactic| walk_at "m none") => `(tactic| fail)
local macro_rules | `(tactic| walk_at "m none") => `(tactic| fail)
local macro_rules | `(tactic| walk_at "m none") => `(tactic| fail)
local macro_rules | `(tactic| walk_at "m none") => `(tactic| fail)
local macro_rules | `(tactic| walk_at "m none") => `(tactic| fail)
local macro_rules | `(tactic| walk_at "m none") => `(tactic| fail)
local macro_rules | `(tactic| walk_at "m none") => `(tactic| fail)
local macro_rules | `(tactic| walk_at "m none") => `(tactic| fail)
local macro_rules | `(tactic| walk_at "m args") => `(tactic| ((case kB => k_asm); (case kF => k_asm); (case kX => k_asm); (case kN => k_asm); (case kT => k_asm); (case kK => first | exact rfl | assumption); (case kd => ktr_room); (case ku => ktr_units)))
local macro_rules | `(tactic| walk_at "m stop") => `(tactic| first | (with_reducible show wpAny _ _ (eval (Expr.ListComp _ _ _ _) _) _ _ _) | (with_reducible show wpAny _ _ (exec (Stmt.For _ _ _ _ _) _) _ _ _) | (with_reducible show LCt.CompSrcT _ _ _ _ _ _ _ _ _ _ _ _ _ _ _) | (with_reducible show wpAny _ _ (pyIter _) (fun it s₂ => TurnsAt _ _ _ _ _ _ _ _ _ it s₂) _ _))
local macro_rules | `(tactic| walk_at "m steps") => `(tactic| repeat' (first | ((fail_if_success (walk_at "m stop")); first | (k_unfold; (try dsimp only)) | (k_end; wrow_close) | walk1 | (dsimp only; walk1) | (leave1; walk_say "STEP leave1"; try dsimp only))))
local macro_rules | `(tactic| walk_at "call ref") => `(tactic| (k_here; (with_reducible show wpAny _ _ (call (Value.ref 76) _ _) _ _ _); k_dflt (first | refine' useT (conv_name _ _ _ _ _ _ _ ?hx) ?kB ?kF ?kX ?kN ?kT ?kK ?kd ?ku trivial ?_ | refine' useT (conv_value _ _ _ _ _ _ _ ?hx) ?kB ?kF ?kX ?kN ?kT ?kK ?kd ?ku trivial ?_); (case hx => assumption); k_dflt (walk_at "m args"); (intro r9 h9 tk9 F9 N9 st9 p9; subst p9; clear st9); (try k_fold)))
local macro_rules | `(tactic| walk_at "subscriptTail") => `(tactic| (k_here; (with_reducible show wpAny _ _ (subscriptTail _ _ (Value.ref _) (Value.int _ _)) _ _ _); (with_reducible rename IsTup _ _ _ => hTup'); k_dflt (refine' item_tupleT ?t ?a ?b ?c ?d ?_; (case t => exact IsTup.keeps hTup' (Fr.keep (by k_asm))); (case a => decide); (case b => decide); (case c => rfl); (case d => rfl); k_whole)))
theorem items_ok (w : World) (mean : ExcName → Option Value) (mg mb : Str → Option Value) (x dx l : Addr) (hsh : Int) (tk : Tok) (n k : Nat) (vs : List Value) (hz : vs.length ≤ 100) :
   Ct w mean mg mb 139 12 [.ref x] [] (tab x dx l hsh tk n k vs) (fun _ => True)
     (fun h h' r => h.StaysIn h' ∧ ∃ D o, r = .ref D ∧ h.get? D = none ∧ h'.get? D = some o ∧ o.cls = .type "list" ∧ o.data = .seq vs.toArray 0) := by
  unfold Ct
  k_fill
  intro dp un gd cn cs a ccd cl outer A₀ base h₀ L m s Q E B F X N T hck hdp hun hpre hret
  refine wpAny_call ?_
  k_dflt (refine' enter ?k1 ?k2 ?k3 ?k4 ?k5 ?kA ?kF ?kK ?k6 ?k7 ?k8 ?k9 ?kB ?_ ?c2 ?c3 ?c4 ?c5; (case kA => exact rfl); (case kF => exact rfl); (case kK => first | assumption | exact rfl); (case k1 => k_asm); (case k2 => k_asm); (case k3 => k_asm); (case k4 => k_asm); (case k5 => k_asm); (case k6 => k_is); (case k7 => k_is); (case k8 => ktr_room); (case k9 => first | exact BindsTo.of_eq rfl | exact binds_K (by k_in) rfl (by k_is) rfl rfl rfl); (case c5 => decide); (case kB => exact locs rfl); (case c2 => exact rfl); (case c3 => exact rfl); (case c4 => exact rfl); k_whole; intro g L' h' FG F' N' B' X' T' hBut hLt; (try dsimp only); (try k_fold))
  have l1 := hLt
  (try k_lt l1)
  have lh := F'.ns.lt
  k_steps
  (rename News g L' _ _ => NZ)
  (rename Fr g L' _ _ => FZ)
  have z := end_one (h₀ := h₀) hBut NZ (.head _) (fun q hq e => by
    have e' : h'.objs.size + 1 = q.1 := e
    have lq : h'.objs.size + 1 < L' := by rw [e']; exact hLt q hq
    exact Nat.lt_irrefl _ (Nat.lt_trans lh (Nat.lt_of_succ_lt lq)))
  exact hret _ _ _ (by k_asm) (end_but hBut FZ) ⟨end_stays hBut FZ N (fun p hp => NZ p (List.mem_cons_of_mem _ hp)), _, _, rfl, z.1, z.2, rfl, by rw [slicePick_all]⟩
theorem del_ok (w : World) (mean : ExcName → Option Value) (mg mb : Str → Option Value) (x dx l : Addr) (hsh : Int) (tk : Tok) (n k : Nat) (rs : List HR) (nm : Str) (t : Tok) (hx : NameOk (Txt.lower nm)) (hl : nm.length ≤ 100) (hz : rs.length ≤ 100) (hk : ∀ r ∈ rs, r.k.length ≤ 100) :
   Ct w mean mg mb 95 12 [.ref x, .str nm t] [] (tab x dx l hsh tk n k (rs.map HR.ref)) (fun h => RowsAt h rs)
     (fun _ h' r => r = .none ∧ ∃ k', ∀ p ∈ tab x dx l hsh tk n k' ((rs.filter fun r => !(Txt.lower r.k == Txt.lower nm)).map HR.ref), h'.get? p.1 = some p.2) := by
  unfold Ct
  k_fill
  intro dp un gd cn cs a ccd cl outer A₀ base h₀ L m s Q E B F X N T hck hdp hun hpre hret
  refine wpAny_call ?_
  k_dflt (refine' enterC ?k1 ?k2 ?k3 ?k4 ?k5 ?kA ?kF ?kK ?k6 ?k7 ?k8 ?k9 ?kB ?kD ?_ ?c2 ?c3 ?c4; (case kA => exact rfl); (case kF => exact rfl); (case kK => first | assumption | exact rfl); (case k1 => k_asm); (case k2 => k_asm); (case k3 => k_asm); (case k4 => k_asm); (case k5 => k_asm); (case k6 => k_is); (case k7 => k_is); (case k8 => ktr_room); (case k9 => first | exact BindsTo.of_eq rfl | exact binds_K (by k_in) rfl (by k_is) rfl rfl rfl); (case kB => exact rfl); (case kD => decide +kernel); (case c2 => exact rfl); (case c3 => exact rfl); (case c4 => exact rfl); k_whole; intro g L' h' tk' cells' FG F' N' Y' B' X' T' hBut hLt)
  have l1 := hLt
  (try k_lt l1)
  k_cells Y'
  (try simp only [List.cons_append, List.nil_append] at N')
  (try dsimp only)
  (try k_fold)
  walk_at "m steps"
  have hR := rows_but hpre hBut N tab_cls
  k_dflt (refine LCt.ListComp_T (F₀ := by k_asm) (by with_unfolding_all rfl) (by decide) (by rfl) (by decide) (by rfl) ?_)
  walk_at "m steps"
  refine LCt.CompSrcT.ledger rfl (by k_asm) (by k_asm) (by k_mem) (by rw [List.size_toArray, List.length_map]; exact Nat.le_trans hz (by decide)) ?_
  intro g1
  refine rest_filter rs HR.ref HR.ref (fun r => !(Txt.lower r.k == Txt.lower nm)) (.inr ⟨_, by k_mem, rfl, _, rfl⟩) ?_ ?_
  · intro r hr I oI C oC D ys m₂ h2 tk2 E' hoC hmx F2 N2 off ne
    have hT := hR.tup hr
    have hrk := hk r hr
    simp only [HR.ref] at hmx
    k_steps
    all_goals exact ⟨_, _, rfl, by k_asm, by k_asm⟩
  · intro D hD tkD FD ND offD
    k_steps
    have hlD : l ≠ D := off1_all offD (l, W.listOf (rs.map HR.ref).toArray k) (by k_mem) |> Ne.symm
    have NT : News g L' hD (tab x dx l hsh tk n k (rs.map HR.ref)) := fun p hp => ND p (List.mem_cons_of_mem _ (List.mem_cons_of_mem _ hp))
    have hlo := NT (l, W.listOf (rs.map HR.ref).toArray k) (by k_mem)
    refine setItem_all (l := l) (k := k) (items := (rs.map HR.ref).toArray) (new := ((rs.filter fun r => !(Txt.lower r.k == Txt.lower nm)).map HR.ref).toArray) ?_ ?_ ?_ ?_ ?_ ?_
    · exact Heap.get?_push_of_some _ hlo.1
    · exact Heap.IsSliceOf.new hD .none .none .none
    · exact ⟨_, Heap.get?_push_of_some _ (ND (D, _) (.head _)).1, rfl, _, rfl⟩
    · exact hlD
    · have := List.length_filter_le (fun r => !(Txt.lower r.k == Txt.lower nm)) rs
      simp only [List.size_toArray, List.length_map]
      have : sizeLine = 2 ^ 24 := rfl
      omega
    · intro h2 k2 ho2 hs2
      have hs3 : Heap.SameBut l (hD.push { cls := .type "slice", data := .fields #[.none, .none, .none] }) h2 := hs2
      have FP := fr_same (FD.push _) hs3 (fun e => hlo.2.1 e.symm) hlo.2.2
      have NP0 : News g L' (hD.push { cls := .type "slice", data := .fields #[.none, .none, .none] }) (tab x dx l hsh tk n k (rs.map HR.ref)) := fun p hp => (News.push FD NT { cls := .type "slice", data := .fields #[.none, .none, .none] } rfl) p (List.mem_cons_of_mem _ hp)
      have NP := tab_set NP0 hs3 ho2
      have hBD := end_but hBut FP
      clear FD ND NT NP0 hlo hs2
      k_steps
      exact hret _ _ _ (by k_asm) hBD ⟨rfl, _, fun p hp => (NP p hp).1⟩

end Mine
end
end
section
open PySem PySem.W PyProof.Rows PySem.Spec PySem.Calls
noncomputable section
namespace Mine
local macro_rules | `(tactic| walk_at "m args") => `(tactic| ((case kB => k_asm); (case kF => k_asm); (case kX => k_asm); (case kN => k_asm); (case kT => k_asm); (case kK => first | exact rfl | assumption); (case kd => ktr_room); (case ku => ktr_units)))
local macro_rules | `(tactic| walk_at "m stop") => `(tactic| first | (with_reducible show wpAny _ _ (eval (Expr.ListComp _ _ _ _) _) _ _ _) | (with_reducible show wpAny _ _ (exec (Stmt.For _ _ _ _ _) _) _ _ _) | (with_reducible show LCt.CompSrcT _ _ _ _ _ _ _ _ _ _ _ _ _ _ _) | (with_reducible show wpAny _ _ (pyIter _) (fun it s₂ => TurnsAt _ _ _ _ _ _ _ _ _ it s₂) _ _))
local macro_rules | `(tactic| walk_at "m steps") => `(tactic| repeat' (first | ((fail_if_success (walk_at "m stop")); first | (k_unfold; (try dsimp only)) | (k_end; wrow_close) | walk1 | (dsimp only; walk1) | (leave1; walk_say "STEP leave1"; try dsimp only))))
local macro_rules | `(tactic| walk_at "call ref") => `(tactic| (k_here; (with_reducible show wpAny _ _ (call (Value.ref 76) _ _) _ _ _); k_dflt (first | refine' useT (conv_name _ _ _ _ _ _ _ ?hx) ?kB ?kF ?kX ?kN ?kT ?kK ?kd ?ku trivial ?_ | refine' useT (conv_value _ _ _ _ _ _ _ ?hx) ?kB ?kF ?kX ?kN ?kT ?kK ?kd ?ku trivial ?_); (case hx => assumption); k_dflt (walk_at "m args"); (intro r9 h9 tk9 F9 N9 st9 p9; subst p9; clear st9); (try k_fold)))
local macro_rules | `(tactic| walk_at "subscriptTail") => `(tactic| (k_here; (with_reducible show wpAny _ _ (subscriptTail _ _ (Value.ref _) (Value.int _ _)) _ _ _); (with_reducible rename IsTup _ _ _ => hTup'); k_dflt (refine' item_tupleT ?t ?a ?b ?c ?d ?_; (case t => exact IsTup.keeps hTup' (Fr.keep (by k_asm))); (case a => decide); (case b => decide); (case c => rfl); (case d => rfl); k_whole)))
local macro_rules | `(tactic| walk_at "eval Name") => `(tactic| (k_here; k_dflt (refine' ld ?k1 ?k2 ?_; (case k1 => k_asm); (case k2 => ((try dsimp only); (repeat (refine look_ne (by decide) ?_)); assumption)); k_whole)))
theorem get_ok (w : World) (mean : ExcName → Option Value) (mg mb : Str → Option Value) (x dx l : Addr) (hsh : Int) (tz : Tok) (n k : Nat) (rs : List HR) (nm : Str) (t : Tok) (hx : NameOk (Txt.lower nm)) (hl : nm.length ≤ 100) (hz : rs.length ≤ 100) (hk : ∀ r ∈ rs, r.k.length ≤ 100) :
   Ct w mean mg mb 122 12 [.ref x, .str nm t] [] (tab x dx l hsh tz n k (rs.map HR.ref)) (fun h => RowsAt h rs)
     (fun h h' r => h.StaysIn h' ∧ r = match rs.find? (fun r => Txt.lower r.k == Txt.lower nm) with | some r => r.value | none => .none) := by
  unfold Ct
  k_fill
  intro dp un gd cn cs a ccd cl outer A₀ base h₀ L m s Q E B F X N T hck hdp hun hpre hret
  refine wpAny_call ?_
  k_dflt (refine' enter ?k1 ?k2 ?k3 ?k4 ?k5 ?kA ?kF ?kK ?k6 ?k7 ?k8 ?k9 ?kB ?_ ?c2 ?c3 ?c4 ?c5; (case kA => exact rfl); (case kF => exact rfl); (case kK => first | assumption | exact rfl); (case k1 => k_asm); (case k2 => k_asm); (case k3 => k_asm); (case k4 => k_asm); (case k5 => k_asm); (case k6 => k_is); (case k7 => k_is); (case k8 => ktr_room); (case k9 => first | exact BindsTo.of_eq rfl | exact binds_K (by k_in) rfl (by k_is) rfl rfl rfl); (case c5 => decide); (case kB => exact locs rfl); (case c2 => exact rfl); (case c3 => exact rfl); (case c4 => exact rfl); k_whole; intro g L' h' FG F' N' B' X' T' hBut hLt; (try dsimp only); (try k_fold))
  have l1 := hLt
  (try k_lt l1)
  walk_at "m steps"
  have hR := rows_but hpre hBut N tab_cls
  refine For_turns (by k_asm) ?_
  walk_at "m steps"
  refine iter_listTurns rfl (by k_asm) (by k_asm) (by k_mem) rfl rfl fun I hI => ?_
  rw [List.map_map]
  (try k_lt hI)
  refine items_rest (Itm.val ∘ HR.ref) (fun rest m₁ news₁ => news₁ = tab x dx l hsh tz n k (rs.map HR.ref) ∧ (∃ t, m₁ (Str.ofString "name") = some (.str (Txt.lower nm) t)) ∧ m₁ (Str.ofString "default") = some .none ∧ (∀ r ∈ rest, r ∈ rs) ∧ rs.find? (fun r => Txt.lower r.k == Txt.lower nm) = rest.find? (fun r => Txt.lower r.k == Txt.lower nm)) ?_ ?_ rs _ _ ⟨rfl, ⟨_, rfl⟩, rfl, fun _ h => h, rfl⟩
  · rintro r rest m₁ news₁ ⟨rfl, ⟨t0, hm1⟩, hm2, hsub, hfind⟩ v h3 tk3 hv F3
    have hv' : v = .ref r.t := hv
    subst hv'
    refine AllObj.cons (fun o' hc' => AllObj.nil fun N3 => ?_)
    (try dsimp only at hc')
    (try simp only [List.cons_append, List.nil_append] at N3)
    have hr := hsub r (.head _)
    have hT := hR.tup hr
    have hrk := hk r hr
    k_steps
    all_goals first
      | exact hsub _ (.tail _ (by assumption))
      | exact hfind.trans (List.find?_cons_of_neg (fun e => Bool.false_ne_true ((by assumption : (Txt.lower r.k == Txt.lower nm) = false).symm.trans e)))
      | exact hret _ _ _ (by k_asm) (end_but hBut (by assumption)) ⟨end_stays hBut (by assumption) N (fun p hp => (by assumption : News g L' _ ((I, o') :: tab x dx l hsh tz n k (rs.map HR.ref))) p (List.mem_cons_of_mem _ hp)), by rw [hfind.trans (List.find?_cons_of_pos (by assumption))]; rfl⟩
  · rintro m₁ news₁ h3 tk3 ⟨rfl, ⟨t0, hm1⟩, hm2, hsub, hfind⟩ F3 N3
    k_steps
    all_goals first
      | exact hret _ _ _ (by k_asm) (end_but hBut (by assumption)) ⟨end_stays hBut (by assumption) N N3, by rw [hfind]; rfl⟩

end Mine
end
end
section
open PySem PySem.W PyProof.Rows PySem.Spec PySem.Calls
noncomputable section
namespace Mine
local macro_rules | `(tactic| walk_at "m args") => `(tactic| ((case kB => k_asm); (case kF => k_asm); (case kX => k_asm); (case kN => k_asm); (case kT => k_asm); (case kK => first | exact rfl | assumption); (case kd => ktr_room); (case ku => ktr_units)))
local macro_rules | `(tactic| walk_at "m stop") => `(tactic| first | (with_reducible show wpAny _ _ (eval (Expr.ListComp _ _ _ _) _) _ _ _) | (with_reducible show wpAny _ _ (exec (Stmt.For _ _ _ _ _) _) _ _ _) | (with_reducible show LCt.CompSrcT _ _ _ _ _ _ _ _ _ _ _ _ _ _ _) | (with_reducible show wpAny _ _ (pyIter _) (fun it s₂ => TurnsAt _ _ _ _ _ _ _ _ _ it s₂) _ _))
local macro_rules | `(tactic| walk_at "m steps") => `(tactic| repeat' (first | ((fail_if_success (walk_at "m stop")); first | (k_unfold; (try dsimp only)) | (k_end; wrow_close) | walk1 | (dsimp only; walk1) | (leave1; walk_say "STEP leave1"; try dsimp only))))
/-- behind the call the table has one row more, and the row is new -/
def Pushed (x dx l : Addr) (hsh : Int) (tz : Tok) (n : Nat) (us : List HR) (nm vl : Str) (h h' : Heap) : Prop :=
  ∃ (k' : Nat) (R : HR), R.k = nm ∧ R.v = vl ∧ h.get? R.t = none ∧ h'.get? R.t = some R.obj ∧ ∀ p ∈ tab x dx l hsh tz n k' ((us ++ [R]).map HR.ref), h'.get? p.1 = some p.2
theorem end_push {g h h' : Heap} {L' x dx l D : Addr} {hsh : Int} {tz t t2 : Tok} {n k kk c : Nat} {vs : List Value} {us : List HR} {nm vl : Str} {all : List (Addr × Obj)} (b : But (tab x dx l hsh tz n k vs) h g) (NZ : News g L' h' all)
    (hD : (D, ({ cls := .type "tuple", data := .seq #[.str nm t, .str vl t2] c } : Obj)) ∈ all) (hx : (x, instObj 175 dx) ∈ all) (hdx : (dx, dictOf [⟨hsh, .str (Str.ofString "_headers") tz, .ref l⟩] n) ∈ all) (hl : (l, W.listOf ((us.map HR.ref).toArray.push (.ref D)) kk) ∈ all) :
    Pushed x dx l hsh tz n us nm vl h h' := by
  have e := rows_push us (HR.mk D c nm t vl t2)
  have e' : (us.map HR.ref).toArray.push (.ref D) = ((us ++ [HR.mk D c nm t vl t2]).map HR.ref).toArray := e
  rw [e'] at hl
  have sub : ∀ p ∈ tab x dx l hsh tz n kk ((us ++ [HR.mk D c nm t vl t2]).map HR.ref), p ∈ all := by
    intro p hp
    rcases List.mem_cons.mp hp with rfl | hp
    · exact hx
    · rcases List.mem_cons.mp hp with rfl | hp
      · exact hdx
      · rw [List.mem_singleton.mp hp]; exact hl
  have off := tab_off (vs := vs) (k := k) NZ hD rfl sub
  have z := end_one (h₀ := h) b NZ hD off
  exact ⟨kk, (HR.mk D c nm t vl t2), rfl, rfl, z.1, z.2, fun p hp => (NZ p (sub p hp)).1⟩
section
variable {w : World} {mean : ExcName → Option Value} {mg mb : Str → Option Value} {f : Addr} {nn : Nat} {vs : List Value} {kw : List (Str × Value)} {pre : Heap → Prop} {post : Heap → Heap → Value → Prop}
  {dp un : Nat} {gd : Option (List Code)} {cn : Str} {cs : Scope} {a : Addr} {ccd : Value} {cl : List (Str × Addr)} {outer : List Env} {A₀ : Around} {base h₀ : Heap} {L : Addr} {m : Str → Option Value} {s : Shared} {Q E : Value → Shared → Prop}
  {x dx l : Addr} {hsh : Int} {tk : Tok} {n k : Nat} {us ws : List Value} {rs : List HR} {p : HR → Bool} {o : Option HR}
/-- the value that is found, the table as it was -/
theorem use_get (C : Ct w mean mg mb f nn vs kw (tab x dx l hsh tk n k us) pre (fun h h' r => h.StaysIn h' ∧ r = match rs.find? p with | some r => r.value | none => .none)) (B : Below A₀ base outer h₀) (F : Fr h₀ L s.heap m) (X : (hd.heap_39 w.params).In h₀) (N : News h₀ L s.heap (tab x dx l hsh tk n k us)) (T : Top hd.view_39 loo mean mg mb h₀) (hk : cs.kind = .function) (hd : dp + nn < recursionLimit) (hu : un + 8 * nn + 64 < cLine) (hpre : pre s.heap)
    (ho : rs.find? p = o)
    (ret : ∀ h' tk', Fr h₀ L h' m → News h₀ L h' (tab x dx l hsh tk n k us) → s.heap.StaysIn h' → Q (match o with | some r => r.value | none => .none) { s with heap := h', toks := tk' }) :
    wpAny (model PySem.Challenge.rw_pg0217_01.row.prog w) (ktrTop dp un gd cn cs L a ccd cl outer) (call (.ref f) vs kw) Q E s :=
  use C B F X N T hk hd hu hpre fun r h' tk' F' b p => by
    obtain ⟨st, rfl⟩ := p
    subst ho
    exact ret h' tk' F' (fun q hq => ⟨st _ _ (N q hq).1, (N q hq).2⟩) st
end

end Mine
end
end
section
open PySem PySem.W PyProof.Rows PySem.Spec PySem.Calls
noncomputable section
namespace Mine
local macro_rules | `(tactic| walk_at "m none") => `(tactic| fail)
local macro_rules | `(tactic| walk_at "m none") => `(tactic| fail)
local macro_rules | `(tactic| walk_at "m none") => `(tactic| fail)
local macro_rules | `(tactic| walk_at "m none") => `(tactic| fail)
local macro_rules | `(tactic| walk_at "m none") => `(tactic| fail)
local macro_rules | `(tactic| walk_at "m none") => `(tactic| fail)
local macro_rules | `(tactic| walk_at "m none") => `(tactic| fail)
local macro_rules | `(tactic| walk_at "m none") => `(tactic| fail)
local macro_rules | `(tactic| walk_at "m none") => `(tactic| fail)
local macro_rules | `(tactic| walk_at "m none") => `(tactic| fail)
local macro_rules | `(tactic| walk_at "m none") => `(tactic| fail)
local macro_rules | `(tactic| walk_at "m none") => `(tactic| fail)
local macro_rules | `(tactic| walk_at "m none") => `(tactic| fail)
local macro_rules | `(tactic| walk_at "m none") => `(tactic| fail)
local macro_rules | `(tactic| walk_at "m none") => `(tactic| fail)
local macro_rules | `(tactic| walk_at "m none") => `(tactic| fail)
local macro_rules | `(tactic| walk_at "m none") => `(tactic| fail)
local macro_rules | `(tactic| walk_at "m none") => `(tactic| fail)
local macro_rules | `(tactic| walk_at "m none") => `(tactic| fail)
local macro_rules | `(tactic| walk_at "m none") => `(tactic| fail)
local macro_rules | `(tactic| walk_at "m none") => `(tactic| fail)
local macro_rules | `(tactic| walk_at "m none") => `(tactic| fail)
local macro_rules | `(tactic| walk_at "m none") => `(tactic| fail)
local macro_rules | `(tactic| walk_at "m none") => `(tactic| fail)
local macro_rules | `(tactic| walk_at "m none") => `(tactic| fail)
local macro_rules | `(tactic| walk_at "m none") => `(tactic| fail)
local macro_rules | `(tactic| walk_at "m none") => `(tactic| fail)
local macro_rules | `(tactic| walk_at "m none") => `(tactic| fail)
local macro_rules | `(tactic| walk_at "m none") => `(tactic| fail)
local macro_rules | `(tactic| walk_at "m none") => `(tactic| fail)
local macro_rules | `(tactic| walk_at "m args") => `(tactic| ((case kB => k_asm); (case kF => k_asm); (case kX => k_asm); (case kN => k_asm); (case kT => k_asm); (case kK => first | exact rfl | assumption); (case kd => ktr_room); (case ku => ktr_units)))
local macro_rules | `(tactic| walk_at "m stop") => `(tactic| first | (with_reducible show wpAny _ _ (eval (Expr.ListComp _ _ _ _) _) _ _ _) | (with_reducible show wpAny _ _ (exec (Stmt.For _ _ _ _ _) _) _ _ _) | (with_reducible show LCt.CompSrcT _ _ _ _ _ _ _ _ _ _ _ _ _ _ _) | (with_reducible show wpAny _ _ (pyIter _) (fun it s₂ => TurnsAt _ _ _ _ _ _ _ _ _ it s₂) _ _))
local macro_rules | `(tactic| walk_at "m steps") => `(tactic| repeat' (first | ((fail_if_success (walk_at "m stop")); first | (k_unfold; (try dsimp only)) | (k_end; wrow_close) | walk1 | (dsimp only; walk1) | (leave1; walk_say "STEP leave1"; try dsimp only))))
local macro_rules | `(tactic| walk_at "call ref") => `(tactic| (k_here; (with_reducible show wpAny _ _ (call (Value.ref 76) _ _) _ _ _); k_dflt (first | refine' useT (conv_name _ _ _ _ _ _ _ ?hx) ?kB ?kF ?kX ?kN ?kT ?kK ?kd ?ku trivial ?_ | refine' useT (conv_value _ _ _ _ _ _ _ ?hx) ?kB ?kF ?kX ?kN ?kT ?kK ?kd ?ku trivial ?_); (case hx => assumption); k_dflt (walk_at "m args"); (intro r9 h9 tk9 F9 N9 st9 p9; subst p9; clear st9); (try k_fold)))
local macro_rules | `(tactic| walk_at "subscriptTail") => `(tactic| (k_here; (with_reducible show wpAny _ _ (subscriptTail _ _ (Value.ref _) (Value.int _ _)) _ _ _); (with_reducible rename IsTup _ _ _ => hTup'); k_dflt (refine' item_tupleT ?t ?a ?b ?c ?d ?_; (case t => exact IsTup.keeps hTup' (Fr.keep (by k_asm))); (case a => decide); (case b => decide); (case c => rfl); (case d => rfl); k_whole)))
local macro_rules | `(tactic| walk_at "call ref") => `(tactic| (k_here; (with_reducible show wpAny _ _ (call (Value.ref 95) _ _) _ _ _); k_dflt (refine' use_tab (del_ok _ _ _ _ _ _ _ _ _ _ _ _ _ _ ?hx ?hl ?hz ?hk) ?kB ?kF ?kX ?kN ?kT ?kK ?kd ?ku ?hpre ?_); (case hx => assumption); (case hl => assumption); (case hz => assumption); (case hk => assumption); k_dflt (walk_at "m args"); (case hpre => exact fun r hr => Fr.keep (by k_asm) _ _ (by first | exact (by assumption : RowsAt _ _) r hr)); (intro k9 h9 tk9 F9 N9 bt9); (try clear bt9); (try k_fold)))
local macro_rules | `(tactic| walk_at "delItem ref") => `(tactic| (k_here; (with_reducible show wpAny _ _ (delItem (Value.ref _) _) _ _ _); k_dflt (refine' own_delItem ?F ?X ?I ?hQ ?hS ?hF ?_; (case F => k_asm); (case X => k_asm); (case I => k_inst); (case hS => k_is); (case hF => k_is); (case hQ => k_is); k_whole)))
local macro_rules | `(tactic| walk_at "call ref") => `(tactic| (k_here; (with_reducible show wpAny _ _ (call (Value.ref 122) _ _) _ _ _); k_dflt (refine' use_get (get_ok _ _ _ _ _ _ _ _ _ _ _ _ _ _ ?hx ?hl ?hz ?hk) ?kB ?kF ?kX ?kN ?kT ?kK ?kd ?ku ?hpre ?hq ?_); (case hx => assumption); (case hl => assumption); (case hz => assumption); (case hk => assumption); k_dflt (walk_at "m args"); (case hpre => exact fun r hr => Fr.keep (by k_asm) _ _ (by first | exact (by assumption : RowsAt _ _) r hr)); (case hq => assumption); (intro h9 tk9 F9 N9 bt9); (try clear bt9); (try dsimp only [HR.value]); (try k_fold)))
theorem set_ok (w : World) (mean : ExcName → Option Value) (mg mb : Str → Option Value) (x dx l : Addr) (hsh : Int) (tz : Tok) (n k : Nat) (rs : List HR) (nm vl : Str) (t t2 : Tok) (hx : NameOk (Txt.lower nm)) (hx2 : NameOk nm) (hv : ValueOk vl) (hl : nm.length ≤ 100) (hz : rs.length ≤ 100) (hk : ∀ r ∈ rs, r.k.length ≤ 100) :
   Ct w mean mg mb 90 24 [.ref x, .str nm t, .str vl t2] [] (tab x dx l hsh tz n k (rs.map HR.ref)) (fun h => RowsAt h rs)
     (fun h h' r => r = .none ∧ Pushed x dx l hsh tz n (rs.filter fun r => !(Txt.lower r.k == Txt.lower nm)) nm vl h h') := by
  unfold Ct
  k_fill
  intro dp un gd cn cs a ccd cl outer A₀ base h₀ L m s Q E B F X N T hck hdp hun hpre hret
  refine wpAny_call ?_
  k_dflt (refine' enter ?k1 ?k2 ?k3 ?k4 ?k5 ?kA ?kF ?kK ?k6 ?k7 ?k8 ?k9 ?kB ?_ ?c2 ?c3 ?c4 ?c5; (case kA => exact rfl); (case kF => exact rfl); (case kK => first | assumption | exact rfl); (case k1 => k_asm); (case k2 => k_asm); (case k3 => k_asm); (case k4 => k_asm); (case k5 => k_asm); (case k6 => k_is); (case k7 => k_is); (case k8 => ktr_room); (case k9 => first | exact BindsTo.of_eq rfl | exact binds_K (by k_in) rfl (by k_is) rfl rfl rfl); (case c5 => decide); (case kB => exact locs rfl); (case c2 => exact rfl); (case c3 => exact rfl); (case c4 => exact rfl); k_whole; intro g L' h' FG F' N' B' X' T' hBut hLt; (try dsimp only); (try k_fold))
  have l1 := hLt
  (try k_lt l1)
  have hR := rows_but hpre hBut N tab_cls
  have hne := tab_ne N
  k_steps
  (rename News g L' _ _ => NZ)
  (rename Fr g L' _ _ => FZ)
  exact hret _ _ _ (by k_asm) (end_but hBut FZ) ⟨rfl, end_push hBut NZ (by k_mem) (by k_mem) (by k_mem) (by k_mem)⟩

end Mine
end
end
section
open PySem PySem.W PyProof.Rows PySem.Spec PySem.Calls
noncomputable section
namespace Mine
local macro_rules | `(tactic| walk_at "m args") => `(tactic| ((case kB => k_asm); (case kF => k_asm); (case kX => k_asm); (case kN => k_asm); (case kT => k_asm); (case kK => first | exact rfl | assumption); (case kd => ktr_room); (case ku => ktr_units)))
local macro_rules | `(tactic| walk_at "m stop") => `(tactic| first | (with_reducible show wpAny _ _ (eval (Expr.ListComp _ _ _ _) _) _ _ _) | (with_reducible show wpAny _ _ (exec (Stmt.For _ _ _ _ _) _) _ _ _) | (with_reducible show LCt.CompSrcT _ _ _ _ _ _ _ _ _ _ _ _ _ _ _) | (with_reducible show wpAny _ _ (pyIter _) (fun it s₂ => TurnsAt _ _ _ _ _ _ _ _ _ it s₂) _ _))
local macro_rules | `(tactic| walk_at "m steps") => `(tactic| repeat' (first | ((fail_if_success (walk_at "m stop")); first | (k_unfold; (try dsimp only)) | (k_end; wrow_close) | walk1 | (dsimp only; walk1) | (leave1; walk_say "STEP leave1"; try dsimp only))))
local macro_rules | `(tactic| walk_at "call ref") => `(tactic| (k_here; (with_reducible show wpAny _ _ (call (Value.ref 76) _ _) _ _ _); k_dflt (first | refine' useT (conv_name _ _ _ _ _ _ _ ?hx) ?kB ?kF ?kX ?kN ?kT ?kK ?kd ?ku trivial ?_ | refine' useT (conv_value _ _ _ _ _ _ _ ?hx) ?kB ?kF ?kX ?kN ?kT ?kK ?kd ?ku trivial ?_); (case hx => assumption); k_dflt (walk_at "m args"); (intro r9 h9 tk9 F9 N9 st9 p9; subst p9; clear st9); (try k_fold)))
local macro_rules | `(tactic| walk_at "subscriptTail") => `(tactic| (k_here; (with_reducible show wpAny _ _ (subscriptTail _ _ (Value.ref _) (Value.int _ _)) _ _ _); (with_reducible rename IsTup _ _ _ => hTup'); k_dflt (refine' item_tupleT ?t ?a ?b ?c ?d ?_; (case t => exact IsTup.keeps hTup' (Fr.keep (by k_asm))); (case a => decide); (case b => decide); (case c => rfl); (case d => rfl); k_whole)))
local macro_rules | `(tactic| walk_at "call ref") => `(tactic| (k_here; (with_reducible show wpAny _ _ (call (Value.ref 95) _ _) _ _ _); k_dflt (refine' use_tab (del_ok _ _ _ _ _ _ _ _ _ _ _ _ _ _ ?hx ?hl ?hz ?hk) ?kB ?kF ?kX ?kN ?kT ?kK ?kd ?ku ?hpre ?_); (case hx => assumption); (case hl => assumption); (case hz => assumption); (case hk => assumption); k_dflt (walk_at "m args"); (case hpre => exact fun r hr => Fr.keep (by k_asm) _ _ (by first | exact (by assumption : RowsAt _ _) r hr)); (intro k9 h9 tk9 F9 N9 bt9); (try clear bt9); (try k_fold)))
local macro_rules | `(tactic| walk_at "delItem ref") => `(tactic| (k_here; (with_reducible show wpAny _ _ (delItem (Value.ref _) _) _ _ _); k_dflt (refine' own_delItem ?F ?X ?I ?hQ ?hS ?hF ?_; (case F => k_asm); (case X => k_asm); (case I => k_inst); (case hS => k_is); (case hF => k_is); (case hQ => k_is); k_whole)))
local macro_rules | `(tactic| walk_at "call ref") => `(tactic| (k_here; (with_reducible show wpAny _ _ (call (Value.ref 122) _ _) _ _ _); k_dflt (refine' use_get (get_ok _ _ _ _ _ _ _ _ _ _ _ _ _ _ ?hx ?hl ?hz ?hk) ?kB ?kF ?kX ?kN ?kT ?kK ?kd ?ku ?hpre ?hq ?_); (case hx => assumption); (case hl => assumption); (case hz => assumption); (case hk => assumption); k_dflt (walk_at "m args"); (case hpre => exact fun r hr => Fr.keep (by k_asm) _ _ (by first | exact (by assumption : RowsAt _ _) r hr)); (case hq => assumption); (intro h9 tk9 F9 N9 bt9); (try clear bt9); (try dsimp only [HR.value]); (try k_fold)))
theorem default_ok (w : World) (mean : ExcName → Option Value) (mg mb : Str → Option Value) (x dx l : Addr) (hsh : Int) (tz : Tok) (n k : Nat) (rs : List HR) (nm vl : Str) (t t2 : Tok) (hx : NameOk (Txt.lower nm)) (hx2 : NameOk nm) (hv : ValueOk vl) (hl : nm.length ≤ 100) (hz : rs.length ≤ 100) (hk : ∀ r ∈ rs, r.k.length ≤ 100) :
   Ct w mean mg mb 165 24 [.ref x, .str nm t, .str vl t2] [] (tab x dx l hsh tz n k (rs.map HR.ref)) (fun h => RowsAt h rs)
     (fun h h' r => match rs.find? (fun r => Txt.lower r.k == Txt.lower nm) with
       | some q => r = q.value ∧ h.StaysIn h'
       | none => r = .str vl t2 ∧ Pushed x dx l hsh tz n rs nm vl h h') := by
  unfold Ct
  k_fill
  intro dp un gd cn cs a ccd cl outer A₀ base h₀ L m s Q E B F X N T hck hdp hun hpre hret
  refine wpAny_call ?_
  k_dflt (refine' enter ?k1 ?k2 ?k3 ?k4 ?k5 ?kA ?kF ?kK ?k6 ?k7 ?k8 ?k9 ?kB ?_ ?c2 ?c3 ?c4 ?c5; (case kA => exact rfl); (case kF => exact rfl); (case kK => first | assumption | exact rfl); (case k1 => k_asm); (case k2 => k_asm); (case k3 => k_asm); (case k4 => k_asm); (case k5 => k_asm); (case k6 => k_is); (case k7 => k_is); (case k8 => ktr_room); (case k9 => first | exact BindsTo.of_eq rfl | exact binds_K (by k_in) rfl (by k_is) rfl rfl rfl); (case c5 => decide); (case kB => exact locs rfl); (case c2 => exact rfl); (case c3 => exact rfl); (case c4 => exact rfl); k_whole; intro g L' h' FG F' N' B' X' T' hBut hLt; (try dsimp only); (try k_fold))
  have l1 := hLt
  (try k_lt l1)
  have hR := rows_but hpre hBut N tab_cls
  have hne := tab_ne N
  cases hq : rs.find? (fun r => Txt.lower r.k == Txt.lower nm) with
  | none =>
    k_steps
    (rename News g L' _ _ => NZ)
    (rename Fr g L' _ _ => FZ)
    exact hret _ _ _ (by k_asm) (end_but hBut FZ) (by dsimp only; rw [hq]; exact ⟨rfl, end_push hBut NZ (by k_mem) (by k_mem) (by k_mem) (by k_mem)⟩)
  | some q =>
    k_steps
    (rename News g L' _ _ => NZ)
    (rename Fr g L' _ _ => FZ)
    exact hret _ _ _ (by k_asm) (end_but hBut FZ) (by dsimp only; rw [hq]; exact ⟨rfl, end_stays hBut FZ N NZ⟩)

end Mine
end
end
section
open PySem PySem.W PyProof.Rows PySem.Spec PySem.Calls
noncomputable section
namespace Mine
local macro_rules | `(tactic| walk_at "m none") => `(tactic| fail)
local macro_rules | `(tactic| walk_at "m none") => `(tactic| fail)
local macro_rules | `(tactic| walk_at "m none") => `(tactic| fail)
local macro_rules | `(tactic| walk_at "m none") => `(tactic| fail)
local macro_rules | `(tactic| walk_at "m none") => `(tactic| fail)
local macro_rules | `(tactic| walk_at "m none") => `(tactic| fail)
local macro_rules | `(tactic| walk_at "m none") => `(tactic| fail)
local macro_rules | `(tactic| walk_at "m none") => `(tactic| fail)
local macro_rules | `(tactic| walk_at "m none") => `(tactic| fail)
local macro_rules | `(tactic| walk_at "m none") => `(tactic| fail)
local macro_rules | `(tactic| walk_at "m none") => `(tactic| fail)
local macro_rules | `(tactic| walk_at "m none") => `(tactic| fail)
local macro_rules | `(tactic| walk_at "m none") => `(tactic| fail)
local macro_rules | `(tactic| walk_at "m none") => `(tactic| fail)
local macro_rules | `(tactic| walk_at "m none") => `(tactic| fail)
local macro_rules | `(tactic| walk_at "m none") => `(tactic| fail)
local macro_rules | `(tactic| walk_at "m none") => `(tactic| fail)
local macro_rules | `(tactic| walk_at "m none") => `(tactic| fail)
local macro_rules | `(tactic| walk_at "m none") => `(tactic| fail)
local macro_rules | `(tactic| walk_at "m none") => `(tactic| fail)
local macro_rules | `(tactic| walk_at "m none") => `(tactic| fail)
local macro_rules | `(tactic| walk_at "m none") => `(tactic| fail)
local macro_rules | `(tactic| walk_at "m none") => `(tactic| fail)
local macro_rules | `(tactic| walk_at "m none") => `(tactic| fail)
local macro_rules | `(tactic| walk_at "m none") => `(tactic| fail)
local macro_rules | `(tactic| walk_at "m none") => `(tactic| fail)
local macro_rules | `(tactic| walk_at "m none") => `(tactic| fail)
local macro_rules | `(tactic| walk_at "m none") => `(tactic| fail)
local macro_rules | `(tactic| walk_at "m none") => `(tactic| fail)
local macro_rules | `(tactic| walk_at "m none") => `(tactic| fail)
local macro_rules | `(tactic| walk_at "m args") => `(tactic| ((case kB => k_asm); (case kF => k_asm); (case kX => k_asm); (case kN => k_asm); (case kT => k_asm); (case kK => first | exact rfl | assumption); (case kd => ktr_room); (case ku => ktr_units)))
local macro_rules | `(tactic| walk_at "m stop") => `(tactic| first | (with_reducible show wpAny _ _ (eval (Expr.ListComp _ _ _ _) _) _ _ _) | (with_reducible show wpAny _ _ (exec (Stmt.For _ _ _ _ _) _) _ _ _) | (with_reducible show LCt.CompSrcT _ _ _ _ _ _ _ _ _ _ _ _ _ _ _) | (with_reducible show wpAny _ _ (pyIter _) (fun it s₂ => TurnsAt _ _ _ _ _ _ _ _ _ it s₂) _ _))
local macro_rules | `(tactic| walk_at "m steps") => `(tactic| repeat' (first | ((fail_if_success (walk_at "m stop")); first | (k_unfold; (try dsimp only)) | (k_end; wrow_close) | walk1 | (dsimp only; walk1) | (leave1; walk_say "STEP leave1"; try dsimp only))))
local macro_rules | `(tactic| walk_at "call ref") => `(tactic| (k_here; (with_reducible show wpAny _ _ (call (Value.ref 76) _ _) _ _ _); k_dflt (first | refine' useT (conv_name _ _ _ _ _ _ _ ?hx) ?kB ?kF ?kX ?kN ?kT ?kK ?kd ?ku trivial ?_ | refine' useT (conv_value _ _ _ _ _ _ _ ?hx) ?kB ?kF ?kX ?kN ?kT ?kK ?kd ?ku trivial ?_); (case hx => assumption); k_dflt (walk_at "m args"); (intro r9 h9 tk9 F9 N9 st9 p9; subst p9; clear st9); (try k_fold)))
local macro_rules | `(tactic| walk_at "subscriptTail") => `(tactic| (k_here; (with_reducible show wpAny _ _ (subscriptTail _ _ (Value.ref _) (Value.int _ _)) _ _ _); (with_reducible rename IsTup _ _ _ => hTup'); k_dflt (refine' item_tupleT ?t ?a ?b ?c ?d ?_; (case t => exact IsTup.keeps hTup' (Fr.keep (by k_asm))); (case a => decide); (case b => decide); (case c => rfl); (case d => rfl); k_whole)))
local macro_rules | `(tactic| k_ne) => `(tactic| (refine' ne_of_news ?kn ?km; (case kn => assumption); (case km => k_mem)))
theorem add_ok (w : World) (mean : ExcName → Option Value) (mg mb : Str → Option Value) (x dx l : Addr) (hsh : Int) (tz : Tok) (n k : Nat) (rs : List HR) (nm vl : Str) (t t2 : Tok) (hx2 : NameOk nm) (hv : ValueOk vl) (hl : nm.length ≤ 100) (hl2 : vl.length ≤ 100) (hz : rs.length ≤ 100) :
   Ct w mean mg mb 172 24 [.ref x, .str nm t, .str vl t2] [] (tab x dx l hsh tz n k (rs.map HR.ref)) (fun _ => True)
     (fun h h' r => r = .none ∧ Pushed x dx l hsh tz n rs nm vl h h') := by
  unfold Ct
  k_fill
  intro dp un gd cn cs a ccd cl outer A₀ base h₀ L m s Q E B F X N T hck hdp hun hpre hret
  refine wpAny_call ?_
  k_dflt (refine' enterN ?k1 ?k2 ?k3 ?k4 ?k5 ?kA ?kF ?kK ?k6 ?k7 ?k8 ?kP ?kT ?kB ?_ ?c2 ?c3 ?c4 ?c5; (case kA => exact rfl); (case kF => exact rfl); (case kK => first | assumption | exact rfl); (case k1 => k_asm); (case k2 => k_asm); (case k3 => k_asm); (case k4 => k_asm); (case k5 => k_asm); (case k6 => k_is); (case k7 => k_is); (case k8 => ktr_room); (case kP => exact rfl); (case kT => exact fun _ => rfl); (case kB => exact fun _ => locs rfl); (case c5 => decide); (case c2 => exact rfl); (case c3 => exact rfl); (case c4 => exact rfl); k_whole; intro D g L' h' tk' hSys hLt FG F' N' B' X' T' hBut)
  have l1 := hLt
  (try k_lt l1)
  (try dsimp only)
  (try k_fold)
  have hne := tab_ne N
  have hs9 : (dictOf [] 0).IsDictOf (PySem.strKind PySem.Challenge.rw_pg0217_01.row.prog w) [] := kp_isDict (ex := []) 0 0 .nil
  have fs9 : PyProof.V.FlatPairs PyData.str ([] : List (Str × Value)) [] := .nil
  k_steps
  (rename News g L' _ _ => NZ)
  (rename Fr g L' _ _ => FZ)
  exact hret _ _ _ (by k_asm) (end_but hBut FZ) ⟨rfl, end_push hBut NZ (by k_mem) (by k_mem) (by k_mem) (by k_mem)⟩

end Mine
end
end
section
open PySem PySem.W PyProof.Rows PySem.Spec PySem.Calls
noncomputable section
namespace Mine
local macro_rules | `(tactic| walk_at "m args") => `(tactic| ((case kB => k_asm); (case kF => k_asm); (case kX => k_asm); (case kN => k_asm); (case kT => k_asm); (case kK => first | exact rfl | assumption); (case kd => ktr_room); (case ku => ktr_units)))
local macro_rules | `(tactic| walk_at "m stop") => `(tactic| first | (with_reducible show wpAny _ _ (exec (Stmt.Assign _ (Expr.ListComp _ _ _ _) _) _) _ _ _) | (with_reducible show wpAny _ _ (eval (Expr.ListComp _ _ _ _) _) _ _ _) | (with_reducible show wpAny _ _ (exec (Stmt.For _ _ _ _ _) _) _ _ _) | (with_reducible show LCt.CompSrcT _ _ _ _ _ _ _ _ _ _ _ _ _ _ _) | (with_reducible show wpAny _ _ (pyIter _) (fun it s₂ => TurnsAt _ _ _ _ _ _ _ _ _ it s₂) _ _))
local macro_rules | `(tactic| walk_at "m steps") => `(tactic| repeat' (first | ((fail_if_success (walk_at "m stop")); first | (k_unfold; (try dsimp only)) | (k_end; wrow_close) | walk1 | (dsimp only; walk1) | (leave1; walk_say "STEP leave1"; try dsimp only))))
theorem pushed_use {g hs h h' : Heap} {L' x dx l : Addr} {hsh : Int} {tz : Tok} {n k : Nat} {vs : List Value} {us : List HR} {nm vl : Str} (st : hs.StaysIn h) (N : News g L' h (tab x dx l hsh tz n k vs)) (P : Pushed x dx l hsh tz n us nm vl h h') :
    Pushed x dx l hsh tz n us nm vl hs h' ∧ ∃ k' ws, News g L' h' (tab x dx l hsh tz n k' ws) := by
  obtain ⟨k', R, e1, e2, hn, ho, hp⟩ := P
  refine ⟨⟨k', R, e1, e2, ?_, ho, hp⟩, k', _, fun q hq => ⟨hp q hq, ?_⟩⟩
  · cases e : hs.get? R.t with
    | none => rfl
    | some o => rw [st _ _ e] at hn; cases hn
  · rcases List.mem_cons.mp hq with rfl | hq
    · exact (N (x, instObj 175 dx) (by k_mem)).2
    · rcases List.mem_cons.mp hq with rfl | hq
      · exact (N (dx, dictOf [⟨hsh, .str (Str.ofString "_headers") tz, .ref l⟩] n) (by k_mem)).2
      · rw [List.mem_singleton.mp hq]
        exact (N (l, W.listOf vs.toArray k) (by k_mem)).2

end Mine
end
end
section
open PySem PySem.W PyProof.Rows PySem.Spec PySem.Calls
noncomputable section
namespace Mine
local macro_rules | `(tactic| walk_at "m args") => `(tactic| ((case kB => k_asm); (case kF => k_asm); (case kX => k_asm); (case kN => k_asm); (case kT => k_asm); (case kK => first | exact rfl | assumption); (case kd => ktr_room); (case ku => ktr_units)))
local macro_rules | `(tactic| walk_at "m stop") => `(tactic| first | (with_reducible show wpAny _ _ (exec (Stmt.Assign _ (Expr.ListComp _ _ _ _) _) _) _ _ _) | (with_reducible show wpAny _ _ (eval (Expr.ListComp _ _ _ _) _) _ _ _) | (with_reducible show wpAny _ _ (exec (Stmt.For _ _ _ _ _) _) _ _ _) | (with_reducible show LCt.CompSrcT _ _ _ _ _ _ _ _ _ _ _ _ _ _ _) | (with_reducible show wpAny _ _ (pyIter _) (fun it s₂ => TurnsAt _ _ _ _ _ _ _ _ _ it s₂) _ _))
local macro_rules | `(tactic| walk_at "m steps") => `(tactic| repeat' (first | ((fail_if_success (walk_at "m stop")); first | (k_unfold; (try dsimp only)) | (k_end; wrow_close) | walk1 | (dsimp only; walk1) | (leave1; walk_say "STEP leave1"; try dsimp only))))
local macro_rules | `(tactic| walk_at "call ref") => `(tactic| (k_here; (with_reducible show wpAny _ _ (call (Value.ref 90) _ _) _ _ _); k_dflt (refine' use (set_ok _ _ _ _ _ _ _ _ _ _ _ _ _ _ _ _ ?h1 ?h2 ?h3 ?h4 ?h5 ?h6) ?kB ?kF ?kX ?kN ?kT ?kK ?kd ?ku ?hpre ?_); (case h1 => assumption); (case h2 => assumption); (case h3 => assumption); (case h4 => assumption); (case h5 => assumption); (case h6 => assumption); k_dflt (walk_at "m args"); (case hpre => exact fun r hr => Fr.keep (by k_asm) _ _ (by first | exact (by assumption : RowsAt _ _) r hr)); (intro r9 h9 tk9 F9 bt9 p9; obtain ⟨e9, q9⟩ := p9; subst e9; have P9 := pushed_use (by assumption) (by k_asm) q9; clear q9; obtain ⟨q8, k8, w8, N8⟩ := P9); (try k_fold)))
local macro_rules | `(tactic| walk_at "call ref") => `(tactic| (k_here; (with_reducible show wpAny _ _ (call (Value.ref 172) _ _) _ _ _); k_dflt (refine' use (add_ok _ _ _ _ _ _ _ _ _ _ _ _ _ _ _ _ ?h2 ?h3 ?h4 ?h7 ?h5) ?kB ?kF ?kX ?kN ?kT ?kK ?kd ?ku trivial ?_); (case h2 => assumption); (case h3 => assumption); (case h4 => assumption); (case h5 => assumption); (case h7 => assumption); k_dflt (walk_at "m args"); (intro r9 h9 tk9 F9 bt9 p9; obtain ⟨e9, q9⟩ := p9; subst e9; have P9 := pushed_use (by assumption) (by k_asm) q9; clear q9; obtain ⟨q8, k8, w8, N8⟩ := P9); (try k_fold)))
local macro_rules | `(tactic| walk_at "call ref") => `(tactic| (k_here; (with_reducible show wpAny _ _ (call (Value.ref 95) _ _) _ _ _); k_dflt (refine' use_tab (del_ok _ _ _ _ _ _ _ _ _ _ _ _ _ _ ?hx ?hl ?hz ?hk) ?kB ?kF ?kX ?kN ?kT ?kK ?kd ?ku ?hpre ?_); (case hx => assumption); (case hl => assumption); (case hz => assumption); (case hk => assumption); k_dflt (walk_at "m args"); (case hpre => exact fun r hr => Fr.keep (by k_asm) _ _ (by first | exact (by assumption : RowsAt _ _) r hr)); (intro k9 h9 tk9 F9 N9 bt9); (try clear bt9); (try k_fold)))
local macro_rules | `(tactic| walk_at "delItem ref") => `(tactic| (k_here; (with_reducible show wpAny _ _ (delItem (Value.ref _) _) _ _ _); k_dflt (refine' own_delItem ?F ?X ?I ?hQ ?hS ?hF ?_; (case F => k_asm); (case X => k_asm); (case I => k_inst); (case hS => k_is); (case hF => k_is); (case hQ => k_is); k_whole)))
local macro_rules | `(tactic| walk_at "call ref") => `(tactic| (k_here; (with_reducible show wpAny _ _ (call (Value.ref 122) _ _) _ _ _); k_dflt (refine' use_get (get_ok _ _ _ _ _ _ _ _ _ _ _ _ _ _ ?hx ?hl ?hz ?hk) ?kB ?kF ?kX ?kN ?kT ?kK ?kd ?ku ?hpre ?hq ?_); (case hx => assumption); (case hl => assumption); (case hz => assumption); (case hk => assumption); k_dflt (walk_at "m args"); (case hpre => exact fun r hr => Fr.keep (by k_asm) _ _ (by first | exact (by assumption : RowsAt _ _) r hr)); (case hq => assumption); (intro h9 tk9 F9 N9 bt9); (try clear bt9); (try dsimp only [HR.value]); (try k_fold)))
theorem deed0_ok (w : World) (mean : ExcName → Option Value) (mg mb : Str → Option Value) (x dx l : Addr) (hsh : Int) (tz : Tok) (n k : Nat) (rs : List HR) (nm vl : Str) (t t0 t2 : Tok) (hx : NameOk (Txt.lower nm)) (hx2 : NameOk nm) (hv : ValueOk vl) (hl : nm.length ≤ 100) (hl2 : vl.length ≤ 100) (hz : rs.length ≤ 100) (hk : ∀ r ∈ rs, r.k.length ≤ 100) :
   Ct w mean mg mb 248 36 [.ref x, .int 0 t0, .str nm t, .str vl t2] [] (tab x dx l hsh tz n k (rs.map HR.ref)) (fun h => RowsAt h rs)
     (fun h h' r => r = .none ∧ Pushed x dx l hsh tz n (rs.filter fun r => !(Txt.lower r.k == Txt.lower nm)) nm vl h h') := by
  unfold Ct
  k_fill
  intro dp un gd cn cs a ccd cl outer A₀ base h₀ L m s Q E B F X N T hck hdp hun hpre hret
  refine wpAny_call ?_
  k_dflt (refine' enter ?k1 ?k2 ?k3 ?k4 ?k5 ?kA ?kF ?kK ?k6 ?k7 ?k8 ?k9 ?kB ?_ ?c2 ?c3 ?c4 ?c5; (case kA => exact rfl); (case kF => exact rfl); (case kK => first | assumption | exact rfl); (case k1 => k_asm); (case k2 => k_asm); (case k3 => k_asm); (case k4 => k_asm); (case k5 => k_asm); (case k6 => k_is); (case k7 => k_is); (case k8 => ktr_room); (case k9 => first | exact BindsTo.of_eq rfl | exact binds_K (by k_in) rfl (by k_is) rfl rfl rfl); (case c5 => decide); (case kB => exact locs rfl); (case c2 => exact rfl); (case c3 => exact rfl); (case c4 => exact rfl); k_whole; intro g L' h' FG F' N' B' X' T' hBut hLt; (try dsimp only); (try k_fold))
  have l1 := hLt
  (try k_lt l1)
  have hR := rows_but hpre hBut N tab_cls
  have hST : s.heap.StaysIn h' := end_stays hBut F' N N'
  k_steps
  (rename News g L' _ _ => NZ)
  (rename Fr g L' _ _ => FZ)
  exact hret _ _ _ (by k_asm) (end_but hBut FZ) ⟨rfl, by assumption⟩
theorem deed1_ok (w : World) (mean : ExcName → Option Value) (mg mb : Str → Option Value) (x dx l : Addr) (hsh : Int) (tz : Tok) (n k : Nat) (rs : List HR) (nm vl : Str) (t t0 t2 : Tok) (hx : NameOk (Txt.lower nm)) (hx2 : NameOk nm) (hv : ValueOk vl) (hl : nm.length ≤ 100) (hl2 : vl.length ≤ 100) (hz : rs.length ≤ 100) (hk : ∀ r ∈ rs, r.k.length ≤ 100) :
   Ct w mean mg mb 248 36 [.ref x, .int 1 t0, .str nm t, .str vl t2] [] (tab x dx l hsh tz n k (rs.map HR.ref)) (fun h => RowsAt h rs)
     (fun h h' r => r = .none ∧ ∃ k', ∀ p ∈ tab x dx l hsh tz n k' ((rs.filter fun r => !(Txt.lower r.k == Txt.lower nm)).map HR.ref), h'.get? p.1 = some p.2) := by
  unfold Ct
  k_fill
  intro dp un gd cn cs a ccd cl outer A₀ base h₀ L m s Q E B F X N T hck hdp hun hpre hret
  refine wpAny_call ?_
  k_dflt (refine' enter ?k1 ?k2 ?k3 ?k4 ?k5 ?kA ?kF ?kK ?k6 ?k7 ?k8 ?k9 ?kB ?_ ?c2 ?c3 ?c4 ?c5; (case kA => exact rfl); (case kF => exact rfl); (case kK => first | assumption | exact rfl); (case k1 => k_asm); (case k2 => k_asm); (case k3 => k_asm); (case k4 => k_asm); (case k5 => k_asm); (case k6 => k_is); (case k7 => k_is); (case k8 => ktr_room); (case k9 => first | exact BindsTo.of_eq rfl | exact binds_K (by k_in) rfl (by k_is) rfl rfl rfl); (case c5 => decide); (case kB => exact locs rfl); (case c2 => exact rfl); (case c3 => exact rfl); (case c4 => exact rfl); k_whole; intro g L' h' FG F' N' B' X' T' hBut hLt; (try dsimp only); (try k_fold))
  have l1 := hLt
  (try k_lt l1)
  have hR := rows_but hpre hBut N tab_cls
  have hST : s.heap.StaysIn h' := end_stays hBut F' N N'
  k_steps
  (rename News g L' _ _ => NZ)
  (rename Fr g L' _ _ => FZ)
  exact hret _ _ _ (by k_asm) (end_but hBut FZ) ⟨rfl, _, fun p hp => (NZ p hp).1⟩
theorem deed3_ok (w : World) (mean : ExcName → Option Value) (mg mb : Str → Option Value) (x dx l : Addr) (hsh : Int) (tz : Tok) (n k : Nat) (rs : List HR) (nm vl : Str) (t t0 t2 : Tok) (hx : NameOk (Txt.lower nm)) (hx2 : NameOk nm) (hv : ValueOk vl) (hl : nm.length ≤ 100) (hl2 : vl.length ≤ 100) (hz : rs.length ≤ 100) (hk : ∀ r ∈ rs, r.k.length ≤ 100) :
   Ct w mean mg mb 248 36 [.ref x, .int 3 t0, .str nm t, .str vl t2] [] (tab x dx l hsh tz n k (rs.map HR.ref)) (fun h => RowsAt h rs)
     (fun h h' r => r = .none ∧ Pushed x dx l hsh tz n rs nm vl h h') := by
  unfold Ct
  k_fill
  intro dp un gd cn cs a ccd cl outer A₀ base h₀ L m s Q E B F X N T hck hdp hun hpre hret
  refine wpAny_call ?_
  k_dflt (refine' enter ?k1 ?k2 ?k3 ?k4 ?k5 ?kA ?kF ?kK ?k6 ?k7 ?k8 ?k9 ?kB ?_ ?c2 ?c3 ?c4 ?c5; (case kA => exact rfl); (case kF => exact rfl); (case kK => first | assumption | exact rfl); (case k1 => k_asm); (case k2 => k_asm); (case k3 => k_asm); (case k4 => k_asm); (case k5 => k_asm); (case k6 => k_is); (case k7 => k_is); (case k8 => ktr_room); (case k9 => first | exact BindsTo.of_eq rfl | exact binds_K (by k_in) rfl (by k_is) rfl rfl rfl); (case c5 => decide); (case kB => exact locs rfl); (case c2 => exact rfl); (case c3 => exact rfl); (case c4 => exact rfl); k_whole; intro g L' h' FG F' N' B' X' T' hBut hLt; (try dsimp only); (try k_fold))
  have l1 := hLt
  (try k_lt l1)
  have hR := rows_but hpre hBut N tab_cls
  have hST : s.heap.StaysIn h' := end_stays hBut F' N N'
  k_steps
  (rename News g L' _ _ => NZ)
  (rename Fr g L' _ _ => FZ)
  exact hret _ _ _ (by k_asm) (end_but hBut FZ) ⟨rfl, by assumption⟩
theorem deed2_ok (w : World) (mean : ExcName → Option Value) (mg mb : Str → Option Value) (x dx l : Addr) (hsh : Int) (tz : Tok) (n k : Nat) (rs : List HR) (nm vl : Str) (t t0 t2 : Tok) (hx : NameOk (Txt.lower nm)) (hx2 : NameOk nm) (hv : ValueOk vl) (hl : nm.length ≤ 100) (hl2 : vl.length ≤ 100) (hz : rs.length ≤ 100) (hk : ∀ r ∈ rs, r.k.length ≤ 100) :
   Ct w mean mg mb 248 36 [.ref x, .int 2 t0, .str nm t, .str vl t2] [] (tab x dx l hsh tz n k (rs.map HR.ref)) (fun h => RowsAt h rs)
     (fun h h' r => match rs.find? (fun r => Txt.lower r.k == Txt.lower nm) with
       | some q => r = q.value ∧ h.StaysIn h'
       | none => r = .str vl t2 ∧ Pushed x dx l hsh tz n rs nm vl h h') := by
  unfold Ct
  k_fill
  intro dp un gd cn cs a ccd cl outer A₀ base h₀ L m s Q E B F X N T hck hdp hun hpre hret
  refine wpAny_call ?_
  k_dflt (refine' enter ?k1 ?k2 ?k3 ?k4 ?k5 ?kA ?kF ?kK ?k6 ?k7 ?k8 ?k9 ?kB ?_ ?c2 ?c3 ?c4 ?c5; (case kA => exact rfl); (case kF => exact rfl); (case kK => first | assumption | exact rfl); (case k1 => k_asm); (case k2 => k_asm); (case k3 => k_asm); (case k4 => k_asm); (case k5 => k_asm); (case k6 => k_is); (case k7 => k_is); (case k8 => ktr_room); (case k9 => first | exact BindsTo.of_eq rfl | exact binds_K (by k_in) rfl (by k_is) rfl rfl rfl); (case c5 => decide); (case kB => exact locs rfl); (case c2 => exact rfl); (case c3 => exact rfl); (case c4 => exact rfl); k_whole; intro g L' h' FG F' N' B' X' T' hBut hLt; (try dsimp only); (try k_fold))
  have l1 := hLt
  (try k_lt l1)
  have hR := rows_but hpre hBut N tab_cls
  have hST : s.heap.StaysIn h' := end_stays hBut F' N N'
  k_steps
  k_dflt (refine' use (default_ok _ _ _ _ _ _ _ _ _ _ _ _ _ _ _ _ hx hx2 hv hl hz hk) ?kB ?kF ?kX ?kN ?kT ?kK ?kd ?ku ?hpre ?_)
  k_dflt (walk_at "m args")
  case hpre => exact fun r hr => Fr.keep (by k_asm) _ _ (hR r hr)
  intro r9 h9 tk9 F9 bt9 p9
  cases hq : rs.find? (fun r => Txt.lower r.k == Txt.lower nm) with
  | none =>
    dsimp only at p9
    rw [hq] at p9
    obtain ⟨e9, q9⟩ := p9
    subst e9
    obtain ⟨q8, k8, w8, N8⟩ := pushed_use hST N' q9
    k_steps
    (rename Fr g L' _ _ => FZ)
    exact hret _ _ _ (by k_asm) (end_but hBut FZ) (by dsimp only; rw [hq]; exact ⟨rfl, q8⟩)
  | some q =>
    dsimp only at p9
    rw [hq] at p9
    obtain ⟨e9, q9⟩ := p9
    subst e9
    have N8 : News g L' h9 (tab x dx l hsh tz n k (rs.map HR.ref)) := fun p hp => ⟨q9 _ _ (N' p hp).1, (N' p hp).2⟩
    k_steps
    (rename Fr g L' _ _ => FZ)
    exact hret _ _ _ (by k_asm) (end_but hBut FZ) (by dsimp only; rw [hq]; exact ⟨rfl, fun b o e => q9 _ _ (hST b o e)⟩)

end Mine
end
end
section
open PySem PySem.W PyProof.Rows PySem.Spec PySem.Calls
noncomputable section
namespace Mine
local macro_rules | `(tactic| walk_at "m args") => `(tactic| ((case kB => k_asm); (case kF => k_asm); (case kX => k_asm); (case kN => k_asm); (case kT => k_asm); (case kK => first | exact rfl | assumption); (case kd => ktr_room); (case ku => ktr_units)))
local macro_rules | `(tactic| walk_at "m stop") => `(tactic| first | (with_reducible show wpAny _ _ (exec (Stmt.Assign _ (Expr.ListComp _ _ _ _) _) _) _ _ _) | (with_reducible show wpAny _ _ (eval (Expr.ListComp _ _ _ _) _) _ _ _) | (with_reducible show wpAny _ _ (exec (Stmt.For _ _ _ _ _) _) _ _ _) | (with_reducible show LCt.CompSrcT _ _ _ _ _ _ _ _ _ _ _ _ _ _ _) | (with_reducible show wpAny _ _ (pyIter _) (fun it s₂ => TurnsAt _ _ _ _ _ _ _ _ _ it s₂) _ _))
local macro_rules | `(tactic| walk_at "m steps") => `(tactic| repeat' (first | ((fail_if_success (walk_at "m stop")); first | (k_unfold; (try dsimp only)) | (k_end; wrow_close) | walk1 | (dsimp only; walk1) | (leave1; walk_say "STEP leave1"; try dsimp only))))
def lo (c : Nat) : Nat := if (65 ≤ c ∧ c ≤ 90) ∨ (192 ≤ c ∧ c ≤ 222 ∧ c ≠ 215) then c + 32 else c
theorem lowerOf_256 : ∀ c, c < 256 → Unicode.lowerOf c = [lo c] := by decide +kernel
theorem lower_256 {x : Str} (hA : ∀ c ∈ x.cps.toList, c < 256) : Txt.lower x = ⟨x.cps.map lo⟩ := by
  unfold Txt.lower
  rw [placed_single x _ lo fun i c hc => by
    have hc' : x.cps[i]? = some c := by simpa using hc
    have hlt := hA c (List.mem_of_getElem? hc)
    unfold Unicode.lowerAt
    rw [hc']
    have hne : (c == 0x3A3) = false := by rw [beq_eq_false_iff_ne]; omega
    simp only [hne, Bool.false_and, Bool.false_eq_true, if_false]
    exact lowerOf_256 c hlt]
/-- the words that the law makes -/
def WOk (wd : List (Int × Int)) : Prop := ∀ q ∈ wd, 0 ≤ q.1 ∧ q.1 < 32 ∧ 0 ≤ q.2 ∧ q.2 < 2
theorem map_eq_iff {α β γ δ : Type} {g : α → γ} {g' : β → γ} {k : α → δ} {k' : β → δ} : ∀ (l : List α) (l' : List β), (∀ a ∈ l, ∀ b ∈ l', g a = g' b ↔ k a = k' b) → (l.map g = l'.map g' ↔ l.map k = l'.map k')
  | [], [], _ => by simp
  | [], _ :: _, _ => by simp
  | _ :: _, [], _ => by simp
  | a :: l, b :: l', h => by
    have ih := map_eq_iff l l' fun x hx y hy => h x (.tail _ hx) y (.tail _ hy)
    have h0 := h a (.head _) b (.head _)
    simp only [List.map_cons, List.cons.injEq, h0, ih]
theorem sg_range {tn : Int} {q : Int × Int} (h : 0 ≤ q.1 ∧ q.1 < 32 ∧ 0 ≤ q.2 ∧ q.2 < 2) : 192 ≤ sg tn q ∧ sg tn q < 256 := by
  have := fmod_2 (q.2 + tn)
  unfold sg
  omega
theorem sg_fin : ∀ f, f < 32 → ∀ u, u < 2 → ∀ g, g < 32 → ∀ v, v < 2 → (lo (192 + f + u * 32) = lo (192 + g + v * 32) ↔ f = g ∧ (if f = 23 ∨ f = 31 then u else 0) = (if g = 23 ∨ g = 31 then v else 0)) := by decide +kernel
theorem sg_key {s t : Int} {q r : Int × Int} (hq : 0 ≤ q.1 ∧ q.1 < 32 ∧ 0 ≤ q.2 ∧ q.2 < 2) (hr : 0 ≤ r.1 ∧ r.1 < 32 ∧ 0 ≤ r.2 ∧ r.2 < 2) :
    lo (sg s q) = lo (sg t r) ↔ (q.1, nkV s q.1 q.2) = (r.1, nkV t r.1 r.2) := by
  have h1 := fmod_2 (q.2 + s)
  have h2 := fmod_2 (r.2 + t)
  have k1 : (([23, 31] : List Int).any fun x => x == q.1) = decide (q.1 = 23 ∨ q.1 = 31) := by
    simp only [List.any_cons, List.any_nil, Bool.or_false]
    rw [Bool.decide_or]
    congr 1 <;> (rw [Bool.beq_eq_decide_eq]; exact decide_eq_decide.mpr ⟨Eq.symm, Eq.symm⟩)
  have k2 : (([23, 31] : List Int).any fun x => x == r.1) = decide (r.1 = 23 ∨ r.1 = 31) := by
    simp only [List.any_cons, List.any_nil, Bool.or_false]
    rw [Bool.decide_or]
    congr 1 <;> (rw [Bool.beq_eq_decide_eq]; exact decide_eq_decide.mpr ⟨Eq.symm, Eq.symm⟩)
  unfold nkV sg
  rw [k1, k2, Prod.mk.injEq]
  generalize Int.fmod (q.2 + s) 2 = u at h1 ⊢
  generalize Int.fmod (r.2 + t) 2 = v at h2 ⊢
  obtain ⟨f, b⟩ := q
  obtain ⟨f', b'⟩ := r
  simp only [decide_eq_true_eq] at *
  obtain ⟨F, rfl⟩ := Int.eq_ofNat_of_zero_le hq.1
  obtain ⟨G, rfl⟩ := Int.eq_ofNat_of_zero_le hr.1
  obtain ⟨U, rfl⟩ := Int.eq_ofNat_of_zero_le h1.1
  obtain ⟨V, rfl⟩ := Int.eq_ofNat_of_zero_le h2.1
  have e1 : (64 + (F : Int) + (U : Int) * 32).toNat + 128 = 192 + F + U * 32 := by omega
  have e2 : (64 + (G : Int) + (V : Int) * 32).toNat + 128 = 192 + G + V * 32 := by omega
  rw [e1, e2, sg_fin F (by omega) U (by omega) G (by omega) V (by omega)]
  have c1 : ((F : Int) = 23 ∨ (F : Int) = 31) ↔ (F = 23 ∨ F = 31) := by omega
  have c2 : ((G : Int) = 23 ∨ (G : Int) = 31) ↔ (G = 23 ∨ G = 31) := by omega
  simp only [c1, c2]
  refine and_congr (by omega) ?_
  clear c1 c2 e1 e2 k1 k2
  split <;> split <;> omega
theorem lower_nm (tn : Int) {wd : List (Int × Int)} (h : WOk wd) : Txt.lower (nmOf tn wd) = ⟨((wd.map (sg tn)).map lo).toArray⟩ := by
  unfold nmOf
  rw [lower_256 (fun c hc => by
    obtain ⟨q, hq, rfl⟩ := List.mem_map.mp (show c ∈ wd.map (sg tn) from hc)
    exact (sg_range (h q hq)).2)]
  simp
/-- near: the first table's names -/
theorem near_law {s t : Int} {wd we : List (Int × Int)} (h : WOk wd) (h' : WOk we) : Txt.lower (nmOf s wd) = Txt.lower (nmOf t we) ↔ nkOf s wd = nkOf t we := by
  have e : ∀ (l l' : List Nat), (Str.mk l.toArray = Str.mk l'.toArray) ↔ l = l' := fun l l' =>
    ⟨fun k => by simpa using congrArg (fun z => z.cps.toList) k, fun k => by rw [k]⟩
  rw [lower_nm s h, lower_nm t h', e, List.map_map, List.map_map]
  unfold nkOf
  exact map_eq_iff wd we fun a ha b hb => sg_key (h a ha) (h' b hb)
theorem lo_lo {c : Nat} (h : c < 256) : lo (lo c) = lo c := by
  unfold lo
  (repeat' split) <;> omega
/-- the text that the second table's names show -/
def shTx (l : List Int) : Str := Str.mk (l.map fun f => [94, f.toNat + 64]).flatten.toArray
theorem join_gl (sep : Str) (l : List Str) : Txt.join sep l = Str.join sep l := by
  show Builtin.Str.glued sep l = _
  rw [StrLaws.glued_eq_join]
theorem cat_mk (a b : List Nat) : (Str.mk a.toArray ++ Str.mk b.toArray : Str) = Str.mk (a ++ b).toArray := by
  show Str.mk (a.toArray ++ b.toArray) = _
  rw [List.append_toArray]
theorem ctl_sg {t : Int} {q : Int × Int} (h : 0 ≤ q.1 ∧ q.1 < 32 ∧ 0 ≤ q.2 ∧ q.2 < 2) : Str.mk #[94, sg t q % 32 + 64] = Str.mk [94, q.1.toNat + 64].toArray := by
  have e : sg t q % 32 + 64 = q.1.toNat + 64 := by
    have := fmod_2 (q.2 + t)
    unfold sg
    omega
  rw [e]
theorem shown_text (t : Int) : ∀ {wd : List (Int × Int)}, WOk wd → Txt.join (Str.ofString "") ((wd.map (sg t)).map fun c => Str.mk #[94, c % 32 + 64]) = shTx (wd.map (·.1)) := by
  intro wd h
  rw [join_gl, List.map_map]
  unfold shTx
  induction wd with
  | nil => rfl
  | cons a r ih =>
    have ih' := ih fun q hq => h q (.tail _ hq)
    have ha := ctl_sg (t := t) (h a (.head _))
    cases r with
    | nil => simp only [List.map_cons, List.map_nil, Function.comp_apply, Str.join, List.flatten_cons, List.flatten_nil, List.append_nil]; exact ha
    | cons b r' =>
      rw [List.map_cons, List.map_cons] at ih' ⊢
      rw [List.map_cons]
      have hz : (Str.ofString "") = Str.mk ([] : List Nat).toArray := by decide
      show (Function.comp _ _ a ++ Str.ofString "" ++ Str.join (Str.ofString "") (_ :: _) : Str) = _
      rw [ih', Function.comp_apply, ha, hz, cat_mk, cat_mk]
      simp only [List.map_cons, List.flatten_cons, List.append_nil]
theorem lower_sh {l : List Int} (h : ∀ f ∈ l, 0 ≤ f ∧ f < 32) : Txt.lower (shTx l) = ⟨((l.map fun f => [94, f.toNat + 64]).flatten.map lo).toArray⟩ := by
  unfold shTx
  rw [lower_256 (fun c hc => by
    obtain ⟨x, hx, hc'⟩ := List.mem_flatten.mp (show c ∈ (l.map fun f => [94, f.toNat + 64]).flatten from hc)
    obtain ⟨f, hf, rfl⟩ := List.mem_map.mp hx
    have := h f hf
    rcases List.mem_cons.mp hc' with rfl | hc'
    · omega
    · have := List.mem_singleton.mp hc'
      omega)]
  simp
theorem sh_key (f g : Int) (hf : 0 ≤ f ∧ f < 32) (hg : 0 ≤ g ∧ g < 32) : lo (f.toNat + 64) = lo (g.toNat + 64) ↔ f = g := by
  unfold lo
  (repeat' split) <;> omega
/-- far: the second table's names -/
theorem far_law : ∀ {l l' : List Int}, (∀ f ∈ l, 0 ≤ f ∧ f < 32) → (∀ f ∈ l', 0 ≤ f ∧ f < 32) → (Txt.lower (shTx l) = Txt.lower (shTx l') ↔ l = l') := by
  intro l l' h h'
  rw [lower_sh h, lower_sh h']
  have e : ∀ (l l' : List Nat), (Str.mk l.toArray = Str.mk l'.toArray) ↔ l = l' := fun l l' =>
    ⟨fun k => by simpa using congrArg (fun z => z.cps.toList) k, fun k => by rw [k]⟩
  rw [e]
  induction l generalizing l' with
  | nil => cases l' <;> simp
  | cons a r ih =>
    cases l' with
    | nil => simp
    | cons b r' =>
      have i := ih (l' := r') (fun f hf => h f (.tail _ hf)) fun f hf => h' f (.tail _ hf)
      have k := sh_key a b (h a (.head _)) (h' b (.head _))
      simp only [List.map_cons, List.flatten_cons, List.cons_append, List.nil_append, List.cons.injEq, true_and, k, i]

end Mine
end
end
section
open PySem PySem.W PyProof.Rows PySem.Spec PySem.Calls
noncomputable section
namespace Mine
local macro_rules | `(tactic| walk_at "m args") => `(tactic| ((case kB => k_asm); (case kF => k_asm); (case kX => k_asm); (case kN => k_asm); (case kT => k_asm); (case kK => first | exact rfl | assumption); (case kd => ktr_room); (case ku => ktr_units)))
local macro_rules | `(tactic| walk_at "m stop") => `(tactic| first | (with_reducible show wpAny _ _ (exec (Stmt.Assign _ (Expr.ListComp _ _ _ _) _) _) _ _ _) | (with_reducible show wpAny _ _ (eval (Expr.ListComp _ _ _ _) _) _ _ _) | (with_reducible show wpAny _ _ (exec (Stmt.For _ _ _ _ _) _) _ _ _) | (with_reducible show LCt.CompSrcT _ _ _ _ _ _ _ _ _ _ _ _ _ _ _) | (with_reducible show wpAny _ _ (pyIter _) (fun it s₂ => TurnsAt _ _ _ _ _ _ _ _ _ it s₂) _ _))
local macro_rules | `(tactic| walk_at "m steps") => `(tactic| repeat' (first | ((fail_if_success (walk_at "m stop")); first | (k_unfold; (try dsimp only)) | (k_end; wrow_close) | walk1 | (dsimp only; walk1) | (leave1; walk_say "STEP leave1"; try dsimp only))))
theorem word_WOk {N : List (Addr × Obj)} {v : Value} {wd : List (Int × Int)} (h : WordIn N v wd) : WOk wd := by
  cases h with
  | nil l n => intro q hq; cases hq
  | one l a n k f b t u h1 h2 h3 h4 =>
    intro q hq
    have e := List.mem_singleton.mp hq
    subst e
    exact ⟨h1, h2, h3, h4⟩
  | two l a c n k j f b f' b' t u t' u' h1 h2 h3 h4 h5 h6 h7 h8 _ =>
    intro q hq
    rcases List.mem_cons.mp hq with e | hq
    · subst e; exact ⟨h1, h2, h3, h4⟩
    · have e := List.mem_singleton.mp hq
      subst e
      exact ⟨h5, h6, h7, h8⟩
theorem word_len {N : List (Addr × Obj)} {v : Value} {wd : List (Int × Int)} (h : WordIn N v wd) : wd.length ≤ 2 := by
  cases h <;> simp
theorem WOk.five {wd : List (Int × Int)} (h : WOk wd) : ∀ f ∈ wd.map (·.1), 0 ≤ f ∧ f < 32 := by
  intro f hf
  obtain ⟨q, hq, rfl⟩ := List.mem_map.mp hf
  exact ⟨(h q hq).1, (h q hq).2.1⟩
theorem name_nm (t : Int) {wd : List (Int × Int)} (h : WOk wd) : NameOk (nmOf t wd) := by
  intro c hc
  obtain ⟨q, hq, rfl⟩ := List.mem_map.mp (show c ∈ wd.map (sg t) from by simpa [nmOf] using hc)
  have := sg_range (tn := t) (h q hq)
  omega
theorem lo_range {c : Nat} (h : 192 ≤ c ∧ c < 256) : 192 ≤ lo c := by
  unfold lo
  split <;> omega
theorem name_lownm (t : Int) {wd : List (Int × Int)} (h : WOk wd) : NameOk (Txt.lower (nmOf t wd)) := by
  rw [lower_nm t h]
  intro c hc
  obtain ⟨q, hq, rfl⟩ := List.mem_map.mp (show c ∈ (wd.map (sg t)).map lo from by simpa using hc)
  obtain ⟨q', hq', rfl⟩ := List.mem_map.mp hq
  have := lo_range (sg_range (tn := t) (h q' hq'))
  omega
theorem sh_codes {l : List Int} (h : ∀ f ∈ l, 0 ≤ f ∧ f < 32) : ∀ c ∈ (l.map fun f => [94, f.toNat + 64]).flatten, 64 ≤ c ∧ c < 96 := by
  intro c hc
  obtain ⟨x, hx, hc'⟩ := List.mem_flatten.mp hc
  obtain ⟨f, hf, rfl⟩ := List.mem_map.mp hx
  have := h f hf
  rcases List.mem_cons.mp hc' with rfl | hc'
  · omega
  · have := List.mem_singleton.mp hc'
    omega
theorem name_sh {l : List Int} (h : ∀ f ∈ l, 0 ≤ f ∧ f < 32) : NameOk (shTx l) := by
  intro c hc
  have := sh_codes h c (by simpa [shTx] using hc)
  omega
theorem name_lowsh {l : List Int} (h : ∀ f ∈ l, 0 ≤ f ∧ f < 32) : NameOk (Txt.lower (shTx l)) := by
  rw [lower_sh h]
  intro c hc
  obtain ⟨d, hd', rfl⟩ := List.mem_map.mp (show c ∈ ((l.map fun f => [94, f.toNat + 64]).flatten).map lo from by simpa using hc)
  have := sh_codes h d hd'
  unfold lo
  split <;> omega
theorem len_nm (t : Int) {wd : List (Int × Int)} (h : wd.length ≤ 2) : (nmOf t wd).length ≤ 100 := by
  have : (nmOf t wd).length = wd.length := by show (wd.map (sg t)).toArray.size = _; simp
  omega

end Mine
end
end
section
open PySem PySem.W PyProof.Rows PySem.Spec PySem.Calls
noncomputable section
namespace Mine
local macro_rules | `(tactic| walk_at "m args") => `(tactic| ((case kB => k_asm); (case kF => k_asm); (case kX => k_asm); (case kN => k_asm); (case kT => k_asm); (case kK => first | exact rfl | assumption); (case kd => ktr_room); (case ku => ktr_units)))
local macro_rules | `(tactic| walk_at "m stop") => `(tactic| first | (with_reducible show wpAny _ _ (exec (Stmt.Assign _ (Expr.ListComp _ _ _ _) _) _) _ _ _) | (with_reducible show wpAny _ _ (eval (Expr.ListComp _ _ _ _) _) _ _ _) | (with_reducible show wpAny _ _ (exec (Stmt.For _ _ _ _ _) _) _ _ _) | (with_reducible show LCt.CompSrcT _ _ _ _ _ _ _ _ _ _ _ _ _ _ _) | (with_reducible show wpAny _ _ (pyIter _) (fun it s₂ => TurnsAt _ _ _ _ _ _ _ _ _ it s₂) _ _))
local macro_rules | `(tactic| walk_at "m steps") => `(tactic| repeat' (first | ((fail_if_success (walk_at "m stop")); first | (k_unfold; (try dsimp only)) | (k_end; wrow_close) | walk1 | (dsimp only; walk1) | (leave1; walk_say "STEP leave1"; try dsimp only))))
theorem flat2 : ∀ l : List Int, ((l.map fun f => [94, f.toNat + 64]).flatten).length = 2 * l.length
  | [] => rfl
  | a :: r => by
    have i := flat2 r
    simp only [List.map_cons, List.flatten_cons, List.length_append, List.length_cons, List.length_nil, i]
    omega
theorem len_sh {l : List Int} (h : l.length ≤ 2) : (shTx l).length ≤ 100 := by
  have : (shTx l).length = ((l.map fun f => [94, f.toNat + 64]).flatten).length := by show ((l.map fun f => [94, f.toNat + 64]).flatten).toArray.size = _; simp
  rw [flat2] at this
  omega
theorem lower_len {x : Str} (hA : ∀ c ∈ x.cps.toList, c < 256) : (Txt.lower x).length = x.length := by
  rw [lower_256 hA]
  show (x.cps.map lo).size = x.cps.size
  simp
theorem lenlow_nm (t : Int) {wd : List (Int × Int)} (h : WOk wd) (h2 : wd.length ≤ 2) : (Txt.lower (nmOf t wd)).length ≤ 100 := by
  rw [lower_nm t h]
  have : (Str.mk ((wd.map (sg t)).map lo).toArray).length = wd.length := by show ((wd.map (sg t)).map lo).toArray.size = _; simp
  omega
theorem lenlow_sh {l : List Int} (h : ∀ f ∈ l, 0 ≤ f ∧ f < 32) (h2 : l.length ≤ 2) : (Txt.lower (shTx l)).length ≤ 100 := by
  rw [lower_sh h]
  have : (Str.mk (((l.map fun f => [94, f.toNat + 64]).flatten).map lo).toArray).length = ((l.map fun f => [94, f.toNat + 64]).flatten).length := by
    show ((((l.map fun f => [94, f.toNat + 64]).flatten).map lo).toArray).size = _
    rw [List.size_toArray, List.length_map]
  rw [flat2] at this
  omega
/-- a lower text is its own lower -/
theorem lower_idem {l : List Nat} (h : ∀ c ∈ l, c < 256) : Txt.lower ⟨(l.map lo).toArray⟩ = ⟨(l.map lo).toArray⟩ := by
  have h' : ∀ c ∈ l.map lo, c < 256 := by
    intro c hc
    obtain ⟨d, hd', rfl⟩ := List.mem_map.mp hc
    have := h d hd'
    unfold lo
    split <;> omega
  rw [lower_256 (x := ⟨(l.map lo).toArray⟩) (by simpa using h')]
  congr 1
  simp only [List.map_toArray, List.map_map]
  congr 1
  exact List.map_congr_left fun c hc => lo_lo (h c hc)
theorem idem_nm (t : Int) {wd : List (Int × Int)} (h : WOk wd) : Txt.lower (Txt.lower (nmOf t wd)) = Txt.lower (nmOf t wd) := by
  rw [lower_nm t h]
  exact lower_idem fun c hc => by
    obtain ⟨q, hq, rfl⟩ := List.mem_map.mp hc
    exact (sg_range (h q hq)).2
theorem idem_sh {l : List Int} (h : ∀ f ∈ l, 0 ≤ f ∧ f < 32) : Txt.lower (Txt.lower (shTx l)) = Txt.lower (shTx l) := by
  rw [lower_sh h]
  exact lower_idem fun c hc => by
    have := sh_codes h c hc
    omega

end Mine
end
end
section
open PySem PySem.W PyProof.Rows PySem.Spec PySem.Calls
noncomputable section
namespace Mine
local macro_rules | `(tactic| walk_at "m args") => `(tactic| ((case kB => k_asm); (case kF => k_asm); (case kX => k_asm); (case kN => k_asm); (case kT => k_asm); (case kK => first | exact rfl | assumption); (case kd => ktr_room); (case ku => ktr_units)))
local macro_rules | `(tactic| walk_at "m stop") => `(tactic| first | (with_reducible show wpAny _ _ (exec (Stmt.Assign _ (Expr.ListComp _ _ _ _) _) _) _ _ _) | (with_reducible show wpAny _ _ (eval (Expr.ListComp _ _ _ _) _) _ _ _) | (with_reducible show wpAny _ _ (exec (Stmt.For _ _ _ _ _) _) _ _ _) | (with_reducible show LCt.CompSrcT _ _ _ _ _ _ _ _ _ _ _ _ _ _ _) | (with_reducible show wpAny _ _ (pyIter _) (fun it s₂ => TurnsAt _ _ _ _ _ _ _ _ _ it s₂) _ _))
local macro_rules | `(tactic| walk_at "m steps") => `(tactic| repeat' (first | ((fail_if_success (walk_at "m stop")); first | (k_unfold; (try dsimp only)) | (k_end; wrow_close) | walk1 | (dsimp only; walk1) | (leave1; walk_say "STEP leave1"; try dsimp only))))
theorem join_ofs : ∀ {α : Type} (g : α → List Nat) (l : List α), Str.join (Str.ofString "") (l.map fun a => Str.mk (g a).toArray) = Str.mk (l.map g).flatten.toArray
  | _, _, [] => rfl
  | _, g, [a] => by simp only [List.map_cons, List.map_nil, Str.join, List.flatten_cons, List.flatten_nil, List.append_nil]
  | _, g, a :: b :: r => by
    have ih := join_ofs g (b :: r)
    have hz : (Str.ofString "") = Str.mk ([] : List Nat).toArray := by decide
    rw [List.map_cons] at ih
    rw [List.map_cons, List.map_cons]
    show (Str.mk (g a).toArray ++ Str.ofString "" ++ Str.join (Str.ofString "") (_ :: _) : Str) = _
    rw [ih, hz, cat_mk, cat_mk]
    simp only [List.map_cons, List.flatten_cons, List.append_nil]
theorem flat_one {α : Type} (g : α → Nat) : ∀ l : List α, (l.map fun a => [g a]).flatten = l.map g
  | [] => rfl
  | a :: r => by simp only [List.map_cons, List.flatten_cons, List.cons_append, List.nil_append, flat_one g r]
theorem told_nm {wd : List (Int × Int)} (h : WOk wd) : Txt.join (Str.ofString "") (wd.map fun q => Str.mk #[(192 + q.1 + 32 * q.2).toNat]) = nmOf 0 wd := by
  rw [join_gl]
  have e := join_ofs (fun q : Int × Int => [(192 + q.1 + 32 * q.2).toNat]) wd
  rw [flat_one] at e
  refine Eq.trans e ?_
  unfold nmOf
  congr 2
  refine List.map_congr_left fun q hq => ?_
  have z := h q hq
  have k : Int.fmod (q.2 + 0) 2 = q.2 := by
    have := fmod_2 (q.2 + 0)
    rcases (show q.2 = 0 ∨ q.2 = 1 by omega) with e | e <;> rw [e] <;> decide
  unfold sg
  rw [k]
  omega
theorem told_sh {wd : List (Int × Int)} (h : WOk wd) : Txt.join (Str.ofString "") (wd.map fun q => Str.ofString "^" ++ Str.mk #[(64 + q.1).toNat]) = shTx (wd.map (·.1)) := by
  rw [join_gl]
  have e := join_ofs (fun q : Int × Int => [94, (64 + q.1).toNat]) wd
  have c : (wd.map fun q => Str.ofString "^" ++ Str.mk #[(64 + q.1).toNat]) = wd.map fun q : Int × Int => Str.mk [94, (64 + q.1).toNat].toArray := by
    refine List.map_congr_left fun q _ => ?_
    have hz : (Str.ofString "^") = Str.mk ([94] : List Nat).toArray := by decide
    rw [hz]
    exact cat_mk [94] [(64 + q.1).toNat]
  rw [c]
  refine Eq.trans e ?_
  unfold shTx
  rw [List.map_map]
  congr 3
  refine List.map_congr_left fun q hq => ?_
  have z := h q hq
  show [94, (64 + q.1).toNat] = [94, q.1.toNat + 64]
  have k : (64 + q.1).toNat = q.1.toNat + 64 := by omega
  rw [k]
theorem value_step : ∀ n : Nat, n < 12 → ValueOk (Str.ofString (toString n)) := by
  intro n hn
  have : ∀ n : Nat, n < 12 → (Str.ofString (toString n)).cps.all fun c => 48 ≤ c ∧ c ≤ 57 := by decide +kernel
  intro c hc
  simpa using Array.all_eq_true'.mp (this n hn) c hc

end Mine
end
end
section
open PySem PySem.W PyProof.Rows PySem.Spec PySem.Calls
noncomputable section
namespace Mine
local macro_rules | `(tactic| walk_at "m args") => `(tactic| ((case kB => k_asm); (case kF => k_asm); (case kX => k_asm); (case kN => k_asm); (case kT => k_asm); (case kK => first | exact rfl | assumption); (case kd => ktr_room); (case ku => ktr_units)))
local macro_rules | `(tactic| walk_at "m stop") => `(tactic| first | (with_reducible show wpAny _ _ (exec (Stmt.Assign _ (Expr.ListComp _ _ _ _) _) _) _ _ _) | (with_reducible show wpAny _ _ (eval (Expr.ListComp _ _ _ _) _) _ _ _) | (with_reducible show wpAny _ _ (exec (Stmt.For _ _ _ _ _) _) _ _ _) | (with_reducible show LCt.CompSrcT _ _ _ _ _ _ _ _ _ _ _ _ _ _ _) | (with_reducible show wpAny _ _ (pyIter _) (fun it s₂ => TurnsAt _ _ _ _ _ _ _ _ _ it s₂) _ _))
local macro_rules | `(tactic| walk_at "m steps") => `(tactic| repeat' (first | ((fail_if_success (walk_at "m stop")); first | (k_unfold; (try dsimp only)) | (k_end; wrow_close) | walk1 | (dsimp only; walk1) | (leave1; walk_say "STEP leave1"; try dsimp only))))
/-- a table's rows beside the plain list's rows; P: which name goes with which key -/
inductive Twin (P : Str → List Dat → Prop) : List HR → List NR → Prop
  | nil : Twin P [] []
  | cons (r : HR) (R : NR) (rs : List HR) (Rs : List NR) : P r.k R.kd → R.d = r.k → R.v = r.v → Twin P rs Rs → Twin P (r :: rs) (R :: Rs)
theorem Twin.push {P : Str → List Dat → Prop} {r : HR} {R : NR} (h1 : P r.k R.kd) (h2 : R.d = r.k) (h3 : R.v = r.v) : ∀ {rs : List HR} {Rs : List NR}, Twin P rs Rs → Twin P (rs ++ [r]) (Rs ++ [R])
  | _, _, .nil => .cons r R [] [] h1 h2 h3 .nil
  | _, _, .cons a b as bs k1 k2 k3 t => .cons a b (as ++ [r]) (bs ++ [R]) k1 k2 k3 (Twin.push h1 h2 h3 t)
theorem test_eq {x nm : Str} {k kd : List Dat} (e : Txt.lower x = Txt.lower nm ↔ k = kd) : (Txt.lower x == Txt.lower nm) = sameKey k kd := by
  rw [Bool.eq_iff_iff, sameKey_iff, beq_iff_eq]
  exact e
theorem Twin.drop {P : Str → List Dat → Prop} {nm : Str} {kd : List Dat} (hP : ∀ x k, P x k → (Txt.lower x = Txt.lower nm ↔ k = kd)) : ∀ {rs : List HR} {Rs : List NR}, Twin P rs Rs → Twin P (rs.filter fun r => !(Txt.lower r.k == Txt.lower nm)) (Rs.filter fun R => !sameKey R.kd kd)
  | _, _, .nil => .nil
  | _, _, .cons a b as bs k1 k2 k3 t => by
    have i := Twin.drop hP t
    have e := test_eq (hP _ _ k1)
    rw [List.filter_cons, List.filter_cons, e]
    cases sameKey b.kd kd
    · exact .cons a b _ _ k1 k2 k3 i
    · exact i
theorem Twin.vals {P : Str → List Dat → Prop} {nm : Str} {kd : List Dat} (hP : ∀ x k, P x k → (Txt.lower x = Txt.lower nm ↔ k = kd)) : ∀ {rs : List HR} {Rs : List NR}, Twin P rs Rs → (rs.filter fun r => Txt.lower r.k == Txt.lower nm).map HR.v = (Rs.filter fun R => sameKey R.kd kd).map NR.v
  | _, _, .nil => rfl
  | _, _, .cons a b as bs k1 k2 k3 t => by
    have i := Twin.vals hP t
    have e := test_eq (hP _ _ k1)
    rw [List.filter_cons, List.filter_cons, e]
    cases sameKey b.kd kd
    · exact i
    · show a.v :: _ = b.v :: _
      rw [k3]
      exact congrArg _ i
theorem Twin.texts {P : Str → List Dat → Prop} : ∀ {rs : List HR} {Rs : List NR}, Twin P rs Rs → rs.map (fun r => (r.k, r.v)) = Rs.map fun R => (R.d, R.v)
  | _, _, .nil => rfl
  | _, _, .cons a b as bs k1 k2 k3 t => by
    have i := Twin.texts t
    rw [List.map_cons, List.map_cons, k2, k3]
    exact congrArg _ i
theorem Twin.find {P : Str → List Dat → Prop} {nm : Str} {kd : List Dat} (hP : ∀ x k, P x k → (Txt.lower x = Txt.lower nm ↔ k = kd)) : ∀ {rs : List HR} {Rs : List NR}, Twin P rs Rs →
    (rs.find? (fun r => Txt.lower r.k == Txt.lower nm) = none ∧ (Rs.filter fun R => sameKey R.kd kd) = []) ∨ ∃ a b bs, rs.find? (fun r => Txt.lower r.k == Txt.lower nm) = some a ∧ (Rs.filter fun R => sameKey R.kd kd) = b :: bs ∧ b.v = a.v
  | _, _, .nil => .inl ⟨rfl, rfl⟩
  | _, _, .cons a b as bs k1 k2 k3 t => by
    have i := Twin.find hP t
    have e := test_eq (hP _ _ k1)
    rw [List.find?_cons, List.filter_cons, e]
    cases sameKey b.kd kd
    · exact i
    · exact .inr ⟨a, b, _, rfl, rfl, k3⟩
theorem Twin.len {P : Str → List Dat → Prop} : ∀ {rs : List HR} {Rs : List NR}, Twin P rs Rs → rs.length = Rs.length
  | _, _, .nil => rfl
  | _, _, .cons _ _ _ _ _ _ _ t => congrArg (· + 1) t.len

end Mine
end
end
section
open PySem PySem.W PyProof.Rows PySem.Spec PySem.Calls
noncomputable section
namespace Mine
local macro_rules | `(tactic| walk_at "m args") => `(tactic| ((case kB => k_asm); (case kF => k_asm); (case kX => k_asm); (case kN => k_asm); (case kT => k_asm); (case kK => first | exact rfl | assumption); (case kd => ktr_room); (case ku => ktr_units)))
local macro_rules | `(tactic| walk_at "m stop") => `(tactic| first | (with_reducible show wpAny _ _ (exec (Stmt.Assign _ (Expr.ListComp _ _ _ _) _) _) _ _ _) | (with_reducible show wpAny _ _ (eval (Expr.ListComp _ _ _ _) _) _ _ _) | (with_reducible show wpAny _ _ (exec (Stmt.For _ _ _ _ _) _) _ _ _) | (with_reducible show LCt.CompSrcT _ _ _ _ _ _ _ _ _ _ _ _ _ _ _) | (with_reducible show wpAny _ _ (pyIter _) (fun it s₂ => TurnsAt _ _ _ _ _ _ _ _ _ it s₂) _ _))
local macro_rules | `(tactic| walk_at "m steps") => `(tactic| repeat' (first | ((fail_if_success (walk_at "m stop")); first | (k_unfold; (try dsimp only)) | (k_end; wrow_close) | walk1 | (dsimp only; walk1) | (leave1; walk_say "STEP leave1"; try dsimp only))))
/-- which name of the first table goes with which near key -/
def PN (x : Str) (k : List Dat) : Prop := ∃ wd, WOk wd ∧ x = nmOf 0 wd ∧ k = (nkOf 0 wd).map fun q => Dat.tuple [.int q.1, .int q.2]
/-- which name of the second table goes with which far key -/
def PF (x : Str) (k : List Dat) : Prop := ∃ wd, WOk wd ∧ x = shTx (wd.map (·.1)) ∧ k = (wd.map (·.1)).map Dat.int
theorem inj_near {k k' : List (Int × Int)} : ((k.map fun q => Dat.tuple [.int q.1, .int q.2]) = k'.map fun q => Dat.tuple [.int q.1, .int q.2]) ↔ k = k' := by
  rw [map_eq_iff (k := id) (k' := id) k k' fun a _ b _ => by
    obtain ⟨a1, a2⟩ := a
    obtain ⟨b1, b2⟩ := b
    simp, List.map_id, List.map_id]
theorem inj_far {k k' : List Int} : (k.map Dat.int = k'.map Dat.int) ↔ k = k' := by
  rw [map_eq_iff (k := id) (k' := id) k k' fun a _ b _ => by simp, List.map_id, List.map_id]
theorem PN_law {t : Int} {wd : List (Int × Int)} (h : WOk wd) : ∀ x k, PN x k → (Txt.lower x = Txt.lower (nmOf t wd) ↔ k = (nkOf t wd).map fun q => Dat.tuple [.int q.1, .int q.2]) := by
  rintro _ _ ⟨we, h', rfl, rfl⟩
  rw [inj_near]
  exact near_law h' h
theorem PF_law {wd : List (Int × Int)} (h : WOk wd) : ∀ x k, PF x k → (Txt.lower x = Txt.lower (shTx (wd.map (·.1))) ↔ k = (wd.map (·.1)).map Dat.int) := by
  rintro _ _ ⟨we, h', rfl, rfl⟩
  rw [inj_far]
  exact far_law h'.five h.five
theorem PF_law' {wd : List (Int × Int)} (h : WOk wd) : ∀ x k, PF x k → (Txt.lower x = Txt.lower (Txt.lower (shTx (wd.map (·.1)))) ↔ k = (wd.map (·.1)).map Dat.int) := by
  rw [idem_sh h.five]
  exact PF_law h

end Mine
end
end
section
open PySem PySem.W PyProof.Rows PySem.Spec PySem.Calls
noncomputable section
namespace Mine
local macro_rules | `(tactic| walk_at "m args") => `(tactic| ((case kB => k_asm); (case kF => k_asm); (case kX => k_asm); (case kN => k_asm); (case kT => k_asm); (case kK => first | exact rfl | assumption); (case kd => ktr_room); (case ku => ktr_units)))
local macro_rules | `(tactic| walk_at "m stop") => `(tactic| first | (with_reducible show wpAny _ _ (exec (Stmt.Assign _ (Expr.ListComp _ _ _ _) _) _) _ _ _) | (with_reducible show wpAny _ _ (eval (Expr.ListComp _ _ _ _) _) _ _ _) | (with_reducible show wpAny _ _ (exec (Stmt.For _ _ _ _ _) _) _ _ _) | (with_reducible show LCt.CompSrcT _ _ _ _ _ _ _ _ _ _ _ _ _ _ _) | (with_reducible show wpAny _ _ (pyIter _) (fun it s₂ => TurnsAt _ _ _ _ _ _ _ _ _ it s₂) _ _))
local macro_rules | `(tactic| walk_at "m steps") => `(tactic| repeat' (first | ((fail_if_success (walk_at "m stop")); first | (k_unfold; (try dsimp only)) | (k_end; wrow_close) | walk1 | (dsimp only; walk1) | (leave1; walk_say "STEP leave1"; try dsimp only))))
def lawD : { d : Arguments × List Stmt × Scope // PySem.Challenge.rw_pg0217_01.row.prog.theDef (Str.ofString "law") = some d } := ⟨_, by rfl⟩
def lawF : { t : Expr × Expr × List Stmt × List Stmt × Pos // lawD.1.2.1[3]? = some (.For t.1 t.2.1 t.2.2.1 t.2.2.2.1 t.2.2.2.2) } := ⟨(_, _, _, _, _), by rfl⟩
def st0 : { t : Stmt // lawF.1.2.2.1[0]? = some t } := ⟨_, by rfl⟩
def st1 : { t : Stmt // lawF.1.2.2.1[1]? = some t } := ⟨_, by rfl⟩
def st2 : { t : Stmt // lawF.1.2.2.1[2]? = some t } := ⟨_, by rfl⟩
def st3 : { t : Stmt // lawF.1.2.2.1[3]? = some t } := ⟨_, by rfl⟩
def st4 : { t : Stmt // lawF.1.2.2.1[4]? = some t } := ⟨_, by rfl⟩
def st5 : { t : Stmt // lawF.1.2.2.1[5]? = some t } := ⟨_, by rfl⟩
def st6 : { t : Stmt // lawF.1.2.2.1[6]? = some t } := ⟨_, by rfl⟩
def st7 : { t : Stmt // lawF.1.2.2.1[7]? = some t } := ⟨_, by rfl⟩
def st8 : { t : Stmt // lawF.1.2.2.1[8]? = some t } := ⟨_, by rfl⟩
def st9 : { t : Stmt // lawF.1.2.2.1[9]? = some t } := ⟨_, by rfl⟩
def st10 : { t : Stmt // lawF.1.2.2.1[10]? = some t } := ⟨_, by rfl⟩
def st11 : { t : Stmt // lawF.1.2.2.1[11]? = some t } := ⟨_, by rfl⟩
def st12 : { t : Stmt // lawF.1.2.2.1[12]? = some t } := ⟨_, by rfl⟩
abbrev lawE (L fa : Addr) (cd : Value) : Env := envOfC (Str.ofString "law") lawD.1.2.2 L fa cd
abbrev lawA (L fa : Addr) (cd : Value) : Around := callerA.deeper (lawE L fa cd)
section
variable {w : World} {mean : ExcName → Option Value} {mg mb : Str → Option Value} {f : Addr} {n : Nat} {vs : List Value} {kw : List (Str × Value)} {pre : Heap → Prop} {post post' : Heap → Heap → Value → Prop} {news : List (Addr × Obj)}
theorem Ct.mono (C : Ct w mean mg mb f n vs kw news pre post) (h : ∀ h₁ h' r, Has h₁ news → pre h₁ → But news h₁ h' → post h₁ h' r → post' h₁ h' r) : Ct w mean mg mb f n vs kw news pre post' :=
  fun dp un gd cn cs a ccd cl outer A₀ base h₀ L m s Q E B F X N T hk hd hu hp hret => C dp un gd cn cs a ccd cl outer A₀ base h₀ L m s Q E B F X N T hk hd hu hp fun r h' tk' F' b p => hret r h' tk' F' b (h _ _ _ (fun q hq => (N q hq).1) hp b p)
end
/-- an answer: none or a text -/
def AnsIs : Option Str → Value → Prop
  | none, v => v = .none
  | some x, v => ∃ t, v = .str x t
/-- what a deed makes of a table's rows -/
def DeedR (d : Int) (nm vl : Str) (rs rs' : List HR) (a : Option Str) : Prop :=
  (d = 0 ∧ a = none ∧ ∃ R : HR, R.k = nm ∧ R.v = vl ∧ rs' = (rs.filter fun r => !(Txt.lower r.k == Txt.lower nm)) ++ [R]) ∨
  (d = 1 ∧ a = none ∧ rs' = rs.filter fun r => !(Txt.lower r.k == Txt.lower nm)) ∨
  (d = 2 ∧ ((∃ q, rs.find? (fun r => Txt.lower r.k == Txt.lower nm) = some q ∧ a = some q.v ∧ rs' = rs) ∨ (rs.find? (fun r => Txt.lower r.k == Txt.lower nm) = none ∧ a = some vl ∧ ∃ R : HR, R.k = nm ∧ R.v = vl ∧ rs' = rs ++ [R]))) ∨
  (d = 3 ∧ a = none ∧ ∃ R : HR, R.k = nm ∧ R.v = vl ∧ rs' = rs ++ [R])
/-- what it makes of the plain rows -/
def MeantR (d : Int) (rs : List NR) (R : NR) (rs' : List NR) (a : Option Str) : Prop :=
  (d = 0 ∧ a = none ∧ rs' = (rs.filter fun r => !sameKey r.kd R.kd) ++ [R]) ∨
  (d = 1 ∧ a = none ∧ rs' = rs.filter fun r => !sameKey r.kd R.kd) ∨
  (d = 2 ∧ ((∃ q qs, (rs.filter fun r => sameKey r.kd R.kd) = q :: qs ∧ a = some q.v ∧ rs' = rs) ∨ ((rs.filter fun r => sameKey r.kd R.kd) = [] ∧ a = some R.v ∧ rs' = rs ++ [R]))) ∨
  (d = 3 ∧ a = none ∧ rs' = rs ++ [R])
theorem Twin.step {P : Str → List Dat → Prop} {d : Int} {nm vl : Str} {R : NR} {rs rs' : List HR} {Rs Rs' : List NR} {a f : Option Str} (hP : ∀ x k, P x k → (Txt.lower x = Txt.lower nm ↔ k = R.kd)) (hp : P nm R.kd) (h1 : R.d = nm) (h2 : R.v = vl) (t : Twin P rs Rs)
    (D : DeedR d nm vl rs rs' a) (M : MeantR d Rs R Rs' f) : Twin P rs' Rs' ∧ a = f := by
  rcases D with ⟨d0, ea, Z, z1, z2, er⟩ | ⟨d0, ea, er⟩ | ⟨d0, hh⟩ | ⟨d0, ea, Z, z1, z2, er⟩
  · rcases M with ⟨_, ef, eR⟩ | ⟨d1, _⟩ | ⟨d1, _⟩ | ⟨d1, _⟩
    · subst ea ef er eR
      exact ⟨Twin.push (by rw [z1]; exact hp) (by rw [h1, z1]) (by rw [h2, z2]) (t.drop hP), rfl⟩
    all_goals omega
  · rcases M with ⟨d1, _⟩ | ⟨_, ef, eR⟩ | ⟨d1, _⟩ | ⟨d1, _⟩
    rotate_left
    · subst ea ef er eR
      exact ⟨t.drop hP, rfl⟩
    all_goals omega
  · rcases M with ⟨d1, _⟩ | ⟨d1, _⟩ | ⟨_, hm⟩ | ⟨d1, _⟩
    rotate_left 2
    · rcases t.find hP with ⟨e1, e2⟩ | ⟨x, y, ys, e1, e2, e3⟩
      · rcases hh with ⟨q, eq, _⟩ | ⟨_, ea, Z, z1, z2, er⟩
        · rw [e1] at eq; cases eq
        · rcases hm with ⟨q, qs, eq, _⟩ | ⟨_, ef, eR⟩
          · rw [e2] at eq; cases eq
          · subst ea ef er eR
            exact ⟨Twin.push (by rw [z1]; exact hp) (by rw [h1, z1]) (by rw [h2, z2]) t, by rw [h2]⟩
      · rcases hh with ⟨q, eq, ea, er⟩ | ⟨eq, _⟩
        · rcases hm with ⟨q', qs, eq', ef, eR⟩ | ⟨eq', _⟩
          · rw [e1] at eq
            rw [e2] at eq'
            cases eq
            cases eq'
            subst ea ef er eR
            exact ⟨t, by rw [e3]⟩
          · rw [e2] at eq'; cases eq'
        · rw [e1] at eq; cases eq
    all_goals omega
  · rcases M with ⟨d1, _⟩ | ⟨d1, _⟩ | ⟨d1, _⟩ | ⟨_, ef, eR⟩
    rotate_left 3
    · subst ea ef er eR
      exact ⟨Twin.push (by rw [z1]; exact hp) (by rw [h1, z1]) (by rw [h2, z2]) t, rfl⟩
    all_goals omega
theorem deed_ok (w : World) (mean : ExcName → Option Value) (mg mb : Str → Option Value) (d : Int) (hd0 : 0 ≤ d) (hd2 : d < 4) (x dx l : Addr) (hsh : Int) (tz : Tok) (n k : Nat) (rs : List HR) (nm vl : Str) (t t0 t2 : Tok) (hx : NameOk (Txt.lower nm)) (hx2 : NameOk nm) (hv : ValueOk vl) (hl : nm.length ≤ 100) (hl2 : vl.length ≤ 100) (hz : rs.length ≤ 100) (hk : ∀ r ∈ rs, r.k.length ≤ 100) :
   Ct w mean mg mb 248 36 [.ref x, .int d t0, .str nm t, .str vl t2] [] (tab x dx l hsh tz n k (rs.map HR.ref)) (fun h => RowsAt h rs)
     (fun h h' r => ∃ k' rs' a, (∀ p ∈ tab x dx l hsh tz n k' (rs'.map HR.ref), h'.get? p.1 = some p.2) ∧ (∀ r ∈ rs', r ∈ rs ∨ (h.get? r.t = none ∧ h'.get? r.t = some r.obj)) ∧ DeedR d nm vl rs rs' a ∧ AnsIs a r) := by
  have hf : ∀ r : HR, r ∈ (rs.filter fun r => !(Txt.lower r.k == Txt.lower nm)) → r ∈ rs := fun r hr => (List.mem_filter.mp hr).1
  rcases (show d = 0 ∨ d = 1 ∨ d = 2 ∨ d = 3 by omega) with rfl | rfl | rfl | rfl
  · refine (deed0_ok w mean mg mb x dx l hsh tz n k rs nm vl t t0 t2 hx hx2 hv hl hl2 hz hk).mono ?_
    rintro h h' r H hp b ⟨rfl, k', R, e1, e2, e3, e4, e5⟩
    refine ⟨k', _, none, e5, fun r hr => ?_, .inl ⟨rfl, rfl, R, e1, e2, rfl⟩, rfl⟩
    rcases List.mem_append.mp hr with hr | hr
    · exact .inl (hf r hr)
    · rw [List.mem_singleton.mp hr]; exact .inr ⟨e3, e4⟩
  · refine (deed1_ok w mean mg mb x dx l hsh tz n k rs nm vl t t0 t2 hx hx2 hv hl hl2 hz hk).mono ?_
    rintro h h' r H hp b ⟨rfl, k', e5⟩
    exact ⟨k', _, none, e5, fun r hr => .inl (hf r hr), .inr (.inl ⟨rfl, rfl, rfl⟩), rfl⟩
  · refine (deed2_ok w mean mg mb x dx l hsh tz n k rs nm vl t t0 t2 hx hx2 hv hl hl2 hz hk).mono ?_
    intro h h' r H hp b hq
    cases hfi : rs.find? (fun r => Txt.lower r.k == Txt.lower nm) with
    | some q =>
      (try dsimp only at hq)
      rw [hfi] at hq
      obtain ⟨rfl, st⟩ := hq
      exact ⟨k, rs, some q.v, fun p hp => st _ _ (H p hp), fun r hr => .inl hr, .inr (.inr (.inl ⟨rfl, .inl ⟨q, hfi, rfl, rfl⟩⟩)), _, rfl⟩
    | none =>
      (try dsimp only at hq)
      rw [hfi] at hq
      obtain ⟨rfl, k', R, e1, e2, e3, e4, e5⟩ := hq
      refine ⟨k', _, some vl, e5, fun r hr => ?_, .inr (.inr (.inl ⟨rfl, .inr ⟨hfi, rfl, R, e1, e2, rfl⟩⟩)), _, rfl⟩
      rcases List.mem_append.mp hr with hr | hr
      · exact .inl hr
      · rw [List.mem_singleton.mp hr]; exact .inr ⟨e3, e4⟩
  · refine (deed3_ok w mean mg mb x dx l hsh tz n k rs nm vl t t0 t2 hx hx2 hv hl hl2 hz hk).mono ?_
    rintro h h' r H hp b ⟨rfl, k', R, e1, e2, e3, e4, e5⟩
    refine ⟨k', _, none, e5, fun r hr => ?_, .inr (.inr (.inr ⟨rfl, rfl, R, e1, e2, rfl⟩)), rfl⟩
    rcases List.mem_append.mp hr with hr | hr
    · exact .inl hr
    · rw [List.mem_singleton.mp hr]; exact .inr ⟨e3, e4⟩
theorem meant_ok (w : World) (mean : ExcName → Option Value) (mg mb : Str → Option Value) (d : Int) (hd0 : 0 ≤ d) (hd2 : d < 4) (led : List (Addr × Obj)) (lr : Addr) (k : Nat) (rs : List NR) (R : NR) (t : Tok) (hz : rs.length ≤ 100) (hR : R.In led) (hrs : ∀ r ∈ rs, r.In led) (hl : (lr, W.listOf (rs.map NR.ref).toArray k) ∈ led) :
   Ct w mean mg mb 253 12 [.ref lr, .int d t, .ref R.t] [] [] (fun h => Has h led)
     (fun h h' r => ∃ (T n lr' k' : Nat) (rs' : List NR) (a : Option Str) (fv : Value), r = .ref T ∧ h.get? T = none ∧ h'.get? T = some { cls := .type "tuple", data := .seq #[.ref lr', fv] n } ∧ ((lr' = lr ∧ k' = k ∧ rs' = rs) ∨ (h.get? lr' = none ∧ h'.get? lr' = some (W.listOf (rs'.map NR.ref).toArray k'))) ∧ (∀ r ∈ rs', r ∈ rs ∨ r = R) ∧ MeantR d rs R rs' a ∧ AnsIs a fv) := by
  have hf : ∀ r : NR, r ∈ (rs.filter fun r => !sameKey r.kd R.kd) → r ∈ rs := fun r hr => (List.mem_filter.mp hr).1
  have hp : ∀ l : List NR, (∀ r ∈ l, r ∈ rs) → ∀ r ∈ l ++ [R], r ∈ rs ∨ r = R := fun l hl r hr => by
    rcases List.mem_append.mp hr with hr | hr
    · exact .inl (hl r hr)
    · exact .inr (List.mem_singleton.mp hr)
  rcases (show d = 0 ∨ d = 1 ∨ d = 2 ∨ d = 3 by omega) with rfl | rfl | rfl | rfl
  · refine (meant0_ok w mean mg mb led lr k rs R t hz hR hrs hl).mono ?_
    rintro h h' r H _ b ⟨T, n, lr', k', rfl, e1, e2, e3, e4⟩
    exact ⟨T, n, lr', k', _, none, _, rfl, e1, e2, .inr ⟨e3, e4⟩, hp _ hf, .inl ⟨rfl, rfl, rfl⟩, rfl⟩
  · refine (meant1_ok w mean mg mb led lr k rs R t hz hR hrs hl).mono ?_
    rintro h h' r H _ b ⟨T, n, lr', k', rfl, e1, e2, e3, e4⟩
    exact ⟨T, n, lr', k', _, none, _, rfl, e1, e2, .inr ⟨e3, e4⟩, fun r hr => .inl (hf r hr), .inr (.inl ⟨rfl, rfl, rfl⟩), rfl⟩
  · cases hq : rs.filter (fun r => sameKey r.kd R.kd) with
    | nil =>
      refine (meant2a_ok w mean mg mb led lr k rs R t hz hR hrs hl hq).mono ?_
      rintro h h' r H _ b ⟨T, n, lr', k', rfl, e1, e2, e3, e4⟩
      exact ⟨T, n, lr', k', _, some R.v, _, rfl, e1, e2, .inr ⟨e3, e4⟩, hp _ (fun _ h => h), .inr (.inr (.inl ⟨rfl, .inr ⟨hq, rfl, rfl⟩⟩)), _, rfl⟩
    | cons q qs =>
      refine (meant2b_ok w mean mg mb led lr k rs R q qs t hz hR hrs hl hq).mono ?_
      rintro h h' r H _ b ⟨T, n, rfl, e1, e2⟩
      exact ⟨T, n, lr, k, rs, some q.v, _, rfl, e1, e2, .inl ⟨rfl, rfl, rfl⟩, fun r hr => .inl hr, .inr (.inr (.inl ⟨rfl, .inl ⟨q, qs, hq, rfl, rfl⟩⟩)), _, rfl⟩
  · refine (meant3_ok w mean mg mb led lr k rs R t hz hR hrs hl).mono ?_
    rintro h h' r H _ b ⟨T, n, lr', k', rfl, e1, e2, e3, e4⟩
    exact ⟨T, n, lr', k', _, none, _, rfl, e1, e2, .inr ⟨e3, e4⟩, hp _ (fun _ h => h), .inr (.inr (.inr ⟨rfl, rfl, rfl⟩)), rfl⟩

end Mine
end
end
section
open PySem PySem.W PyProof.Rows PySem.Spec PySem.Calls
noncomputable section
namespace Mine
local macro_rules | `(tactic| walk_at "m none") => `(tactic| fail)
local macro_rules | `(tactic| walk_at "m none") => `(tactic| fail)
local macro_rules | `(tactic| walk_at "m none") => `(tactic| fail)
local macro_rules | `(tactic| walk_at "m none") => `(tactic| fail)
local macro_rules | `(tactic| walk_at "m none") => `(tactic| fail)
local macro_rules | `(tactic| walk_at "m none") => `(tactic| fail)
local macro_rules | `(tactic| walk_at "m none") => `(tactic| fail)
local macro_rules | `(tactic| walk_at "m none") => `(tactic| fail)
local macro_rules | `(tactic| walk_at "m none") => `(tactic| fail)
local macro_rules | `(tactic| walk_at "m none") => `(tactic| fail)
local macro_rules | `(tactic| walk_at "m none") => `(tactic| fail)
local macro_rules | `(tactic| walk_at "m none") => `(tactic| fail)
local macro_rules | `(tactic| walk_at "m none") => `(tactic| fail)
local macro_rules | `(tactic| walk_at "m none") => `(tactic| fail)
local macro_rules | `(tactic| walk_at "m none") => `(tactic| fail)
local macro_rules | `(tactic| walk_at "m none") => `(tactic| fail)
local macro_rules | `(tactic| walk_at "m none") => `(tactic| fail)
local macro_rules | `(tactic| walk_at "m none") => `(tactic| fail)
local macro_rules | `(tactic| walk_at "m none") => `(tactic| fail)
local macro_rules | `(tactic| walk_at "m none") => `(tactic| fail)
local macro_rules | `(tactic| walk_at "m none") => `(tactic| fail)
local macro_rules | `(tactic| walk_at "m none") => `(tactic| fail)
local macro_rules | `(tactic| walk_at "m none") => `(tactic| fail)
local macro_rules | `(tactic| walk_at "m none") => `(tactic| fail)
local macro_rules | `(tactic| walk_at "m none") => `(tactic| fail)
local macro_rules | `(tactic| walk_at "m none") => `(tactic| fail)
local macro_rules | `(tactic| walk_at "m none") => `(tactic| fail)
local macro_rules | `(tactic| walk_at "m none") => `(tactic| fail)
local macro_rules | `(tactic| walk_at "m none") => `(tactic| fail)
local macro_rules | `(tactic| walk_at "m none") => `(tactic| fail)
local macro_rules | `(tactic| walk_at "m args") => `(tactic| ((case kB => k_asm); (case kF => k_asm); (case kX => k_asm); (case kN => k_asm); (case kT => k_asm); (case kK => first | exact rfl | assumption); (case kd => ktr_room); (case ku => ktr_units)))
local macro_rules | `(tactic| walk_at "m stop") => `(tactic| first | (with_reducible show wpAny _ _ (eval (Expr.ListComp _ _ _ _) _) _ _ _) | (with_reducible show wpAny _ _ (exec (Stmt.For _ _ _ _ _) _) _ _ _) | (with_reducible show LCt.CompSrcT _ _ _ _ _ _ _ _ _ _ _ _ _ _ _) | (with_reducible show wpAny _ _ (pyIter _) (fun it s₂ => TurnsAt _ _ _ _ _ _ _ _ _ it s₂) _ _))
local macro_rules | `(tactic| walk_at "m steps") => `(tactic| repeat' (first | ((fail_if_success (walk_at "m stop")); first | (k_unfold; (try dsimp only)) | (k_end; wrow_close) | walk1 | (dsimp only; walk1) | (leave1; walk_say "STEP leave1"; try dsimp only))))
local macro_rules | `(tactic| walk_at "call ref") => `(tactic| (k_here; (with_reducible show wpAny _ _ (call (Value.ref 76) _ _) _ _ _); k_dflt (first | refine' useT (conv_name _ _ _ _ _ _ _ ?hx) ?kB ?kF ?kX ?kN ?kT ?kK ?kd ?ku trivial ?_ | refine' useT (conv_value _ _ _ _ _ _ _ ?hx) ?kB ?kF ?kX ?kN ?kT ?kK ?kd ?ku trivial ?_); (case hx => assumption); k_dflt (walk_at "m args"); (intro r9 h9 tk9 F9 N9 st9 p9; subst p9; clear st9); (try k_fold)))
local macro_rules | `(tactic| walk_at "subscriptTail") => `(tactic| (k_here; (with_reducible show wpAny _ _ (subscriptTail _ _ (Value.ref _) (Value.int _ _)) _ _ _); (with_reducible rename IsTup _ _ _ => hTup'); k_dflt (refine' item_tupleT ?t ?a ?b ?c ?d ?_; (case t => exact IsTup.keeps hTup' (Fr.keep (by k_asm))); (case a => decide); (case b => decide); (case c => rfl); (case d => rfl); k_whole)))
theorem get_all_ok (w : World) (mean : ExcName → Option Value) (mg mb : Str → Option Value) (x dx l : Addr) (hsh : Int) (tk : Tok) (n k : Nat) (rs : List HR) (nm : Str) (t : Tok) (hx : NameOk (Txt.lower nm)) (hl : nm.length ≤ 100) (hz : rs.length ≤ 100) (hk : ∀ r ∈ rs, r.k.length ≤ 100) :
   Ct w mean mg mb 114 12 [.ref x, .str nm t] [] (tab x dx l hsh tk n k (rs.map HR.ref)) (fun h => RowsAt h rs)
     (fun h h' r => h.StaysIn h' ∧ ∃ D, r = .ref D ∧ h.get? D = none ∧ h'.get? D = some (LCg.lst ((rs.filter fun r => Txt.lower r.k == Txt.lower nm).map HR.value))) := by
  unfold Ct
  k_fill
  intro dp un gd cn cs a ccd cl outer A₀ base h₀ L m s Q E B F X N T hck hdp hun hpre hret
  refine wpAny_call ?_
  k_dflt (refine' enterC ?k1 ?k2 ?k3 ?k4 ?k5 ?kA ?kF ?kK ?k6 ?k7 ?k8 ?k9 ?kB ?kD ?_ ?c2 ?c3 ?c4; (case kA => exact rfl); (case kF => exact rfl); (case kK => first | assumption | exact rfl); (case k1 => k_asm); (case k2 => k_asm); (case k3 => k_asm); (case k4 => k_asm); (case k5 => k_asm); (case k6 => k_is); (case k7 => k_is); (case k8 => ktr_room); (case k9 => first | exact BindsTo.of_eq rfl | exact binds_K (by k_in) rfl (by k_is) rfl rfl rfl); (case kB => exact rfl); (case kD => decide +kernel); (case c2 => exact rfl); (case c3 => exact rfl); (case c4 => exact rfl); k_whole; intro g L' h' tk' cells' FG F' N' Y' B' X' T' hBut hLt)
  have l1 := hLt
  (try k_lt l1)
  k_cells Y'
  (try simp only [List.cons_append, List.nil_append] at N')
  (try dsimp only)
  (try k_fold)
  walk_at "m steps"
  have hR := rows_but hpre hBut N tab_cls
  k_dflt (refine LCt.ListComp_T (F₀ := by k_asm) (by with_unfolding_all rfl) (by decide) (by rfl) (by decide) (by rfl) ?_)
  walk_at "m steps"
  refine LCt.CompSrcT.ledger rfl (by k_asm) (by k_asm) (by k_mem) (by rw [List.size_toArray, List.length_map]; exact Nat.le_trans hz (by decide)) ?_
  intro g1
  refine rest_filter rs HR.ref HR.value (fun r => Txt.lower r.k == Txt.lower nm) (.inr ⟨_, by k_mem, rfl, _, rfl⟩) ?_ ?_
  · intro r hr I oI C oC D ys m₂ h2 tk2 E' hoC hmx F2 N2 off ne
    have hT := hR.tup hr
    have hrk := hk r hr
    simp only [HR.ref] at hmx
    k_steps
    all_goals exact ⟨_, _, rfl, by k_asm, by k_asm⟩
  · intro D hD tkD FD ND offD
    k_steps
    have z := end_one (h₀ := h₀) hBut ND (by k_mem) (fun q hq => off1_all offD q (List.mem_cons_of_mem _ hq))
    exact hret _ _ _ (by k_asm) (end_but hBut FD) ⟨end_stays hBut FD N (fun p hp => ND p (List.mem_cons_of_mem _ (List.mem_cons_of_mem _ hp))), _, rfl, z.1, z.2⟩

end Mine
end
end
section
open PySem PySem.W PyProof.Rows PySem.Spec PySem.Calls
noncomputable section
namespace Mine
local macro_rules | `(tactic| walk_at "m args") => `(tactic| ((case kB => k_asm); (case kF => k_asm); (case kX => k_asm); (case kN => k_asm); (case kT => k_asm); (case kK => first | exact rfl | assumption); (case kd => ktr_room); (case ku => ktr_units)))
local macro_rules | `(tactic| walk_at "m stop") => `(tactic| first | (with_reducible show wpAny _ _ (eval (Expr.ListComp _ _ _ _) _) _ _ _) | (with_reducible show wpAny _ _ (exec (Stmt.For _ _ _ _ _) _) _ _ _) | (with_reducible show LCt.CompSrcT _ _ _ _ _ _ _ _ _ _ _ _ _ _ _) | (with_reducible show wpAny _ _ (pyIter _) (fun it s₂ => TurnsAt _ _ _ _ _ _ _ _ _ it s₂) _ _))
local macro_rules | `(tactic| walk_at "m steps") => `(tactic| repeat' (first | ((fail_if_success (walk_at "m stop")); first | (k_unfold; (try dsimp only)) | (k_end; wrow_close) | walk1 | (dsimp only; walk1) | (leave1; walk_say "STEP leave1"; try dsimp only))))
theorem word_ok (w : World) (mean : ExcName → Option Value) (mg mb : Str → Option Value) (a b : Int) (t u : Tok) (ha : 0 ≤ a) (ha2 : a < 1000000) (hb : 0 ≤ b) (hb2 : b < 100000000) : Ct w mean mg mb 221 12 [.int a t, .int b u] [] [] (fun _ => True)
     (fun h h' r => ∃ led wd, WordIn led r wd ∧ New h h' led) := by
  unfold Ct
  k_fill
  intro dp un gd cn cs a ccd cl outer A₀ base h₀ L m s Q E B F X N T hck hdp hun hpre hret
  refine wpAny_call ?_
  k_dflt (refine' enter ?k1 ?k2 ?k3 ?k4 ?k5 ?kA ?kF ?kK ?k6 ?k7 ?k8 ?k9 ?kB ?_ ?c2 ?c3 ?c4 ?c5; (case kA => exact rfl); (case kF => exact rfl); (case kK => first | assumption | exact rfl); (case k1 => k_asm); (case k2 => k_asm); (case k3 => k_asm); (case k4 => k_asm); (case k5 => k_asm); (case k6 => k_is); (case k7 => k_is); (case k8 => ktr_room); (case k9 => first | exact BindsTo.of_eq rfl | exact binds_K (by k_in) rfl (by k_is) rfl rfl rfl); (case c5 => decide); (case kB => exact locs rfl); (case c2 => exact rfl); (case c3 => exact rfl); (case c4 => exact rfl); k_whole; intro g L' h' FG F' N' B' X' T' hBut hLt; (try dsimp only); (try k_fold))
  k_steps
  all_goals (
    (rename News g L' _ _ => NZ)
    (rename Fr g L' _ _ => FZ)
    first
      | exact hret _ _ _ (by k_asm) (end_but hBut FZ) (word_end2 hBut NZ (by k_mem) (by k_mem) (by k_mem) (by k_ne))
      | exact hret _ _ _ (by k_asm) (end_but hBut FZ) (word_end1 hBut NZ (by k_mem) (by k_mem))
      | exact hret _ _ _ (by k_asm) (end_but hBut FZ) (word_end0 hBut NZ (by k_mem)))

end Mine
end
end
section
open PySem PySem.W PyProof.Rows PySem.Spec PySem.Calls
noncomputable section
namespace Mine
local macro_rules | `(tactic| walk_at "m none") => `(tactic| fail)
local macro_rules | `(tactic| walk_at "m none") => `(tactic| fail)
local macro_rules | `(tactic| walk_at "m none") => `(tactic| fail)
local macro_rules | `(tactic| walk_at "m none") => `(tactic| fail)
local macro_rules | `(tactic| walk_at "m none") => `(tactic| fail)
local macro_rules | `(tactic| walk_at "m none") => `(tactic| fail)
local macro_rules | `(tactic| walk_at "m none") => `(tactic| fail)
local macro_rules | `(tactic| walk_at "m none") => `(tactic| fail)
local macro_rules | `(tactic| walk_at "m none") => `(tactic| fail)
local macro_rules | `(tactic| walk_at "m none") => `(tactic| fail)
local macro_rules | `(tactic| walk_at "m none") => `(tactic| fail)
local macro_rules | `(tactic| walk_at "m none") => `(tactic| fail)
local macro_rules | `(tactic| walk_at "m none") => `(tactic| fail)
local macro_rules | `(tactic| walk_at "m none") => `(tactic| fail)
local macro_rules | `(tactic| walk_at "m none") => `(tactic| fail)
local macro_rules | `(tactic| walk_at "m none") => `(tactic| fail)
local macro_rules | `(tactic| walk_at "m none") => `(tactic| fail)
local macro_rules | `(tactic| walk_at "m none") => `(tactic| fail)
local macro_rules | `(tactic| walk_at "m none") => `(tactic| fail)
local macro_rules | `(tactic| walk_at "m none") => `(tactic| fail)
local macro_rules | `(tactic| walk_at "m none") => `(tactic| fail)
local macro_rules | `(tactic| walk_at "m none") => `(tactic| fail)
local macro_rules | `(tactic| walk_at "m none") => `(tactic| fail)
local macro_rules | `(tactic| walk_at "m none") => `(tactic| fail)
local macro_rules | `(tactic| walk_at "m none") => `(tactic| fail)
local macro_rules | `(tactic| walk_at "m none") => `(tactic| fail)
local macro_rules | `(tactic| walk_at "m none") => `(tactic| fail)
local macro_rules | `(tactic| walk_at "m none") => `(tactic| fail)
local macro_rules | `(tactic| walk_at "m none") => `(tactic| fail)
local macro_rules | `(tactic| walk_at "m none") => `(tactic| fail)
local macro_rules | `(tactic| walk_at "m args") => `(tactic| ((case kB => k_asm); (case kF => k_asm); (case kX => k_asm); (case kN => k_asm); (case kT => k_asm); (case kK => first | exact rfl | assumption); (case kd => ktr_room); (case ku => ktr_units)))
theorem bor128 {c : Int} (h0 : 0 ≤ c) (h1 : c < 128) : Builtin.bitOr c 128 = c + 128 := by
  have all : ∀ n : Nat, n < 128 → Builtin.bitOr (n : Int) 128 = n + 128 := by decide +kernel
  have := all c.toNat (by omega)
  rwa [Int.toNat_of_nonneg h0] at this
theorem bor32 {c : Int} (h0 : 0 ≤ c) (h1 : c < 32) : Builtin.bitOr c 32 = c + 32 := by
  have all : ∀ n : Nat, n < 32 → Builtin.bitOr (n : Int) 32 = n + 32 := by decide +kernel
  have := all c.toNat (by omega)
  rwa [Int.toNat_of_nonneg h0] at this
theorem band31 {c : Int} (h0 : 0 ≤ c) (h1 : c < 256) : Builtin.bitAnd c 31 = c % 32 := by
  have all : ∀ n : Nat, n < 256 → Builtin.bitAnd (n : Int) 31 = (n : Int) % 32 := by decide +kernel
  have := all c.toNat (by omega)
  rwa [Int.toNat_of_nonneg h0] at this
theorem band127 {c : Int} (h0 : 0 ≤ c) (h1 : c < 128) : Builtin.bitAnd c 127 = c := by
  have all : ∀ n : Nat, n < 128 → Builtin.bitAnd (n : Int) 127 = (n : Int) := by decide +kernel
  have := all c.toNat (by omega)
  rwa [Int.toNat_of_nonneg h0] at this
theorem band128 {c : Int} (h0 : 0 ≤ c) (h1 : c < 128) : Builtin.bitAnd c 128 = 0 := by
  have all : ∀ n : Nat, n < 128 → Builtin.bitAnd (n : Int) 128 = (0 : Int) := by decide +kernel
  have := all c.toNat (by omega)
  rwa [Int.toNat_of_nonneg h0] at this
section
variable {prog : Program} {w : World} {A : Around} {E : Value → Shared → Prop} {s : Shared} {c : Int} {t u : Tok} {Q : Value → Shared → Prop}
theorem step_or128 (h0 : 0 ≤ c) (h1 : c < 128) (h : Q (.int (c + 128) s.toks) { s with toks := s.toks + 1 }) : wpAny (model prog w) A (binaryOp .BitOr (.int c t) (.int 128 u)) Q E s := or_int (by rw [bor128 h0 h1]; exact h)
theorem step_or32 (h0 : 0 ≤ c) (h1 : c < 32) (h : Q (.int (c + 32) s.toks) { s with toks := s.toks + 1 }) : wpAny (model prog w) A (binaryOp .BitOr (.int c t) (.int 32 u)) Q E s := or_int (by rw [bor32 h0 h1]; exact h)
theorem step_and31 (h0 : 0 ≤ c) (h1 : c < 256) (h : Q (.int (c % 32) s.toks) { s with toks := s.toks + 1 }) : wpAny (model prog w) A (binaryOp .BitAnd (.int c t) (.int 31 u)) Q E s := and_int (by rw [band31 h0 h1]; exact h)
theorem step_and127 (h0 : 0 ≤ c) (h1 : c < 128) (h : Q (.int c s.toks) { s with toks := s.toks + 1 }) : wpAny (model prog w) A (binaryOp .BitAnd (.int c t) (.int 127 u)) Q E s := and_int (by rw [band127 h0 h1]; exact h)
theorem step_and128 (h0 : 0 ≤ c) (h1 : c < 128) (h : Q (.int 0 s.toks) { s with toks := s.toks + 1 }) : wpAny (model prog w) A (binaryOp .BitAnd (.int c t) (.int 128 u)) Q E s := and_int (by rw [band128 h0 h1]; exact h)
end
local macro_rules | `(tactic| walk_at "binaryOp BitOr int int") => `(tactic| (k_here; k_dflt (first | (refine step_or128 (by omega) (by omega) ?_) | (refine step_or32 (by omega) (by omega) ?_))))
local macro_rules | `(tactic| walk_at "binaryOp BitAnd int int") => `(tactic| (k_here; k_dflt (first | (refine step_and31 (by omega) (by omega) ?_) | (refine step_and127 (by omega) (by omega) ?_) | (refine step_and128 (by omega) (by omega) ?_))))
theorem ctoi_str (w : World) (mean : ExcName → Option Value) (mg mb : Str → Option Value) (c : Nat) (t : Tok) : Ct w mean mg mb 186 3 [.str (Str.mk #[c]) t] [] [] (fun _ => True) (fun _ _ r => ∃ t, r = .int c t) := by
  unfold Ct
  k_fill
  intro dp un gd cn cs a ccd cl outer A₀ base h₀ L m s Q E B F X N T hck hdp hun hpre hret
  refine wpAny_call ?_
  k_dflt (refine' enter ?k1 ?k2 ?k3 ?k4 ?k5 ?kA ?kF ?kK ?k6 ?k7 ?k8 ?k9 ?kB ?_ ?c2 ?c3 ?c4 ?c5; (case kA => exact rfl); (case kF => exact rfl); (case kK => first | assumption | exact rfl); (case k1 => k_asm); (case k2 => k_asm); (case k3 => k_asm); (case k4 => k_asm); (case k5 => k_asm); (case k6 => k_is); (case k7 => k_is); (case k8 => ktr_room); (case k9 => first | exact BindsTo.of_eq rfl | exact binds_K (by k_in) rfl (by k_is) rfl rfl rfl); (case c5 => decide); (case kB => exact locs rfl); (case c2 => exact rfl); (case c3 => exact rfl); (case c4 => exact rfl); k_whole; intro g L' h' FG F' N' B' X' T' hBut hLt; (try dsimp only); (try k_fold))
  k_steps
  all_goals exact hret _ _ _ (by k_asm) (end_but (by k_asm) (by k_asm)) ⟨_, rfl⟩
theorem ctoi_int (w : World) (mean : ExcName → Option Value) (mg mb : Str → Option Value) (c : Int) (t : Tok) : Ct w mean mg mb 186 3 [.int c t] [] [] (fun _ => True) (fun _ _ r => ∃ t, r = .int c t) := by
  unfold Ct
  k_fill
  intro dp un gd cn cs a ccd cl outer A₀ base h₀ L m s Q E B F X N T hck hdp hun hpre hret
  refine wpAny_call ?_
  k_dflt (refine' enter ?k1 ?k2 ?k3 ?k4 ?k5 ?kA ?kF ?kK ?k6 ?k7 ?k8 ?k9 ?kB ?_ ?c2 ?c3 ?c4 ?c5; (case kA => exact rfl); (case kF => exact rfl); (case kK => first | assumption | exact rfl); (case k1 => k_asm); (case k2 => k_asm); (case k3 => k_asm); (case k4 => k_asm); (case k5 => k_asm); (case k6 => k_is); (case k7 => k_is); (case k8 => ktr_room); (case k9 => first | exact BindsTo.of_eq rfl | exact binds_K (by k_in) rfl (by k_is) rfl rfl rfl); (case c5 => decide); (case kB => exact locs rfl); (case c2 => exact rfl); (case c3 => exact rfl); (case c4 => exact rfl); k_whole; intro g L' h' FG F' N' B' X' T' hBut hLt; (try dsimp only); (try k_fold))
  k_steps
  all_goals exact hret _ _ _ (by k_asm) (end_but (by k_asm) (by k_asm)) ⟨_, rfl⟩
local macro_rules | `(tactic| walk_at "call ref") => `(tactic| (k_here; (with_reducible show wpAny _ _ (call (Value.ref 186) _ _) _ _ _); k_dflt (first | refine' useT (ctoi_str _ _ _ _ _ _) ?kB ?kF ?kX ?kN ?kT ?kK ?kd ?ku trivial ?_ | refine' useT (ctoi_int _ _ _ _ _ _) ?kB ?kF ?kX ?kN ?kT ?kK ?kd ?ku trivial ?_); k_dflt (walk_at "m args"); (intro r9 h9 tk9 F9 N9 st9 p9; obtain ⟨t9, e9⟩ := p9; subst e9; clear st9); (try k_fold)))
theorem alt_str (w : World) (mean : ExcName → Option Value) (mg mb : Str → Option Value) (c : Nat) (t : Tok) (hc : c < 128) : Ct w mean mg mb 207 6 [.str (Str.mk #[c]) t] [] [] (fun _ => True) (fun _ _ r => ∃ t, r = .str (Str.mk #[c + 128]) t) := by
  unfold Ct
  k_fill
  intro dp un gd cn cs a ccd cl outer A₀ base h₀ L m s Q E B F X N T hck hdp hun hpre hret
  refine wpAny_call ?_
  k_dflt (refine' enter ?k1 ?k2 ?k3 ?k4 ?k5 ?kA ?kF ?kK ?k6 ?k7 ?k8 ?k9 ?kB ?_ ?c2 ?c3 ?c4 ?c5; (case kA => exact rfl); (case kF => exact rfl); (case kK => first | assumption | exact rfl); (case k1 => k_asm); (case k2 => k_asm); (case k3 => k_asm); (case k4 => k_asm); (case k5 => k_asm); (case k6 => k_is); (case k7 => k_is); (case k8 => ktr_room); (case k9 => first | exact BindsTo.of_eq rfl | exact binds_K (by k_in) rfl (by k_is) rfl rfl rfl); (case c5 => decide); (case kB => exact locs rfl); (case c2 => exact rfl); (case c3 => exact rfl); (case c4 => exact rfl); k_whole; intro g L' h' FG F' N' B' X' T' hBut hLt; (try dsimp only); (try k_fold))
  k_steps
  all_goals exact hret _ _ _ (by k_asm) (end_but (by k_asm) (by k_asm)) ⟨_, by rw [show ((c : Int) + 128).toNat = c + 128 by omega]⟩
theorem ctrl_str (w : World) (mean : ExcName → Option Value) (mg mb : Str → Option Value) (c : Nat) (t : Tok) (hc : c < 256) : Ct w mean mg mb 200 6 [.str (Str.mk #[c]) t] [] [] (fun _ => True) (fun _ _ r => ∃ t, r = .str (Str.mk #[c % 32]) t) := by
  unfold Ct
  k_fill
  intro dp un gd cn cs a ccd cl outer A₀ base h₀ L m s Q E B F X N T hck hdp hun hpre hret
  refine wpAny_call ?_
  k_dflt (refine' enter ?k1 ?k2 ?k3 ?k4 ?k5 ?kA ?kF ?kK ?k6 ?k7 ?k8 ?k9 ?kB ?_ ?c2 ?c3 ?c4 ?c5; (case kA => exact rfl); (case kF => exact rfl); (case kK => first | assumption | exact rfl); (case k1 => k_asm); (case k2 => k_asm); (case k3 => k_asm); (case k4 => k_asm); (case k5 => k_asm); (case k6 => k_is); (case k7 => k_is); (case k8 => ktr_room); (case k9 => first | exact BindsTo.of_eq rfl | exact binds_K (by k_in) rfl (by k_is) rfl rfl rfl); (case c5 => decide); (case kB => exact locs rfl); (case c2 => exact rfl); (case c3 => exact rfl); (case c4 => exact rfl); k_whole; intro g L' h' FG F' N' B' X' T' hBut hLt; (try dsimp only); (try k_fold))
  k_steps
  all_goals exact hret _ _ _ (by k_asm) (end_but (by k_asm) (by k_asm)) ⟨_, by rw [show ((c : Int) % 32).toNat = c % 32 by omega]⟩
theorem isprint_int (w : World) (mean : ExcName → Option Value) (mg mb : Str → Option Value) (c : Int) (t : Tok) (hc : c < 32) : Ct w mean mg mb 193 6 [.int c t] [] [] (fun _ => True) (fun _ _ r => r = .bool false) := by
  unfold Ct
  k_fill
  intro dp un gd cn cs a ccd cl outer A₀ base h₀ L m s Q E B F X N T hck hdp hun hpre hret
  refine wpAny_call ?_
  k_dflt (refine' enter ?k1 ?k2 ?k3 ?k4 ?k5 ?kA ?kF ?kK ?k6 ?k7 ?k8 ?k9 ?kB ?_ ?c2 ?c3 ?c4 ?c5; (case kA => exact rfl); (case kF => exact rfl); (case kK => first | assumption | exact rfl); (case k1 => k_asm); (case k2 => k_asm); (case k3 => k_asm); (case k4 => k_asm); (case k5 => k_asm); (case k6 => k_is); (case k7 => k_is); (case k8 => ktr_room); (case k9 => first | exact BindsTo.of_eq rfl | exact binds_K (by k_in) rfl (by k_is) rfl rfl rfl); (case c5 => decide); (case kB => exact locs rfl); (case c2 => exact rfl); (case c3 => exact rfl); (case c4 => exact rfl); k_whole; intro g L' h' FG F' N' B' X' T' hBut hLt; (try dsimp only); (try k_fold))
  k_steps
  all_goals exact hret _ _ _ (by k_asm) (end_but (by k_asm) (by k_asm)) (by first | rfl | exact congrArg Value.bool (decide_eq_false (by omega)))

end Mine
end
end
section
open PySem PySem.W PyProof.Rows PySem.Spec PySem.Calls
noncomputable section
namespace Mine
local macro_rules | `(tactic| walk_at "m args") => `(tactic| ((case kB => k_asm); (case kF => k_asm); (case kX => k_asm); (case kN => k_asm); (case kT => k_asm); (case kK => first | exact rfl | assumption); (case kd => ktr_room); (case ku => ktr_units)))
local macro_rules | `(tactic| walk_at "call ref") => `(tactic| (k_here; (with_reducible show wpAny _ _ (call (Value.ref 186) _ _) _ _ _); k_dflt (first | refine' useT (ctoi_str _ _ _ _ _ _) ?kB ?kF ?kX ?kN ?kT ?kK ?kd ?ku trivial ?_ | refine' useT (ctoi_int _ _ _ _ _ _) ?kB ?kF ?kX ?kN ?kT ?kK ?kd ?ku trivial ?_); k_dflt (walk_at "m args"); (intro r9 h9 tk9 F9 N9 st9 p9; obtain ⟨t9, e9⟩ := p9; subst e9; clear st9); (try k_fold)))
local macro_rules | `(tactic| walk_at "call ref") => `(tactic| (k_here; (with_reducible show wpAny _ _ (call (Value.ref 193) _ _) _ _ _); k_dflt (refine' useT (isprint_int _ _ _ _ _ _ (by omega)) ?kB ?kF ?kX ?kN ?kT ?kK ?kd ?ku trivial ?_); k_dflt (walk_at "m args"); (intro r9 h9 tk9 F9 N9 st9 p9; subst p9; clear st9); (try k_fold)))
local macro_rules | `(tactic| walk_at "binaryOp BitOr int int") => `(tactic| (k_here; (with_reducible show wpAny _ _ (binaryOp _ (Value.int _ _) (Value.int 128 _)) _ _ _); k_dflt (refine step_or128 (by omega) (by omega) ?_)))
local macro_rules | `(tactic| walk_at "binaryOp BitOr int int") => `(tactic| (k_here; (with_reducible show wpAny _ _ (binaryOp _ (Value.int _ _) (Value.int 32 _)) _ _ _); k_dflt (refine step_or32 (by omega) (by omega) ?_)))
local macro_rules | `(tactic| walk_at "binaryOp BitAnd int int") => `(tactic| (k_here; (with_reducible show wpAny _ _ (binaryOp _ (Value.int _ _) (Value.int 31 _)) _ _ _); k_dflt (refine step_and31 (by omega) (by omega) ?_)))
local macro_rules | `(tactic| walk_at "binaryOp BitAnd int int") => `(tactic| (k_here; (with_reducible show wpAny _ _ (binaryOp _ (Value.int _ _) (Value.int 127 _)) _ _ _); k_dflt (refine step_and127 (by omega) (by omega) ?_)))
local macro_rules | `(tactic| walk_at "binaryOp BitAnd int int") => `(tactic| (k_here; (with_reducible show wpAny _ _ (binaryOp _ (Value.int _ _) (Value.int 128 _)) _ _ _); k_dflt (refine step_and128 (by omega) (by omega) ?_)))
theorem caret {n k : Nat} (h : n = k) : Str.ofString "^" ++ Str.mk #[n] = Str.mk #[94, k] := by
  subst h
  rw [show Str.ofString "^" = Str.mk #[94] from by decide +kernel]
  rfl
theorem unctrl_str (w : World) (mean : ExcName → Option Value) (mg mb : Str → Option Value) (c : Nat) (t : Tok) (hc : c < 32) : Ct w mean mg mb 214 9 [.str (Str.mk #[c]) t] [] [] (fun _ => True) (fun _ _ r => ∃ t, r = .str (Str.mk #[94, c + 64]) t) := by
  unfold Ct
  k_fill
  intro dp un gd cn cs a ccd cl outer A₀ base h₀ L m s Q E B F X N T hck hdp hun hpre hret
  refine wpAny_call ?_
  k_dflt (refine' enter ?k1 ?k2 ?k3 ?k4 ?k5 ?kA ?kF ?kK ?k6 ?k7 ?k8 ?k9 ?kB ?_ ?c2 ?c3 ?c4 ?c5; (case kA => exact rfl); (case kF => exact rfl); (case kK => first | assumption | exact rfl); (case k1 => k_asm); (case k2 => k_asm); (case k3 => k_asm); (case k4 => k_asm); (case k5 => k_asm); (case k6 => k_is); (case k7 => k_is); (case k8 => ktr_room); (case k9 => first | exact BindsTo.of_eq rfl | exact binds_K (by k_in) rfl (by k_is) rfl rfl rfl); (case c5 => decide); (case kB => exact locs rfl); (case c2 => exact rfl); (case c3 => exact rfl); (case c4 => exact rfl); k_whole; intro g L' h' FG F' N' B' X' T' hBut hLt; (try dsimp only); (try k_fold))
  k_steps
  all_goals first
    | (exfalso; omega)
    | exact hret _ _ _ (by k_asm) (end_but (by k_asm) (by k_asm)) ⟨_, by rw [caret (k := c + 64) (by omega)]⟩

end Mine
end
end
section
open PySem PySem.W PyProof.Rows PySem.Spec PySem.Calls
noncomputable section
namespace Mine
local macro_rules | `(tactic| walk_at "m args") => `(tactic| ((case kB => k_asm); (case kF => k_asm); (case kX => k_asm); (case kN => k_asm); (case kT => k_asm); (case kK => first | exact rfl | assumption); (case kd => ktr_room); (case ku => ktr_units)))
local macro_rules | `(tactic| walk_at "m stop") => `(tactic| first | (with_reducible show wpAny _ _ (exec (Stmt.Assign _ (Expr.ListComp _ _ _ _) _) _) _ _ _) | (with_reducible show wpAny _ _ (eval (Expr.ListComp _ _ _ _) _) _ _ _) | (with_reducible show wpAny _ _ (exec (Stmt.For _ _ _ _ _) _) _ _ _) | (with_reducible show LCt.CompSrcT _ _ _ _ _ _ _ _ _ _ _ _ _ _ _) | (with_reducible show wpAny _ _ (pyIter _) (fun it s₂ => TurnsAt _ _ _ _ _ _ _ _ _ it s₂) _ _))
local macro_rules | `(tactic| walk_at "m steps") => `(tactic| repeat' (first | ((fail_if_success (walk_at "m stop")); first | (k_unfold; (try dsimp only)) | (k_end; wrow_close) | walk1 | (dsimp only; walk1) | (leave1; walk_say "STEP leave1"; try dsimp only))))
theorem allLt_mem {d : Addr} : ∀ {l : List (Addr × Obj)}, AllLt d l → ∀ p ∈ l, @LT.lt Nat _ p.1 d
  | [], _, _, h => nomatch h
  | _ :: _, x, p, h => by
    rcases List.mem_cons.mp h with rfl | h
    · exact x.1
    · exact allLt_mem x.2 p h
/-- behind a turn the ledger has grown by the new element's own objects -/
def Grew (h₀ : Heap) (L : Addr) (m : Str → Option Value) (s : Shared) (I : Addr) (oI : Obj) (C : Addr) (oC : Obj) (D : Addr) (ys : List Value) (gl news : List (Addr × Obj)) (d : Dat) (y : Value) (s'' : Shared) : Prop :=
  ∃ h' tk' nw, s'' = { s with heap := h', toks := tk' } ∧ Fr h₀ L h' m ∧ News h₀ L h' ((I, oI) :: (C, oC) :: (D, LCg.lst ys) :: (nw ++ (gl ++ news))) ∧ LCg.Off3 I C D nw ∧ (∀ p ∈ nw, ∀ q ∈ news, q.1 ≠ p.1) ∧ DatIn nw y d
theorem grew_leaf {h₀ h' : Heap} {L : Addr} {m : Str → Option Value} {s : Shared} {I C D t : Addr} {oI oC : Obj} {z d e : Addr × Obj} {ys : List Value} {gl tl : List (Addr × Obj)} {f x y : Int} {tf u : Tok} {k tk : Nat} (F : Fr h₀ L h' m) (N : News h₀ L h' ((t, { cls := .type "tuple", data := .seq #[.int f tf, .int x u] k }) :: z :: d :: (I, oI) :: (C, oC) :: (D, LCg.lst ys) :: (gl ++ e :: tl)))
    (lt : (@LT.lt Nat _ z.1 t) ∧ (@LT.lt Nat _ d.1 t) ∧ (@LT.lt Nat _ I t) ∧ (@LT.lt Nat _ C t) ∧ (@LT.lt Nat _ D t) ∧ AllLt t (gl ++ e :: tl)) (hx : y = x) : Grew h₀ L m s I oI C oC D ys gl (d :: e :: tl) (.tuple [.int f, .int y]) (.ref t) { s with heap := h', toks := tk } := by
  subst hx
  obtain ⟨_, l2, l3, l4, l5, l6⟩ := lt
  refine ⟨h', tk, [(t, { cls := .type "tuple", data := .seq #[.int f tf, .int y u] k })], rfl, F, fun p hp => N p ?_, ⟨⟨Nat.ne_of_gt l3, Nat.ne_of_gt l4, Nat.ne_of_gt l5⟩, trivial⟩, fun p hp q hq => ?_, DatIn.tuple (vs := [.int f tf, .int y u]) (n := k) (.head _) (.cons (.int _ _) (.cons (.int _ _) .nil))⟩
  · rcases List.mem_cons.mp hp with rfl | hp
    · exact .tail _ (.tail _ (.tail _ (.head _)))
    · rcases List.mem_cons.mp hp with rfl | hp
      · exact .tail _ (.tail _ (.tail _ (.tail _ (.head _))))
      · rcases List.mem_cons.mp hp with rfl | hp
        · exact .tail _ (.tail _ (.tail _ (.tail _ (.tail _ (.head _)))))
        · rcases List.mem_cons.mp hp with rfl | hp
          · exact .head _
          · have hp : p ∈ gl ++ d :: e :: tl := hp
            rcases List.mem_append.mp hp with hp | hp
            · exact .tail _ (.tail _ (.tail _ (.tail _ (.tail _ (.tail _ (List.mem_append.mpr (.inl hp)))))))
            · rcases List.mem_cons.mp hp with rfl | hp
              · exact .tail _ (.tail _ (.head _))
              · exact .tail _ (.tail _ (.tail _ (.tail _ (.tail _ (.tail _ (List.mem_append.mpr (.inr hp)))))))
  · rw [List.mem_singleton.mp hp]
    rcases List.mem_cons.mp hq with rfl | hq
    · exact Nat.ne_of_lt l2
    · exact Nat.ne_of_lt (allLt_mem l6 q (List.mem_append.mpr (.inr hq)))
section
variable {prog : Program} {w : World} {A : Around} {s : Shared} {h₀ : Heap} {L : Addr} {m : Str → Option Value} {env : Env}
theorem rest_pdat {α : Type} (rs : List α) (f : α → Addr) (o : α → Obj) (v₁ v₂ : α → Value) (dt : α → Dat) {elt : Expr} {x x₂ : Str} {scope : Scope} {cl : List (Str × Addr)} {S : List (Addr × Obj) → Prop} {Fin : List Value → List (Addr × Obj) → Prop} {news : List (Addr × Obj)} (hS : ∀ gl, S (gl ++ news))
    (ho : ∀ r ∈ rs, (f r, o r) ∈ news ∧ (o r).cls = .type "tuple" ∧ ∃ nt, (o r).data = .seq #[v₁ r, v₂ r] nt)
    (turn : ∀ r ∈ rs, ∀ gl I oI C oC D ys m₂ h tk (E' : Value → Shared → Prop), LCg.NsObj oC m₂ → m₂ x = some (v₁ r) → m₂ x₂ = some (v₂ r) → Fr h₀ L h m → News h₀ L h ((I, oI) :: (C, oC) :: (D, LCg.lst ys) :: (gl ++ news)) → LCg.Off3 I C D (gl ++ news) → ((@Ne Nat I C) ∧ (@Ne Nat I D) ∧ (@Ne Nat C D)) →
      wpAny (model prog w) A (eval elt (compEnvC scope cl C env)) (Grew h₀ L m { s with heap := h, toks := tk } I oI C oC D ys gl news (dt r)) E' { s with heap := h, toks := tk })
    (fin : ∀ gl ys, DatAll gl ys (rs.map dt) → (∀ p ∈ gl, ∀ q ∈ news, q.1 ≠ p.1) → Fin ys (gl ++ news)) :
    LCp.CompRestP prog w A h₀ L m env elt x x₂ scope cl s S (fun i v => (rs.map fun r => Value.ref (f r)).toArray[i]? = some v) Fin (rs.map fun r => Value.ref (f r)).toArray.size 0 [] news := by
  have key : ∀ (j i : Nat) (gl : List (Addr × Obj)) (ys : List Value), i + j = rs.length → DatAll gl ys ((rs.take i).map dt) → (∀ p ∈ gl, ∀ q ∈ news, q.1 ≠ p.1) → LCp.CompRestP prog w A h₀ L m env elt x x₂ scope cl s S (fun i v => (rs.map fun r => Value.ref (f r)).toArray[i]? = some v) Fin j i ys (gl ++ news) := by
    intro j
    induction j with
    | zero =>
      intro i gl ys hi hl hg
      have : rs.take i = rs := List.take_of_length_le (by omega)
      rw [this] at hl
      exact LCp.CompRestP.zero (fin gl ys hl hg)
    | succ j ih =>
      intro i gl ys hi hl hg
      have hlt : i < rs.length := by omega
      refine LCp.CompRestP.succ fun v hP => ?_
      have hv : v = .ref (f (rs[i]'hlt)) := by
        have : (rs.map fun r => Value.ref (f r)).toArray[i]? = some (.ref (f (rs[i]'hlt))) := by rw [List.getElem?_toArray, List.getElem?_map, List.getElem?_eq_getElem hlt]; rfl
        exact Option.some.inj (hP.symm.trans this)
      obtain ⟨h1, h2, nt, h3⟩ := ho _ (List.getElem_mem hlt)
      refine ⟨_, _, _, _, nt, hv, List.mem_append.mpr (.inr h1), h2, h3, fun I oI C oC D m₂ h tk E' hoC hx hx2 F N off ne => ?_⟩
      have ht : rs.take (i + 1) = rs.take i ++ [rs[i]'hlt] := by rw [List.take_add_one, List.getElem?_eq_getElem hlt]; rfl
      refine wpAny_mono (turn (rs[i]'hlt) (List.getElem_mem hlt) gl I oI C oC D _ m₂ h tk E' hoC hx hx2 F N off ne) (fun y s'' q => ?_) fun _ _ e => e
      obtain ⟨h', tk', nw, rfl, F', N', off', hn', hd'⟩ := q
      have nx := ih (i + 1) (nw ++ gl) (ys ++ [y]) (by omega) (by
        rw [ht, List.map_append]
        have e1 : DatAll (nw ++ gl) ys ((rs.take i).map dt) := hl.mono fun p hp => List.mem_append.mpr (.inr hp)
        have e2 : DatIn (nw ++ gl) y (dt (rs[i]'hlt)) := hd'.mono fun p hp => List.mem_append.mpr (.inl hp)
        have app : ∀ {vs : List Value} {ds : List Dat}, DatAll (nw ++ gl) vs ds → DatAll (nw ++ gl) (vs ++ [y]) (ds ++ [dt (rs[i]'hlt)]) := by
          intro vs
          induction vs with
          | nil => intro ds h; cases h; exact .cons e2 .nil
          | cons v vs ih => intro ds h; cases h with | cons a b => exact .cons a (ih b)
        exact app e1) (fun p hp => (List.mem_append.mp hp).elim (hn' p) (hg p))
      rw [List.append_assoc] at nx
      refine ⟨h', tk', nw ++ (gl ++ news), rfl, F', N', LCg.Off3.of fun p hp => ?_, by rw [← List.append_assoc]; exact hS _, nx⟩
      rcases List.mem_append.mp hp with hp | hp
      · exact off'.mem p hp
      · exact off.mem p hp
  have e : (rs.map fun r => Value.ref (f r)).toArray.size = rs.length := by rw [List.size_toArray, List.length_map]
  rw [e]
  exact key rs.length 0 [] [] (by omega) .nil (fun _ h => nomatch h)
end
/-- a pair of a word -/
structure WE where
  t : Addr
  k : Nat
  f : Int
  b : Int
  tf : Tok
  tb : Tok
def WE.obj (e : WE) : Obj := { cls := .type "tuple", data := .seq #[.int e.f e.tf, .int e.b e.tb] e.k }
theorem word_rep {led : List (Addr × Obj)} {v : Value} {wd : List (Int × Int)} (h : WordIn led v wd) : ∃ (l n : Nat) (es : List WE), v = .ref l ∧ led = (l, W.listOf (es.map fun e => Value.ref e.t).toArray n) :: es.map (fun e => (e.t, e.obj)) ∧ wd = es.map (fun e => (e.f, e.b)) ∧ es.length ≤ 2 ∧ ∀ e ∈ es, 0 ≤ e.f ∧ e.f < 32 ∧ 0 ≤ e.b ∧ e.b < 2 := by
  cases h with
  | nil l n => exact ⟨l, n, [], rfl, rfl, rfl, by decide, fun _ h => nomatch h⟩
  | one l a n k f b t1 u1 h1 h2 h3 h4 => exact ⟨l, n, [⟨a, k, f, b, t1, u1⟩], rfl, rfl, rfl, Nat.le_succ 1, fun e he => by rw [List.mem_singleton.mp he]; exact ⟨h1, h2, h3, h4⟩⟩
  | two l a c n k j f b f2 b2 t1 u1 t2 u2 h1 h2 h3 h4 h5 h6 h7 h8 hac => exact ⟨l, n, [⟨a, k, f, b, t1, u1⟩, ⟨c, j, f2, b2, t2, u2⟩], rfl, rfl, rfl, Nat.le_refl 2, fun e he => by
    rcases List.mem_cons.mp he with rfl | he
    · exact ⟨h1, h2, h3, h4⟩
    · rw [List.mem_singleton.mp he]; exact ⟨h5, h6, h7, h8⟩⟩
theorem nMove {h₀ h : Heap} {L : Addr} {a b c d e : Addr × Obj} {gl tl : List (Addr × Obj)} (N : News h₀ L h (a :: b :: c :: (gl ++ d :: e :: tl))) : News h₀ L h (d :: a :: b :: c :: (gl ++ e :: tl)) := fun p hp => N p (by
  rcases List.mem_cons.mp hp with rfl | hp
  · exact .tail _ (.tail _ (.tail _ (List.mem_append.mpr (.inr (.head _)))))
  · rcases List.mem_cons.mp hp with rfl | hp
    · exact .head _
    · rcases List.mem_cons.mp hp with rfl | hp
      · exact .tail _ (.head _)
      · rcases List.mem_cons.mp hp with rfl | hp
        · exact .tail _ (.tail _ (.head _))
        · rcases List.mem_append.mp hp with hp | hp
          · exact .tail _ (.tail _ (.tail _ (List.mem_append.mpr (.inl hp))))
          · exact .tail _ (.tail _ (.tail _ (List.mem_append.mpr (.inr (.tail _ hp))))))
section
variable {prog : Program} {w : World} {A : Around} {s : Shared} {h₀ : Heap} {L : Addr} {m : Str → Option Value} {env : Env}
theorem rest_ptext {α : Type} (rs : List α) (f : α → Addr) (o : α → Obj) (v₁ v₂ : α → Value) (G : α → Str) {elt : Expr} {x x₂ : Str} {scope : Scope} {cl : List (Str × Addr)} {S : List (Addr × Obj) → Prop} {Fin : List Value → List (Addr × Obj) → Prop} {news : List (Addr × Obj)} (hS : S news)
    (ho : ∀ r ∈ rs, (f r, o r) ∈ news ∧ (o r).cls = .type "tuple" ∧ ∃ nt, (o r).data = .seq #[v₁ r, v₂ r] nt)
    (turn : ∀ r ∈ rs, ∀ I oI C oC D ys m₂ h tk (E' : Value → Shared → Prop), LCg.NsObj oC m₂ → m₂ x = some (v₁ r) → m₂ x₂ = some (v₂ r) → Fr h₀ L h m → News h₀ L h ((I, oI) :: (C, oC) :: (D, LCg.lst ys) :: news) → LCg.Off3 I C D news → ((@Ne Nat I C) ∧ (@Ne Nat I D) ∧ (@Ne Nat C D)) →
      wpAny (model prog w) A (eval elt (compEnvC scope cl C env)) (fun y s'' => (∃ t, y = .str (G r) t) ∧ Same h₀ L m { s with heap := h, toks := tk } ((I, oI) :: (C, oC) :: (D, LCg.lst ys) :: news) s'') E' { s with heap := h, toks := tk })
    (fin : ∀ l : List (Str × Tok), l.map (·.1) = rs.map G → Fin (strValues l) news) :
    LCp.CompRestP prog w A h₀ L m env elt x x₂ scope cl s S (fun i v => (rs.map fun r => Value.ref (f r)).toArray[i]? = some v) Fin (rs.map fun r => Value.ref (f r)).toArray.size 0 [] news := by
  have key : ∀ (j i : Nat) (l : List (Str × Tok)), i + j = rs.length → l.map (·.1) = (rs.take i).map G → LCp.CompRestP prog w A h₀ L m env elt x x₂ scope cl s S (fun i v => (rs.map fun r => Value.ref (f r)).toArray[i]? = some v) Fin j i (strValues l) news := by
    intro j
    induction j with
    | zero =>
      intro i l hi hl
      have : rs.take i = rs := List.take_of_length_le (by omega)
      rw [this] at hl
      exact LCp.CompRestP.zero (fin l hl)
    | succ j ih =>
      intro i l hi hl
      have hlt : i < rs.length := by omega
      refine LCp.CompRestP.succ fun v hP => ?_
      have hv : v = .ref (f (rs[i]'hlt)) := by
        have : (rs.map fun r => Value.ref (f r)).toArray[i]? = some (.ref (f (rs[i]'hlt))) := by rw [List.getElem?_toArray, List.getElem?_map, List.getElem?_eq_getElem hlt]; rfl
        exact Option.some.inj (hP.symm.trans this)
      obtain ⟨h1, h2, nt, h3⟩ := ho _ (List.getElem_mem hlt)
      refine ⟨_, _, _, _, nt, hv, h1, h2, h3, fun I oI C oC D m₂ h tk E' hoC hx hx2 F N off ne => ?_⟩
      have ht : rs.take (i + 1) = rs.take i ++ [rs[i]'hlt] := by rw [List.take_add_one, List.getElem?_eq_getElem hlt]; rfl
      refine wpAny_mono (turn (rs[i]'hlt) (List.getElem_mem hlt) I oI C oC D _ m₂ h tk E' hoC hx hx2 F N off ne) (fun y s'' q => ?_) fun _ _ e => e
      obtain ⟨⟨t, rfl⟩, h', tk', rfl, F', N'⟩ := q
      refine ⟨h', tk', news, rfl, F', N', off, hS, ?_⟩
      have nx := ih (i + 1) (l ++ [(G (rs[i]'hlt), t)]) (by omega) (by rw [List.map_append, hl, ht, List.map_append]; rfl)
      rw [show strValues (l ++ [(G (rs[i]'hlt), t)]) = strValues l ++ [Value.str (G (rs[i]'hlt)) t] from by unfold strValues; rw [List.map_append]; rfl] at nx
      exact nx
  have e : (rs.map fun r => Value.ref (f r)).toArray.size = rs.length := by rw [List.size_toArray, List.length_map]
  rw [e]
  exact key rs.length 0 [] (by omega) rfl
end
theorem word_ok2 {es : List WE} (hle : es.length ≤ 2) (G : WE → Str) (h1 : ∀ e, PySem.JoinOk (Str.ofString "") [G e] = true) (h2 : ∀ e e', PySem.JoinOk (Str.ofString "") [G e, G e'] = true) : PySem.JoinOk (Str.ofString "") (es.map G) = true := by
  match es, hle with
  | [], _ => rfl
  | [a], _ => exact h1 a
  | [a, b], _ => exact h2 a b
  | _ :: _ :: _ :: _, h => exact absurd h (by simp)
theorem word_join {es : List WE} (hle : es.length ≤ 2) (G : WE → Nat) : Txt.join (Str.ofString "") (es.map fun e => Str.mk #[G e]) = Str.mk (es.map G).toArray := by
  match es, hle with
  | [], _ => rfl
  | [a], _ => rfl
  | [a, b], _ => rfl
  | _ :: _ :: _ :: _, h => exact absurd h (by simp)

end Mine
end
end
section
open PySem PySem.W PyProof.Rows PySem.Spec PySem.Calls
noncomputable section
namespace Mine
local macro_rules | `(tactic| walk_at "m none") => `(tactic| fail)
local macro_rules | `(tactic| walk_at "m none") => `(tactic| fail)
local macro_rules | `(tactic| walk_at "m none") => `(tactic| fail)
local macro_rules | `(tactic| walk_at "m none") => `(tactic| fail)
local macro_rules | `(tactic| walk_at "m none") => `(tactic| fail)
local macro_rules | `(tactic| walk_at "m none") => `(tactic| fail)
local macro_rules | `(tactic| walk_at "m none") => `(tactic| fail)
local macro_rules | `(tactic| walk_at "m none") => `(tactic| fail)
local macro_rules | `(tactic| walk_at "m none") => `(tactic| fail)
local macro_rules | `(tactic| walk_at "m none") => `(tactic| fail)
local macro_rules | `(tactic| walk_at "m none") => `(tactic| fail)
local macro_rules | `(tactic| walk_at "m none") => `(tactic| fail)
local macro_rules | `(tactic| walk_at "m none") => `(tactic| fail)
local macro_rules | `(tactic| walk_at "m none") => `(tactic| fail)
local macro_rules | `(tactic| walk_at "m none") => `(tactic| fail)
local macro_rules | `(tactic| walk_at "m none") => `(tactic| fail)
local macro_rules | `(tactic| walk_at "m none") => `(tactic| fail)
local macro_rules | `(tactic| walk_at "m none") => `(tactic| fail)
local macro_rules | `(tactic| walk_at "m none") => `(tactic| fail)
local macro_rules | `(tactic| walk_at "m none") => `(tactic| fail)
local macro_rules | `(tactic| walk_at "m none") => `(tactic| fail)
local macro_rules | `(tactic| walk_at "m none") => `(tactic| fail)
local macro_rules | `(tactic| walk_at "m none") => `(tactic| fail)
local macro_rules | `(tactic| walk_at "m none") => `(tactic| fail)
local macro_rules | `(tactic| walk_at "m none") => `(tactic| fail)
local macro_rules | `(tactic| walk_at "m none") => `(tactic| fail)
local macro_rules | `(tactic| walk_at "m none") => `(tactic| fail)
local macro_rules | `(tactic| walk_at "m none") => `(tactic| fail)
local macro_rules | `(tactic| walk_at "m none") => `(tactic| fail)
local macro_rules | `(tactic| walk_at "m none") => `(tactic| fail)
local macro_rules | `(tactic| walk_at "m args") => `(tactic| ((case kB => k_asm); (case kF => k_asm); (case kX => k_asm); (case kN => k_asm); (case kT => k_asm); (case kK => first | exact rfl | assumption); (case kd => ktr_room); (case ku => ktr_units)))
local macro_rules | `(tactic| walk_at "m stop") => `(tactic| first | (with_reducible show wpAny _ _ (exec (Stmt.Assign _ (Expr.ListComp _ _ _ _) _) _) _ _ _) | (with_reducible show wpAny _ _ (eval (Expr.ListComp _ _ _ _) _) _ _ _) | (with_reducible show wpAny _ _ (exec (Stmt.For _ _ _ _ _) _) _ _ _) | (with_reducible show LCt.CompSrcT _ _ _ _ _ _ _ _ _ _ _ _ _ _ _) | (with_reducible show wpAny _ _ (pyIter _) (fun it s₂ => TurnsAt _ _ _ _ _ _ _ _ _ it s₂) _ _))
local macro_rules | `(tactic| walk_at "m steps") => `(tactic| repeat' (first | ((fail_if_success (walk_at "m stop")); first | (k_unfold; (try dsimp only)) | (k_end; wrow_close) | walk1 | (dsimp only; walk1) | (leave1; walk_say "STEP leave1"; try dsimp only))))
local macro_rules | `(tactic| walk_at "m stop") => `(tactic| with_reducible show LCp.SrcLP _ _ _ _ _ _ _ _ _ _ _ _ _ _ _)
local macro_rules | `(tactic| walk_at "call ref") => `(tactic| (k_here; (with_reducible show wpAny _ _ (call (Value.ref 207) _ _) _ _ _); k_dflt (refine' useT (alt_str _ _ _ _ _ _ ?hx) ?kB ?kF ?kX ?kN ?kT ?kK ?kd ?ku trivial ?_); (case hx => omega); k_dflt (walk_at "m args"); (intro r9 h9 tk9 F9 N9 st9 p9; obtain ⟨t9, e9⟩ := p9; subst e9; clear st9); (try k_fold)))
local macro_rules | `(tactic| walk_at "call ref") => `(tactic| (k_here; (with_reducible show wpAny _ _ (call (Value.ref 200) _ _) _ _ _); k_dflt (refine' useT (ctrl_str _ _ _ _ _ _ ?hx) ?kB ?kF ?kX ?kN ?kT ?kK ?kd ?ku trivial ?_); (case hx => omega); k_dflt (walk_at "m args"); (intro r9 h9 tk9 F9 N9 st9 p9; obtain ⟨t9, e9⟩ := p9; subst e9; clear st9); (try k_fold)))
local macro_rules | `(tactic| walk_at "call ref") => `(tactic| (k_here; (with_reducible show wpAny _ _ (call (Value.ref 214) _ _) _ _ _); k_dflt (refine' useT (unctrl_str _ _ _ _ _ _ ?hx) ?kB ?kF ?kX ?kN ?kT ?kK ?kd ?ku trivial ?_); (case hx => omega); k_dflt (walk_at "m args"); (intro r9 h9 tk9 F9 N9 st9 p9; obtain ⟨t9, e9⟩ := p9; subst e9; clear st9); (try k_fold)))
local macro_rules | `(tactic| walk_at "call builtin:str.join") => `(tactic| (k_here; (with_reducible show wpAny _ _ (call (Value.builtin "str.join") [Value.str _ _, Value.ref _] _) _ _ _); (rename News _ _ _ _ => NJ'); k_dflt (first | (refine join_one (NJ' _ (List.Mem.head _)).1 (by rfl) ?_; intro t9 k9) | (refine join_two (NJ' _ (List.Mem.head _)).1 (by rfl) ?_; intro t9 k9)); (try k_fold)))
theorem lifted_ok (w : World) (mean : ExcName → Option Value) (mg mb : Str → Option Value) (led : List (Addr × Obj)) (v : Value) (wd : List (Int × Int)) (hw : WordIn led v wd) (tn : Int) (t : Tok) (htn : tn = 0 ∨ tn = 1) : Ct w mean mg mb 226 18 [v, .int tn t] [] led (fun _ => True)
     (fun h h' r => h.StaysIn h' ∧ ∃ t, r = .str (nmOf tn wd) t) := by
  obtain ⟨l, n, es, rfl, rfl, rfl, hle, hes⟩ := word_rep hw
  clear hw
  unfold Ct
  k_fill
  intro dp un gd cn cs a ccd cl outer A₀ base h₀ L m s Q E B F X N T hck hdp hun hpre hret
  refine wpAny_call ?_
  k_dflt (refine' enterC ?k1 ?k2 ?k3 ?k4 ?k5 ?kA ?kF ?kK ?k6 ?k7 ?k8 ?k9 ?kB ?kD ?_ ?c2 ?c3 ?c4; (case kA => exact rfl); (case kF => exact rfl); (case kK => first | assumption | exact rfl); (case k1 => k_asm); (case k2 => k_asm); (case k3 => k_asm); (case k4 => k_asm); (case k5 => k_asm); (case k6 => k_is); (case k7 => k_is); (case k8 => ktr_room); (case k9 => first | exact BindsTo.of_eq rfl | exact binds_K (by k_in) rfl (by k_is) rfl rfl rfl); (case kB => exact rfl); (case kD => decide +kernel); (case c2 => exact rfl); (case c3 => exact rfl); (case c4 => exact rfl); k_whole; intro g L' h' tk' cells' FG F' N' Y' B' X' T' hBut hLt)
  have l1 := hLt
  (try k_lt l1)
  k_cells Y'
  (try simp only [List.cons_append, List.nil_append] at N')
  (try dsimp only)
  (try k_fold)
  walk_at "m steps"
  k_dflt (refine LCp.ListComp_P (F₀ := by k_asm) (by with_unfolding_all rfl) (by decide) (by rfl) (by decide) (by rfl) (by rfl) (by decide) ?_)
  walk_at "m steps"
  (rename News g L' h' _ => NC)
  (rename Obj.data _ = Data.cell _ => hCell)
  refine LCp.SrcLP.ledger (k := n) rfl (by k_asm) NC (by k_mem) (by rw [List.size_toArray, List.length_map]; exact Nat.le_trans hle (by decide)) ?_
  intro g1
  refine rest_ptext es (fun e => e.t) WE.obj (fun e => .int e.f e.tf) (fun e => .int e.b e.tb) (fun e => Str.mk #[sg tn (e.f, e.b)]) (.inr ⟨_, .tail _ (.head _), rfl, _, rfl⟩) ?_ ?_ ?_
  · intro r hr
    exact ⟨.tail _ (.tail _ (List.mem_map.mpr ⟨r, hr, rfl⟩)), rfl, r.k, rfl⟩
  · intro r hr I oI C oC D ys m₂ h2 tk2 E' hoC hmx hmy F2 N2 off ne
    obtain ⟨b1, b2, b3, b4⟩ := hes r hr
    have hf9 := fmod01 b3 b4 htn
    clear hes
    generalize List.map (fun e : WE => (e.t, e.obj)) es = wl at *
    k_steps
    all_goals first
      | exact (⟨_, _, rfl, by k_asm, by k_asm⟩ : Same _ _ _ _ _ _)
      | exact ⟨⟨_, rfl⟩, _, _, rfl, by k_asm, by k_asm⟩
  · intro l2 hl2 D hD tkD FD ND offD
    k_steps
    refine SC.join (l := l2) ⟨_, (ND _ (.head _)).1, rfl, _, rfl⟩ hl2 (word_ok2 hle _ (fun _ => rfl) (fun _ _ => rfl)) ?_
    intro t9 k9
    have e9 : Txt.join (Str.ofString "") (es.map fun e => Str.mk #[sg tn (e.f, e.b)]) = nmOf tn (es.map fun e => (e.f, e.b)) := by
      rw [word_join hle]
      unfold nmOf
      rw [List.map_map]
      rfl
    rw [e9]
    k_steps
    all_goals exact hret _ _ _ (by k_asm) (end_but hBut FD) ⟨end_stays hBut FD N (fun p hp => ND p (.tail _ (.tail _ hp))), _, rfl⟩

end Mine
end
end
section
open PySem PySem.W PyProof.Rows PySem.Spec PySem.Calls
noncomputable section
namespace Mine
local macro_rules | `(tactic| walk_at "m args") => `(tactic| ((case kB => k_asm); (case kF => k_asm); (case kX => k_asm); (case kN => k_asm); (case kT => k_asm); (case kK => first | exact rfl | assumption); (case kd => ktr_room); (case ku => ktr_units)))
local macro_rules | `(tactic| walk_at "m stop") => `(tactic| first | (with_reducible show wpAny _ _ (exec (Stmt.Assign _ (Expr.ListComp _ _ _ _) _) _) _ _ _) | (with_reducible show wpAny _ _ (eval (Expr.ListComp _ _ _ _) _) _ _ _) | (with_reducible show wpAny _ _ (exec (Stmt.For _ _ _ _ _) _) _ _ _) | (with_reducible show LCt.CompSrcT _ _ _ _ _ _ _ _ _ _ _ _ _ _ _) | (with_reducible show wpAny _ _ (pyIter _) (fun it s₂ => TurnsAt _ _ _ _ _ _ _ _ _ it s₂) _ _))
local macro_rules | `(tactic| walk_at "m steps") => `(tactic| repeat' (first | ((fail_if_success (walk_at "m stop")); first | (k_unfold; (try dsimp only)) | (k_end; wrow_close) | walk1 | (dsimp only; walk1) | (leave1; walk_say "STEP leave1"; try dsimp only))))
local macro_rules | `(tactic| walk_at "m stop") => `(tactic| with_reducible show LCp.SrcLP _ _ _ _ _ _ _ _ _ _ _ _ _ _ _)
theorem far_ok (w : World) (mean : ExcName → Option Value) (mg mb : Str → Option Value) (led : List (Addr × Obj)) (v : Value) (wd : List (Int × Int)) (hw : WordIn led v wd) : Ct w mean mg mb 241 18 [v] [] led (fun _ => True)
     (fun h h' r => h.StaysIn h' ∧ ∃ led', DatIn led' r (fkDat (wd.map (·.1))) ∧ New h h' led') := by
  obtain ⟨l, n, es, rfl, rfl, rfl, hle, _⟩ := word_rep hw
  clear hw
  unfold Ct
  k_fill
  intro dp un gd cn cs a ccd cl outer A₀ base h₀ L m s Q E B F X N T hck hdp hun hpre hret
  refine wpAny_call ?_
  k_dflt (refine' enter ?k1 ?k2 ?k3 ?k4 ?k5 ?kA ?kF ?kK ?k6 ?k7 ?k8 ?k9 ?kB ?_ ?c2 ?c3 ?c4 ?c5; (case kA => exact rfl); (case kF => exact rfl); (case kK => first | assumption | exact rfl); (case k1 => k_asm); (case k2 => k_asm); (case k3 => k_asm); (case k4 => k_asm); (case k5 => k_asm); (case k6 => k_is); (case k7 => k_is); (case k8 => ktr_room); (case k9 => first | exact BindsTo.of_eq rfl | exact binds_K (by k_in) rfl (by k_is) rfl rfl rfl); (case c5 => decide); (case kB => exact locs rfl); (case c2 => exact rfl); (case c3 => exact rfl); (case c4 => exact rfl); k_whole; intro g L' h' FG F' N' B' X' T' hBut hLt; (try dsimp only); (try k_fold))
  walk_at "m steps"
  k_dflt (refine LCp.ListComp_P (F₀ := by k_asm) (by with_unfolding_all rfl) (by decide) (by rfl) (by decide) (by rfl) (by rfl) (by decide) ?_)
  walk_at "m steps"
  (rename News g L' h' _ => NC)
  refine LCp.SrcLP.ledger (k := n) rfl (by k_asm) NC (by k_mem) (by rw [List.size_toArray, List.length_map]; exact Nat.le_trans hle (by decide)) ?_
  intro g1
  refine rest_pdat es (fun e => e.t) WE.obj (fun e => .int e.f e.tf) (fun e => .int e.b e.tb) (fun e => Dat.int e.f) (fun gl => .inr ⟨_, List.mem_append.mpr (.inr (.head _)), rfl, _, rfl⟩) ?_ ?_ ?_
  · intro r hr
    exact ⟨.tail _ (List.mem_map.mpr ⟨r, hr, rfl⟩), rfl, r.k, rfl⟩
  · intro r hr gl I oI C oC D ys m₂ h2 tk2 E' hoC hmx hmy F2 N2 off ne
    clear hun hdp hle
    generalize List.map (fun e : WE => (e.t, e.obj)) es = wl at *
    k_steps
    all_goals exact ⟨_, _, [], rfl, by k_asm, by k_asm, trivial, (fun _ h => by cases h), DatIn.int _ _⟩
  · intro gl ys hys hgl D hD tkD FD ND offD
    walk_at "m steps"
    have hk : (es.map fun e => Dat.int e.f) = ((es.map fun e => (e.f, e.b)).map (·.1)).map Dat.int := by
      rw [List.map_map, List.map_map]
      rfl
    rw [hk] at hys
    refine hret _ _ _ (by k_asm) (end_but hBut FD) ⟨end_stays hBut FD N (fun p hp => ND p (.tail _ (List.mem_append.mpr (.inr hp)))), (D, LCg.lst ys) :: gl, DatIn.list (n := ys.length) (.head _) (hys.mono fun p hp => .tail _ hp), fun p hp => ?_⟩
    rcases List.mem_cons.mp hp with rfl | hp
    · exact end_fresh hBut ND (.head _) (fun q hq => off1_all offD q (List.mem_append.mpr (.inr hq)) |>.symm)
    · exact end_fresh hBut ND (.tail _ (List.mem_append.mpr (.inl hp))) (fun q hq => hgl p hp q hq)

end Mine
end
end
section
open PySem PySem.W PyProof.Rows PySem.Spec PySem.Calls
noncomputable section
namespace Mine
local macro_rules | `(tactic| walk_at "m none") => `(tactic| fail)
local macro_rules | `(tactic| walk_at "m none") => `(tactic| fail)
local macro_rules | `(tactic| walk_at "m none") => `(tactic| fail)
local macro_rules | `(tactic| walk_at "m none") => `(tactic| fail)
local macro_rules | `(tactic| walk_at "m none") => `(tactic| fail)
local macro_rules | `(tactic| walk_at "m none") => `(tactic| fail)
local macro_rules | `(tactic| walk_at "m none") => `(tactic| fail)
local macro_rules | `(tactic| walk_at "m none") => `(tactic| fail)
local macro_rules | `(tactic| walk_at "m none") => `(tactic| fail)
local macro_rules | `(tactic| walk_at "m none") => `(tactic| fail)
local macro_rules | `(tactic| walk_at "m none") => `(tactic| fail)
local macro_rules | `(tactic| walk_at "m none") => `(tactic| fail)
local macro_rules | `(tactic| walk_at "m none") => `(tactic| fail)
local macro_rules | `(tactic| walk_at "m none") => `(tactic| fail)
local macro_rules | `(tactic| walk_at "m none") => `(tactic| fail)
local macro_rules | `(tactic| walk_at "m none") => `(tactic| fail)
local macro_rules | `(tactic| walk_at "m none") => `(tactic| fail)
local macro_rules | `(tactic| walk_at "m none") => `(tactic| fail)
local macro_rules | `(tactic| walk_at "m none") => `(tactic| fail)
local macro_rules | `(tactic| walk_at "m none") => `(tactic| fail)
local macro_rules | `(tactic| walk_at "m none") => `(tactic| fail)
local macro_rules | `(tactic| walk_at "m none") => `(tactic| fail)
local macro_rules | `(tactic| walk_at "m none") => `(tactic| fail)
local macro_rules | `(tactic| walk_at "m none") => `(tactic| fail)
local macro_rules | `(tactic| walk_at "m none") => `(tactic| fail)
local macro_rules | `(tactic| walk_at "m none") => `(tactic| fail)
local macro_rules | `(tactic| walk_at "m none") => `(tactic| fail)
local macro_rules | `(tactic| walk_at "m none") => `(tactic| fail)
local macro_rules | `(tactic| walk_at "m none") => `(tactic| fail)
local macro_rules | `(tactic| walk_at "m none") => `(tactic| fail)
local macro_rules | `(tactic| walk_at "m args") => `(tactic| ((case kB => k_asm); (case kF => k_asm); (case kX => k_asm); (case kN => k_asm); (case kT => k_asm); (case kK => first | exact rfl | assumption); (case kd => ktr_room); (case ku => ktr_units)))
local macro_rules | `(tactic| walk_at "m stop") => `(tactic| first | (with_reducible show wpAny _ _ (exec (Stmt.Assign _ (Expr.ListComp _ _ _ _) _) _) _ _ _) | (with_reducible show wpAny _ _ (eval (Expr.ListComp _ _ _ _) _) _ _ _) | (with_reducible show wpAny _ _ (exec (Stmt.For _ _ _ _ _) _) _ _ _) | (with_reducible show LCt.CompSrcT _ _ _ _ _ _ _ _ _ _ _ _ _ _ _) | (with_reducible show wpAny _ _ (pyIter _) (fun it s₂ => TurnsAt _ _ _ _ _ _ _ _ _ it s₂) _ _))
local macro_rules | `(tactic| walk_at "m steps") => `(tactic| repeat' (first | ((fail_if_success (walk_at "m stop")); first | (k_unfold; (try dsimp only)) | (k_end; wrow_close) | walk1 | (dsimp only; walk1) | (leave1; walk_say "STEP leave1"; try dsimp only))))
local macro_rules | `(tactic| walk_at "m stop") => `(tactic| with_reducible show LCp.SrcLP _ _ _ _ _ _ _ _ _ _ _ _ _ _ _)
theorem near_ok (w : World) (mean : ExcName → Option Value) (mg mb : Str → Option Value) (led : List (Addr × Obj)) (v : Value) (wd : List (Int × Int)) (hw : WordIn led v wd) (tn : Int) (t : Tok) (htn : tn = 0 ∨ tn = 1) : Ct w mean mg mb 236 18 [v, .int tn t] [] led (fun _ => True)
     (fun h h' r => h.StaysIn h' ∧ ∃ led', DatIn led' r (nkDat (nkOf tn wd)) ∧ New h h' led') := by
  obtain ⟨l, n, es, rfl, rfl, rfl, hle, _⟩ := word_rep hw
  clear hw htn
  unfold Ct
  k_fill
  intro dp un gd cn cs a ccd cl outer A₀ base h₀ L m s Q E B F X N T hck hdp hun hpre hret
  refine wpAny_call ?_
  k_dflt (refine' enterC ?k1 ?k2 ?k3 ?k4 ?k5 ?kA ?kF ?kK ?k6 ?k7 ?k8 ?k9 ?kB ?kD ?_ ?c2 ?c3 ?c4; (case kA => exact rfl); (case kF => exact rfl); (case kK => first | assumption | exact rfl); (case k1 => k_asm); (case k2 => k_asm); (case k3 => k_asm); (case k4 => k_asm); (case k5 => k_asm); (case k6 => k_is); (case k7 => k_is); (case k8 => ktr_room); (case k9 => first | exact BindsTo.of_eq rfl | exact binds_K (by k_in) rfl (by k_is) rfl rfl rfl); (case kB => exact rfl); (case kD => decide +kernel); (case c2 => exact rfl); (case c3 => exact rfl); (case c4 => exact rfl); k_whole; intro g L' h' tk' cells' FG F' N' Y' B' X' T' hBut hLt)
  have l1 := hLt
  (try k_lt l1)
  k_cells Y'
  (try simp only [List.cons_append, List.nil_append] at N')
  (try dsimp only)
  (try k_fold)
  walk_at "m steps"
  k_dflt (refine LCp.ListComp_P (F₀ := by k_asm) (by with_unfolding_all rfl) (by decide) (by rfl) (by decide) (by rfl) (by rfl) (by decide) ?_)
  walk_at "m steps"
  (rename News g L' h' _ => NC)
  (rename Obj.data _ = Data.cell _ => hCell)
  refine LCp.SrcLP.ledger (k := n) rfl (by k_asm) NC (by k_mem) (by rw [List.size_toArray, List.length_map]; exact Nat.le_trans hle (by decide)) ?_
  intro g1
  refine rest_pdat es (fun e => e.t) WE.obj (fun e => .int e.f e.tf) (fun e => .int e.b e.tb) (fun e => Dat.tuple [.int e.f, .int (nkV tn e.f e.b)]) (fun gl => .inr ⟨_, List.mem_append.mpr (.inr (.tail _ (.head _))), rfl, _, rfl⟩) ?_ ?_ ?_
  · intro r hr
    exact ⟨.tail _ (.tail _ (List.mem_map.mpr ⟨r, hr, rfl⟩)), rfl, r.k, rfl⟩
  · intro r hr gl I oI C oC D ys m₂ h2 tk2 E' hoC hmx hmy F2 N2 off ne
    clear hun hdp hle
    generalize hnews : List.map (fun e : WE => (e.t, e.obj)) es = wl at *
    have N3 := nMove N2
    clear N2
    k_steps
    all_goals (
      (rename News g L' _ (_ :: _ :: _ :: (I, oI) :: _) => NZ)
      (rename (_ ∧ _ ∧ _ ∧ _ ∧ _ ∧ AllLt _ _) => lZ)
      (rename Fr g L' _ _ => FZ)
      first
        | exact grew_leaf FZ NZ lZ (nkVt (by assumption))
        | exact grew_leaf FZ NZ lZ (nkVf (by assumption)))
  · intro gl ys hys hgl D hD tkD FD ND offD
    walk_at "m steps"
    have hk : (es.map fun e => Dat.tuple [.int e.f, .int (nkV tn e.f e.b)]) = (nkOf tn (es.map fun e => (e.f, e.b))).map fun q => Dat.tuple [.int q.1, .int q.2] := by
      unfold nkOf
      rw [List.map_map, List.map_map]
      rfl
    rw [hk] at hys
    refine hret _ _ _ (by k_asm) (end_but hBut FD) ⟨end_stays hBut FD N (fun p hp => ND p (.tail _ (List.mem_append.mpr (.inr (.tail _ hp))))), (D, LCg.lst ys) :: gl, DatIn.list (n := ys.length) (.head _) (hys.mono fun p hp => .tail _ hp), fun p hp => ?_⟩
    rcases List.mem_cons.mp hp with rfl | hp
    · exact end_fresh hBut ND (.head _) (fun q hq => off1_all offD q (List.mem_append.mpr (.inr (.tail _ hq))) |>.symm)
    · exact end_fresh hBut ND (.tail _ (List.mem_append.mpr (.inl hp))) (fun q hq => hgl p hp q (.tail _ hq))

end Mine
end
end
section
open PySem PySem.W PyProof.Rows PySem.Spec PySem.Calls
noncomputable section
namespace Mine
local macro_rules | `(tactic| walk_at "m args") => `(tactic| ((case kB => k_asm); (case kF => k_asm); (case kX => k_asm); (case kN => k_asm); (case kT => k_asm); (case kK => first | exact rfl | assumption); (case kd => ktr_room); (case ku => ktr_units)))
local macro_rules | `(tactic| walk_at "m stop") => `(tactic| first | (with_reducible show wpAny _ _ (eval (Expr.ListComp _ _ _ _) _) _ _ _) | (with_reducible show wpAny _ _ (exec (Stmt.For _ _ _ _ _) _) _ _ _) | (with_reducible show LCt.CompSrcT _ _ _ _ _ _ _ _ _ _ _ _ _ _ _) | (with_reducible show wpAny _ _ (pyIter _) (fun it s₂ => TurnsAt _ _ _ _ _ _ _ _ _ it s₂) _ _))
local macro_rules | `(tactic| walk_at "m steps") => `(tactic| repeat' (first | ((fail_if_success (walk_at "m stop")); first | (k_unfold; (try dsimp only)) | (k_end; wrow_close) | walk1 | (dsimp only; walk1) | (leave1; walk_say "STEP leave1"; try dsimp only))))
local macro_rules | `(tactic| walk_at "call ref") => `(tactic| (k_here; (with_reducible show wpAny _ _ (call (Value.ref 207) _ _) _ _ _); k_dflt (refine' useT (alt_str _ _ _ _ _ _ ?hx) ?kB ?kF ?kX ?kN ?kT ?kK ?kd ?ku trivial ?_); (case hx => omega); k_dflt (walk_at "m args"); (intro r9 h9 tk9 F9 N9 st9 p9; obtain ⟨t9, e9⟩ := p9; subst e9; clear st9); (try k_fold)))
local macro_rules | `(tactic| walk_at "call ref") => `(tactic| (k_here; (with_reducible show wpAny _ _ (call (Value.ref 200) _ _) _ _ _); k_dflt (refine' useT (ctrl_str _ _ _ _ _ _ ?hx) ?kB ?kF ?kX ?kN ?kT ?kK ?kd ?ku trivial ?_); (case hx => omega); k_dflt (walk_at "m args"); (intro r9 h9 tk9 F9 N9 st9 p9; obtain ⟨t9, e9⟩ := p9; subst e9; clear st9); (try k_fold)))
local macro_rules | `(tactic| walk_at "call ref") => `(tactic| (k_here; (with_reducible show wpAny _ _ (call (Value.ref 214) _ _) _ _ _); k_dflt (refine' useT (unctrl_str _ _ _ _ _ _ ?hx) ?kB ?kF ?kX ?kN ?kT ?kK ?kd ?ku trivial ?_); (case hx => omega); k_dflt (walk_at "m args"); (intro r9 h9 tk9 F9 N9 st9 p9; obtain ⟨t9, e9⟩ := p9; subst e9; clear st9); (try k_fold)))
local macro_rules | `(tactic| walk_at "call builtin:str.join") => `(tactic| (k_here; (with_reducible show wpAny _ _ (call (Value.builtin "str.join") [Value.str _ _, Value.ref _] _) _ _ _); (rename News _ _ _ _ => NJ'); k_dflt (first | (refine join_one (NJ' _ (List.Mem.head _)).1 (by rfl) ?_; intro t9 k9) | (refine join_two (NJ' _ (List.Mem.head _)).1 (by rfl) ?_; intro t9 k9)); (try k_fold)))
def ctl (c : Nat) : Str := Str.mk #[94, c % 32 + 64]
theorem ctl_ok : ∀ zs : List Nat, zs.length ≤ 2 → PySem.JoinOk (Str.ofString "") (zs.map ctl) = true
  | [], _ => rfl
  | [_], _ => rfl
  | [_, _], _ => rfl
  | _ :: _ :: _ :: _, h => absurd h (by simp)
theorem shown_ok (w : World) (mean : ExcName → Option Value) (mg mb : Str → Option Value) (zs : List Nat) (t : Tok) (hlen : zs.length ≤ 2) (hcs : ∀ c ∈ zs, c < 256) : Ct w mean mg mb 231 18 [.str (Str.mk zs.toArray) t] [] [] (fun _ => True)
     (fun h h' r => ∃ t, r = .str (Txt.join (Str.ofString "") (zs.map ctl)) t) := by
  unfold Ct
  k_fill
  intro dp un gd cn cs a ccd cl outer A₀ base h₀ L m s Q E B F X N T hck hdp hun hpre hret
  refine wpAny_call ?_
  k_dflt (refine' enter ?k1 ?k2 ?k3 ?k4 ?k5 ?kA ?kF ?kK ?k6 ?k7 ?k8 ?k9 ?kB ?_ ?c2 ?c3 ?c4 ?c5; (case kA => exact rfl); (case kF => exact rfl); (case kK => first | assumption | exact rfl); (case k1 => k_asm); (case k2 => k_asm); (case k3 => k_asm); (case k4 => k_asm); (case k5 => k_asm); (case k6 => k_is); (case k7 => k_is); (case k8 => ktr_room); (case k9 => first | exact BindsTo.of_eq rfl | exact binds_K (by k_in) rfl (by k_is) rfl rfl rfl); (case c5 => decide); (case kB => exact locs rfl); (case c2 => exact rfl); (case c3 => exact rfl); (case c4 => exact rfl); k_whole; intro g L' h' FG F' N' B' X' T' hBut hLt; (try dsimp only); (try k_fold))
  walk_at "m steps"
  k_dflt (refine ListComp_S (by k_asm) (by with_unfolding_all rfl) (by decide) (by rfl) (by decide) (by rfl) ?_)
  walk_at "m steps"
  refine ⟨_, _, _, rfl, rfl, by k_asm, by k_asm, by (show zs.toArray.size ≤ sizeLine); rw [List.size_toArray]; exact Nat.le_trans hlen (by decide), fun s₂ hs => ?_⟩
  obtain ⟨hh, rfl⟩ := hs
  refine rest_text zs ctl trivial ?_ ?_
  · intro c hc u I oI C oC D ys m₂ h2 tk2 E' hoC hmx F2 N2 off ne
    have hc2 := hcs c hc
    k_steps
    all_goals first
      | exact (⟨_, _, rfl, by k_asm, by k_asm⟩ : Same _ _ _ _ _ _)
      | exact ⟨⟨_, rfl⟩, _, _, rfl, by k_asm, by k_asm⟩
  · intro l hl2 D hD tkD FD ND offD
    k_steps
    refine SC.join (l := l) ⟨_, (ND _ (.head _)).1, rfl, _, rfl⟩ hl2 (ctl_ok zs hlen) ?_
    intro t9 k9
    k_steps
    all_goals exact hret _ _ _ (by k_asm) (end_but hBut FD) ⟨_, rfl⟩

end Mine
end
end
section
open PySem PySem.W PyProof.Rows PySem.Spec PySem.Calls
noncomputable section
namespace Mine
local macro_rules | `(tactic| walk_at "m args") => `(tactic| ((case kB => k_asm); (case kF => k_asm); (case kX => k_asm); (case kN => k_asm); (case kT => k_asm); (case kK => first | exact rfl | assumption); (case kd => ktr_room); (case ku => ktr_units)))
local macro_rules | `(tactic| walk_at "m stop") => `(tactic| first | (with_reducible show wpAny _ _ (exec (Stmt.Assign _ (Expr.ListComp _ _ _ _) _) _) _ _ _) | (with_reducible show wpAny _ _ (eval (Expr.ListComp _ _ _ _) _) _ _ _) | (with_reducible show wpAny _ _ (exec (Stmt.For _ _ _ _ _) _) _ _ _) | (with_reducible show LCt.CompSrcT _ _ _ _ _ _ _ _ _ _ _ _ _ _ _) | (with_reducible show wpAny _ _ (pyIter _) (fun it s₂ => TurnsAt _ _ _ _ _ _ _ _ _ it s₂) _ _))
local macro_rules | `(tactic| walk_at "m steps") => `(tactic| repeat' (first | ((fail_if_success (walk_at "m stop")); first | (k_unfold; (try dsimp only)) | (k_end; wrow_close) | walk1 | (dsimp only; walk1) | (leave1; walk_say "STEP leave1"; try dsimp only))))
theorem nSub {h₀ h : Heap} {L : Addr} {news all : List (Addr × Obj)} (N : News h₀ L h all) (hs : ∀ p ∈ news, p ∈ all) : News h₀ L h news := fun p hp => N p (hs p hp)
theorem nApp {h₀ h : Heap} {L : Addr} {a b : List (Addr × Obj)} (N : News h₀ L h a) (M : News h₀ L h b) : News h₀ L h (a ++ b) := fun p hp => (List.mem_append.mp hp).elim (N p) (M p)
theorem nBut {h₀ h h' : Heap} {L : Addr} {muts news all : List (Addr × Obj)} (N : News h₀ L h all) (b : But muts h h') (hs : ∀ p ∈ news, p ∈ all ∧ p.1 ∉ muts.map (·.1)) : News h₀ L h' news := fun p hp => ⟨b _ _ (N p (hs p hp).1).1 (hs p hp).2, (N p (hs p hp).1).2⟩
theorem nBut0 {h₀ h h' : Heap} {L : Addr} {news : List (Addr × Obj)} (N : News h₀ L h news) (b : But [] h h') : News h₀ L h' news := nBut N b fun p hp => ⟨hp, fun hm => nomatch hm⟩
theorem nOne {h₀ h h' : Heap} {L a : Addr} {m : Str → Option Value} {o : Obj} (F : Fr h₀ L h m) (e : h.get? a = none) (e' : h'.get? a = some o) : h'.get? a = some o ∧ a ≠ L ∧ h₀.get? a = none := by
  obtain ⟨oL, _, _, hL, _⟩ := F.ns
  refine ⟨e', fun q => ?_, ?_⟩
  · rw [q, hL] at e; cases e
  · cases q : h₀.get? a with
    | none => rfl
    | some o' => rw [F.keep _ _ q] at e; cases e
theorem nNew {h₀ h h' : Heap} {L : Addr} {m : Str → Option Value} {led : List (Addr × Obj)} (F : Fr h₀ L h m) (n : New h h' led) : News h₀ L h' led := fun p hp => nOne F (n p hp).2 (n p hp).1
theorem fresh_off {h₀ h : Heap} {L a : Addr} {news : List (Addr × Obj)} (N : News h₀ L h news) (e : h.get? a = none) : ∀ p ∈ news, p.1 ≠ a := fun p hp q => by
  rw [← q, (N p hp).1] at e; cases e
/-- what a table is, but for its rows -/
structure TB where
  x : Addr
  dx : Addr
  l : Addr
  hsh : Int
  tz : Tok
  n : Nat
abbrev TB.led (t : TB) (k : Nat) (rs : List HR) : List (Addr × Obj) := tab t.x t.dx t.l t.hsh t.tz t.n k (rs.map HR.ref)
abbrev TB.ad (t : TB) : List Addr := [t.x, t.dx, t.l]
def rowsL (rs : List HR) : List (Addr × Obj) := rs.map fun r => (r.t, r.obj)
theorem mem_rowsL {rs : List HR} {r : HR} (h : r ∈ rs) : (r.t, r.obj) ∈ rowsL rs := List.mem_map.mpr ⟨r, h, rfl⟩
section
variable {w : World} {mean : ExcName → Option Value} {mg mb : Str → Option Value} {f : Addr} {nn : Nat} {vs : List Value} {kw : List (Str × Value)} {pre : Heap → Prop} {post : Heap → Heap → Value → Prop} {muts news : List (Addr × Obj)}
  {L fa : Addr} {cd : Value} {base h₀ : Heap} {m : Str → Option Value} {s : Shared} {Q E : Value → Shared → Prop} {led : List (Addr × Obj)} {v : Value} {wd : List (Int × Int)} {a b tn : Int} {t u : Tok}
theorem lawUse (C : Ct w mean mg mb f nn vs kw muts pre post) (B : Below callerA base [] h₀) (F : Fr h₀ L s.heap m) (X : (hd.heap_39 w.params).In h₀) (N : News h₀ L s.heap news) (T : Top hd.view_39 loo mean mg mb h₀) (hn : nn ≤ 40) (hs : ∀ p ∈ muts, p ∈ news) (hpre : pre s.heap)
    (ret : ∀ r h' tk', Fr h₀ L h' m → But muts s.heap h' → post s.heap h' r → Q r { s with heap := h', toks := tk' }) :
    wpAny (model PySem.Challenge.rw_pg0217_01.row.prog w) (lawA L fa cd) (call (.ref f) vs kw) Q E s := by
  have e : lawA L fa cd = ktrTop (lawA L fa cd).depth (lawA L fa cd).units (lawA L fa cd).guards (Str.ofString "law") lawD.1.2.2 L fa cd (lawE L fa cd).cells [] := rfl
  rw [e]
  refine use C B F X (nSub N hs) T rfl (Nat.lt_of_le_of_lt (Nat.add_le_add_left hn _) ?_) (Nat.lt_of_le_of_lt (Nat.add_le_add_right (Nat.add_le_add_left (Nat.mul_le_mul_left 8 hn) _) _) ?_) hpre ret
  · exact (by decide +kernel : (lawA 0 0 .none).depth + 40 < recursionLimit)
  · exact (by decide +kernel : (lawA 0 0 .none).units + 8 * 40 + 64 < cLine)
theorem law_word (B : Below callerA base [] h₀) (F : Fr h₀ L s.heap m) (X : (hd.heap_39 w.params).In h₀) (N : News h₀ L s.heap news) (T : Top hd.view_39 loo mean mg mb h₀) (ha : 0 ≤ a) (ha2 : a < 1000000) (hb : 0 ≤ b) (hb2 : b < 100000000)
    (ret : ∀ led wd v h' tk', WordIn led v wd → New s.heap h' led → Fr h₀ L h' m → News h₀ L h' (led ++ news) → Q v { s with heap := h', toks := tk' }) :
    wpAny (model PySem.Challenge.rw_pg0217_01.row.prog w) (lawA L fa cd) (call (.ref 221) [.int a t, .int b u] []) Q E s :=
  lawUse (word_ok w mean mg mb a b t u ha ha2 hb hb2) B F X N T (by decide) (fun _ h => nomatch h) trivial fun r h' tk' F' bt p => by
    obtain ⟨led, wd, hw, nw⟩ := p
    exact ret led wd r h' tk' hw nw F' (nApp (nNew F nw) (nBut0 N bt))
theorem law_lifted (B : Below callerA base [] h₀) (F : Fr h₀ L s.heap m) (X : (hd.heap_39 w.params).In h₀) (N : News h₀ L s.heap news) (T : Top hd.view_39 loo mean mg mb h₀) (hw : WordIn led v wd) (hs : ∀ p ∈ led, p ∈ news) (htn : tn = 0 ∨ tn = 1)
    (ret : ∀ t' h' tk', Fr h₀ L h' m → News h₀ L h' news → Q (.str (nmOf tn wd) t') { s with heap := h', toks := tk' }) :
    wpAny (model PySem.Challenge.rw_pg0217_01.row.prog w) (lawA L fa cd) (call (.ref 226) [v, .int tn t] []) Q E s :=
  lawUse (lifted_ok w mean mg mb led v wd hw tn t htn) B F X N T (by decide) hs trivial fun r h' tk' F' bt p => by
    obtain ⟨st, t', rfl⟩ := p
    exact ret t' h' tk' F' fun p hp => ⟨st _ _ (N p hp).1, (N p hp).2⟩
theorem law_shown {zs : List Nat} (B : Below callerA base [] h₀) (F : Fr h₀ L s.heap m) (X : (hd.heap_39 w.params).In h₀) (N : News h₀ L s.heap news) (T : Top hd.view_39 loo mean mg mb h₀) (hlen : zs.length ≤ 2) (hcs : ∀ c ∈ zs, c < 256)
    (ret : ∀ t' h' tk', Fr h₀ L h' m → News h₀ L h' news → Q (.str (Txt.join (Str.ofString "") (zs.map ctl)) t') { s with heap := h', toks := tk' }) :
    wpAny (model PySem.Challenge.rw_pg0217_01.row.prog w) (lawA L fa cd) (call (.ref 231) [.str (Str.mk zs.toArray) t] []) Q E s :=
  lawUse (shown_ok w mean mg mb zs t hlen hcs) B F X N T (by decide) (fun _ h => nomatch h) trivial fun r h' tk' F' bt p => by
    obtain ⟨t', rfl⟩ := p
    exact ret t' h' tk' F' (nBut0 N bt)
theorem law_near (B : Below callerA base [] h₀) (F : Fr h₀ L s.heap m) (X : (hd.heap_39 w.params).In h₀) (N : News h₀ L s.heap news) (T : Top hd.view_39 loo mean mg mb h₀) (hw : WordIn led v wd) (hs : ∀ p ∈ led, p ∈ news) (htn : tn = 0 ∨ tn = 1)
    (ret : ∀ led' a' h' tk', DatIn led' (.ref a') (nkDat (nkOf tn wd)) → New s.heap h' led' → Fr h₀ L h' m → News h₀ L h' (led' ++ news) → Q (.ref a') { s with heap := h', toks := tk' }) :
    wpAny (model PySem.Challenge.rw_pg0217_01.row.prog w) (lawA L fa cd) (call (.ref 236) [v, .int tn t] []) Q E s :=
  lawUse (near_ok w mean mg mb led v wd hw tn t htn) B F X N T (by decide) hs trivial fun r h' tk' F' bt p => by
    obtain ⟨st, led', D, nw⟩ := p
    have N' : News h₀ L h' (led' ++ news) := nApp (nNew F nw) fun p hp => ⟨st _ _ (N p hp).1, (N p hp).2⟩
    cases D with
    | list ma Da => exact ret led' _ h' tk' (.list ma Da) nw F' N'
theorem law_far (B : Below callerA base [] h₀) (F : Fr h₀ L s.heap m) (X : (hd.heap_39 w.params).In h₀) (N : News h₀ L s.heap news) (T : Top hd.view_39 loo mean mg mb h₀) (hw : WordIn led v wd) (hs : ∀ p ∈ led, p ∈ news)
    (ret : ∀ led' a' h' tk', DatIn led' (.ref a') (fkDat (wd.map (·.1))) → New s.heap h' led' → Fr h₀ L h' m → News h₀ L h' (led' ++ news) → Q (.ref a') { s with heap := h', toks := tk' }) :
    wpAny (model PySem.Challenge.rw_pg0217_01.row.prog w) (lawA L fa cd) (call (.ref 241) [v] []) Q E s :=
  lawUse (far_ok w mean mg mb led v wd hw) B F X N T (by decide) hs trivial fun r h' tk' F' bt p => by
    obtain ⟨st, led', D, nw⟩ := p
    have N' : News h₀ L h' (led' ++ news) := nApp (nNew F nw) fun p hp => ⟨st _ _ (N p hp).1, (N p hp).2⟩
    cases D with
    | list ma Da => exact ret led' _ h' tk' (.list ma Da) nw F' N'
theorem law_deed {tb : TB} {k : Nat} {rs : List HR} {d : Int} {nm vl : Str} {t0 t2 : Tok} {O : List (Addr × Obj)} (B : Below callerA base [] h₀) (F : Fr h₀ L s.heap m) (X : (hd.heap_39 w.params).In h₀) (N : News h₀ L s.heap news) (T : Top hd.view_39 loo mean mg mb h₀)
    (hd0 : 0 ≤ d) (hd2 : d < 4) (hx : NameOk (Txt.lower nm)) (hx2 : NameOk nm) (hv : ValueOk vl) (hl : nm.length ≤ 100) (hl2 : vl.length ≤ 100) (hz : rs.length ≤ 100) (hk : ∀ r ∈ rs, r.k.length ≤ 100)
    (hs : ∀ p ∈ tb.led k rs, p ∈ news) (hr : ∀ r ∈ rs, (r.t, r.obj) ∈ news) (hO : ∀ p ∈ O, p ∈ news ∧ p.1 ∉ tb.ad) (hrO : ∀ r ∈ rs, (r.t, r.obj) ∈ O)
    (ret : ∀ k' rs' a v h' tk', Fr h₀ L h' m → News h₀ L h' (tb.led k' rs' ++ (rowsL rs' ++ O)) → (∀ r ∈ rs', r ∈ rs ∨ s.heap.get? r.t = none) → DeedR d nm vl rs rs' a → AnsIs a v → Q v { s with heap := h', toks := tk' }) :
    wpAny (model PySem.Challenge.rw_pg0217_01.row.prog w) (lawA L fa cd) (call (.ref 248) [.ref tb.x, .int d t0, .str nm t, .str vl t2] []) Q E s :=
  lawUse (deed_ok w mean mg mb d hd0 hd2 tb.x tb.dx tb.l tb.hsh tb.tz tb.n k rs nm vl t t0 t2 hx hx2 hv hl hl2 hz hk) B F X N T (by decide) hs (fun r h => (N _ (hr r h)).1) fun r h' tk' F' bt p => by
    obtain ⟨k', rs', a, e1, e2, e3, e4⟩ := p
    have NO : News h₀ L h' O := nBut N bt hO
    have NT : News h₀ L h' (tb.led k' rs') := fun q hq => ⟨e1 q hq, by
      have hm : q.1 ∈ (tb.led k rs).map (·.1) := by
        have : q.1 ∈ (tb.led k' rs').map (·.1) := List.mem_map_of_mem hq
        exact this
      obtain ⟨q0, hq0, e0⟩ := List.mem_map.mp hm
      rw [← e0]
      exact (N q0 (hs q0 hq0)).2⟩
    refine ret k' rs' a r h' tk' F' (nApp NT (nApp (fun q hq => ?_) NO)) (fun r hr => (e2 r hr).imp id (·.1)) e3 e4
    obtain ⟨r1, hr1, rfl⟩ := List.mem_map.mp hq
    rcases e2 r1 hr1 with h | ⟨h1, h2⟩
    · exact NO _ (hrO r1 h)
    · exact nOne F h1 h2
theorem law_meant {lr : Addr} {k : Nat} {rs : List NR} {R : NR} {d : Int} (B : Below callerA base [] h₀) (F : Fr h₀ L s.heap m) (X : (hd.heap_39 w.params).In h₀) (N : News h₀ L s.heap news) (T : Top hd.view_39 loo mean mg mb h₀)
    (hd0 : 0 ≤ d) (hd2 : d < 4) (hz : rs.length ≤ 100) (hR : R.In news) (hrs : ∀ r ∈ rs, r.In news) (hl : (lr, W.listOf (rs.map NR.ref).toArray k) ∈ news)
    (ret : ∀ (P n lr' k' : Nat) (rs' : List NR) (a : Option Str) (fv : Value) h' tk', Fr h₀ L h' m → News h₀ L h' ((P, ({ cls := .type "tuple", data := .seq #[.ref lr', fv] n } : Obj)) :: (lr', W.listOf (rs'.map NR.ref).toArray k') :: news) → s.heap.get? P = none →
      ((lr' = lr ∧ k' = k ∧ rs' = rs) ∨ s.heap.get? lr' = none) → (∀ r ∈ rs', r ∈ rs ∨ r = R) → MeantR d rs R rs' a → AnsIs a fv → Q (.ref P) { s with heap := h', toks := tk' }) :
    wpAny (model PySem.Challenge.rw_pg0217_01.row.prog w) (lawA L fa cd) (call (.ref 253) [.ref lr, .int d t, .ref R.t] []) Q E s :=
  lawUse (meant_ok w mean mg mb d hd0 hd2 news lr k rs R t hz hR hrs hl) B F X N T (by decide) (fun _ h => nomatch h) (fun p hp => (N p hp).1) fun r h' tk' F' bt p => by
    obtain ⟨P, n, lr', k', rs', a, fv, rfl, e1, e2, e3, e4, e5, e6⟩ := p
    have N' := nBut0 N bt
    refine ret P n lr' k' rs' a fv h' tk' F' (fun q hq => ?_) e1 (e3.imp id (·.1)) e4 e5 e6
    rcases List.mem_cons.mp hq with rfl | hq
    · exact nOne F e1 e2
    · rcases List.mem_cons.mp hq with rfl | hq
      · rcases e3 with ⟨rfl, rfl, rfl⟩ | ⟨h1, h2⟩
        · exact N' _ hl
        · exact nOne F h1 h2
      · exact N' q hq
theorem law_items {tb : TB} {k : Nat} {rs : List HR} (B : Below callerA base [] h₀) (F : Fr h₀ L s.heap m) (X : (hd.heap_39 w.params).In h₀) (N : News h₀ L s.heap news) (T : Top hd.view_39 loo mean mg mb h₀) (hz : rs.length ≤ 100) (hs : ∀ p ∈ tb.led k rs, p ∈ news)
    (ret : ∀ (D : Addr) (o : Obj) h' tk', Fr h₀ L h' m → News h₀ L h' ((D, o) :: news) → s.heap.get? D = none → o.cls = .type "list" → o.data = .seq (rs.map HR.ref).toArray 0 → Q (.ref D) { s with heap := h', toks := tk' }) :
    wpAny (model PySem.Challenge.rw_pg0217_01.row.prog w) (lawA L fa cd) (call (.ref 139) [.ref tb.x] []) Q E s :=
  lawUse (items_ok w mean mg mb tb.x tb.dx tb.l tb.hsh tb.tz tb.n k (rs.map HR.ref) (by rw [List.length_map]; exact hz)) B F X N T (by decide) hs trivial fun r h' tk' F' bt p => by
    obtain ⟨st, D, o, rfl, e1, e2, e3, e4⟩ := p
    refine ret D o h' tk' F' (fun q hq => ?_) e1 e3 e4
    rcases List.mem_cons.mp hq with rfl | hq
    · exact nOne F e1 e2
    · exact ⟨st _ _ (N q hq).1, (N q hq).2⟩
theorem law_get_all {tb : TB} {k : Nat} {rs : List HR} {nm : Str} (B : Below callerA base [] h₀) (F : Fr h₀ L s.heap m) (X : (hd.heap_39 w.params).In h₀) (N : News h₀ L s.heap news) (T : Top hd.view_39 loo mean mg mb h₀) (hx : NameOk (Txt.lower nm)) (hl : nm.length ≤ 100) (hz : rs.length ≤ 100) (hk : ∀ r ∈ rs, r.k.length ≤ 100)
    (hs : ∀ p ∈ tb.led k rs, p ∈ news) (hr : ∀ r ∈ rs, (r.t, r.obj) ∈ news)
    (ret : ∀ (D : Addr) h' tk', Fr h₀ L h' m → News h₀ L h' ((D, LCg.lst ((rs.filter fun r => Txt.lower r.k == Txt.lower nm).map HR.value)) :: news) → s.heap.get? D = none → Q (.ref D) { s with heap := h', toks := tk' }) :
    wpAny (model PySem.Challenge.rw_pg0217_01.row.prog w) (lawA L fa cd) (call (.ref 114) [.ref tb.x, .str nm t] []) Q E s :=
  lawUse (get_all_ok w mean mg mb tb.x tb.dx tb.l tb.hsh tb.tz tb.n k rs nm t hx hl hz hk) B F X N T (by decide) hs (fun r h => (N _ (hr r h)).1) fun r h' tk' F' bt p => by
    obtain ⟨st, D, rfl, e1, e2⟩ := p
    refine ret D h' tk' F' (fun q hq => ?_) e1
    rcases List.mem_cons.mp hq with rfl | hq
    · exact nOne F e1 e2
    · exact ⟨st _ _ (N q hq).1, (N q hq).2⟩
end

end Mine
end
end
section
open PySem PySem.W PyProof.Rows PySem.Spec PySem.Calls
noncomputable section
namespace Mine
local macro_rules | `(tactic| walk_at "m args") => `(tactic| ((case kB => k_asm); (case kF => k_asm); (case kX => k_asm); (case kN => k_asm); (case kT => k_asm); (case kK => first | exact rfl | assumption); (case kd => ktr_room); (case ku => ktr_units)))
local macro_rules | `(tactic| walk_at "m stop") => `(tactic| first | (with_reducible show wpAny _ _ (exec (Stmt.Assign _ (Expr.ListComp _ _ _ _) _) _) _ _ _) | (with_reducible show wpAny _ _ (eval (Expr.ListComp _ _ _ _) _) _ _ _) | (with_reducible show wpAny _ _ (exec (Stmt.For _ _ _ _ _) _) _ _ _) | (with_reducible show LCt.CompSrcT _ _ _ _ _ _ _ _ _ _ _ _ _ _ _) | (with_reducible show wpAny _ _ (pyIter _) (fun it s₂ => TurnsAt _ _ _ _ _ _ _ _ _ it s₂) _ _))
local macro_rules | `(tactic| walk_at "m steps") => `(tactic| repeat' (first | ((fail_if_success (walk_at "m stop")); first | (k_unfold; (try dsimp only)) | (k_end; wrow_close) | walk1 | (dsimp only; walk1) | (leave1; walk_say "STEP leave1"; try dsimp only))))
theorem ce_same {h₀ : Heap} {L I C D : Addr} {m : Str → Option Value} {s₁ : Shared} {oI oC oD : Obj} {S : List (Addr × Obj) → Prop} {rest : Value → List (Addr × Obj) → Prop} {y : Value} {h' : Heap} {tk : Nat} {news' : List (Addr × Obj)}
    (F : Fr h₀ L h' m) (N : News h₀ L h' ((I, oI) :: (C, oC) :: (D, oD) :: news')) (off : LCg.Off3 I C D news') (hS : S news') (r : rest y news') :
    LCg.CompEnd h₀ L m s₁ I oI C oC D oD S rest y { s₁ with heap := h', toks := tk } := ⟨h', tk, news', rfl, F, N, off, hS, r⟩
section
open Classical
theorem ne_same {prog : Program} {w : World} {A : Around} {E : Value → Shared → Prop} {Q : Value → Shared → Prop} {s : Shared} {h₀ : Heap} {L a b : Addr} {news n₁ n₂ : List (Addr × Obj)} {oa ob : Obj} {xs ys : List Value} {ka kb : Nat} {ds : List Dat} (N : News h₀ L s.heap news)
    (ma : (a, oa) ∈ news) (ca : oa.cls = .type "list") (da : oa.data = .seq xs.toArray ka) (Da : DatAll n₁ xs ds) (sa : ∀ p ∈ n₁, p ∈ news) (mb : (b, ob) ∈ news) (cb : ob.cls = .type "list") (db : ob.data = .seq ys.toArray kb) (Db : DatAll n₂ ys ds) (sb : ∀ p ∈ n₂, p ∈ news)
    (ha : ∀ d ∈ ds, kqdOk 8 d = true) (hu : A.units + 64 < cLine) (h : Q (.bool false) s) : wpAny (model prog w) A (compareOp .NotEq (.ref a) (.ref b)) Q E s :=
  kqd_ne N ma ca da Da sa mb cb db Db sb ha ha hu (by simpa using h)
end
def ansDat : Option Str → Dat
  | none => .none
  | some x => .str x
theorem ans_in {led : List (Addr × Obj)} {v : Value} : ∀ {a : Option Str}, AnsIs a v → DatIn led v (ansDat a)
  | none, h => by rw [show v = .none from h]; exact .none
  | some _, ⟨t, h⟩ => by rw [h]; exact .str _ t
theorem ans_ok {a : Option Str} (h : ∀ x, a = some x → PyData.strOk x = true) : kqdOk 8 (ansDat a) = true := by
  cases a with
  | none => rfl
  | some x => exact h x rfl
section
variable {prog : Program} {w : World} {A : Around} {s : Shared} {h₀ : Heap} {L : Addr} {m : Str → Option Value} {env : Env}
theorem rest_dat {α : Type} (rs : List α) (f : α → Value) (dt : α → Dat) {elt : Expr} {x : Str} {scope : Scope} {cl : List (Str × Addr)} {S : List (Addr × Obj) → Prop} {Fin : List Value → List (Addr × Obj) → Prop} {news : List (Addr × Obj)} (hS : ∀ gl, S (gl ++ news))
    (turn : ∀ r ∈ rs, ∀ gl I oI C oC D ys m₂ h tk (E' : Value → Shared → Prop), LCg.NsObj oC m₂ → m₂ x = some (f r) → Fr h₀ L h m → News h₀ L h ((I, oI) :: (C, oC) :: (D, LCg.lst ys) :: (gl ++ news)) → LCg.Off3 I C D (gl ++ news) → ((@Ne Nat I C) ∧ (@Ne Nat I D) ∧ (@Ne Nat C D)) →
      wpAny (model prog w) A (eval elt (compEnvC scope cl C env)) (fun y s'' => ∃ h' tk' nw, s'' = { s with heap := h', toks := tk' } ∧ Fr h₀ L h' m ∧ News h₀ L h' ((I, oI) :: (C, oC) :: (D, LCg.lst ys) :: (nw ++ (gl ++ news))) ∧ LCg.Off3 I C D nw ∧ DatIn nw y (dt r)) E' { s with heap := h, toks := tk })
    (fin : ∀ gl ys, DatAll gl ys (rs.map dt) → Fin ys (gl ++ news)) :
    LCg.CompRest prog w A h₀ L m env elt x scope cl s S (fun i v => (rs.map f).toArray[i]? = some v) Fin (rs.map f).toArray.size 0 [] news := by
  have key : ∀ (j i : Nat) (gl : List (Addr × Obj)) (ys : List Value), i + j = rs.length → DatAll gl ys ((rs.take i).map dt) → LCg.CompRest prog w A h₀ L m env elt x scope cl s S (fun i v => (rs.map f).toArray[i]? = some v) Fin j i ys (gl ++ news) := by
    intro j
    induction j with
    | zero =>
      intro i gl ys hi hl
      have : rs.take i = rs := List.take_of_length_le (by omega)
      rw [this] at hl
      exact LCg.CompRest.zero (fin gl ys hl)
    | succ j ih =>
      intro i gl ys hi hl
      have hlt : i < rs.length := by omega
      refine LCg.CompRest.succ fun v I oI C oC D m₂ h tk E' hP hoC hx F N off ne => ?_
      have hv : v = f (rs[i]'hlt) := by
        have : (rs.map f).toArray[i]? = some (f (rs[i]'hlt)) := by rw [List.getElem?_toArray, List.getElem?_map, List.getElem?_eq_getElem hlt]; rfl
        exact Option.some.inj (hP.symm.trans this)
      have ht : rs.take (i + 1) = rs.take i ++ [rs[i]'hlt] := by rw [List.take_add_one, List.getElem?_eq_getElem hlt]; rfl
      refine wpAny_mono (turn (rs[i]'hlt) (List.getElem_mem hlt) gl I oI C oC D _ m₂ h tk E' hoC (hv ▸ hx) F N off ne) (fun y s'' q => ?_) fun _ _ e => e
      obtain ⟨h', tk', nw, rfl, F', N', off', hd'⟩ := q
      have nx := ih (i + 1) (nw ++ gl) (ys ++ [y]) (by omega) (by
        rw [ht, List.map_append]
        have e1 : DatAll (nw ++ gl) ys ((rs.take i).map dt) := hl.mono fun p hp => List.mem_append.mpr (.inr hp)
        have e2 : DatIn (nw ++ gl) y (dt (rs[i]'hlt)) := hd'.mono fun p hp => List.mem_append.mpr (.inl hp)
        have app : ∀ {vs : List Value} {ds : List Dat}, DatAll (nw ++ gl) vs ds → DatAll (nw ++ gl) (vs ++ [y]) (ds ++ [dt (rs[i]'hlt)]) := by
          intro vs
          induction vs with
          | nil => intro ds h; cases h; exact .cons e2 .nil
          | cons v vs ih => intro ds h; cases h with | cons a b => exact .cons a (ih b)
        exact app e1)
      rw [List.append_assoc] at nx
      refine ⟨h', tk', nw ++ (gl ++ news), rfl, F', N', LCg.Off3.of fun p hp => ?_, by rw [← List.append_assoc]; exact hS _, nx⟩
      rcases List.mem_append.mp hp with hp | hp
      · exact off'.mem p hp
      · exact off.mem p hp
  have e : (rs.map f).toArray.size = rs.length := by rw [List.size_toArray, List.length_map]
  rw [e]
  exact key rs.length 0 [] [] (by omega) .nil
end
theorem vals_dat {α : Type} (v : α → Str) (t : α → Tok) : ∀ l : List α, DatAll [] (l.map fun a => Value.str (v a) (t a)) (l.map fun a => Dat.str (v a))
  | [] => .nil
  | _ :: l => .cons (.str _ _) (vals_dat v t l)

end Mine
end
end
section
open PySem PySem.W PyProof.Rows PySem.Spec PySem.Calls
noncomputable section
namespace Mine
local macro_rules | `(tactic| walk_at "m none") => `(tactic| fail)
local macro_rules | `(tactic| walk_at "m none") => `(tactic| fail)
local macro_rules | `(tactic| walk_at "m none") => `(tactic| fail)
local macro_rules | `(tactic| walk_at "m none") => `(tactic| fail)
local macro_rules | `(tactic| walk_at "m none") => `(tactic| fail)
local macro_rules | `(tactic| walk_at "m none") => `(tactic| fail)
local macro_rules | `(tactic| walk_at "m none") => `(tactic| fail)
local macro_rules | `(tactic| walk_at "m none") => `(tactic| fail)
local macro_rules | `(tactic| walk_at "m none") => `(tactic| fail)
local macro_rules | `(tactic| walk_at "m none") => `(tactic| fail)
local macro_rules | `(tactic| walk_at "m none") => `(tactic| fail)
local macro_rules | `(tactic| walk_at "m none") => `(tactic| fail)
local macro_rules | `(tactic| walk_at "m none") => `(tactic| fail)
local macro_rules | `(tactic| walk_at "m none") => `(tactic| fail)
local macro_rules | `(tactic| walk_at "m none") => `(tactic| fail)
local macro_rules | `(tactic| walk_at "m none") => `(tactic| fail)
local macro_rules | `(tactic| walk_at "m none") => `(tactic| fail)
local macro_rules | `(tactic| walk_at "m none") => `(tactic| fail)
local macro_rules | `(tactic| walk_at "m none") => `(tactic| fail)
local macro_rules | `(tactic| walk_at "m none") => `(tactic| fail)
local macro_rules | `(tactic| walk_at "m none") => `(tactic| fail)
local macro_rules | `(tactic| walk_at "m none") => `(tactic| fail)
local macro_rules | `(tactic| walk_at "m none") => `(tactic| fail)
local macro_rules | `(tactic| walk_at "m none") => `(tactic| fail)
local macro_rules | `(tactic| walk_at "m none") => `(tactic| fail)
local macro_rules | `(tactic| walk_at "m none") => `(tactic| fail)
local macro_rules | `(tactic| walk_at "m none") => `(tactic| fail)
local macro_rules | `(tactic| walk_at "m none") => `(tactic| fail)
local macro_rules | `(tactic| walk_at "m none") => `(tactic| fail)
local macro_rules | `(tactic| walk_at "m none") => `(tactic| fail)
local macro_rules | `(tactic| walk_at "m args") => `(tactic| ((case kB => k_asm); (case kF => k_asm); (case kX => k_asm); (case kN => k_asm); (case kT => k_asm); (case kK => first | exact rfl | assumption); (case kd => ktr_room); (case ku => ktr_units)))
local macro_rules | `(tactic| walk_at "m stop") => `(tactic| first | (with_reducible show wpAny _ _ (exec (Stmt.Assign _ (Expr.ListComp _ _ _ _) _) _) _ _ _) | (with_reducible show wpAny _ _ (eval (Expr.ListComp _ _ _ _) _) _ _ _) | (with_reducible show wpAny _ _ (exec (Stmt.For _ _ _ _ _) _) _ _ _) | (with_reducible show LCt.CompSrcT _ _ _ _ _ _ _ _ _ _ _ _ _ _ _) | (with_reducible show wpAny _ _ (pyIter _) (fun it s₂ => TurnsAt _ _ _ _ _ _ _ _ _ it s₂) _ _))
local macro_rules | `(tactic| walk_at "m steps") => `(tactic| repeat' (first | ((fail_if_success (walk_at "m stop")); first | (k_unfold; (try dsimp only)) | (k_end; wrow_close) | walk1 | (dsimp only; walk1) | (leave1; walk_say "STEP leave1"; try dsimp only))))
local macro_rules | `(tactic| walk_at "m stop") => `(tactic| with_reducible show wpAny _ _ (call (Value.ref _) _ _) _ _ _)
local macro_rules | `(tactic| walk_at "eval Name") => `(tactic| (k_here; name_kind "local"; k_dflt (refine' ld ?k1 ?k2 ?_; (case k1 => k_asm); (case k2 => ((try dsimp only); (repeat (refine look_ne (by decide) ?_)); assumption)); k_whole)))
local macro_rules | `(tactic| k_all) => `(tactic| assumption)
local macro_rules | `(tactic| walk_at "eval Name") => `(tactic| (k_here; name_kind "globalImplicit"; k_dflt (refine' nameX_B ?F ?X ?T ?e ?v ?n ?_ ?a ?b; (case F => k_asm); (case X => k_asm); (case T => k_asm); (case a => rfl); (case b => rfl); (case e => k_is); (case v => boot_by_name); (case n => decide); k_whole)))
local macro_rules | `(tactic| walk_at "eval Name") => `(tactic| (k_here; name_kind "cell"; k_dflt (refine' nameX_C ?N ?c ?m ?d ?_ ?a ?b; (case a => rfl); (case b => rfl); (case N => k_asm); (case c => rfl); (case m => k_mem); (case d => k_asm); k_whole)))
local macro_rules | `(tactic| walk_at "m stop") => `(tactic| with_reducible show wpAny _ _ (compareOp _ (Value.ref _) (Value.ref _)) _ _ _)
section
variable {w : World} {mean : ExcName → Option Value} {mg mb : Str → Option Value} {L fa : Addr} {cd : Value} {base h₀ : Heap} {m : Str → Option Value} {s : Shared} {Q : Flow → Shared → Prop} {E : Value → Shared → Prop} {C : Addr} {oC : Obj} {vC : Value} {T : List (Addr × Obj)} {led : List (Addr × Obj)} {wd : List (Int × Int)}
theorem seg0 {a b : Int} {t u : Tok} (B : Below callerA base [] h₀) (F : Fr h₀ L s.heap m) (X : (hd.heap_39 w.params).In h₀) (N : News h₀ L s.heap ((L + 1, oC) :: T)) (TT : Top hd.view_39 loo mean mg mb h₀)
    (ha : 0 ≤ a) (ha2 : a < 1000000) (hb : 0 ≤ b) (hb2 : b < 100000000) {vo : Option Value} (hC : oC.data = .cell vo) (hoff : ∀ p ∈ T, p.1 ≠ L + 1)
    (hm1 : m (Str.ofString "number") = some (.int a t)) (hm2 : m (Str.ofString "base") = some (.int b u))
    (ret : ∀ led wd v oC' t' h' tk', WordIn led v wd → (∀ p ∈ led, s.heap.get? p.1 = none) → oC'.data = .cell (some v) → Fr h₀ L h' (fun y => if y = Str.ofString "deed" then some (.int (a.fmod 4) t') else m y) → News h₀ L h' ((L + 1, oC') :: (led ++ T)) → Q .next { s with heap := h', toks := tk' }) :
    wpAny (model PySem.Challenge.rw_pg0217_01.row.prog w) (lawA L fa cd) (exec st0.1 (lawE L fa cd)) Q E s := by
  revert X
  k_fill
  intro X
  dsimp only [lawE, lawA, lawD, st0]
  walk_at "m steps"
  all_goals (try exact default)
  k_dflt (refine law_word B (by k_asm) X (by k_asm) TT ha ha2 hb hb2 ?_)
  intro led wd v h2 tk2 hw nw F2 N2
  have hoff2 : ∀ p ∈ led ++ T, p.1 ≠ L + 1 := by
    intro p hp
    rcases List.mem_append.mp hp with hp | hp
    · exact fun e => fresh_off N (nw p hp).2 _ (List.Mem.head _) e.symm
    · exact hoff p hp
  have N3 : News h₀ L h2 ((L + 1, oC) :: (led ++ T)) := nSub N2 (fun p hp => by
    rcases List.mem_cons.mp hp with rfl | hp
    · exact List.mem_append.mpr (.inr (List.Mem.head _))
    · rcases List.mem_append.mp hp with hp | hp
      · exact List.mem_append.mpr (.inl hp)
      · exact List.mem_append.mpr (.inr (.tail _ hp)))
  clear N2
  walk_at "m steps"
  all_goals (try exact default)
  exact ret led wd v _ _ _ _ hw (fun p hp => (nw p hp).2) (by assumption) (by k_asm) (nSub (by k_asm) (fun p hp => List.Mem.tail _ hp))
end

end Mine
end
end
section
open PySem PySem.W PyProof.Rows PySem.Spec PySem.Calls
noncomputable section
namespace Mine
local macro_rules | `(tactic| walk_at "m args") => `(tactic| ((case kB => k_asm); (case kF => k_asm); (case kX => k_asm); (case kN => k_asm); (case kT => k_asm); (case kK => first | exact rfl | assumption); (case kd => ktr_room); (case ku => ktr_units)))
local macro_rules | `(tactic| walk_at "m stop") => `(tactic| first | (with_reducible show wpAny _ _ (exec (Stmt.Assign _ (Expr.ListComp _ _ _ _) _) _) _ _ _) | (with_reducible show wpAny _ _ (eval (Expr.ListComp _ _ _ _) _) _ _ _) | (with_reducible show wpAny _ _ (exec (Stmt.For _ _ _ _ _) _) _ _ _) | (with_reducible show LCt.CompSrcT _ _ _ _ _ _ _ _ _ _ _ _ _ _ _) | (with_reducible show wpAny _ _ (pyIter _) (fun it s₂ => TurnsAt _ _ _ _ _ _ _ _ _ it s₂) _ _))
local macro_rules | `(tactic| walk_at "m steps") => `(tactic| repeat' (first | ((fail_if_success (walk_at "m stop")); first | (k_unfold; (try dsimp only)) | (k_end; wrow_close) | walk1 | (dsimp only; walk1) | (leave1; walk_say "STEP leave1"; try dsimp only))))
local macro_rules | `(tactic| walk_at "m stop") => `(tactic| with_reducible show wpAny _ _ (call (Value.ref _) _ _) _ _ _)
local macro_rules | `(tactic| walk_at "eval Name") => `(tactic| (k_here; name_kind "local"; k_dflt (refine' ld ?k1 ?k2 ?_; (case k1 => k_asm); (case k2 => ((try dsimp only); (repeat (refine look_ne (by decide) ?_)); assumption)); k_whole)))
local macro_rules | `(tactic| k_all) => `(tactic| assumption)
local macro_rules | `(tactic| walk_at "eval Name") => `(tactic| (k_here; name_kind "globalImplicit"; k_dflt (refine' nameX_B ?F ?X ?T ?e ?v ?n ?_ ?a ?b; (case F => k_asm); (case X => k_asm); (case T => k_asm); (case a => rfl); (case b => rfl); (case e => k_is); (case v => boot_by_name); (case n => decide); k_whole)))
local macro_rules | `(tactic| walk_at "eval Name") => `(tactic| (k_here; name_kind "cell"; k_dflt (refine' nameX_C ?N ?c ?m ?d ?_ ?a ?b; (case a => rfl); (case b => rfl); (case N => k_asm); (case c => rfl); (case m => k_mem); (case d => k_asm); k_whole)))
local macro_rules | `(tactic| walk_at "m stop") => `(tactic| with_reducible show wpAny _ _ (compareOp _ (Value.ref _) (Value.ref _)) _ _ _)
section
variable {w : World} {mean : ExcName → Option Value} {mg mb : Str → Option Value} {L fa : Addr} {cd : Value} {base h₀ : Heap} {m : Str → Option Value} {s : Shared} {Q : Flow → Shared → Prop} {E : Value → Shared → Prop} {C : Addr} {oC : Obj} {vC : Value} {T : List (Addr × Obj)} {led : List (Addr × Obj)} {wd : List (Int × Int)}
theorem empty_ok : ValueOk (Str.ofString "") := by
  intro c hc
  have : (Str.ofString "").cps = #[] := by decide +kernel
  rw [this] at hc
  exact absurd hc (by simp)
theorem value_text {n : Int} (h0 : 0 ≤ n) (h1 : n < 12) : ValueOk (Str.ofString (toString n)) ∧ (Str.ofString (toString n)).length ≤ 100 := by
  obtain ⟨k, rfl⟩ := Int.eq_ofNat_of_zero_le h0
  have hk : k < 12 := by omega
  have e : toString (k : Int) = toString k := rfl
  rw [e]
  refine ⟨value_step k hk, ?_⟩
  have : ∀ n : Nat, n < 12 → (Str.ofString (toString n)).length ≤ 100 := by decide +kernel
  exact this k hk
theorem seg1 {n : Int} {t : Tok} (B : Below callerA base [] h₀) (F : Fr h₀ L s.heap m) (X : (hd.heap_39 w.params).In h₀) (N : News h₀ L s.heap ((C, oC) :: T)) (TT : Top hd.view_39 loo mean mg mb h₀)
    (h0 : 0 ≤ n) (h1 : n < 12) (hm : m (Str.ofString "step") = some (.int n t))
    (ret : ∀ vl t' h' tk', ValueOk vl → vl.length ≤ 100 → Fr h₀ L h' (fun y => if y = Str.ofString "value" then some (.str vl t') else m y) → News h₀ L h' ((C, oC) :: T) → Q .next { s with heap := h', toks := tk' }) :
    wpAny (model PySem.Challenge.rw_pg0217_01.row.prog w) (lawA L fa cd) (exec st1.1 (lawE L fa cd)) Q E s := by
  revert X
  k_fill
  intro X
  dsimp only [lawE, lawA, lawD, st1]
  have hv := value_text h0 h1
  walk_at "m steps"
  all_goals (try exact default)
  · exact ret _ _ _ _ hv.1 hv.2 (by k_asm) (by k_asm)
  · exact ret (Str.ofString "") _ _ _ empty_ok (by decide) (by k_asm) (by k_asm)
end

end Mine
end
end
section
open PySem PySem.W PyProof.Rows PySem.Spec PySem.Calls
noncomputable section
namespace Mine
local macro_rules | `(tactic| walk_at "m none") => `(tactic| fail)
local macro_rules | `(tactic| walk_at "m none") => `(tactic| fail)
local macro_rules | `(tactic| walk_at "m none") => `(tactic| fail)
local macro_rules | `(tactic| walk_at "m none") => `(tactic| fail)
local macro_rules | `(tactic| walk_at "m none") => `(tactic| fail)
local macro_rules | `(tactic| walk_at "m none") => `(tactic| fail)
local macro_rules | `(tactic| walk_at "m none") => `(tactic| fail)
local macro_rules | `(tactic| walk_at "m none") => `(tactic| fail)
local macro_rules | `(tactic| walk_at "m none") => `(tactic| fail)
local macro_rules | `(tactic| walk_at "m none") => `(tactic| fail)
local macro_rules | `(tactic| walk_at "m none") => `(tactic| fail)
local macro_rules | `(tactic| walk_at "m none") => `(tactic| fail)
local macro_rules | `(tactic| walk_at "m none") => `(tactic| fail)
local macro_rules | `(tactic| walk_at "m none") => `(tactic| fail)
local macro_rules | `(tactic| walk_at "m none") => `(tactic| fail)
local macro_rules | `(tactic| walk_at "m none") => `(tactic| fail)
local macro_rules | `(tactic| walk_at "m none") => `(tactic| fail)
local macro_rules | `(tactic| walk_at "m none") => `(tactic| fail)
local macro_rules | `(tactic| walk_at "m none") => `(tactic| fail)
local macro_rules | `(tactic| walk_at "m none") => `(tactic| fail)
local macro_rules | `(tactic| walk_at "m none") => `(tactic| fail)
local macro_rules | `(tactic| walk_at "m none") => `(tactic| fail)
local macro_rules | `(tactic| walk_at "m none") => `(tactic| fail)
local macro_rules | `(tactic| walk_at "m none") => `(tactic| fail)
local macro_rules | `(tactic| walk_at "m none") => `(tactic| fail)
local macro_rules | `(tactic| walk_at "m none") => `(tactic| fail)
local macro_rules | `(tactic| walk_at "m none") => `(tactic| fail)
local macro_rules | `(tactic| walk_at "m none") => `(tactic| fail)
local macro_rules | `(tactic| walk_at "m none") => `(tactic| fail)
local macro_rules | `(tactic| walk_at "m none") => `(tactic| fail)
local macro_rules | `(tactic| walk_at "m args") => `(tactic| ((case kB => k_asm); (case kF => k_asm); (case kX => k_asm); (case kN => k_asm); (case kT => k_asm); (case kK => first | exact rfl | assumption); (case kd => ktr_room); (case ku => ktr_units)))
local macro_rules | `(tactic| walk_at "m stop") => `(tactic| first | (with_reducible show wpAny _ _ (exec (Stmt.Assign _ (Expr.ListComp _ _ _ _) _) _) _ _ _) | (with_reducible show wpAny _ _ (eval (Expr.ListComp _ _ _ _) _) _ _ _) | (with_reducible show wpAny _ _ (exec (Stmt.For _ _ _ _ _) _) _ _ _) | (with_reducible show LCt.CompSrcT _ _ _ _ _ _ _ _ _ _ _ _ _ _ _) | (with_reducible show wpAny _ _ (pyIter _) (fun it s₂ => TurnsAt _ _ _ _ _ _ _ _ _ it s₂) _ _))
local macro_rules | `(tactic| walk_at "m steps") => `(tactic| repeat' (first | ((fail_if_success (walk_at "m stop")); first | (k_unfold; (try dsimp only)) | (k_end; wrow_close) | walk1 | (dsimp only; walk1) | (leave1; walk_say "STEP leave1"; try dsimp only))))
local macro_rules | `(tactic| walk_at "m stop") => `(tactic| with_reducible show wpAny _ _ (call (Value.ref _) _ _) _ _ _)
local macro_rules | `(tactic| walk_at "eval Name") => `(tactic| (k_here; name_kind "local"; k_dflt (refine' ld ?k1 ?k2 ?_; (case k1 => k_asm); (case k2 => ((try dsimp only); (repeat (refine look_ne (by decide) ?_)); assumption)); k_whole)))
local macro_rules | `(tactic| k_all) => `(tactic| assumption)
local macro_rules | `(tactic| walk_at "eval Name") => `(tactic| (k_here; name_kind "globalImplicit"; k_dflt (refine' nameX_B ?F ?X ?T ?e ?v ?n ?_ ?a ?b; (case F => k_asm); (case X => k_asm); (case T => k_asm); (case a => rfl); (case b => rfl); (case e => k_is); (case v => boot_by_name); (case n => decide); k_whole)))
local macro_rules | `(tactic| walk_at "eval Name") => `(tactic| (k_here; name_kind "cell"; k_dflt (refine' nameX_C ?N ?c ?m ?d ?_ ?a ?b; (case a => rfl); (case b => rfl); (case N => k_asm); (case c => rfl); (case m => k_mem); (case d => k_asm); k_whole)))
local macro_rules | `(tactic| walk_at "m stop") => `(tactic| with_reducible show wpAny _ _ (compareOp _ (Value.ref _) (Value.ref _)) _ _ _)
section
variable {w : World} {mean : ExcName → Option Value} {mg mb : Str → Option Value} {L fa : Addr} {cd : Value} {base h₀ : Heap} {m : Str → Option Value} {s : Shared} {Q : Flow → Shared → Prop} {E : Value → Shared → Prop} {C : Addr} {oC : Obj} {vC : Value} {T : List (Addr × Obj)} {led : List (Addr × Obj)} {wd : List (Int × Int)}
theorem seg2 (B : Below callerA base [] h₀) (F : Fr h₀ L s.heap m) (X : (hd.heap_39 w.params).In h₀) (N : News h₀ L s.heap ((L + 1, oC) :: T)) (TT : Top hd.view_39 loo mean mg mb h₀) (hC : oC.data = .cell (some vC)) (hw : WordIn led vC wd) (hs : ∀ p ∈ led, p ∈ T)
    (ret : ∀ t' h' tk', Fr h₀ L h' (fun y => if y = Str.ofString "name" then some (.str (nmOf 0 wd) t') else m y) → News h₀ L h' ((L + 1, oC) :: T) → Q .next { s with heap := h', toks := tk' }) :
    wpAny (model PySem.Challenge.rw_pg0217_01.row.prog w) (lawA L fa cd) (exec st2.1 (lawE L fa cd)) Q E s := by
  revert X
  k_fill
  intro X
  dsimp only [lawE, lawA, lawD, st2]
  walk_at "m steps"
  all_goals (try exact default)
  k_dflt (refine law_lifted B (by k_asm) X (by k_asm) TT hw (fun p hp => List.Mem.tail _ (hs p hp)) (by decide) ?_)
  intro t2 h2 tk2 F2 N2
  walk_at "m steps"
  all_goals (try exact default)
  exact ret _ _ _ (by k_asm) (by k_asm)
theorem seg10 (B : Below callerA base [] h₀) (F : Fr h₀ L s.heap m) (X : (hd.heap_39 w.params).In h₀) (N : News h₀ L s.heap ((L + 1, oC) :: T)) (TT : Top hd.view_39 loo mean mg mb h₀) (hC : oC.data = .cell (some vC)) (hw : WordIn led vC wd) (hs : ∀ p ∈ led, p ∈ T)
    (ret : ∀ t' h' tk', Fr h₀ L h' (fun y => if y = Str.ofString "name" then some (.str (nmOf 1 wd) t') else m y) → News h₀ L h' ((L + 1, oC) :: T) → Q .next { s with heap := h', toks := tk' }) :
    wpAny (model PySem.Challenge.rw_pg0217_01.row.prog w) (lawA L fa cd) (exec st10.1 (lawE L fa cd)) Q E s := by
  revert X
  k_fill
  intro X
  dsimp only [lawE, lawA, lawD, st10]
  walk_at "m steps"
  all_goals (try exact default)
  k_dflt (refine law_lifted B (by k_asm) X (by k_asm) TT hw (fun p hp => List.Mem.tail _ (hs p hp)) (by decide) ?_)
  intro t2 h2 tk2 F2 N2
  walk_at "m steps"
  all_goals (try exact default)
  exact ret _ _ _ (by k_asm) (by k_asm)
end

end Mine
end
end
section
open PySem PySem.W PyProof.Rows PySem.Spec PySem.Calls
noncomputable section
namespace Mine
local macro_rules | `(tactic| walk_at "m args") => `(tactic| ((case kB => k_asm); (case kF => k_asm); (case kX => k_asm); (case kN => k_asm); (case kT => k_asm); (case kK => first | exact rfl | assumption); (case kd => ktr_room); (case ku => ktr_units)))
local macro_rules | `(tactic| walk_at "m stop") => `(tactic| first | (with_reducible show wpAny _ _ (exec (Stmt.Assign _ (Expr.ListComp _ _ _ _) _) _) _ _ _) | (with_reducible show wpAny _ _ (eval (Expr.ListComp _ _ _ _) _) _ _ _) | (with_reducible show wpAny _ _ (exec (Stmt.For _ _ _ _ _) _) _ _ _) | (with_reducible show LCt.CompSrcT _ _ _ _ _ _ _ _ _ _ _ _ _ _ _) | (with_reducible show wpAny _ _ (pyIter _) (fun it s₂ => TurnsAt _ _ _ _ _ _ _ _ _ it s₂) _ _))
local macro_rules | `(tactic| walk_at "m steps") => `(tactic| repeat' (first | ((fail_if_success (walk_at "m stop")); first | (k_unfold; (try dsimp only)) | (k_end; wrow_close) | walk1 | (dsimp only; walk1) | (leave1; walk_say "STEP leave1"; try dsimp only))))
local macro_rules | `(tactic| walk_at "m stop") => `(tactic| with_reducible show wpAny _ _ (call (Value.ref _) _ _) _ _ _)
local macro_rules | `(tactic| walk_at "eval Name") => `(tactic| (k_here; name_kind "local"; k_dflt (refine' ld ?k1 ?k2 ?_; (case k1 => k_asm); (case k2 => ((try dsimp only); (repeat (refine look_ne (by decide) ?_)); assumption)); k_whole)))
local macro_rules | `(tactic| k_all) => `(tactic| assumption)
local macro_rules | `(tactic| walk_at "eval Name") => `(tactic| (k_here; name_kind "globalImplicit"; k_dflt (refine' nameX_B ?F ?X ?T ?e ?v ?n ?_ ?a ?b; (case F => k_asm); (case X => k_asm); (case T => k_asm); (case a => rfl); (case b => rfl); (case e => k_is); (case v => boot_by_name); (case n => decide); k_whole)))
local macro_rules | `(tactic| walk_at "eval Name") => `(tactic| (k_here; name_kind "cell"; k_dflt (refine' nameX_C ?N ?c ?m ?d ?_ ?a ?b; (case a => rfl); (case b => rfl); (case N => k_asm); (case c => rfl); (case m => k_mem); (case d => k_asm); k_whole)))
local macro_rules | `(tactic| walk_at "m stop") => `(tactic| with_reducible show wpAny _ _ (compareOp _ (Value.ref _) (Value.ref _)) _ _ _)
section
variable {w : World} {mean : ExcName → Option Value} {mg mb : Str → Option Value} {L fa : Addr} {cd : Value} {base h₀ : Heap} {m : Str → Option Value} {s : Shared} {Q : Flow → Shared → Prop} {E : Value → Shared → Prop} {C : Addr} {oC : Obj} {vC : Value} {T : List (Addr × Obj)} {led : List (Addr × Obj)} {wd : List (Int × Int)}
theorem led_ad (t : TB) (k : Nat) (rs : List HR) : (t.led k rs).map (·.1) = t.ad := rfl
theorem off_led {t : TB} {k : Nat} {rs : List HR} {news : List (Addr × Obj)} {a : Addr} (hs : ∀ p ∈ t.led k rs, p ∈ news) (h : ∀ p ∈ news, p.1 ≠ a) : a ∉ t.ad := fun hm => by
  rw [← led_ad t k rs] at hm
  obtain ⟨p, hp, e⟩ := List.mem_map.mp hm
  exact h p (hs p hp) e
theorem ad_led {t : TB} {k k' : Nat} {rs rs' : List HR} {p : Addr × Obj} (hp : p ∈ t.led k' rs') : ∃ q ∈ t.led k rs, q.1 = p.1 := by
  have : p.1 ∈ (t.led k rs).map (·.1) := by
    have h : p.1 ∈ (t.led k' rs').map (·.1) := List.mem_map_of_mem hp
    exact h
  obtain ⟨q, hq, e⟩ := List.mem_map.mp this
  exact ⟨q, hq, e⟩
theorem seg3 {ta tb : TB} {k1 k2 : Nat} {rs rs2 : List HR} {d : Int} {vl : Str} {td tn tv : Tok} (B : Below callerA base [] h₀) (F : Fr h₀ L s.heap m) (X : (hd.heap_39 w.params).In h₀) (N : News h₀ L s.heap ((L + 1, oC) :: (ta.led k1 rs ++ (tb.led k2 rs2 ++ T)))) (TT : Top hd.view_39 loo mean mg mb h₀)
    (hwo : WOk wd) (hlen : wd.length ≤ 2) (hd0 : 0 ≤ d) (hd2 : d < 4) (hv : ValueOk vl) (hl2 : vl.length ≤ 100)
    (hz : rs.length ≤ 100) (hk : ∀ r ∈ rs, r.k.length ≤ 100) (hz2 : rs2.length ≤ 100) (hk2 : ∀ r ∈ rs2, r.k.length ≤ 100) (hr : ∀ r ∈ rs, (r.t, r.obj) ∈ T) (hr2 : ∀ r ∈ rs2, (r.t, r.obj) ∈ T)
    (hA : ∀ p ∈ (L + 1, oC) :: (tb.led k2 rs2 ++ T), p.1 ∉ ta.ad) (hB : ∀ p ∈ (L + 1, oC) :: (ta.led k1 rs ++ T), p.1 ∉ tb.ad)
    (hm1 : m (Str.ofString "lifted") = some (.ref ta.x)) (hm2 : m (Str.ofString "shown") = some (.ref tb.x)) (hm3 : m (Str.ofString "deed") = some (.int d td)) (hm4 : m (Str.ofString "name") = some (.str (nmOf 0 wd) tn)) (hm5 : m (Str.ofString "value") = some (.str vl tv))
    (ret : ∀ k1' rs' a1 v1 k2' rs2' a2 v2 (D : Addr) h' tk', DeedR d (nmOf 0 wd) vl rs rs' a1 → AnsIs a1 v1 → DeedR d (shTx (wd.map (·.1))) vl rs2 rs2' a2 → AnsIs a2 v2 → Fr h₀ L h' (fun y => if y = Str.ofString "answers" then some (.ref D) else m y) →
      News h₀ L h' ((L + 1, oC) :: (ta.led k1' rs' ++ (tb.led k2' rs2' ++ ((D, W.listOf #[v1, v2] 0) :: (rowsL rs' ++ (rowsL rs2' ++ T)))))) → Q .next { s with heap := h', toks := tk' }) :
    wpAny (model PySem.Challenge.rw_pg0217_01.row.prog w) (lawA L fa cd) (exec st3.1 (lawE L fa cd)) Q E s := by
  have hlx : (wd.map (sg 0)).length ≤ 2 := by rw [List.length_map]; exact hlen
  have hcs : ∀ c ∈ wd.map (sg 0), c < 256 := fun c hc => by
    obtain ⟨q, hq, rfl⟩ := List.mem_map.mp hc
    exact (sg_range (hwo q hq)).2
  have hlf : (wd.map (·.1)).length ≤ 2 := by rw [List.length_map]; exact hlen
  revert X
  k_fill
  intro X
  dsimp only [lawE, lawA, lawD, st3]
  walk_at "m steps"
  all_goals (try exact default)
  k_dflt (refine law_deed (tb := ta) (k := k1) (rs := rs) (O := (L + 1, oC) :: (tb.led k2 rs2 ++ T)) B (by k_asm) X (by k_asm) TT hd0 hd2 (name_lownm 0 hwo) (name_nm 0 hwo) hv (len_nm 0 hlen) hl2 hz hk ?hs ?hr ?hO ?hrO ?_)
  case hs => exact fun p hp => .tail _ (List.mem_append.mpr (.inl hp))
  case hr => exact fun r h => .tail _ (List.mem_append.mpr (.inr (List.mem_append.mpr (.inr (hr r h)))))
  case hO =>
    intro p hp
    refine ⟨?_, hA p hp⟩
    rcases List.mem_cons.mp hp with rfl | hp
    · exact .head _
    · exact .tail _ (List.mem_append.mpr (.inr hp))
  case hrO => exact fun r h => .tail _ (List.mem_append.mpr (.inr (hr r h)))
  intro k1' rs' a1 v1 h2 tk2 F2 N2 hfr hD1 hv1
  have hB' : ∀ p ∈ (L + 1, oC) :: (ta.led k1' rs' ++ (rowsL rs' ++ T)), p.1 ∉ tb.ad := by
    intro p hp
    rcases List.mem_cons.mp hp with rfl | hp
    · exact hB _ (.head _)
    · rcases List.mem_append.mp hp with hp | hp
      · obtain ⟨q, hq, e⟩ := ad_led (k := k1) (rs := rs) hp
        rw [← e]
        exact hB q (.tail _ (List.mem_append.mpr (.inl hq)))
      · rcases List.mem_append.mp hp with hp | hp
        · obtain ⟨r, h, rfl⟩ := List.mem_map.mp hp
          rcases hfr r h with h1 | h1
          · exact hB _ (.tail _ (List.mem_append.mpr (.inr (hr r h1))))
          · exact off_led (k := k2) (rs := rs2) (fun p hp => .tail _ (List.mem_append.mpr (.inr (List.mem_append.mpr (.inl hp))))) (fresh_off N h1)
        · exact hB _ (.tail _ (List.mem_append.mpr (.inr hp)))
  have N3 : News h₀ L h2 ((L + 1, oC) :: (ta.led k1' rs' ++ (tb.led k2 rs2 ++ (rowsL rs' ++ T)))) := nSub N2 (fun p hp => by
    simp only [List.mem_cons, List.mem_append] at hp ⊢
    rcases hp with h | h | h | h | h
    · exact .inr (.inr (.inl h))
    · exact .inl h
    · exact .inr (.inr (.inr (.inl h)))
    · exact .inr (.inl h)
    · exact .inr (.inr (.inr (.inr h))))
  clear N2
  walk_at "m steps"
  all_goals (try exact default)
  k_dflt (refine law_shown (zs := wd.map (sg 0)) B (by k_asm) X (by k_asm) TT hlx hcs ?_)
  intro t4 h4 tk4 F4 N4
  have e4 : Txt.join (Str.ofString "") ((wd.map (sg 0)).map ctl) = shTx (wd.map (·.1)) := shown_text 0 hwo
  rw [e4]
  walk_at "m steps"
  all_goals (try exact default)
  k_dflt (refine law_deed (tb := tb) (k := k2) (rs := rs2) (O := (L + 1, oC) :: (ta.led k1' rs' ++ (rowsL rs' ++ T))) B (by k_asm) X (by k_asm) TT hd0 hd2 (name_lowsh hwo.five) (name_sh hwo.five) hv (len_sh hlf) hl2 hz2 hk2 ?hs ?hr ?hO ?hrO ?_)
  case hs => exact fun p hp => .tail _ (List.mem_append.mpr (.inr (List.mem_append.mpr (.inl hp))))
  case hr => exact fun r h => .tail _ (List.mem_append.mpr (.inr (List.mem_append.mpr (.inr (List.mem_append.mpr (.inr (hr2 r h)))))))
  case hO =>
    intro p hp
    refine ⟨?_, hB' p hp⟩
    simp only [List.mem_cons, List.mem_append] at hp ⊢
    rcases hp with h | h | h | h
    · exact .inl h
    · exact .inr (.inl h)
    · exact .inr (.inr (.inr (.inl h)))
    · exact .inr (.inr (.inr (.inr h)))
  case hrO => exact fun r h => .tail _ (List.mem_append.mpr (.inr (List.mem_append.mpr (.inr (hr2 r h)))))
  intro k2' rs2' a2 v2 h6 tk6 F6 N6 hfr2 hD2 hv2
  have N7 : News h₀ L h6 ((L + 1, oC) :: (ta.led k1' rs' ++ (tb.led k2' rs2' ++ (rowsL rs' ++ (rowsL rs2' ++ T))))) := nSub N6 (fun p hp => by
    simp only [List.mem_cons, List.mem_append] at hp ⊢
    rcases hp with h | h | h | h | h | h
    · exact .inr (.inr (.inl h))
    · exact .inr (.inr (.inr (.inl h)))
    · exact .inl h
    · exact .inr (.inr (.inr (.inr (.inl h))))
    · exact .inr (.inl h)
    · exact .inr (.inr (.inr (.inr (.inr h)))))
  clear N6
  walk_at "m steps"
  all_goals (try exact default)
  refine ret k1' rs' a1 v1 k2' rs2' a2 v2 _ _ _ hD1 hv1 hD2 hv2 (by k_asm) (nSub (by k_asm) (fun p hp => ?_))
  simp only [List.mem_cons, List.mem_append] at hp ⊢
  rcases hp with h | h | h | h | h | h | h
  · exact .inr (.inl h)
  · exact .inr (.inr (.inl h))
  · exact .inr (.inr (.inr (.inl h)))
  · exact .inl h
  · exact .inr (.inr (.inr (.inr (.inl h))))
  · exact .inr (.inr (.inr (.inr (.inr (.inl h)))))
  · exact .inr (.inr (.inr (.inr (.inr (.inr h)))))
end

end Mine
end
end
section
open PySem PySem.W PyProof.Rows PySem.Spec PySem.Calls
noncomputable section
namespace Mine
local macro_rules | `(tactic| walk_at "m none") => `(tactic| fail)
local macro_rules | `(tactic| walk_at "m none") => `(tactic| fail)
local macro_rules | `(tactic| walk_at "m none") => `(tactic| fail)
local macro_rules | `(tactic| walk_at "m none") => `(tactic| fail)
local macro_rules | `(tactic| walk_at "m none") => `(tactic| fail)
local macro_rules | `(tactic| walk_at "m none") => `(tactic| fail)
local macro_rules | `(tactic| walk_at "m none") => `(tactic| fail)
local macro_rules | `(tactic| walk_at "m none") => `(tactic| fail)
local macro_rules | `(tactic| walk_at "m none") => `(tactic| fail)
local macro_rules | `(tactic| walk_at "m none") => `(tactic| fail)
local macro_rules | `(tactic| walk_at "m none") => `(tactic| fail)
local macro_rules | `(tactic| walk_at "m none") => `(tactic| fail)
local macro_rules | `(tactic| walk_at "m none") => `(tactic| fail)
local macro_rules | `(tactic| walk_at "m none") => `(tactic| fail)
local macro_rules | `(tactic| walk_at "m none") => `(tactic| fail)
local macro_rules | `(tactic| walk_at "m none") => `(tactic| fail)
local macro_rules | `(tactic| walk_at "m none") => `(tactic| fail)
local macro_rules | `(tactic| walk_at "m none") => `(tactic| fail)
local macro_rules | `(tactic| walk_at "m none") => `(tactic| fail)
local macro_rules | `(tactic| walk_at "m none") => `(tactic| fail)
local macro_rules | `(tactic| walk_at "m none") => `(tactic| fail)
local macro_rules | `(tactic| walk_at "m none") => `(tactic| fail)
local macro_rules | `(tactic| walk_at "m none") => `(tactic| fail)
local macro_rules | `(tactic| walk_at "m none") => `(tactic| fail)
local macro_rules | `(tactic| walk_at "m none") => `(tactic| fail)
local macro_rules | `(tactic| walk_at "m none") => `(tactic| fail)
local macro_rules | `(tactic| walk_at "m none") => `(tactic| fail)
local macro_rules | `(tactic| walk_at "m none") => `(tactic| fail)
local macro_rules | `(tactic| walk_at "m none") => `(tactic| fail)
local macro_rules | `(tactic| walk_at "m none") => `(tactic| fail)
local macro_rules | `(tactic| walk_at "m args") => `(tactic| ((case kB => k_asm); (case kF => k_asm); (case kX => k_asm); (case kN => k_asm); (case kT => k_asm); (case kK => first | exact rfl | assumption); (case kd => ktr_room); (case ku => ktr_units)))
local macro_rules | `(tactic| walk_at "m stop") => `(tactic| first | (with_reducible show wpAny _ _ (exec (Stmt.Assign _ (Expr.ListComp _ _ _ _) _) _) _ _ _) | (with_reducible show wpAny _ _ (eval (Expr.ListComp _ _ _ _) _) _ _ _) | (with_reducible show wpAny _ _ (exec (Stmt.For _ _ _ _ _) _) _ _ _) | (with_reducible show LCt.CompSrcT _ _ _ _ _ _ _ _ _ _ _ _ _ _ _) | (with_reducible show wpAny _ _ (pyIter _) (fun it s₂ => TurnsAt _ _ _ _ _ _ _ _ _ it s₂) _ _))
local macro_rules | `(tactic| walk_at "m steps") => `(tactic| repeat' (first | ((fail_if_success (walk_at "m stop")); first | (k_unfold; (try dsimp only)) | (k_end; wrow_close) | walk1 | (dsimp only; walk1) | (leave1; walk_say "STEP leave1"; try dsimp only))))
local macro_rules | `(tactic| walk_at "m stop") => `(tactic| with_reducible show wpAny _ _ (call (Value.ref _) _ _) _ _ _)
local macro_rules | `(tactic| walk_at "eval Name") => `(tactic| (k_here; name_kind "local"; k_dflt (refine' ld ?k1 ?k2 ?_; (case k1 => k_asm); (case k2 => ((try dsimp only); (repeat (refine look_ne (by decide) ?_)); assumption)); k_whole)))
local macro_rules | `(tactic| k_all) => `(tactic| assumption)
local macro_rules | `(tactic| walk_at "eval Name") => `(tactic| (k_here; name_kind "globalImplicit"; k_dflt (refine' nameX_B ?F ?X ?T ?e ?v ?n ?_ ?a ?b; (case F => k_asm); (case X => k_asm); (case T => k_asm); (case a => rfl); (case b => rfl); (case e => k_is); (case v => boot_by_name); (case n => decide); k_whole)))
local macro_rules | `(tactic| walk_at "eval Name") => `(tactic| (k_here; name_kind "cell"; k_dflt (refine' nameX_C ?N ?c ?m ?d ?_ ?a ?b; (case a => rfl); (case b => rfl); (case N => k_asm); (case c => rfl); (case m => k_mem); (case d => k_asm); k_whole)))
local macro_rules | `(tactic| walk_at "m stop") => `(tactic| with_reducible show wpAny _ _ (compareOp _ (Value.ref _) (Value.ref _)) _ _ _)
local macro_rules | `(tactic| walk_at "m stop") => `(tactic| with_reducible show LCp.SrcLP _ _ _ _ _ _ _ _ _ _ _ _ _ _ _)
local macro_rules | `(tactic| walk_at "m stop") => `(tactic| with_reducible show wpAny _ _ (call (Value.builtin "str.join") _ _) _ _ _)
section
variable {w : World} {mean : ExcName → Option Value} {mg mb : Str → Option Value} {L fa : Addr} {cd : Value} {base h₀ : Heap} {m : Str → Option Value} {s : Shared} {Q : Flow → Shared → Prop} {E : Value → Shared → Prop} {C : Addr} {oC : Obj} {vC : Value} {T : List (Addr × Obj)} {led : List (Addr × Obj)} {wd : List (Int × Int)}
theorem seg4 (B : Below callerA base [] h₀) (F : Fr h₀ L s.heap m) (X : (hd.heap_39 w.params).In h₀) (N : News h₀ L s.heap ((L + 1, oC) :: T)) (TT : Top hd.view_39 loo mean mg mb h₀) (hC : oC.data = .cell (some vC)) (hw : WordIn led vC wd) (hs : ∀ p ∈ led, p ∈ T)
    (ret : ∀ t' h' tk', Fr h₀ L h' (fun y => if y = Str.ofString "told" then some (.str (nmOf 0 wd) t') else m y) → News h₀ L h' ((L + 1, oC) :: T) → Q .next { s with heap := h', toks := tk' }) :
    wpAny (model PySem.Challenge.rw_pg0217_01.row.prog w) (lawA L fa cd) (exec st4.1 (lawE L fa cd)) Q E s := by
  have hwo := word_WOk hw
  have e := told_nm hwo
  obtain ⟨l, n, es, rfl, rfl, rfl, hle, hes⟩ := word_rep hw
  rw [List.map_map] at e
  clear hw hwo
  revert X
  k_fill
  intro X
  dsimp only [lawE, lawA, lawD, st4]
  walk_at "m steps"
  all_goals (try exact default)
  k_dflt (refine LCp.ListComp_P (F₀ := by k_asm) (by with_unfolding_all rfl) (by decide) (by rfl) (by decide) (by rfl) (by rfl) (by decide) ?_)
  walk_at "m steps"
  all_goals (try exact default)
  refine LCp.SrcLP.ledger (k := n) rfl (by k_asm) N (.tail _ (hs _ (.head _))) (by rw [List.size_toArray, List.length_map]; exact Nat.le_trans hle (by decide)) ?_
  intro g1
  refine rest_ptext es (fun e => e.t) WE.obj (fun e => .int e.f e.tf) (fun e => .int e.b e.tb) (fun e => Str.mk #[(192 + e.f + 32 * e.b).toNat]) (.inr ⟨_, .tail _ (hs _ (.head _)), rfl, _, rfl⟩) ?_ ?_ ?_
  · intro r hr
    exact ⟨.tail _ (hs _ (.tail _ (List.mem_map.mpr ⟨r, hr, rfl⟩))), rfl, r.k, rfl⟩
  · intro r hr I oI C oC9 D ys m₂ h2 tk2 E' hoC hmx hmy F2 N2 off ne
    obtain ⟨b1, b2, b3, b4⟩ := hes r hr
    clear hes e hs ret
    k_steps
    all_goals first
      | exact (⟨_, _, rfl, by k_asm, by k_asm⟩ : Same _ _ _ _ _ _)
      | exact ⟨⟨_, rfl⟩, _, _, rfl, by k_asm, by k_asm⟩
  · intro l2 hl2 D hD tkD FD ND offD
    walk_at "m steps"
    all_goals (try exact default)
    refine SC.join (l := l2) ⟨_, (ND _ (.head _)).1, rfl, _, rfl⟩ hl2 (word_ok2 hle _ (fun _ => rfl) (fun _ _ => rfl)) ?_
    intro t9 k9
    rw [show (es.map fun e => Str.mk #[(192 + e.f + 32 * e.b).toNat]) = es.map ((fun q : Int × Int => Str.mk #[(192 + q.1 + 32 * q.2).toNat]) ∘ fun e => (e.f, e.b)) from rfl, e]
    walk_at "m steps"
    all_goals (try exact default)
    exact ret _ _ _ (by k_asm) (nSub (by k_asm) (fun p hp => .tail _ hp))
end

end Mine
end
end
section
open PySem PySem.W PyProof.Rows PySem.Spec PySem.Calls
noncomputable section
namespace Mine
local macro_rules | `(tactic| walk_at "m args") => `(tactic| ((case kB => k_asm); (case kF => k_asm); (case kX => k_asm); (case kN => k_asm); (case kT => k_asm); (case kK => first | exact rfl | assumption); (case kd => ktr_room); (case ku => ktr_units)))
local macro_rules | `(tactic| walk_at "m stop") => `(tactic| first | (with_reducible show wpAny _ _ (exec (Stmt.Assign _ (Expr.ListComp _ _ _ _) _) _) _ _ _) | (with_reducible show wpAny _ _ (eval (Expr.ListComp _ _ _ _) _) _ _ _) | (with_reducible show wpAny _ _ (exec (Stmt.For _ _ _ _ _) _) _ _ _) | (with_reducible show LCt.CompSrcT _ _ _ _ _ _ _ _ _ _ _ _ _ _ _) | (with_reducible show wpAny _ _ (pyIter _) (fun it s₂ => TurnsAt _ _ _ _ _ _ _ _ _ it s₂) _ _))
local macro_rules | `(tactic| walk_at "m steps") => `(tactic| repeat' (first | ((fail_if_success (walk_at "m stop")); first | (k_unfold; (try dsimp only)) | (k_end; wrow_close) | walk1 | (dsimp only; walk1) | (leave1; walk_say "STEP leave1"; try dsimp only))))
local macro_rules | `(tactic| walk_at "m stop") => `(tactic| with_reducible show wpAny _ _ (call (Value.ref _) _ _) _ _ _)
local macro_rules | `(tactic| walk_at "eval Name") => `(tactic| (k_here; name_kind "local"; k_dflt (refine' ld ?k1 ?k2 ?_; (case k1 => k_asm); (case k2 => ((try dsimp only); (repeat (refine look_ne (by decide) ?_)); assumption)); k_whole)))
local macro_rules | `(tactic| k_all) => `(tactic| assumption)
local macro_rules | `(tactic| walk_at "eval Name") => `(tactic| (k_here; name_kind "globalImplicit"; k_dflt (refine' nameX_B ?F ?X ?T ?e ?v ?n ?_ ?a ?b; (case F => k_asm); (case X => k_asm); (case T => k_asm); (case a => rfl); (case b => rfl); (case e => k_is); (case v => boot_by_name); (case n => decide); k_whole)))
local macro_rules | `(tactic| walk_at "eval Name") => `(tactic| (k_here; name_kind "cell"; k_dflt (refine' nameX_C ?N ?c ?m ?d ?_ ?a ?b; (case a => rfl); (case b => rfl); (case N => k_asm); (case c => rfl); (case m => k_mem); (case d => k_asm); k_whole)))
local macro_rules | `(tactic| walk_at "m stop") => `(tactic| with_reducible show wpAny _ _ (compareOp _ (Value.ref _) (Value.ref _)) _ _ _)
section
variable {w : World} {mean : ExcName → Option Value} {mg mb : Str → Option Value} {L fa : Addr} {cd : Value} {base h₀ : Heap} {m : Str → Option Value} {s : Shared} {Q : Flow → Shared → Prop} {E : Value → Shared → Prop} {C : Addr} {oC : Obj} {vC : Value} {T : List (Addr × Obj)} {led : List (Addr × Obj)} {wd : List (Int × Int)}
theorem seg5 {lr : Addr} {k : Nat} {Rs : List NR} {d : Int} {dn vl : Str} {td t1 t2 : Tok} {AD : List Addr} (B : Below callerA base [] h₀) (F : Fr h₀ L s.heap m) (X : (hd.heap_39 w.params).In h₀) (N : News h₀ L s.heap ((L + 1, oC) :: T)) (TT : Top hd.view_39 loo mean mg mb h₀) (hC : oC.data = .cell (some vC)) (hw : WordIn led vC wd) (hs : ∀ p ∈ led, p ∈ T)
    (hd0 : 0 ≤ d) (hd2 : d < 4) (hz : Rs.length ≤ 100) (hRs : ∀ r ∈ Rs, r.In T) (hl : (lr, W.listOf (Rs.map NR.ref).toArray k) ∈ T) (hAD : ∀ a ∈ AD, ∃ o, (a, o) ∈ (L + 1, oC) :: T ∧ ∀ R : NR, o ≠ R.obj)
    (hm1 : m (Str.ofString "near") = some (.ref lr)) (hm2 : m (Str.ofString "deed") = some (.int d td)) (hm3 : m (Str.ofString "told") = some (.str dn t1)) (hm4 : m (Str.ofString "value") = some (.str vl t2))
    (ret : ∀ (R : NR) led' lr' k' Rs' f fv h' tk', R.d = dn → R.v = vl → R.kd = (nkOf 0 wd).map (fun q => Dat.tuple [.int q.1, .int q.2]) → R.In ((R.t, R.obj) :: led') → (∀ p ∈ (R.t, R.obj) :: led', p.1 ∉ AD) → ((lr' = lr ∧ k' = k ∧ Rs' = Rs) ∨ lr' ∉ AD) → (∀ r ∈ Rs', r ∈ Rs ∨ r = R) → MeantR d Rs R Rs' f → AnsIs f fv →
      Fr h₀ L h' (fun y => if y = Str.ofString "first" then some fv else if y = Str.ofString "near" then some (.ref lr') else m y) → News h₀ L h' ((L + 1, oC) :: ((lr', W.listOf (Rs'.map NR.ref).toArray k') :: (R.t, R.obj) :: (led' ++ T))) → Q .next { s with heap := h', toks := tk' }) :
    wpAny (model PySem.Challenge.rw_pg0217_01.row.prog w) (lawA L fa cd) (exec st5.1 (lawE L fa cd)) Q E s := by
  revert X
  k_fill
  intro X
  dsimp only [lawE, lawA, lawD, st5]
  walk_at "m steps"
  all_goals (try exact default)
  k_dflt (refine law_near B (by k_asm) X (by k_asm) TT hw (fun p hp => List.Mem.tail _ (hs p hp)) (by decide) ?_)
  intro led' a' h2 tk2 Dk nw F2 N2
  have N3 : News h₀ L h2 ((L + 1, oC) :: (led' ++ T)) := nSub N2 (fun p hp => by
    simp only [List.mem_cons, List.mem_append] at hp ⊢
    rcases hp with h | h | h
    · exact .inr (.inl h)
    · exact .inl h
    · exact .inr (.inr h))
  clear N2
  have hkey : ∀ p ∈ led', p.1 ∉ AD := fun p hp hm => by
    obtain ⟨o, ho, _⟩ := hAD _ hm
    exact fresh_off N (nw p hp).2 _ ho rfl
  walk_at "m steps"
  all_goals (try exact default)
  (rename News h₀ L _ (_ :: (L + 1, oC) :: (led' ++ T)) => N4)
  rename_i D5 h5 F5 l5
  have hR : NR.In ((D5, ({ cls := .type "tuple", data := .seq #[.ref a', .str dn t1, .str vl t2] 0 } : Obj)) :: (L + 1, oC) :: (led' ++ T)) ⟨D5, 0, a', ((nkOf 0 wd).map (fun q => Dat.tuple [.int q.1, .int q.2])), dn, t1, vl, t2⟩ :=
    ⟨.head _, DatIn.mono (fun p hp => .tail _ (.tail _ (List.mem_append.mpr (.inl hp)))) Dk, fun x hx => by obtain ⟨q, _, rfl⟩ := List.mem_map.mp hx; rfl⟩
  have hR' : NR.In ((D5, ({ cls := .type "tuple", data := .seq #[.ref a', .str dn t1, .str vl t2] 0 } : Obj)) :: led') ⟨D5, 0, a', ((nkOf 0 wd).map (fun q => Dat.tuple [.int q.1, .int q.2])), dn, t1, vl, t2⟩ :=
    ⟨.head _, DatIn.mono (fun p hp => .tail _ hp) Dk, hR.2.2⟩
  have hT4 : ∀ p ∈ T, p ∈ (D5, ({ cls := .type "tuple", data := .seq #[.ref a', .str dn t1, .str vl t2] 0 } : Obj)) :: (L + 1, oC) :: (led' ++ T) := fun p hp => .tail _ (.tail _ (List.mem_append.mpr (.inr hp)))
  k_dflt (refine law_meant (k := k) (rs := Rs) (R := ⟨D5, 0, a', ((nkOf 0 wd).map (fun q => Dat.tuple [.int q.1, .int q.2])), dn, t1, vl, t2⟩) B F5 X N4 TT hd0 hd2 hz hR ?hrs ?hl ?_)
  case hrs => exact fun r h => ⟨hT4 _ (hRs r h).1, DatIn.mono hT4 (hRs r h).2.1, (hRs r h).2.2⟩
  case hl => exact hT4 _ hl
  intro P n lr' k' Rs' f fv h6 tk6 F6 N6 hP hlr hmem hM hfv
  have hoffR : D5 ∉ AD := fun hm => by
    obtain ⟨o, ho, hne⟩ := hAD _ hm
    have e1 := (N4 (D5, o) (by rcases List.mem_cons.mp ho with h | h; exact h ▸ .tail _ (.head _); exact hT4 _ h)).1
    have e2 := (N4 _ (.head _)).1
    rw [e2] at e1
    exact hne ⟨D5, 0, a', ((nkOf 0 wd).map (fun q => Dat.tuple [.int q.1, .int q.2])), dn, t1, vl, t2⟩ (Option.some.inj e1).symm
  have hofl : (lr' = lr ∧ k' = k ∧ Rs' = Rs) ∨ lr' ∉ AD := by
    refine hlr.imp id fun h hm => ?_
    obtain ⟨o, ho, _⟩ := hAD _ hm
    exact fresh_off N4 h (lr', o) (by rcases List.mem_cons.mp ho with h | h; exact h ▸ .tail _ (.head _); exact hT4 _ h) rfl
  clear hlr
  walk_at "m steps"
  all_goals (try exact default)
  refine ret ⟨D5, 0, a', ((nkOf 0 wd).map (fun q => Dat.tuple [.int q.1, .int q.2])), dn, t1, vl, t2⟩ led' lr' k' Rs' f fv _ _ rfl rfl rfl ?hq ?_ hofl hmem hM hfv (by k_asm) (nSub (by k_asm) (fun p hp => ?_))
  case hq => exact hR'
  · intro p hp
    rcases List.mem_cons.mp hp with rfl | hp
    · exact hoffR
    · exact hkey p hp
  · simp only [List.mem_cons, List.mem_append] at hp ⊢
    rcases hp with h | h | h | h | h
    · exact .inr (.inr (.inr (.inl h)))
    · exact .inr (.inl h)
    · exact .inr (.inr (.inl h))
    · exact .inr (.inr (.inr (.inr (.inl h))))
    · exact .inr (.inr (.inr (.inr (.inr h))))
end

end Mine
end
end
section
open PySem PySem.W PyProof.Rows PySem.Spec PySem.Calls
noncomputable section
namespace Mine
local macro_rules | `(tactic| walk_at "m none") => `(tactic| fail)
local macro_rules | `(tactic| walk_at "m none") => `(tactic| fail)
local macro_rules | `(tactic| walk_at "m none") => `(tactic| fail)
local macro_rules | `(tactic| walk_at "m none") => `(tactic| fail)
local macro_rules | `(tactic| walk_at "m none") => `(tactic| fail)
local macro_rules | `(tactic| walk_at "m none") => `(tactic| fail)
local macro_rules | `(tactic| walk_at "m none") => `(tactic| fail)
local macro_rules | `(tactic| walk_at "m none") => `(tactic| fail)
local macro_rules | `(tactic| walk_at "m none") => `(tactic| fail)
local macro_rules | `(tactic| walk_at "m none") => `(tactic| fail)
local macro_rules | `(tactic| walk_at "m none") => `(tactic| fail)
local macro_rules | `(tactic| walk_at "m none") => `(tactic| fail)
local macro_rules | `(tactic| walk_at "m none") => `(tactic| fail)
local macro_rules | `(tactic| walk_at "m none") => `(tactic| fail)
local macro_rules | `(tactic| walk_at "m none") => `(tactic| fail)
local macro_rules | `(tactic| walk_at "m none") => `(tactic| fail)
local macro_rules | `(tactic| walk_at "m none") => `(tactic| fail)
local macro_rules | `(tactic| walk_at "m none") => `(tactic| fail)
local macro_rules | `(tactic| walk_at "m none") => `(tactic| fail)
local macro_rules | `(tactic| walk_at "m none") => `(tactic| fail)
local macro_rules | `(tactic| walk_at "m none") => `(tactic| fail)
local macro_rules | `(tactic| walk_at "m none") => `(tactic| fail)
local macro_rules | `(tactic| walk_at "m none") => `(tactic| fail)
local macro_rules | `(tactic| walk_at "m none") => `(tactic| fail)
local macro_rules | `(tactic| walk_at "m none") => `(tactic| fail)
local macro_rules | `(tactic| walk_at "m none") => `(tactic| fail)
local macro_rules | `(tactic| walk_at "m none") => `(tactic| fail)
local macro_rules | `(tactic| walk_at "m none") => `(tactic| fail)
local macro_rules | `(tactic| walk_at "m none") => `(tactic| fail)
local macro_rules | `(tactic| walk_at "m none") => `(tactic| fail)
local macro_rules | `(tactic| walk_at "m args") => `(tactic| ((case kB => k_asm); (case kF => k_asm); (case kX => k_asm); (case kN => k_asm); (case kT => k_asm); (case kK => first | exact rfl | assumption); (case kd => ktr_room); (case ku => ktr_units)))
local macro_rules | `(tactic| walk_at "m stop") => `(tactic| first | (with_reducible show wpAny _ _ (exec (Stmt.Assign _ (Expr.ListComp _ _ _ _) _) _) _ _ _) | (with_reducible show wpAny _ _ (eval (Expr.ListComp _ _ _ _) _) _ _ _) | (with_reducible show wpAny _ _ (exec (Stmt.For _ _ _ _ _) _) _ _ _) | (with_reducible show LCt.CompSrcT _ _ _ _ _ _ _ _ _ _ _ _ _ _ _) | (with_reducible show wpAny _ _ (pyIter _) (fun it s₂ => TurnsAt _ _ _ _ _ _ _ _ _ it s₂) _ _))
local macro_rules | `(tactic| walk_at "m steps") => `(tactic| repeat' (first | ((fail_if_success (walk_at "m stop")); first | (k_unfold; (try dsimp only)) | (k_end; wrow_close) | walk1 | (dsimp only; walk1) | (leave1; walk_say "STEP leave1"; try dsimp only))))
local macro_rules | `(tactic| walk_at "m stop") => `(tactic| with_reducible show wpAny _ _ (call (Value.ref _) _ _) _ _ _)
local macro_rules | `(tactic| walk_at "eval Name") => `(tactic| (k_here; name_kind "local"; k_dflt (refine' ld ?k1 ?k2 ?_; (case k1 => k_asm); (case k2 => ((try dsimp only); (repeat (refine look_ne (by decide) ?_)); assumption)); k_whole)))
local macro_rules | `(tactic| k_all) => `(tactic| assumption)
local macro_rules | `(tactic| walk_at "eval Name") => `(tactic| (k_here; name_kind "globalImplicit"; k_dflt (refine' nameX_B ?F ?X ?T ?e ?v ?n ?_ ?a ?b; (case F => k_asm); (case X => k_asm); (case T => k_asm); (case a => rfl); (case b => rfl); (case e => k_is); (case v => boot_by_name); (case n => decide); k_whole)))
local macro_rules | `(tactic| walk_at "eval Name") => `(tactic| (k_here; name_kind "cell"; k_dflt (refine' nameX_C ?N ?c ?m ?d ?_ ?a ?b; (case a => rfl); (case b => rfl); (case N => k_asm); (case c => rfl); (case m => k_mem); (case d => k_asm); k_whole)))
local macro_rules | `(tactic| walk_at "m stop") => `(tactic| with_reducible show wpAny _ _ (compareOp _ (Value.ref _) (Value.ref _)) _ _ _)
local macro_rules | `(tactic| walk_at "m stop") => `(tactic| with_reducible show LCp.SrcLP _ _ _ _ _ _ _ _ _ _ _ _ _ _ _)
local macro_rules | `(tactic| walk_at "m stop") => `(tactic| with_reducible show wpAny _ _ (call (Value.builtin "str.join") _ _) _ _ _)
section
variable {w : World} {mean : ExcName → Option Value} {mg mb : Str → Option Value} {L fa : Addr} {cd : Value} {base h₀ : Heap} {m : Str → Option Value} {s : Shared} {Q : Flow → Shared → Prop} {E : Value → Shared → Prop} {C : Addr} {oC : Obj} {vC : Value} {T : List (Addr × Obj)} {led : List (Addr × Obj)} {wd : List (Int × Int)}
theorem seg6 (B : Below callerA base [] h₀) (F : Fr h₀ L s.heap m) (X : (hd.heap_39 w.params).In h₀) (N : News h₀ L s.heap ((L + 1, oC) :: T)) (TT : Top hd.view_39 loo mean mg mb h₀) (hC : oC.data = .cell (some vC)) (hw : WordIn led vC wd) (hs : ∀ p ∈ led, p ∈ T)
    (ret : ∀ t' h' tk', Fr h₀ L h' (fun y => if y = Str.ofString "told" then some (.str (shTx (wd.map (·.1))) t') else m y) → News h₀ L h' ((L + 1, oC) :: T) → Q .next { s with heap := h', toks := tk' }) :
    wpAny (model PySem.Challenge.rw_pg0217_01.row.prog w) (lawA L fa cd) (exec st6.1 (lawE L fa cd)) Q E s := by
  have hwo := word_WOk hw
  have e := told_sh hwo
  obtain ⟨l, n, es, rfl, rfl, rfl, hle, hes⟩ := word_rep hw
  rw [List.map_map] at e
  clear hw hwo
  revert X
  k_fill
  intro X
  dsimp only [lawE, lawA, lawD, st6]
  walk_at "m steps"
  all_goals (try exact default)
  k_dflt (refine LCp.ListComp_P (F₀ := by k_asm) (by with_unfolding_all rfl) (by decide) (by rfl) (by decide) (by rfl) (by rfl) (by decide) ?_)
  walk_at "m steps"
  all_goals (try exact default)
  refine LCp.SrcLP.ledger (k := n) rfl (by k_asm) N (.tail _ (hs _ (.head _))) (by rw [List.size_toArray, List.length_map]; exact Nat.le_trans hle (by decide)) ?_
  intro g1
  refine rest_ptext es (fun e => e.t) WE.obj (fun e => .int e.f e.tf) (fun e => .int e.b e.tb) (fun e => Str.ofString "^" ++ Str.mk #[(64 + e.f).toNat]) (.inr ⟨_, .tail _ (hs _ (.head _)), rfl, _, rfl⟩) ?_ ?_ ?_
  · intro r hr
    exact ⟨.tail _ (hs _ (.tail _ (List.mem_map.mpr ⟨r, hr, rfl⟩))), rfl, r.k, rfl⟩
  · intro r hr I oI C oC9 D ys m₂ h2 tk2 E' hoC hmx hmy F2 N2 off ne
    obtain ⟨b1, b2, b3, b4⟩ := hes r hr
    clear hes e hs ret
    k_steps
    all_goals first
      | exact (⟨_, _, rfl, by k_asm, by k_asm⟩ : Same _ _ _ _ _ _)
      | exact ⟨⟨_, rfl⟩, _, _, rfl, by k_asm, by k_asm⟩
  · intro l2 hl2 D hD tkD FD ND offD
    walk_at "m steps"
    all_goals (try exact default)
    refine SC.join (l := l2) ⟨_, (ND _ (.head _)).1, rfl, _, rfl⟩ hl2 (word_ok2 hle _ (fun _ => rfl) (fun _ _ => rfl)) ?_
    intro t9 k9
    rw [show (es.map fun e => Str.ofString "^" ++ Str.mk #[(64 + e.f).toNat]) = es.map ((fun q : Int × Int => Str.ofString "^" ++ Str.mk #[(64 + q.1).toNat]) ∘ fun e => (e.f, e.b)) from rfl, e]
    walk_at "m steps"
    all_goals (try exact default)
    exact ret _ _ _ (by k_asm) (nSub (by k_asm) (fun p hp => .tail _ hp))
end

end Mine
end
end
section
open PySem PySem.W PyProof.Rows PySem.Spec PySem.Calls
noncomputable section
namespace Mine
local macro_rules | `(tactic| walk_at "m args") => `(tactic| ((case kB => k_asm); (case kF => k_asm); (case kX => k_asm); (case kN => k_asm); (case kT => k_asm); (case kK => first | exact rfl | assumption); (case kd => ktr_room); (case ku => ktr_units)))
local macro_rules | `(tactic| walk_at "m stop") => `(tactic| first | (with_reducible show wpAny _ _ (exec (Stmt.Assign _ (Expr.ListComp _ _ _ _) _) _) _ _ _) | (with_reducible show wpAny _ _ (eval (Expr.ListComp _ _ _ _) _) _ _ _) | (with_reducible show wpAny _ _ (exec (Stmt.For _ _ _ _ _) _) _ _ _) | (with_reducible show LCt.CompSrcT _ _ _ _ _ _ _ _ _ _ _ _ _ _ _) | (with_reducible show wpAny _ _ (pyIter _) (fun it s₂ => TurnsAt _ _ _ _ _ _ _ _ _ it s₂) _ _))
local macro_rules | `(tactic| walk_at "m steps") => `(tactic| repeat' (first | ((fail_if_success (walk_at "m stop")); first | (k_unfold; (try dsimp only)) | (k_end; wrow_close) | walk1 | (dsimp only; walk1) | (leave1; walk_say "STEP leave1"; try dsimp only))))
local macro_rules | `(tactic| walk_at "m stop") => `(tactic| with_reducible show wpAny _ _ (call (Value.ref _) _ _) _ _ _)
local macro_rules | `(tactic| walk_at "eval Name") => `(tactic| (k_here; name_kind "local"; k_dflt (refine' ld ?k1 ?k2 ?_; (case k1 => k_asm); (case k2 => ((try dsimp only); (repeat (refine look_ne (by decide) ?_)); assumption)); k_whole)))
local macro_rules | `(tactic| k_all) => `(tactic| assumption)
local macro_rules | `(tactic| walk_at "eval Name") => `(tactic| (k_here; name_kind "globalImplicit"; k_dflt (refine' nameX_B ?F ?X ?T ?e ?v ?n ?_ ?a ?b; (case F => k_asm); (case X => k_asm); (case T => k_asm); (case a => rfl); (case b => rfl); (case e => k_is); (case v => boot_by_name); (case n => decide); k_whole)))
local macro_rules | `(tactic| walk_at "eval Name") => `(tactic| (k_here; name_kind "cell"; k_dflt (refine' nameX_C ?N ?c ?m ?d ?_ ?a ?b; (case a => rfl); (case b => rfl); (case N => k_asm); (case c => rfl); (case m => k_mem); (case d => k_asm); k_whole)))
local macro_rules | `(tactic| walk_at "m stop") => `(tactic| with_reducible show wpAny _ _ (compareOp _ (Value.ref _) (Value.ref _)) _ _ _)
section
variable {w : World} {mean : ExcName → Option Value} {mg mb : Str → Option Value} {L fa : Addr} {cd : Value} {base h₀ : Heap} {m : Str → Option Value} {s : Shared} {Q : Flow → Shared → Prop} {E : Value → Shared → Prop} {C : Addr} {oC : Obj} {vC : Value} {T : List (Addr × Obj)} {led : List (Addr × Obj)} {wd : List (Int × Int)}
theorem seg7 {lr : Addr} {k : Nat} {Rs : List NR} {d : Int} {dn vl : Str} {td t1 t2 : Tok} {AD : List Addr} (B : Below callerA base [] h₀) (F : Fr h₀ L s.heap m) (X : (hd.heap_39 w.params).In h₀) (N : News h₀ L s.heap ((L + 1, oC) :: T)) (TT : Top hd.view_39 loo mean mg mb h₀) (hC : oC.data = .cell (some vC)) (hw : WordIn led vC wd) (hs : ∀ p ∈ led, p ∈ T)
    (hd0 : 0 ≤ d) (hd2 : d < 4) (hz : Rs.length ≤ 100) (hRs : ∀ r ∈ Rs, r.In T) (hl : (lr, W.listOf (Rs.map NR.ref).toArray k) ∈ T) (hAD : ∀ a ∈ AD, ∃ o, (a, o) ∈ (L + 1, oC) :: T ∧ ∀ R : NR, o ≠ R.obj)
    (hm1 : m (Str.ofString "far") = some (.ref lr)) (hm2 : m (Str.ofString "deed") = some (.int d td)) (hm3 : m (Str.ofString "told") = some (.str dn t1)) (hm4 : m (Str.ofString "value") = some (.str vl t2))
    (ret : ∀ (R : NR) led' lr' k' Rs' f fv h' tk', R.d = dn → R.v = vl → R.kd = (wd.map (·.1)).map Dat.int → R.In ((R.t, R.obj) :: led') → (∀ p ∈ (R.t, R.obj) :: led', p.1 ∉ AD) → ((lr' = lr ∧ k' = k ∧ Rs' = Rs) ∨ lr' ∉ AD) → (∀ r ∈ Rs', r ∈ Rs ∨ r = R) → MeantR d Rs R Rs' f → AnsIs f fv →
      Fr h₀ L h' (fun y => if y = Str.ofString "second" then some fv else if y = Str.ofString "far" then some (.ref lr') else m y) → News h₀ L h' ((L + 1, oC) :: ((lr', W.listOf (Rs'.map NR.ref).toArray k') :: (R.t, R.obj) :: (led' ++ T))) → Q .next { s with heap := h', toks := tk' }) :
    wpAny (model PySem.Challenge.rw_pg0217_01.row.prog w) (lawA L fa cd) (exec st7.1 (lawE L fa cd)) Q E s := by
  revert X
  k_fill
  intro X
  dsimp only [lawE, lawA, lawD, st7]
  walk_at "m steps"
  all_goals (try exact default)
  k_dflt (refine law_far B (by k_asm) X (by k_asm) TT hw (fun p hp => List.Mem.tail _ (hs p hp)) ?_)
  intro led' a' h2 tk2 Dk nw F2 N2
  have N3 : News h₀ L h2 ((L + 1, oC) :: (led' ++ T)) := nSub N2 (fun p hp => by
    simp only [List.mem_cons, List.mem_append] at hp ⊢
    rcases hp with h | h | h
    · exact .inr (.inl h)
    · exact .inl h
    · exact .inr (.inr h))
  clear N2
  have hkey : ∀ p ∈ led', p.1 ∉ AD := fun p hp hm => by
    obtain ⟨o, ho, _⟩ := hAD _ hm
    exact fresh_off N (nw p hp).2 _ ho rfl
  walk_at "m steps"
  all_goals (try exact default)
  (rename News h₀ L _ (_ :: (L + 1, oC) :: (led' ++ T)) => N4)
  rename_i D5 h5 F5 l5
  have hR : NR.In ((D5, ({ cls := .type "tuple", data := .seq #[.ref a', .str dn t1, .str vl t2] 0 } : Obj)) :: (L + 1, oC) :: (led' ++ T)) ⟨D5, 0, a', ((wd.map (·.1)).map Dat.int), dn, t1, vl, t2⟩ :=
    ⟨.head _, DatIn.mono (fun p hp => .tail _ (.tail _ (List.mem_append.mpr (.inl hp)))) Dk, fun x hx => by obtain ⟨q, _, rfl⟩ := List.mem_map.mp hx; rfl⟩
  have hR' : NR.In ((D5, ({ cls := .type "tuple", data := .seq #[.ref a', .str dn t1, .str vl t2] 0 } : Obj)) :: led') ⟨D5, 0, a', ((wd.map (·.1)).map Dat.int), dn, t1, vl, t2⟩ :=
    ⟨.head _, DatIn.mono (fun p hp => .tail _ hp) Dk, hR.2.2⟩
  have hT4 : ∀ p ∈ T, p ∈ (D5, ({ cls := .type "tuple", data := .seq #[.ref a', .str dn t1, .str vl t2] 0 } : Obj)) :: (L + 1, oC) :: (led' ++ T) := fun p hp => .tail _ (.tail _ (List.mem_append.mpr (.inr hp)))
  k_dflt (refine law_meant (k := k) (rs := Rs) (R := ⟨D5, 0, a', ((wd.map (·.1)).map Dat.int), dn, t1, vl, t2⟩) B F5 X N4 TT hd0 hd2 hz hR ?hrs ?hl ?_)
  case hrs => exact fun r h => ⟨hT4 _ (hRs r h).1, DatIn.mono hT4 (hRs r h).2.1, (hRs r h).2.2⟩
  case hl => exact hT4 _ hl
  intro P n lr' k' Rs' f fv h6 tk6 F6 N6 hP hlr hmem hM hfv
  have hoffR : D5 ∉ AD := fun hm => by
    obtain ⟨o, ho, hne⟩ := hAD _ hm
    have e1 := (N4 (D5, o) (by rcases List.mem_cons.mp ho with h | h; exact h ▸ .tail _ (.head _); exact hT4 _ h)).1
    have e2 := (N4 _ (.head _)).1
    rw [e2] at e1
    exact hne ⟨D5, 0, a', ((wd.map (·.1)).map Dat.int), dn, t1, vl, t2⟩ (Option.some.inj e1).symm
  have hofl : (lr' = lr ∧ k' = k ∧ Rs' = Rs) ∨ lr' ∉ AD := by
    refine hlr.imp id fun h hm => ?_
    obtain ⟨o, ho, _⟩ := hAD _ hm
    exact fresh_off N4 h (lr', o) (by rcases List.mem_cons.mp ho with h | h; exact h ▸ .tail _ (.head _); exact hT4 _ h) rfl
  clear hlr
  walk_at "m steps"
  all_goals (try exact default)
  refine ret ⟨D5, 0, a', ((wd.map (·.1)).map Dat.int), dn, t1, vl, t2⟩ led' lr' k' Rs' f fv _ _ rfl rfl rfl ?hq ?_ hofl hmem hM hfv (by k_asm) (nSub (by k_asm) (fun p hp => ?_))
  case hq => exact hR'
  · intro p hp
    rcases List.mem_cons.mp hp with rfl | hp
    · exact hoffR
    · exact hkey p hp
  · simp only [List.mem_cons, List.mem_append] at hp ⊢
    rcases hp with h | h | h | h | h
    · exact .inr (.inr (.inr (.inl h)))
    · exact .inr (.inl h)
    · exact .inr (.inr (.inl h))
    · exact .inr (.inr (.inr (.inr (.inl h))))
    · exact .inr (.inr (.inr (.inr (.inr h))))
end

end Mine
end
end
section
open PySem PySem.W PyProof.Rows PySem.Spec PySem.Calls
noncomputable section
namespace Mine
local macro_rules | `(tactic| walk_at "m none") => `(tactic| fail)
local macro_rules | `(tactic| walk_at "m none") => `(tactic| fail)
local macro_rules | `(tactic| walk_at "m none") => `(tactic| fail)
local macro_rules | `(tactic| walk_at "m none") => `(tactic| fail)
local macro_rules | `(tactic| walk_at "m none") => `(tactic| fail)
local macro_rules | `(tactic| walk_at "m none") => `(tactic| fail)
local macro_rules | `(tactic| walk_at "m none") => `(tactic| fail)
local macro_rules | `(tactic| walk_at "m none") => `(tactic| fail)
local macro_rules | `(tactic| walk_at "m none") => `(tactic| fail)
local macro_rules | `(tactic| walk_at "m none") => `(tactic| fail)
local macro_rules | `(tactic| walk_at "m none") => `(tactic| fail)
local macro_rules | `(tactic| walk_at "m none") => `(tactic| fail)
local macro_rules | `(tactic| walk_at "m none") => `(tactic| fail)
local macro_rules | `(tactic| walk_at "m none") => `(tactic| fail)
local macro_rules | `(tactic| walk_at "m none") => `(tactic| fail)
local macro_rules | `(tactic| walk_at "m none") => `(tactic| fail)
local macro_rules | `(tactic| walk_at "m none") => `(tactic| fail)
local macro_rules | `(tactic| walk_at "m none") => `(tactic| fail)
local macro_rules | `(tactic| walk_at "m none") => `(tactic| fail)
local macro_rules | `(tactic| walk_at "m none") => `(tactic| fail)
local macro_rules | `(tactic| walk_at "m none") => `(tactic| fail)
local macro_rules | `(tactic| walk_at "m none") => `(tactic| fail)
local macro_rules | `(tactic| walk_at "m none") => `(tactic| fail)
local macro_rules | `(tactic| walk_at "m none") => `(tactic| fail)
local macro_rules | `(tactic| walk_at "m none") => `(tactic| fail)
local macro_rules | `(tactic| walk_at "m none") => `(tactic| fail)
local macro_rules | `(tactic| walk_at "m none") => `(tactic| fail)
local macro_rules | `(tactic| walk_at "m none") => `(tactic| fail)
local macro_rules | `(tactic| walk_at "m none") => `(tactic| fail)
local macro_rules | `(tactic| walk_at "m none") => `(tactic| fail)
local macro_rules | `(tactic| walk_at "m args") => `(tactic| ((case kB => k_asm); (case kF => k_asm); (case kX => k_asm); (case kN => k_asm); (case kT => k_asm); (case kK => first | exact rfl | assumption); (case kd => ktr_room); (case ku => ktr_units)))
local macro_rules | `(tactic| walk_at "m stop") => `(tactic| first | (with_reducible show wpAny _ _ (exec (Stmt.Assign _ (Expr.ListComp _ _ _ _) _) _) _ _ _) | (with_reducible show wpAny _ _ (eval (Expr.ListComp _ _ _ _) _) _ _ _) | (with_reducible show wpAny _ _ (exec (Stmt.For _ _ _ _ _) _) _ _ _) | (with_reducible show LCt.CompSrcT _ _ _ _ _ _ _ _ _ _ _ _ _ _ _) | (with_reducible show wpAny _ _ (pyIter _) (fun it s₂ => TurnsAt _ _ _ _ _ _ _ _ _ it s₂) _ _))
local macro_rules | `(tactic| walk_at "m steps") => `(tactic| repeat' (first | ((fail_if_success (walk_at "m stop")); first | (k_unfold; (try dsimp only)) | (k_end; wrow_close) | walk1 | (dsimp only; walk1) | (leave1; walk_say "STEP leave1"; try dsimp only))))
local macro_rules | `(tactic| walk_at "m stop") => `(tactic| with_reducible show wpAny _ _ (call (Value.ref _) _ _) _ _ _)
local macro_rules | `(tactic| walk_at "eval Name") => `(tactic| (k_here; name_kind "local"; k_dflt (refine' ld ?k1 ?k2 ?_; (case k1 => k_asm); (case k2 => ((try dsimp only); (repeat (refine look_ne (by decide) ?_)); assumption)); k_whole)))
local macro_rules | `(tactic| k_all) => `(tactic| assumption)
local macro_rules | `(tactic| walk_at "eval Name") => `(tactic| (k_here; name_kind "globalImplicit"; k_dflt (refine' nameX_B ?F ?X ?T ?e ?v ?n ?_ ?a ?b; (case F => k_asm); (case X => k_asm); (case T => k_asm); (case a => rfl); (case b => rfl); (case e => k_is); (case v => boot_by_name); (case n => decide); k_whole)))
local macro_rules | `(tactic| walk_at "eval Name") => `(tactic| (k_here; name_kind "cell"; k_dflt (refine' nameX_C ?N ?c ?m ?d ?_ ?a ?b; (case a => rfl); (case b => rfl); (case N => k_asm); (case c => rfl); (case m => k_mem); (case d => k_asm); k_whole)))
local macro_rules | `(tactic| walk_at "m stop") => `(tactic| with_reducible show wpAny _ _ (compareOp _ (Value.ref _) (Value.ref _)) _ _ _)
section
variable {w : World} {mean : ExcName → Option Value} {mg mb : Str → Option Value} {L fa : Addr} {cd : Value} {base h₀ : Heap} {m : Str → Option Value} {s : Shared} {Q : Flow → Shared → Prop} {E : Value → Shared → Prop} {C : Addr} {oC : Obj} {vC : Value} {T : List (Addr × Obj)} {led : List (Addr × Obj)} {wd : List (Int × Int)}
theorem seg8 {D : Addr} {v1 v2 w1 w2 : Value} {a1 a2 : Option Str} (B : Below callerA base [] h₀) (F : Fr h₀ L s.heap m) (X : (hd.heap_39 w.params).In h₀) (N : News h₀ L s.heap ((L + 1, oC) :: T)) (TT : Top hd.view_39 loo mean mg mb h₀)
    (hD : (D, W.listOf #[v1, v2] 0) ∈ T) (h1 : AnsIs a1 v1) (h2 : AnsIs a2 v2) (h3 : AnsIs a1 w1) (h4 : AnsIs a2 w2) (o1 : ∀ x, a1 = some x → PyData.strOk x = true) (o2 : ∀ x, a2 = some x → PyData.strOk x = true)
    (hm1 : m (Str.ofString "answers") = some (.ref D)) (hm2 : m (Str.ofString "first") = some w1) (hm3 : m (Str.ofString "second") = some w2)
    (ret : ∀ h' tk', Fr h₀ L h' m → News h₀ L h' ((L + 1, oC) :: T) → Q .next { s with heap := h', toks := tk' }) :
    wpAny (model PySem.Challenge.rw_pg0217_01.row.prog w) (lawA L fa cd) (exec st8.1 (lawE L fa cd)) Q E s := by
  revert X
  k_fill
  intro X
  dsimp only [lawE, lawA, lawD, st8]
  walk_at "m steps"
  all_goals (try exact default)
  k_dflt (refine ne_same (n₁ := []) (n₂ := []) (ka := 0) (kb := 0) (xs := [v1, v2]) (ys := [w1, w2]) (ds := [ansDat a1, ansDat a2]) (by k_asm) (oa := W.listOf #[v1, v2] 0) (ob := W.listOf #[w1, w2] 0) ?ma rfl rfl ?Da (fun _ h => nomatch h) ?mb rfl rfl ?Db (fun _ h => nomatch h) ?ha ?hu ?_)
  case ma => exact .tail _ (.tail _ hD)
  case mb => exact .head _
  case Da => exact .cons (ans_in h1) (.cons (ans_in h2) .nil)
  case Db => exact .cons (ans_in h3) (.cons (ans_in h4) .nil)
  case ha => exact fun d hd => by rcases List.mem_cons.mp hd with rfl | hd; exact ans_ok o1; rw [List.mem_singleton.mp hd]; exact ans_ok o2
  case hu => ktr_units
  walk_at "m steps"
  all_goals (try exact default)
  exact ret _ _ (by k_asm) (nSub (by k_asm) (fun p hp => .tail _ hp))
end

end Mine
end
end
section
open PySem PySem.W PyProof.Rows PySem.Spec PySem.Calls
noncomputable section
namespace Mine
local macro_rules | `(tactic| walk_at "m args") => `(tactic| ((case kB => k_asm); (case kF => k_asm); (case kX => k_asm); (case kN => k_asm); (case kT => k_asm); (case kK => first | exact rfl | assumption); (case kd => ktr_room); (case ku => ktr_units)))
local macro_rules | `(tactic| walk_at "m stop") => `(tactic| first | (with_reducible show wpAny _ _ (exec (Stmt.Assign _ (Expr.ListComp _ _ _ _) _) _) _ _ _) | (with_reducible show wpAny _ _ (eval (Expr.ListComp _ _ _ _) _) _ _ _) | (with_reducible show wpAny _ _ (exec (Stmt.For _ _ _ _ _) _) _ _ _) | (with_reducible show LCt.CompSrcT _ _ _ _ _ _ _ _ _ _ _ _ _ _ _) | (with_reducible show wpAny _ _ (pyIter _) (fun it s₂ => TurnsAt _ _ _ _ _ _ _ _ _ it s₂) _ _))
local macro_rules | `(tactic| walk_at "m steps") => `(tactic| repeat' (first | ((fail_if_success (walk_at "m stop")); first | (k_unfold; (try dsimp only)) | (k_end; wrow_close) | walk1 | (dsimp only; walk1) | (leave1; walk_say "STEP leave1"; try dsimp only))))
local macro_rules | `(tactic| walk_at "m stop") => `(tactic| with_reducible show wpAny _ _ (call (Value.ref _) _ _) _ _ _)
local macro_rules | `(tactic| walk_at "eval Name") => `(tactic| (k_here; name_kind "local"; k_dflt (refine' ld ?k1 ?k2 ?_; (case k1 => k_asm); (case k2 => ((try dsimp only); (repeat (refine look_ne (by decide) ?_)); assumption)); k_whole)))
local macro_rules | `(tactic| k_all) => `(tactic| assumption)
local macro_rules | `(tactic| walk_at "eval Name") => `(tactic| (k_here; name_kind "globalImplicit"; k_dflt (refine' nameX_B ?F ?X ?T ?e ?v ?n ?_ ?a ?b; (case F => k_asm); (case X => k_asm); (case T => k_asm); (case a => rfl); (case b => rfl); (case e => k_is); (case v => boot_by_name); (case n => decide); k_whole)))
local macro_rules | `(tactic| walk_at "eval Name") => `(tactic| (k_here; name_kind "cell"; k_dflt (refine' nameX_C ?N ?c ?m ?d ?_ ?a ?b; (case a => rfl); (case b => rfl); (case N => k_asm); (case c => rfl); (case m => k_mem); (case d => k_asm); k_whole)))
local macro_rules | `(tactic| walk_at "m stop") => `(tactic| with_reducible show wpAny _ _ (compareOp _ (Value.ref _) (Value.ref _)) _ _ _)
section
variable {w : World} {mean : ExcName → Option Value} {mg mb : Str → Option Value} {L fa : Addr} {cd : Value} {base h₀ : Heap} {m : Str → Option Value} {s : Shared} {Q : Flow → Shared → Prop} {E : Value → Shared → Prop} {C : Addr} {oC : Obj} {vC : Value} {T : List (Addr × Obj)} {led : List (Addr × Obj)} {wd : List (Int × Int)}
theorem rows_dat : ∀ rs : List HR, DatAll (rowsL rs) (rs.map HR.ref) (rs.map fun r => Dat.tuple [.str r.k, .str r.v])
  | [] => .nil
  | r :: rs => .cons (DatIn.tuple (vs := [.str r.k r.kt, .str r.v r.vt]) (n := r.n) (List.Mem.head _) (.cons (.str _ _) (.cons (.str _ _) .nil))) ((rows_dat rs).mono fun p hp => .tail _ hp)
theorem rows_ok {rs : List HR} (h : ∀ r ∈ rs, PyData.strOk r.k = true ∧ PyData.strOk r.v = true) : ∀ d ∈ rs.map (fun r => Dat.tuple [.str r.k, .str r.v]), kqdOk 8 d = true := fun d hd => by
  obtain ⟨r, hr, rfl⟩ := List.mem_map.mp hd
  have z := h r hr
  simp only [kqdOk, List.all_cons, List.all_nil, z.1, z.2, Bool.and_true]
theorem seg9 {ta tb : TB} {k1 k2 kn kf : Nat} {rs rs2 : List HR} {Rs Rs2 : List NR} {ln lf : Addr} (B : Below callerA base [] h₀) (F : Fr h₀ L s.heap m) (X : (hd.heap_39 w.params).In h₀) (N : News h₀ L s.heap ((L + 1, oC) :: (ta.led k1 rs ++ (tb.led k2 rs2 ++ T)))) (TT : Top hd.view_39 loo mean mg mb h₀)
    (hz : rs.length ≤ 100) (hz2 : rs2.length ≤ 100) (hZ : Rs.length ≤ 100) (hZ2 : Rs2.length ≤ 100) (hr : ∀ r ∈ rs, (r.t, r.obj) ∈ T) (hr2 : ∀ r ∈ rs2, (r.t, r.obj) ∈ T) (hRs : ∀ r ∈ Rs, r.In T) (hRs2 : ∀ r ∈ Rs2, r.In T)
    (hl : (ln, W.listOf (Rs.map NR.ref).toArray kn) ∈ T) (hl2 : (lf, W.listOf (Rs2.map NR.ref).toArray kf) ∈ T)
    (hE : rs.map (fun r => (r.k, r.v)) = Rs.map fun R => (R.d, R.v)) (hE2 : rs2.map (fun r => (r.k, r.v)) = Rs2.map fun R => (R.d, R.v))
    (ho : ∀ r ∈ rs, PyData.strOk r.k = true ∧ PyData.strOk r.v = true) (ho2 : ∀ r ∈ rs2, PyData.strOk r.k = true ∧ PyData.strOk r.v = true)
    (hm1 : m (Str.ofString "lifted") = some (.ref ta.x)) (hm2 : m (Str.ofString "shown") = some (.ref tb.x)) (hm3 : m (Str.ofString "near") = some (.ref ln)) (hm4 : m (Str.ofString "far") = some (.ref lf))
    (ret : ∀ h' tk', Fr h₀ L h' m → News h₀ L h' ((L + 1, oC) :: (ta.led k1 rs ++ (tb.led k2 rs2 ++ T))) → Q .next { s with heap := h', toks := tk' }) :
    wpAny (model PySem.Challenge.rw_pg0217_01.row.prog w) (lawA L fa cd) (exec st9.1 (lawE L fa cd)) Q E s := by
  revert X
  k_fill
  intro X
  dsimp only [lawE, lawA, lawD, st9]
  have hs1 : ∀ p ∈ ta.led k1 rs, p ∈ (L + 1, oC) :: (ta.led k1 rs ++ (tb.led k2 rs2 ++ T)) := fun p hp => .tail _ (List.mem_append.mpr (.inl hp))
  have hs2 : ∀ p ∈ tb.led k2 rs2, p ∈ (L + 1, oC) :: (ta.led k1 rs ++ (tb.led k2 rs2 ++ T)) := fun p hp => .tail _ (List.mem_append.mpr (.inr (List.mem_append.mpr (.inl hp))))
  have hsT : ∀ p ∈ T, p ∈ (L + 1, oC) :: (ta.led k1 rs ++ (tb.led k2 rs2 ++ T)) := fun p hp => .tail _ (List.mem_append.mpr (.inr (List.mem_append.mpr (.inr hp))))
  obtain ⟨al, eal⟩ : ∃ al, al = (L + 1, oC) :: (ta.led k1 rs ++ (tb.led k2 rs2 ++ T)) := ⟨_, rfl⟩
  have N2 := N
  simp only [TB.led, tab, List.cons_append, List.nil_append] at N2
  walk_at "m steps"
  all_goals (try exact default)
  (try dsimp only [List.append_nil])
  k_dflt (refine law_items (tb := ta) (k := k1) (rs := rs) B (by k_asm) X N TT hz hs1 ?_)
  intro D2 o2 h2 tk2 F2 M2 hfr2 hc2 hd2
  clear N2
  walk_at "m steps"
  all_goals (try exact default)
  k_dflt (refine LCg.ListComp_U (F₀ := by k_asm) (by rfl) (by decide) (by rfl) (by decide) (by rfl) ?_)
  walk_at "m steps"
  all_goals (try exact default)
  refine LCg.CompSrc.ledger rfl (by k_asm) M2 (.tail _ (hsT _ hl)) (by rw [List.size_toArray, List.length_map]; exact Nat.le_trans hZ (by decide)) ?_
  intro g2
  refine rest_dat Rs NR.ref (fun R => Dat.tuple [.str R.d, .str R.v]) (fun gl => .inr ⟨_, List.mem_append.mpr (.inr (.tail _ (hsT _ hl))), rfl, _, rfl⟩) ?_ ?_
  · intro r hr gl I oI C oC9 D9 ys m₂ h3 tk3 E' hoC hmx F3 N3 off ne
    have hob : (r.t, ({ cls := .type "tuple", data := .seq #[.ref r.ka, .str r.d r.dt, .str r.v r.vt] r.n } : Obj)) ∈ (D2, o2) :: (L + 1, oC) :: (ta.led k1 rs ++ (tb.led k2 rs2 ++ T)) := .tail _ (hsT _ (hRs r hr).1)
    have hT : IsTup h3 r.t #[.ref r.ka, .str r.d r.dt, .str r.v r.vt] := ⟨_, (N3 _ (.tail _ (.tail _ (.tail _ (List.mem_append.mpr (.inr hob)))))).1, rfl, r.n, rfl⟩
    simp only [NR.ref] at hmx
    k_steps
    k_dflt (refine slice_tuple_from F3 N3 hT (a := 1) (Nat.le_of_ble_eq_true rfl) (Nat.le_of_ble_eq_true rfl) ?_)
    intro h4 F4 N4
    have hI := Heap.lt_size (N3 (I, oI) (.head _)).1
    have hC9 := Heap.lt_size (N3 (C, oC9) (.tail _ (.head _))).1
    have hD9 := Heap.lt_size (N3 (D9, LCg.lst ys) (.tail _ (.tail _ (.head _)))).1
    refine ⟨_, _, [_], rfl, F4, nSub N4 (fun p hp => ?_), ⟨⟨Nat.ne_of_gt (Nat.lt_succ_of_lt hI), Nat.ne_of_gt (Nat.lt_succ_of_lt hC9), Nat.ne_of_gt (Nat.lt_succ_of_lt hD9)⟩, trivial⟩, DatIn.tuple (vs := [.str r.d r.dt, .str r.v r.vt]) (n := 0) (List.Mem.head _) (.cons (.str _ _) (.cons (.str _ _) .nil))⟩
    rcases List.mem_cons.mp hp with rfl | hp
    · exact .tail _ (.head _)
    · rcases List.mem_cons.mp hp with rfl | hp
      · exact .tail _ (.tail _ (.head _))
      · rcases List.mem_cons.mp hp with rfl | hp
        · exact .tail _ (.tail _ (.tail _ (.head _)))
        · rcases List.mem_cons.mp hp with rfl | hp
          · exact .head _
          · exact .tail _ (.tail _ (.tail _ (.tail _ hp)))
  intro gl2 ys2 hys2 D52 h52 tk52 F52 N52 off52
  walk_at "m steps"
  all_goals (try exact default)
  have hds2 : Rs.map (fun R => Dat.tuple [.str R.d, .str R.v]) = rs.map fun r => Dat.tuple [.str r.k, .str r.v] := by
    have := congrArg (List.map fun q : Str × Str => Dat.tuple [.str q.1, .str q.2]) hE
    rw [List.map_map, List.map_map] at this
    exact this.symm
  rw [hds2] at hys2
  k_dflt (refine ne_same (oa := o2) (ob := LCg.lst ys2) (n₁ := rowsL rs) (n₂ := gl2) (xs := rs.map HR.ref) (ys := ys2) (ds := rs.map fun r => Dat.tuple [.str r.k, .str r.v]) N52 ?ma hc2 hd2 (rows_dat rs) ?sa (.head _) rfl rfl hys2 ?sb ?ha ?hu ?_)
  case ma => exact .tail _ (List.mem_append.mpr (.inr (.head _)))
  case sa => exact fun p hp => by obtain ⟨r, h, rfl⟩ := List.mem_map.mp hp; exact .tail _ (List.mem_append.mpr (.inr (.tail _ (hsT _ (hr r h)))))
  case sb => exact fun p hp => .tail _ (List.mem_append.mpr (.inl hp))
  case ha => exact rows_ok ho
  case hu => ktr_units
  have N62 : News h₀ L h52 ((L + 1, oC) :: (ta.led k1 rs ++ (tb.led k2 rs2 ++ T))) := nSub N52 (fun p hp => .tail _ (List.mem_append.mpr (.inr (.tail _ hp))))
  clear N52 M2 hys2 off52 hds2
  have N3 := N62
  simp only [TB.led, tab, List.cons_append, List.nil_append] at N3
  walk_at "m steps"
  all_goals (try exact default)
  (try dsimp only [List.append_nil])
  k_dflt (refine law_items (tb := tb) (k := k2) (rs := rs2) B (by k_asm) X N62 TT hz2 hs2 ?_)
  intro D3 o3 h3 tk3 F3 M3 hfr3 hc3 hd3
  clear N3
  walk_at "m steps"
  all_goals (try exact default)
  k_dflt (refine LCg.ListComp_U (F₀ := by k_asm) (by rfl) (by decide) (by rfl) (by decide) (by rfl) ?_)
  walk_at "m steps"
  all_goals (try exact default)
  refine LCg.CompSrc.ledger rfl (by k_asm) M3 (.tail _ (hsT _ hl2)) (by rw [List.size_toArray, List.length_map]; exact Nat.le_trans hZ2 (by decide)) ?_
  intro g3
  refine rest_dat Rs2 NR.ref (fun R => Dat.tuple [.str R.d, .str R.v]) (fun gl => .inr ⟨_, List.mem_append.mpr (.inr (.tail _ (hsT _ hl2))), rfl, _, rfl⟩) ?_ ?_
  · intro r hr gl I oI C oC9 D9 ys m₂ h3 tk3 E' hoC hmx F3 N3 off ne
    have hob : (r.t, ({ cls := .type "tuple", data := .seq #[.ref r.ka, .str r.d r.dt, .str r.v r.vt] r.n } : Obj)) ∈ (D3, o3) :: (L + 1, oC) :: (ta.led k1 rs ++ (tb.led k2 rs2 ++ T)) := .tail _ (hsT _ (hRs2 r hr).1)
    have hT : IsTup h3 r.t #[.ref r.ka, .str r.d r.dt, .str r.v r.vt] := ⟨_, (N3 _ (.tail _ (.tail _ (.tail _ (List.mem_append.mpr (.inr hob)))))).1, rfl, r.n, rfl⟩
    simp only [NR.ref] at hmx
    k_steps
    k_dflt (refine slice_tuple_from F3 N3 hT (a := 1) (Nat.le_of_ble_eq_true rfl) (Nat.le_of_ble_eq_true rfl) ?_)
    intro h4 F4 N4
    have hI := Heap.lt_size (N3 (I, oI) (.head _)).1
    have hC9 := Heap.lt_size (N3 (C, oC9) (.tail _ (.head _))).1
    have hD9 := Heap.lt_size (N3 (D9, LCg.lst ys) (.tail _ (.tail _ (.head _)))).1
    refine ⟨_, _, [_], rfl, F4, nSub N4 (fun p hp => ?_), ⟨⟨Nat.ne_of_gt (Nat.lt_succ_of_lt hI), Nat.ne_of_gt (Nat.lt_succ_of_lt hC9), Nat.ne_of_gt (Nat.lt_succ_of_lt hD9)⟩, trivial⟩, DatIn.tuple (vs := [.str r.d r.dt, .str r.v r.vt]) (n := 0) (List.Mem.head _) (.cons (.str _ _) (.cons (.str _ _) .nil))⟩
    rcases List.mem_cons.mp hp with rfl | hp
    · exact .tail _ (.head _)
    · rcases List.mem_cons.mp hp with rfl | hp
      · exact .tail _ (.tail _ (.head _))
      · rcases List.mem_cons.mp hp with rfl | hp
        · exact .tail _ (.tail _ (.tail _ (.head _)))
        · rcases List.mem_cons.mp hp with rfl | hp
          · exact .head _
          · exact .tail _ (.tail _ (.tail _ (.tail _ hp)))
  intro gl3 ys3 hys3 D53 h53 tk53 F53 N53 off53
  walk_at "m steps"
  all_goals (try exact default)
  have hds3 : Rs2.map (fun R => Dat.tuple [.str R.d, .str R.v]) = rs2.map fun r => Dat.tuple [.str r.k, .str r.v] := by
    have := congrArg (List.map fun q : Str × Str => Dat.tuple [.str q.1, .str q.2]) hE2
    rw [List.map_map, List.map_map] at this
    exact this.symm
  rw [hds3] at hys3
  k_dflt (refine ne_same (oa := o3) (ob := LCg.lst ys3) (n₁ := rowsL rs2) (n₂ := gl3) (xs := rs2.map HR.ref) (ys := ys3) (ds := rs2.map fun r => Dat.tuple [.str r.k, .str r.v]) N53 ?ma hc3 hd3 (rows_dat rs2) ?sa (.head _) rfl rfl hys3 ?sb ?ha ?hu ?_)
  case ma => exact .tail _ (List.mem_append.mpr (.inr (.head _)))
  case sa => exact fun p hp => by obtain ⟨r, h, rfl⟩ := List.mem_map.mp hp; exact .tail _ (List.mem_append.mpr (.inr (.tail _ (hsT _ (hr2 r h)))))
  case sb => exact fun p hp => .tail _ (List.mem_append.mpr (.inl hp))
  case ha => exact rows_ok ho2
  case hu => ktr_units
  have N63 : News h₀ L h53 ((L + 1, oC) :: (ta.led k1 rs ++ (tb.led k2 rs2 ++ T))) := nSub N53 (fun p hp => .tail _ (List.mem_append.mpr (.inr (.tail _ hp))))
  clear N53 M3 hys3 off53 hds3
  walk_at "m steps"
  all_goals (try exact default)
  exact ret _ _ (by k_asm) (by k_asm)
end

end Mine
end
end
section
open PySem PySem.W PyProof.Rows PySem.Spec PySem.Calls
noncomputable section
namespace Mine
local macro_rules | `(tactic| walk_at "m none") => `(tactic| fail)
local macro_rules | `(tactic| walk_at "m none") => `(tactic| fail)
local macro_rules | `(tactic| walk_at "m none") => `(tactic| fail)
local macro_rules | `(tactic| walk_at "m none") => `(tactic| fail)
local macro_rules | `(tactic| walk_at "m none") => `(tactic| fail)
local macro_rules | `(tactic| walk_at "m none") => `(tactic| fail)
local macro_rules | `(tactic| walk_at "m none") => `(tactic| fail)
local macro_rules | `(tactic| walk_at "m none") => `(tactic| fail)
local macro_rules | `(tactic| walk_at "m none") => `(tactic| fail)
local macro_rules | `(tactic| walk_at "m none") => `(tactic| fail)
local macro_rules | `(tactic| walk_at "m none") => `(tactic| fail)
local macro_rules | `(tactic| walk_at "m none") => `(tactic| fail)
local macro_rules | `(tactic| walk_at "m none") => `(tactic| fail)
local macro_rules | `(tactic| walk_at "m none") => `(tactic| fail)
local macro_rules | `(tactic| walk_at "m none") => `(tactic| fail)
local macro_rules | `(tactic| walk_at "m none") => `(tactic| fail)
local macro_rules | `(tactic| walk_at "m none") => `(tactic| fail)
local macro_rules | `(tactic| walk_at "m none") => `(tactic| fail)
local macro_rules | `(tactic| walk_at "m none") => `(tactic| fail)
local macro_rules | `(tactic| walk_at "m none") => `(tactic| fail)
local macro_rules | `(tactic| walk_at "m none") => `(tactic| fail)
local macro_rules | `(tactic| walk_at "m none") => `(tactic| fail)
local macro_rules | `(tactic| walk_at "m none") => `(tactic| fail)
local macro_rules | `(tactic| walk_at "m none") => `(tactic| fail)
local macro_rules | `(tactic| walk_at "m none") => `(tactic| fail)
local macro_rules | `(tactic| walk_at "m none") => `(tactic| fail)
local macro_rules | `(tactic| walk_at "m none") => `(tactic| fail)
local macro_rules | `(tactic| walk_at "m none") => `(tactic| fail)
local macro_rules | `(tactic| walk_at "m none") => `(tactic| fail)
local macro_rules | `(tactic| walk_at "m none") => `(tactic| fail)
local macro_rules | `(tactic| walk_at "m args") => `(tactic| ((case kB => k_asm); (case kF => k_asm); (case kX => k_asm); (case kN => k_asm); (case kT => k_asm); (case kK => first | exact rfl | assumption); (case kd => ktr_room); (case ku => ktr_units)))
local macro_rules | `(tactic| walk_at "m stop") => `(tactic| first | (with_reducible show wpAny _ _ (exec (Stmt.Assign _ (Expr.ListComp _ _ _ _) _) _) _ _ _) | (with_reducible show wpAny _ _ (eval (Expr.ListComp _ _ _ _) _) _ _ _) | (with_reducible show wpAny _ _ (exec (Stmt.For _ _ _ _ _) _) _ _ _) | (with_reducible show LCt.CompSrcT _ _ _ _ _ _ _ _ _ _ _ _ _ _ _) | (with_reducible show wpAny _ _ (pyIter _) (fun it s₂ => TurnsAt _ _ _ _ _ _ _ _ _ it s₂) _ _))
local macro_rules | `(tactic| walk_at "m steps") => `(tactic| repeat' (first | ((fail_if_success (walk_at "m stop")); first | (k_unfold; (try dsimp only)) | (k_end; wrow_close) | walk1 | (dsimp only; walk1) | (leave1; walk_say "STEP leave1"; try dsimp only))))
local macro_rules | `(tactic| walk_at "m stop") => `(tactic| with_reducible show wpAny _ _ (call (Value.ref _) _ _) _ _ _)
local macro_rules | `(tactic| walk_at "eval Name") => `(tactic| (k_here; name_kind "local"; k_dflt (refine' ld ?k1 ?k2 ?_; (case k1 => k_asm); (case k2 => ((try dsimp only); (repeat (refine look_ne (by decide) ?_)); assumption)); k_whole)))
local macro_rules | `(tactic| k_all) => `(tactic| assumption)
local macro_rules | `(tactic| walk_at "eval Name") => `(tactic| (k_here; name_kind "globalImplicit"; k_dflt (refine' nameX_B ?F ?X ?T ?e ?v ?n ?_ ?a ?b; (case F => k_asm); (case X => k_asm); (case T => k_asm); (case a => rfl); (case b => rfl); (case e => k_is); (case v => boot_by_name); (case n => decide); k_whole)))
local macro_rules | `(tactic| walk_at "eval Name") => `(tactic| (k_here; name_kind "cell"; k_dflt (refine' nameX_C ?N ?c ?m ?d ?_ ?a ?b; (case a => rfl); (case b => rfl); (case N => k_asm); (case c => rfl); (case m => k_mem); (case d => k_asm); k_whole)))
local macro_rules | `(tactic| walk_at "m stop") => `(tactic| with_reducible show wpAny _ _ (compareOp _ (Value.ref _) (Value.ref _)) _ _ _)
section
variable {w : World} {mean : ExcName → Option Value} {mg mb : Str → Option Value} {L fa : Addr} {cd : Value} {base h₀ : Heap} {m : Str → Option Value} {s : Shared} {Q : Flow → Shared → Prop} {E : Value → Shared → Prop} {C : Addr} {oC : Obj} {vC : Value} {T : List (Addr × Obj)} {led : List (Addr × Obj)} {wd : List (Int × Int)}
theorem seg11 {ta : TB} {k1 kn : Nat} {rs : List HR} {Rs : List NR} {ln : Addr} {tn : Tok} (B : Below callerA base [] h₀) (F : Fr h₀ L s.heap m) (X : (hd.heap_39 w.params).In h₀) (N : News h₀ L s.heap ((L + 1, oC) :: (ta.led k1 rs ++ T))) (TT : Top hd.view_39 loo mean mg mb h₀) (hC : oC.data = .cell (some vC)) (hw : WordIn led vC wd) (hs : ∀ p ∈ led, p ∈ T)
    (hz : rs.length ≤ 100) (hk : ∀ r ∈ rs, r.k.length ≤ 100) (hZ : Rs.length ≤ 100) (hr : ∀ r ∈ rs, (r.t, r.obj) ∈ T) (hRs : ∀ r ∈ Rs, r.In T) (hl : (ln, W.listOf (Rs.map NR.ref).toArray kn) ∈ T)
    (hE : (rs.filter fun r => Txt.lower r.k == Txt.lower (nmOf 1 wd)).map HR.v = (Rs.filter fun R => sameKey R.kd ((nkOf 1 wd).map fun q => Dat.tuple [.int q.1, .int q.2])).map NR.v) (ho : ∀ r ∈ rs, PyData.strOk r.v = true)
    (hm1 : m (Str.ofString "lifted") = some (.ref ta.x)) (hm2 : m (Str.ofString "name") = some (.str (nmOf 1 wd) tn)) (hm3 : m (Str.ofString "near") = some (.ref ln))
    (ret : ∀ h' tk', Fr h₀ L h' m → News h₀ L h' ((L + 1, oC) :: (ta.led k1 rs ++ T)) → Q .next { s with heap := h', toks := tk' }) :
    wpAny (model PySem.Challenge.rw_pg0217_01.row.prog w) (lawA L fa cd) (exec st11.1 (lawE L fa cd)) Q E s := by
  have hwo := word_WOk hw
  have hlen := word_len hw
  have hlf : (wd.map (·.1)).length ≤ 2 := by rw [List.length_map]; exact hlen
  have hlx : (wd.map (sg 1)).length ≤ 2 := by rw [List.length_map]; exact hlen
  have hcs : ∀ c ∈ wd.map (sg 1), c < 256 := fun c hc => by
    obtain ⟨q, hq, rfl⟩ := List.mem_map.mp hc
    exact (sg_range (hwo q hq)).2
  revert X
  k_fill
  intro X
  dsimp only [lawE, lawA, lawD, st11]
  have hs1 : ∀ p ∈ ta.led k1 rs, p ∈ (L + 1, oC) :: (ta.led k1 rs ++ T) := fun p hp => .tail _ (List.mem_append.mpr (.inl hp))
  have hsT : ∀ p ∈ T, p ∈ (L + 1, oC) :: (ta.led k1 rs ++ T) := fun p hp => .tail _ (List.mem_append.mpr (.inr hp))
  have N1 := N
  simp only [TB.led, tab, List.cons_append, List.nil_append] at N1
  walk_at "m steps"
  all_goals (try exact default)
  (try dsimp only [List.append_nil, List.cons_append, List.nil_append])
  k_dflt (refine law_get_all (tb := ta) (k := k1) (rs := rs) (nm := nmOf 1 wd) B (by k_asm) X N TT (name_lownm 1 hwo) (len_nm 1 hlen) hz hk hs1 (fun r h => hsT _ (hr r h)) ?_)
  intro D h3 tk3 F3 N3 hfr
  clear N1
  walk_at "m steps"
  all_goals (try exact default)
  k_dflt (refine LCt.ListComp_T (F₀ := by k_asm) (by with_unfolding_all rfl) (by decide) (by rfl) (by decide) (by rfl) ?_)
  walk_at "m steps"
  all_goals (try exact default)
  refine LCt.CompSrcT.ledger rfl (by k_asm) N3 (.tail _ (hsT _ hl)) (by rw [List.size_toArray, List.length_map]; exact Nat.le_trans hZ (by decide)) ?_
  intro g1
  refine rest_filter Rs NR.ref NR.value (fun r => sameKey r.kd ((nkOf 1 wd).map fun q => Dat.tuple [.int q.1, .int q.2])) (.inr ⟨_, .tail _ (hsT _ hl), rfl, _, rfl⟩) ?_ ?_
  · intro r hr I oI C oC9 D9 ys m₂ h4 tk4 E' hoC hmx F4 N4 off ne
    have hob : (r.t, ({ cls := .type "tuple", data := .seq #[.ref r.ka, .str r.d r.dt, .str r.v r.vt] r.n } : Obj)) ∈ T := (hRs r hr).1
    have N5 : News h₀ L h4 ((r.t, ({ cls := .type "tuple", data := .seq #[.ref r.ka, .str r.d r.dt, .str r.v r.vt] r.n } : Obj)) :: (I, oI) :: (C, oC9) :: (D9, LCg.lst ys) :: (L + 1, oC) :: (D, LCg.lst ((rs.filter fun r => Txt.lower r.k == Txt.lower (nmOf 1 wd)).map HR.value)) :: (ta.led k1 rs ++ T)) := nSub N4 (fun p hp => by
      rcases List.mem_cons.mp hp with rfl | hp
      · exact .tail _ (.tail _ (.tail _ (.tail _ (hsT _ hob))))
      · rcases List.mem_cons.mp hp with rfl | hp
        · exact .head _
        · rcases List.mem_cons.mp hp with rfl | hp
          · exact .tail _ (.head _)
          · rcases List.mem_cons.mp hp with rfl | hp
            · exact .tail _ (.tail _ (.head _))
            · rcases List.mem_cons.mp hp with rfl | hp
              · exact .tail _ (.tail _ (.tail _ (.tail _ (.head _))))
              · rcases List.mem_cons.mp hp with rfl | hp
                · exact .tail _ (.tail _ (.tail _ (.head _)))
                · exact .tail _ (.tail _ (.tail _ (.tail _ (.tail _ hp)))))
    simp only [NR.ref] at hmx
    walk_at "m steps"
    all_goals (try exact default)
    k_dflt (refine law_near B F4 X N5 TT hw (fun p hp => .tail _ (.tail _ (.tail _ (.tail _ (.tail _ (.tail _ (List.mem_append.mpr (.inr (hs p hp))))))))) (.inr rfl) ?_)
    intro led' a' h6 tk6 Dk nw F6 N6
    have Dk2 : DatIn led' (.ref a') (.list ((nkOf 1 wd).map fun q => Dat.tuple [.int q.1, .int q.2])) := Dk
    walk_at "m steps"
    all_goals (try exact default)
    have hT6 : ∀ p ∈ T, p ∈ led' ++ ((r.t, ({ cls := .type "tuple", data := .seq #[.ref r.ka, .str r.d r.dt, .str r.v r.vt] r.n } : Obj)) :: (I, oI) :: (C, oC9) :: (D9, LCg.lst ys) :: (L + 1, oC) :: (D, LCg.lst ((rs.filter fun r => Txt.lower r.k == Txt.lower (nmOf 1 wd)).map HR.value)) :: (ta.led k1 rs ++ T)) := fun p hp => List.mem_append.mpr (.inr (.tail _ (.tail _ (.tail _ (.tail _ (.tail _ (.tail _ (List.mem_append.mpr (.inr hp)))))))))
    k_dflt (refine eq_key (led := led' ++ ((r.t, ({ cls := .type "tuple", data := .seq #[.ref r.ka, .str r.d r.dt, .str r.v r.vt] r.n } : Obj)) :: (I, oI) :: (C, oC9) :: (D9, LCg.lst ys) :: (L + 1, oC) :: (D, LCg.lst ((rs.filter fun r => Txt.lower r.k == Txt.lower (nmOf 1 wd)).map HR.value)) :: (ta.led k1 rs ++ T))) (ds := r.kd) (es := ((nkOf 1 wd).map fun q => Dat.tuple [.int q.1, .int q.2])) (fun p hp => (N6 p hp).1) ((hRs r hr).2.1.mono hT6) (DatIn.mono (fun p hp => List.mem_append.mpr (.inl hp)) Dk2) (hRs r hr).2.2 ?hb ?hu ?_)
    case hb => exact fun x hx => by obtain ⟨q, _, rfl⟩ := List.mem_map.mp hx; rfl
    case hu => ktr_units
    have N7 : News h₀ L h6 ((r.t, ({ cls := .type "tuple", data := .seq #[.ref r.ka, .str r.d r.dt, .str r.v r.vt] r.n } : Obj)) :: (I, oI) :: (C, oC9) :: (D9, LCg.lst ys) :: (L + 1, oC) :: (D, LCg.lst ((rs.filter fun r => Txt.lower r.k == Txt.lower (nmOf 1 wd)).map HR.value)) :: (ta.led k1 rs ++ T)) := nSub N6 (fun p hp => List.mem_append.mpr (.inr hp))
    have hsub : ∀ p ∈ (I, oI) :: (C, oC9) :: (D9, LCg.lst ys) :: (D, LCg.lst ((rs.filter fun r => Txt.lower r.k == Txt.lower (nmOf 1 wd)).map HR.value)) :: (L + 1, oC) :: (ta.led k1 rs ++ T), p ∈ (r.t, ({ cls := .type "tuple", data := .seq #[.ref r.ka, .str r.d r.dt, .str r.v r.vt] r.n } : Obj)) :: (I, oI) :: (C, oC9) :: (D9, LCg.lst ys) :: (L + 1, oC) :: (D, LCg.lst ((rs.filter fun r => Txt.lower r.k == Txt.lower (nmOf 1 wd)).map HR.value)) :: (ta.led k1 rs ++ T) := fun p hp => by
      rcases List.mem_cons.mp hp with rfl | hp
      · exact .tail _ (.head _)
      · rcases List.mem_cons.mp hp with rfl | hp
        · exact .tail _ (.tail _ (.head _))
        · rcases List.mem_cons.mp hp with rfl | hp
          · exact .tail _ (.tail _ (.tail _ (.head _)))
          · rcases List.mem_cons.mp hp with rfl | hp
            · exact .tail _ (.tail _ (.tail _ (.tail _ (.tail _ (.head _)))))
            · rcases List.mem_cons.mp hp with rfl | hp
              · exact .tail _ (.tail _ (.tail _ (.tail _ (.head _))))
              · exact .tail _ (.tail _ (.tail _ (.tail _ (.tail _ (.tail _ hp)))))
    clear N6 N5 N4 F4
    walk_at "m steps"
    all_goals first
      | exact (⟨_, _, rfl, by k_asm, nSub N7 hsub⟩ : Same _ _ _ _ _ _)
      | exact ⟨_, _, rfl, by k_asm, nSub N7 hsub⟩
  · intro D5 h5 tk5 F5 N5 off5
    walk_at "m steps"
    all_goals (try exact default)
    have e1 : (rs.filter fun r => Txt.lower r.k == Txt.lower (nmOf 1 wd)).map (fun r => Dat.str r.v) = (Rs.filter fun r => sameKey r.kd ((nkOf 1 wd).map fun q => Dat.tuple [.int q.1, .int q.2])).map fun R => Dat.str R.v := by
      have := congrArg (List.map Dat.str) hE
      rw [List.map_map, List.map_map] at this
      exact this
    have e2 : DatAll [] ((rs.filter fun r : HR => Txt.lower r.k == Txt.lower (nmOf 1 wd)).map HR.value) ((rs.filter fun r : HR => Txt.lower r.k == Txt.lower (nmOf 1 wd)).map fun r => Dat.str r.v) := vals_dat HR.v HR.vt _
    have e3 : DatAll [] ((Rs.filter fun r : NR => sameKey r.kd ((nkOf 1 wd).map fun q => Dat.tuple [.int q.1, .int q.2])).map NR.value) ((Rs.filter fun r : NR => sameKey r.kd ((nkOf 1 wd).map fun q => Dat.tuple [.int q.1, .int q.2])).map fun r => Dat.str r.v) := vals_dat NR.v NR.vt _
    rw [← e1] at e3
    k_dflt (refine' ne_same (n₁ := []) (n₂ := []) (by exact N5) ?ma ?c1 ?c2 (by exact e2) (fun _ h => nomatch h) ?mb ?c3 ?c4 (by exact e3) (fun _ h => nomatch h) ?ha ?hu ?_)
    case ma => exact .tail _ (.head _)
    case mb => exact .head _
    case c1 => rfl
    case c2 => rfl
    case c3 => rfl
    case c4 => rfl
    case ha => exact fun d hd => by obtain ⟨r, h, rfl⟩ := List.mem_map.mp hd; exact ho r (List.mem_filter.mp h).1
    case hu => ktr_units
    walk_at "m steps"
    all_goals (try exact default)
    exact ret _ _ (by k_asm) (nSub N5 (fun p hp => .tail _ (.tail _ hp)))
end

end Mine
end
end
section
open PySem PySem.W PyProof.Rows PySem.Spec PySem.Calls
noncomputable section
namespace Mine
local macro_rules | `(tactic| walk_at "m args") => `(tactic| ((case kB => k_asm); (case kF => k_asm); (case kX => k_asm); (case kN => k_asm); (case kT => k_asm); (case kK => first | exact rfl | assumption); (case kd => ktr_room); (case ku => ktr_units)))
local macro_rules | `(tactic| walk_at "m stop") => `(tactic| first | (with_reducible show wpAny _ _ (exec (Stmt.Assign _ (Expr.ListComp _ _ _ _) _) _) _ _ _) | (with_reducible show wpAny _ _ (eval (Expr.ListComp _ _ _ _) _) _ _ _) | (with_reducible show wpAny _ _ (exec (Stmt.For _ _ _ _ _) _) _ _ _) | (with_reducible show LCt.CompSrcT _ _ _ _ _ _ _ _ _ _ _ _ _ _ _) | (with_reducible show wpAny _ _ (pyIter _) (fun it s₂ => TurnsAt _ _ _ _ _ _ _ _ _ it s₂) _ _))
local macro_rules | `(tactic| walk_at "m steps") => `(tactic| repeat' (first | ((fail_if_success (walk_at "m stop")); first | (k_unfold; (try dsimp only)) | (k_end; wrow_close) | walk1 | (dsimp only; walk1) | (leave1; walk_say "STEP leave1"; try dsimp only))))
local macro_rules | `(tactic| walk_at "m stop") => `(tactic| with_reducible show wpAny _ _ (call (Value.ref _) _ _) _ _ _)
local macro_rules | `(tactic| walk_at "eval Name") => `(tactic| (k_here; name_kind "local"; k_dflt (refine' ld ?k1 ?k2 ?_; (case k1 => k_asm); (case k2 => ((try dsimp only); (repeat (refine look_ne (by decide) ?_)); assumption)); k_whole)))
local macro_rules | `(tactic| k_all) => `(tactic| assumption)
local macro_rules | `(tactic| walk_at "eval Name") => `(tactic| (k_here; name_kind "globalImplicit"; k_dflt (refine' nameX_B ?F ?X ?T ?e ?v ?n ?_ ?a ?b; (case F => k_asm); (case X => k_asm); (case T => k_asm); (case a => rfl); (case b => rfl); (case e => k_is); (case v => boot_by_name); (case n => decide); k_whole)))
local macro_rules | `(tactic| walk_at "eval Name") => `(tactic| (k_here; name_kind "cell"; k_dflt (refine' nameX_C ?N ?c ?m ?d ?_ ?a ?b; (case a => rfl); (case b => rfl); (case N => k_asm); (case c => rfl); (case m => k_mem); (case d => k_asm); k_whole)))
local macro_rules | `(tactic| walk_at "m stop") => `(tactic| with_reducible show wpAny _ _ (compareOp _ (Value.ref _) (Value.ref _)) _ _ _)
local macro_rules | `(tactic| walk_at "m stop") => `(tactic| with_reducible show wpAny _ _ (call (Value.builtin "str.lower") _ _) _ _ _)
section
variable {w : World} {mean : ExcName → Option Value} {mg mb : Str → Option Value} {L fa : Addr} {cd : Value} {base h₀ : Heap} {m : Str → Option Value} {s : Shared} {Q : Flow → Shared → Prop} {E : Value → Shared → Prop} {C : Addr} {oC : Obj} {vC : Value} {T : List (Addr × Obj)} {led : List (Addr × Obj)} {wd : List (Int × Int)}
theorem seg12 {ta : TB} {k1 kn : Nat} {rs : List HR} {Rs : List NR} {ln : Addr} {tn : Tok} {sx : Str} (B : Below callerA base [] h₀) (F : Fr h₀ L s.heap m) (X : (hd.heap_39 w.params).In h₀) (N : News h₀ L s.heap ((L + 1, oC) :: (ta.led k1 rs ++ T))) (TT : Top hd.view_39 loo mean mg mb h₀) (hC : oC.data = .cell (some vC)) (hw : WordIn led vC wd) (hs : ∀ p ∈ led, p ∈ T)
    (hz : rs.length ≤ 100) (hk : ∀ r ∈ rs, r.k.length ≤ 100) (hZ : Rs.length ≤ 100) (hr : ∀ r ∈ rs, (r.t, r.obj) ∈ T) (hRs : ∀ r ∈ Rs, r.In T) (hl : (ln, W.listOf (Rs.map NR.ref).toArray kn) ∈ T)
    (hsx : Txt.lower (shTx (wd.map (·.1))) = sx) (hE : (rs.filter fun r => Txt.lower r.k == Txt.lower sx).map HR.v = (Rs.filter fun R => sameKey R.kd ((wd.map (·.1)).map Dat.int)).map NR.v) (ho : ∀ r ∈ rs, PyData.strOk r.v = true)
    (hm1 : m (Str.ofString "shown") = some (.ref ta.x)) (hm2 : m (Str.ofString "name") = some (.str (nmOf 1 wd) tn)) (hm3 : m (Str.ofString "far") = some (.ref ln))
    (ret : ∀ h' tk', Fr h₀ L h' m → News h₀ L h' ((L + 1, oC) :: (ta.led k1 rs ++ T)) → Q .next { s with heap := h', toks := tk' }) :
    wpAny (model PySem.Challenge.rw_pg0217_01.row.prog w) (lawA L fa cd) (exec st12.1 (lawE L fa cd)) Q E s := by
  have hwo := word_WOk hw
  have hlen := word_len hw
  have hlf : (wd.map (·.1)).length ≤ 2 := by rw [List.length_map]; exact hlen
  have hlx : (wd.map (sg 1)).length ≤ 2 := by rw [List.length_map]; exact hlen
  have hcs : ∀ c ∈ wd.map (sg 1), c < 256 := fun c hc => by
    obtain ⟨q, hq, rfl⟩ := List.mem_map.mp hc
    exact (sg_range (hwo q hq)).2
  revert X
  k_fill
  intro X
  dsimp only [lawE, lawA, lawD, st12]
  have hs1 : ∀ p ∈ ta.led k1 rs, p ∈ (L + 1, oC) :: (ta.led k1 rs ++ T) := fun p hp => .tail _ (List.mem_append.mpr (.inl hp))
  have hsT : ∀ p ∈ T, p ∈ (L + 1, oC) :: (ta.led k1 rs ++ T) := fun p hp => .tail _ (List.mem_append.mpr (.inr hp))
  have N1 := N
  simp only [TB.led, tab, List.cons_append, List.nil_append] at N1
  walk_at "m steps"
  all_goals (try exact default)
  k_dflt (refine law_shown (zs := wd.map (sg 1)) B (by k_asm) X N TT hlx hcs ?_)
  intro t4 h2 tk2 F2 N2
  have e4 : Txt.join (Str.ofString "") ((wd.map (sg 1)).map ctl) = shTx (wd.map (·.1)) := shown_text 1 hwo
  rw [e4]
  have hsl := len_sh hlf
  have N1 := N2
  simp only [TB.led, tab, List.cons_append, List.nil_append] at N1
  walk_at "m steps"
  all_goals (try exact default)
  k_dflt (refine SCL.lower (by omega) ?_)
  intro t5
  clear t5 hsl e4
  rw [hsx]
  walk_at "m steps"
  all_goals (try exact default)
  (try dsimp only [List.append_nil, List.cons_append, List.nil_append])
  k_dflt (refine law_get_all (tb := ta) (k := k1) (rs := rs) (nm := sx) B (by exact F2) X (by exact N2) TT (by rw [← hsx, idem_sh hwo.five]; exact name_lowsh hwo.five) (by rw [← hsx]; exact lenlow_sh hwo.five hlf) hz hk hs1 (fun r h => hsT _ (hr r h)) ?_)
  intro D h3 tk3 F3 N3 hfr
  clear N1
  walk_at "m steps"
  all_goals (try exact default)
  k_dflt (refine LCt.ListComp_T (F₀ := by k_asm) (by with_unfolding_all rfl) (by decide) (by rfl) (by decide) (by rfl) ?_)
  walk_at "m steps"
  all_goals (try exact default)
  refine LCt.CompSrcT.ledger rfl (by k_asm) N3 (.tail _ (hsT _ hl)) (by rw [List.size_toArray, List.length_map]; exact Nat.le_trans hZ (by decide)) ?_
  intro g1
  refine rest_filter Rs NR.ref NR.value (fun r => sameKey r.kd ((wd.map (·.1)).map Dat.int)) (.inr ⟨_, .tail _ (hsT _ hl), rfl, _, rfl⟩) ?_ ?_
  · intro r hr I oI C oC9 D9 ys m₂ h4 tk4 E' hoC hmx F4 N4 off ne
    have hob : (r.t, ({ cls := .type "tuple", data := .seq #[.ref r.ka, .str r.d r.dt, .str r.v r.vt] r.n } : Obj)) ∈ T := (hRs r hr).1
    have N5 : News h₀ L h4 ((r.t, ({ cls := .type "tuple", data := .seq #[.ref r.ka, .str r.d r.dt, .str r.v r.vt] r.n } : Obj)) :: (I, oI) :: (C, oC9) :: (D9, LCg.lst ys) :: (L + 1, oC) :: (D, LCg.lst ((rs.filter fun r => Txt.lower r.k == Txt.lower sx).map HR.value)) :: (ta.led k1 rs ++ T)) := nSub N4 (fun p hp => by
      rcases List.mem_cons.mp hp with rfl | hp
      · exact .tail _ (.tail _ (.tail _ (.tail _ (hsT _ hob))))
      · rcases List.mem_cons.mp hp with rfl | hp
        · exact .head _
        · rcases List.mem_cons.mp hp with rfl | hp
          · exact .tail _ (.head _)
          · rcases List.mem_cons.mp hp with rfl | hp
            · exact .tail _ (.tail _ (.head _))
            · rcases List.mem_cons.mp hp with rfl | hp
              · exact .tail _ (.tail _ (.tail _ (.tail _ (.head _))))
              · rcases List.mem_cons.mp hp with rfl | hp
                · exact .tail _ (.tail _ (.tail _ (.head _)))
                · exact .tail _ (.tail _ (.tail _ (.tail _ (.tail _ hp)))))
    simp only [NR.ref] at hmx
    walk_at "m steps"
    all_goals (try exact default)
    k_dflt (refine law_far B F4 X N5 TT hw (fun p hp => .tail _ (.tail _ (.tail _ (.tail _ (.tail _ (.tail _ (List.mem_append.mpr (.inr (hs p hp))))))))) ?_)
    intro led' a' h6 tk6 Dk nw F6 N6
    have Dk2 : DatIn led' (.ref a') (.list ((wd.map (·.1)).map Dat.int)) := Dk
    walk_at "m steps"
    all_goals (try exact default)
    have hT6 : ∀ p ∈ T, p ∈ led' ++ ((r.t, ({ cls := .type "tuple", data := .seq #[.ref r.ka, .str r.d r.dt, .str r.v r.vt] r.n } : Obj)) :: (I, oI) :: (C, oC9) :: (D9, LCg.lst ys) :: (L + 1, oC) :: (D, LCg.lst ((rs.filter fun r => Txt.lower r.k == Txt.lower sx).map HR.value)) :: (ta.led k1 rs ++ T)) := fun p hp => List.mem_append.mpr (.inr (.tail _ (.tail _ (.tail _ (.tail _ (.tail _ (.tail _ (List.mem_append.mpr (.inr hp)))))))))
    k_dflt (refine eq_key (led := led' ++ ((r.t, ({ cls := .type "tuple", data := .seq #[.ref r.ka, .str r.d r.dt, .str r.v r.vt] r.n } : Obj)) :: (I, oI) :: (C, oC9) :: (D9, LCg.lst ys) :: (L + 1, oC) :: (D, LCg.lst ((rs.filter fun r => Txt.lower r.k == Txt.lower sx).map HR.value)) :: (ta.led k1 rs ++ T))) (ds := r.kd) (es := ((wd.map (·.1)).map Dat.int)) (fun p hp => (N6 p hp).1) ((hRs r hr).2.1.mono hT6) (DatIn.mono (fun p hp => List.mem_append.mpr (.inl hp)) Dk2) (hRs r hr).2.2 ?hb ?hu ?_)
    case hb => exact fun x hx => by obtain ⟨q, _, rfl⟩ := List.mem_map.mp hx; rfl
    case hu => ktr_units
    have N7 : News h₀ L h6 ((r.t, ({ cls := .type "tuple", data := .seq #[.ref r.ka, .str r.d r.dt, .str r.v r.vt] r.n } : Obj)) :: (I, oI) :: (C, oC9) :: (D9, LCg.lst ys) :: (L + 1, oC) :: (D, LCg.lst ((rs.filter fun r => Txt.lower r.k == Txt.lower sx).map HR.value)) :: (ta.led k1 rs ++ T)) := nSub N6 (fun p hp => List.mem_append.mpr (.inr hp))
    have hsub : ∀ p ∈ (I, oI) :: (C, oC9) :: (D9, LCg.lst ys) :: (D, LCg.lst ((rs.filter fun r => Txt.lower r.k == Txt.lower sx).map HR.value)) :: (L + 1, oC) :: (ta.led k1 rs ++ T), p ∈ (r.t, ({ cls := .type "tuple", data := .seq #[.ref r.ka, .str r.d r.dt, .str r.v r.vt] r.n } : Obj)) :: (I, oI) :: (C, oC9) :: (D9, LCg.lst ys) :: (L + 1, oC) :: (D, LCg.lst ((rs.filter fun r => Txt.lower r.k == Txt.lower sx).map HR.value)) :: (ta.led k1 rs ++ T) := fun p hp => by
      rcases List.mem_cons.mp hp with rfl | hp
      · exact .tail _ (.head _)
      · rcases List.mem_cons.mp hp with rfl | hp
        · exact .tail _ (.tail _ (.head _))
        · rcases List.mem_cons.mp hp with rfl | hp
          · exact .tail _ (.tail _ (.tail _ (.head _)))
          · rcases List.mem_cons.mp hp with rfl | hp
            · exact .tail _ (.tail _ (.tail _ (.tail _ (.tail _ (.head _)))))
            · rcases List.mem_cons.mp hp with rfl | hp
              · exact .tail _ (.tail _ (.tail _ (.tail _ (.head _))))
              · exact .tail _ (.tail _ (.tail _ (.tail _ (.tail _ (.tail _ hp)))))
    clear N6 N5 N4 F4
    walk_at "m steps"
    all_goals first
      | exact (⟨_, _, rfl, by k_asm, nSub N7 hsub⟩ : Same _ _ _ _ _ _)
      | exact ⟨_, _, rfl, by k_asm, nSub N7 hsub⟩
  · intro D5 h5 tk5 F5 N5 off5
    walk_at "m steps"
    all_goals (try exact default)
    have e1 : (rs.filter fun r => Txt.lower r.k == Txt.lower sx).map (fun r => Dat.str r.v) = (Rs.filter fun r => sameKey r.kd ((wd.map (·.1)).map Dat.int)).map fun R => Dat.str R.v := by
      have := congrArg (List.map Dat.str) hE
      rw [List.map_map, List.map_map] at this
      exact this
    have e2 : DatAll [] ((rs.filter fun r : HR => Txt.lower r.k == Txt.lower sx).map HR.value) ((rs.filter fun r : HR => Txt.lower r.k == Txt.lower sx).map fun r => Dat.str r.v) := vals_dat HR.v HR.vt _
    have e3 : DatAll [] ((Rs.filter fun r : NR => sameKey r.kd ((wd.map (·.1)).map Dat.int)).map NR.value) ((Rs.filter fun r : NR => sameKey r.kd ((wd.map (·.1)).map Dat.int)).map fun r => Dat.str r.v) := vals_dat NR.v NR.vt _
    rw [← e1] at e3
    k_dflt (refine' ne_same (n₁ := []) (n₂ := []) (by exact N5) ?ma ?c1 ?c2 (by exact e2) (fun _ h => nomatch h) ?mb ?c3 ?c4 (by exact e3) (fun _ h => nomatch h) ?ha ?hu ?_)
    case ma => exact .tail _ (.head _)
    case mb => exact .head _
    case c1 => rfl
    case c2 => rfl
    case c3 => rfl
    case c4 => rfl
    case ha => exact fun d hd => by obtain ⟨r, h, rfl⟩ := List.mem_map.mp hd; exact ho r (List.mem_filter.mp h).1
    case hu => ktr_units
    walk_at "m steps"
    all_goals (try exact default)
    exact ret _ _ (by k_asm) (nSub N5 (fun p hp => .tail _ (.tail _ hp)))
end

end Mine
end
end
section
open PySem PySem.W PyProof.Rows PySem.Spec PySem.Calls
noncomputable section
namespace Mine
local macro_rules | `(tactic| walk_at "m args") => `(tactic| ((case kB => k_asm); (case kF => k_asm); (case kX => k_asm); (case kN => k_asm); (case kT => k_asm); (case kK => first | exact rfl | assumption); (case kd => ktr_room); (case ku => ktr_units)))
local macro_rules | `(tactic| walk_at "m stop") => `(tactic| first | (with_reducible show wpAny _ _ (exec (Stmt.Assign _ (Expr.ListComp _ _ _ _) _) _) _ _ _) | (with_reducible show wpAny _ _ (eval (Expr.ListComp _ _ _ _) _) _ _ _) | (with_reducible show wpAny _ _ (exec (Stmt.For _ _ _ _ _) _) _ _ _) | (with_reducible show LCt.CompSrcT _ _ _ _ _ _ _ _ _ _ _ _ _ _ _) | (with_reducible show wpAny _ _ (pyIter _) (fun it s₂ => TurnsAt _ _ _ _ _ _ _ _ _ it s₂) _ _))
local macro_rules | `(tactic| walk_at "m steps") => `(tactic| repeat' (first | ((fail_if_success (walk_at "m stop")); first | (k_unfold; (try dsimp only)) | (k_end; wrow_close) | walk1 | (dsimp only; walk1) | (leave1; walk_say "STEP leave1"; try dsimp only))))
theorem strOk_of {x : Str} (h : ∀ c ∈ x.cps.toList, c < 0x110000) : PyData.strOk x = true := by
  unfold PyData.strOk
  rw [Array.all_eq_true']
  intro c hc
  simpa using h c (by simpa using hc)
theorem strOk_val {x : Str} (h : ValueOk x) : PyData.strOk x = true := strOk_of fun c hc => by have := h c (by simpa using hc); omega
theorem strOk_nm (t : Int) {wd : List (Int × Int)} (h : WOk wd) : PyData.strOk (nmOf t wd) = true := strOk_of fun c hc => by
  obtain ⟨q, hq, rfl⟩ := List.mem_map.mp (show c ∈ wd.map (sg t) from hc)
  have := (sg_range (tn := t) (h q hq)).2
  omega
theorem strOk_sh {l : List Int} (h : ∀ f ∈ l, 0 ≤ f ∧ f < 32) : PyData.strOk (shTx l) = true := strOk_of fun c hc => by
  have := sh_codes h c hc
  omega
theorem DeedR.mem {d : Int} {nm vl : Str} {rs rs' : List HR} {a : Option Str} (h : DeedR d nm vl rs rs' a) : ∀ r ∈ rs', r ∈ rs ∨ (r.k = nm ∧ r.v = vl) := by
  have push : ∀ (l : List HR) (R : HR), (∀ r ∈ l, r ∈ rs) → R.k = nm → R.v = vl → ∀ r ∈ l ++ [R], r ∈ rs ∨ (r.k = nm ∧ r.v = vl) := fun l R hl h1 h2 r hr => by
    rcases List.mem_append.mp hr with hr | hr
    · exact .inl (hl r hr)
    · rw [List.mem_singleton.mp hr]; exact .inr ⟨h1, h2⟩
  rcases h with ⟨_, _, R, h1, h2, rfl⟩ | ⟨_, _, rfl⟩ | ⟨_, ⟨q, _, _, rfl⟩ | ⟨_, _, R, h1, h2, rfl⟩⟩ | ⟨_, _, R, h1, h2, rfl⟩
  · exact push _ R (fun r hr => (List.mem_filter.mp hr).1) h1 h2
  · exact fun r hr => .inl (List.mem_filter.mp hr).1
  · exact fun r hr => .inl hr
  · exact push _ R (fun r hr => hr) h1 h2
  · exact push _ R (fun r hr => hr) h1 h2
theorem DeedR.len {d : Int} {nm vl : Str} {rs rs' : List HR} {a : Option Str} (h : DeedR d nm vl rs rs' a) : rs'.length ≤ rs.length + 1 := by
  have fl := List.length_filter_le (fun r : HR => !(Txt.lower r.k == Txt.lower nm)) rs
  rcases h with ⟨_, _, R, h1, h2, rfl⟩ | ⟨_, _, rfl⟩ | ⟨_, ⟨q, _, _, rfl⟩ | ⟨_, _, R, h1, h2, rfl⟩⟩ | ⟨_, _, R, h1, h2, rfl⟩ <;> (try simp only [List.length_append, List.length_singleton]) <;> omega
theorem DeedR.ans {d : Int} {nm vl : Str} {rs rs' : List HR} {a : Option Str} (h : DeedR d nm vl rs rs' a) (hv : PyData.strOk vl = true) (hr : ∀ r ∈ rs, PyData.strOk r.v = true) : ∀ x, a = some x → PyData.strOk x = true := by
  intro x hx
  rcases h with ⟨_, e, _⟩ | ⟨_, e, _⟩ | ⟨_, ⟨q, hq, e, _⟩ | ⟨_, e, _⟩⟩ | ⟨_, e, _⟩ <;> rw [e] at hx <;> cases hx
  · exact hr q (List.mem_of_find?_eq_some hq)
  · exact hv
def AD (L : Addr) (ta tb : TB) : List Addr := (L + 1) :: (ta.ad ++ tb.ad)
structure Ap (L : Addr) (ta tb : TB) : Prop where
  a : L + 1 ∉ ta.ad
  b : L + 1 ∉ tb.ad
  c : ∀ x ∈ ta.ad, x ∉ tb.ad
def RowOk (r : HR) : Prop := r.k.length ≤ 100 ∧ PyData.strOk r.k = true ∧ PyData.strOk r.v = true
/-- what holds between the turns -/
structure St (L : Addr) (ta tb : TB) (i : Nat) (m : Str → Option Value) (oC : Obj) (rs rs2 : List HR) (Rs Rs2 : List NR) (T : List (Addr × Obj)) : Prop where
  hC : ∃ vo, oC.data = .cell vo
  m1 : m (Str.ofString "lifted") = some (.ref ta.x)
  m2 : m (Str.ofString "shown") = some (.ref tb.x)
  m3 : ∃ ln kn, m (Str.ofString "near") = some (.ref ln) ∧ (ln, W.listOf (Rs.map NR.ref).toArray kn) ∈ T
  m4 : ∃ lf kf, m (Str.ofString "far") = some (.ref lf) ∧ (lf, W.listOf (Rs2.map NR.ref).toArray kf) ∈ T
  m5 : ∃ bs bt, m (Str.ofString "base") = some (.int bs bt) ∧ 0 ≤ bs ∧ bs < 100000000
  z1 : rs.length ≤ i
  z2 : rs2.length ≤ i
  t1 : Twin PN rs Rs
  t2 : Twin PF rs2 Rs2
  r1 : ∀ r ∈ rs, (r.t, r.obj) ∈ T
  r2 : ∀ r ∈ rs2, (r.t, r.obj) ∈ T
  R1 : ∀ r ∈ Rs, r.In T
  R2 : ∀ r ∈ Rs2, r.In T
  o1 : ∀ r ∈ rs, RowOk r
  o2 : ∀ r ∈ rs2, RowOk r
  off : ∀ p ∈ T, p.1 ∉ AD L ta tb
theorem NR.In.mono {a b : List (Addr × Obj)} {r : NR} (h : r.In a) (hs : ∀ p ∈ a, p ∈ b) : r.In b := ⟨hs _ h.1, h.2.1.mono hs, h.2.2⟩
/-- no tuple of a row -/
def NoRow (o : Obj) : Prop := (∀ r : HR, o ≠ r.obj) ∧ ∀ R : NR, o ≠ R.obj
theorem noRow_cls {o : Obj} (h : o.cls ≠ .type "tuple") : NoRow o := ⟨fun r e => h (by rw [e]; rfl), fun R e => h (by rw [e]; rfl)⟩
theorem noRow_cell {o : Obj} {v : Option Value} (h : o.data = .cell v) : NoRow o := ⟨fun r e => by (rw [e] at h; cases h), fun R e => by (rw [e] at h; cases h)⟩
section
variable {L : Addr} {ta tb : TB} {k1 k2 : Nat} {rs rs2 : List HR} {T its : List (Addr × Obj)} {oC : Obj}
theorem ax_ok {vo : Option Value} (hC : oC.data = .cell vo) (hits : ∀ p ∈ its, p ∈ T ∧ p.2.cls ≠ .type "tuple") : ∀ a ∈ AD L ta tb ++ its.map (·.1), ∃ o, (a, o) ∈ (L + 1, oC) :: (ta.led k1 rs ++ (tb.led k2 rs2 ++ T)) ∧ NoRow o := by
  intro a ha
  rcases List.mem_append.mp ha with ha | ha
  · rcases List.mem_cons.mp ha with rfl | ha
    · exact ⟨oC, .head _, noRow_cell hC⟩
    · rcases List.mem_append.mp ha with ha | ha
      · rw [← led_ad ta k1 rs] at ha
        obtain ⟨q, hq, rfl⟩ := List.mem_map.mp ha
        exact ⟨q.2, .tail _ (List.mem_append.mpr (.inl hq)), noRow_cls (tab_cls q hq)⟩
      · rw [← led_ad tb k2 rs2] at ha
        obtain ⟨q, hq, rfl⟩ := List.mem_map.mp ha
        exact ⟨q.2, .tail _ (List.mem_append.mpr (.inr (List.mem_append.mpr (.inl hq)))), noRow_cls (tab_cls q hq)⟩
  · obtain ⟨q, hq, rfl⟩ := List.mem_map.mp ha
    exact ⟨q.2, .tail _ (List.mem_append.mpr (.inr (List.mem_append.mpr (.inr (hits q hq).1)))), noRow_cls (hits q hq).2⟩
theorem off_row {h₀ h : Heap} {led : List (Addr × Obj)} {AX : List Addr} {a : Addr} {o : Obj} (N : News h₀ L h led) (hx : ∀ a ∈ AX, ∃ o, (a, o) ∈ led ∧ NoRow o) (hm : (a, o) ∈ led) (hr : ∃ r : HR, o = r.obj) : a ∉ AX := fun ha => by
  obtain ⟨o', h1, h2⟩ := hx a ha
  obtain ⟨r, rfl⟩ := hr
  have e1 := (N _ h1).1
  have e2 := (N _ hm).1
  rw [e2] at e1
  exact h2.1 r (Option.some.inj e1).symm
theorem off_new {h₀ h : Heap} {led : List (Addr × Obj)} {AX : List Addr} {a : Addr} (N : News h₀ L h led) (hx : ∀ a ∈ AX, ∃ o, (a, o) ∈ led ∧ NoRow o) (e : h.get? a = none) : a ∉ AX := fun ha => by
  obtain ⟨o', h1, _⟩ := hx a ha
  exact fresh_off N e _ h1 rfl
end
theorem fmod4 (n : Int) : 0 ≤ n.fmod 4 ∧ n.fmod 4 < 4 := by
  rw [Int.fmod_eq_emod_of_nonneg n (by decide)]
  omega

end Mine
end
end
section
open PySem PySem.W PyProof.Rows PySem.Spec PySem.Calls
noncomputable section
namespace Mine
local macro_rules | `(tactic| walk_at "m args") => `(tactic| ((case kB => k_asm); (case kF => k_asm); (case kX => k_asm); (case kN => k_asm); (case kT => k_asm); (case kK => first | exact rfl | assumption); (case kd => ktr_room); (case ku => ktr_units)))
local macro_rules | `(tactic| walk_at "m stop") => `(tactic| first | (with_reducible show wpAny _ _ (exec (Stmt.Assign _ (Expr.ListComp _ _ _ _) _) _) _ _ _) | (with_reducible show wpAny _ _ (eval (Expr.ListComp _ _ _ _) _) _ _ _) | (with_reducible show wpAny _ _ (exec (Stmt.For _ _ _ _ _) _) _ _ _) | (with_reducible show LCt.CompSrcT _ _ _ _ _ _ _ _ _ _ _ _ _ _ _) | (with_reducible show wpAny _ _ (pyIter _) (fun it s₂ => TurnsAt _ _ _ _ _ _ _ _ _ it s₂) _ _))
local macro_rules | `(tactic| walk_at "m steps") => `(tactic| repeat' (first | ((fail_if_success (walk_at "m stop")); first | (k_unfold; (try dsimp only)) | (k_end; wrow_close) | walk1 | (dsimp only; walk1) | (leave1; walk_say "STEP leave1"; try dsimp only))))
theorem body_ok {w : World} {mean : ExcName → Option Value} {mg mb : Str → Option Value} {L fa : Addr} {cd : Value} {base h₀ : Heap} {m : Str → Option Value} {s : Shared} {Q : Flow → Shared → Prop} {E : Value → Shared → Prop} {oC : Obj} {T its : List (Addr × Obj)}
    {ta tb : TB} {k1 k2 i : Nat} {rs rs2 : List HR} {Rs Rs2 : List NR} {n : Int} {ts tn : Tok} (B : Below callerA base [] h₀) (F : Fr h₀ L s.heap m) (X : (hd.heap_39 w.params).In h₀) (N : News h₀ L s.heap ((L + 1, oC) :: (ta.led k1 rs ++ (tb.led k2 rs2 ++ (its ++ T))))) (TT : Top hd.view_39 loo mean mg mb h₀)
    (ap : Ap L ta tb) (S : St L ta tb i m oC rs rs2 Rs Rs2 T) (hits0 : ∀ p ∈ its, p.1 ∉ AD L ta tb ∧ p.2.cls ≠ .type "tuple") (hi : i < 12) (hn0 : 0 ≤ n) (hn1 : n < 1000000) (hms : m (Str.ofString "step") = some (.int (i : Int) ts)) (hmn : m (Str.ofString "number") = some (.int n tn))
    (ret : ∀ oC' k1' k2' rs' rs2' Rs' Rs2' T' m' h' tk', St L ta tb (i + 1) m' oC' rs' rs2' Rs' Rs2' T' → (∀ p ∈ T, p ∈ T') → (∀ p ∈ T', p ∈ T ∨ p.1 ∉ AD L ta tb ++ its.map (·.1)) → Fr h₀ L h' m' → News h₀ L h' ((L + 1, oC') :: (ta.led k1' rs' ++ (tb.led k2' rs2' ++ (its ++ T')))) → Q .next { s with heap := h', toks := tk' }) :
    wpAny (model PySem.Challenge.rw_pg0217_01.row.prog w) (lawA L fa cd) (execs lawF.1.2.2.1 (lawE L fa cd)) Q E s := by
  obtain ⟨Tb, hTb⟩ : ∃ Tb, Tb = its ++ T := ⟨_, rfl⟩
  rw [← hTb] at N
  have sB : ∀ p ∈ T, p ∈ Tb := fun p hp => hTb ▸ List.mem_append.mpr (.inr hp)
  have hits : ∀ p ∈ its, p ∈ Tb ∧ p.2.cls ≠ .type "tuple" := fun p hp => ⟨hTb ▸ List.mem_append.mpr (.inl hp), (hits0 p hp).2⟩
  have offB : ∀ p ∈ Tb, p.1 ∉ AD L ta tb := fun p hp => by
    rw [hTb] at hp
    rcases List.mem_append.mp hp with hp | hp
    · exact (hits0 p hp).1
    · exact S.off p hp
  obtain ⟨vo, hC⟩ := S.hC
  have hS1 := S.m1
  have hS2 := S.m2
  obtain ⟨ln, kn, hm3, hl3⟩ := S.m3
  obtain ⟨lf, kf, hm4, hl4⟩ := S.m4
  obtain ⟨bs, bt, hm5, hb0, hb1⟩ := S.m5
  have e : lawF.1.2.2.1 = [st0.1, st1.1, st2.1, st3.1, st4.1, st5.1, st6.1, st7.1, st8.1, st9.1, st10.1, st11.1, st12.1] := rfl
  rw [e]
  have hx0 := ax_ok (ta := ta) (tb := tb) (k1 := k1) (k2 := k2) (rs := rs) (rs2 := rs2) (L := L) hC hits
  have hd0 := fmod4 n
  refine wpAny_execs_cons (seg0 (T := ta.led k1 rs ++ (tb.led k2 rs2 ++ Tb)) B F X N TT hn0 hn1 hb0 hb1 hC ?_ hmn hm5 ?_)
  · intro p hp e
    rcases List.mem_append.mp hp with hp | hp
    · have : p.1 ∈ (ta.led k1 rs).map (·.1) := List.mem_map_of_mem hp
      rw [e] at this
      exact ap.a this
    · rcases List.mem_append.mp hp with hp | hp
      · have : p.1 ∈ (tb.led k2 rs2).map (·.1) := List.mem_map_of_mem hp
        rw [e] at this
        exact ap.b this
      · exact offB p hp (by rw [e]; exact .head _)
  intro led wd v oC1 t1 h1 tk1 hw hfr hC1 F1 N1
  have hwo := word_WOk hw
  have hlen := word_len hw
  have hlf : (wd.map (·.1)).length ≤ 2 := by rw [List.length_map]; exact hlen
  have hoffW : ∀ p ∈ led, p.1 ∉ AD L ta tb ++ its.map (·.1) := fun p hp => off_new N hx0 (hfr p hp)
  have N1' : News h₀ L h1 ((L + 1, oC1) :: (ta.led k1 rs ++ (tb.led k2 rs2 ++ (led ++ Tb)))) := nSub N1 (fun p hp => by
    rcases List.mem_cons.mp hp with rfl | hp
    · exact .head _
    · refine .tail _ ?_
      rcases List.mem_append.mp hp with hp | hp
      · exact List.mem_append.mpr (.inr (List.mem_append.mpr (.inl hp)))
      · rcases List.mem_append.mp hp with hp | hp
        · exact List.mem_append.mpr (.inr (List.mem_append.mpr (.inr (List.mem_append.mpr (.inl hp)))))
        · rcases List.mem_append.mp hp with hp | hp
          · exact List.mem_append.mpr (.inl hp)
          · exact List.mem_append.mpr (.inr (List.mem_append.mpr (.inr (List.mem_append.mpr (.inr hp))))))
  show wpAny _ _ (execs _ _) _ _ _
  refine wpAny_execs_cons (seg1 (n := (i : Int)) (t := ts) (T := ta.led k1 rs ++ (tb.led k2 rs2 ++ (led ++ Tb))) B F1 X N1' TT (by omega) (by omega) (by (try dsimp only); repeat (first | assumption | refine look_ne (by decide) ?_ | exact if_pos rfl)) ?_)
  intro vl tv h2 tk2 hv hvl F2 N2
  show wpAny _ _ (execs _ _) _ _ _
  refine wpAny_execs_cons (seg2 (T := ta.led k1 rs ++ (tb.led k2 rs2 ++ (led ++ Tb))) B F2 X N2 TT hC1 hw (fun p hp => List.mem_append.mpr (.inr (List.mem_append.mpr (.inr (List.mem_append.mpr (.inl hp)))))) ?_)
  intro t3 h3 tk3 F3 N3
  have hoT1 : ∀ p ∈ led ++ Tb, p.1 ∉ AD L ta tb := fun p hp => by
    rcases List.mem_append.mp hp with hp | hp
    · exact fun h => hoffW p hp (List.mem_append.mpr (.inl h))
    · exact offB p hp
  show wpAny _ _ (execs _ _) _ _ _
  refine wpAny_execs_cons (seg3 (ta := ta) (tb := tb) (k1 := k1) (k2 := k2) (rs := rs) (rs2 := rs2) (d := n.fmod 4) (vl := vl) (wd := wd) (T := led ++ Tb) B F3 X N3 TT hwo hlen hd0.1 hd0.2 hv hvl (by have := S.z1; omega) (fun r hr => (S.o1 r hr).1) (by have := S.z2; omega) (fun r hr => (S.o2 r hr).1)
    (fun r hr => List.mem_append.mpr (.inr (sB _ (S.r1 r hr)))) (fun r hr => List.mem_append.mpr (.inr (sB _ (S.r2 r hr)))) ?hA ?hB
    (by (try dsimp only); repeat (first | assumption | refine look_ne (by decide) ?_ | exact if_pos rfl)) (by (try dsimp only); repeat (first | assumption | refine look_ne (by decide) ?_ | exact if_pos rfl)) (by (try dsimp only); repeat (first | assumption | refine look_ne (by decide) ?_ | exact if_pos rfl)) (by (try dsimp only); repeat (first | assumption | refine look_ne (by decide) ?_ | exact if_pos rfl)) (by (try dsimp only); repeat (first | assumption | refine look_ne (by decide) ?_ | exact if_pos rfl)) ?_)
  case hA =>
    intro p hp
    rcases List.mem_cons.mp hp with rfl | hp
    · exact ap.a
    · rcases List.mem_append.mp hp with hp | hp
      · have : p.1 ∈ tb.ad := List.mem_map_of_mem (f := (·.1)) hp
        exact fun h => ap.c _ h this
      · exact fun h => hoT1 p hp (.tail _ (List.mem_append.mpr (.inl h)))
  case hB =>
    intro p hp
    rcases List.mem_cons.mp hp with rfl | hp
    · exact ap.b
    · rcases List.mem_append.mp hp with hp | hp
      · have : p.1 ∈ ta.ad := List.mem_map_of_mem (f := (·.1)) hp
        exact ap.c _ this
      · exact fun h => hoT1 p hp (.tail _ (List.mem_append.mpr (.inr h)))
  intro k1' rs' a1 v1 k2' rs2' a2 v2 D h4 tk4 hD1 ha1 hD2 ha2 F4 N4
  obtain ⟨T4, hT4⟩ : ∃ T4, T4 = (D, W.listOf #[v1, v2] 0) :: (rowsL rs' ++ (rowsL rs2' ++ (led ++ Tb))) := ⟨_, rfl⟩
  rw [← hT4] at N4
  have sD : (D, W.listOf #[v1, v2] 0) ∈ T4 := hT4 ▸ .head _
  have sT : ∀ p ∈ Tb, p ∈ T4 := fun p hp => hT4 ▸ .tail _ (List.mem_append.mpr (.inr (List.mem_append.mpr (.inr (List.mem_append.mpr (.inr hp))))))
  have sW : ∀ p ∈ led, p ∈ T4 := fun p hp => hT4 ▸ .tail _ (List.mem_append.mpr (.inr (List.mem_append.mpr (.inr (List.mem_append.mpr (.inl hp))))))
  have sR1 : ∀ r ∈ rs', (r.t, r.obj) ∈ T4 := fun r hr => hT4 ▸ .tail _ (List.mem_append.mpr (.inl (mem_rowsL hr)))
  have sR2 : ∀ r ∈ rs2', (r.t, r.obj) ∈ T4 := fun r hr => hT4 ▸ .tail _ (List.mem_append.mpr (.inr (List.mem_append.mpr (.inl (mem_rowsL hr)))))
  have hits4 : ∀ p ∈ its, p ∈ T4 ∧ p.2.cls ≠ .type "tuple" := fun p hp => ⟨sT p (hits p hp).1, (hits p hp).2⟩
  have hx4 := ax_ok (ta := ta) (tb := tb) (k1 := k1') (k2 := k2') (rs := rs') (rs2 := rs2') (L := L) hC1 hits4
  have up : ∀ p ∈ T4, p ∈ ta.led k1' rs' ++ (tb.led k2' rs2' ++ T4) := fun p hp => List.mem_append.mpr (.inr (List.mem_append.mpr (.inr hp)))
  show wpAny _ _ (execs _ _) _ _ _
  refine wpAny_execs_cons (seg4 (T := ta.led k1' rs' ++ (tb.led k2' rs2' ++ T4)) B F4 X N4 TT hC1 hw (fun p hp => up p (sW p hp)) ?_)
  intro t5 h5 tk5 F5 N5
  have hz1 : Rs.length ≤ 100 := by have := S.z1; rw [← S.t1.len]; omega
  have hz2 : Rs2.length ≤ 100 := by have := S.z2; rw [← S.t2.len]; omega
  show wpAny _ _ (execs _ _) _ _ _
  refine wpAny_execs_cons (seg5 (lr := ln) (k := kn) (Rs := Rs) (d := n.fmod 4) (dn := nmOf 0 wd) (vl := vl) (AD := AD L ta tb ++ its.map (·.1)) (T := ta.led k1' rs' ++ (tb.led k2' rs2' ++ T4)) B F5 X N5 TT hC1 hw (fun p hp => up p (sW p hp)) hd0.1 hd0.2 hz1 (fun r hr => (S.R1 r hr).mono fun p hp => up p (sT p (sB p hp))) (up _ (sT _ (sB _ hl3))) (fun a ha => by obtain ⟨o, h1, h2⟩ := hx4 a ha; exact ⟨o, h1, h2.2⟩)
    (by (try dsimp only); repeat (first | assumption | refine look_ne (by decide) ?_ | exact if_pos rfl)) (by (try dsimp only); repeat (first | assumption | refine look_ne (by decide) ?_ | exact if_pos rfl)) (by (try dsimp only); repeat (first | assumption | refine look_ne (by decide) ?_ | exact if_pos rfl)) (by (try dsimp only); repeat (first | assumption | refine look_ne (by decide) ?_ | exact if_pos rfl)) ?_)
  intro R5 led5 ln' kn' Rs' f5 fv5 h6 tk6 hRd hRv hRk hRin hoffR hofl hRs' hM1 hf5 F6 N6
  obtain ⟨T6, hT6⟩ : ∃ T6, T6 = (ln', W.listOf (Rs'.map NR.ref).toArray kn') :: (R5.t, R5.obj) :: (led5 ++ T4) := ⟨_, rfl⟩
  have N6' : News h₀ L h6 ((L + 1, oC1) :: (ta.led k1' rs' ++ (tb.led k2' rs2' ++ T6))) := nSub N6 (fun p hp => by
    rw [hT6] at hp
    simp only [List.mem_cons, List.mem_append] at hp ⊢
    rcases hp with h | h | h | h | h | h | h
    · exact .inl h
    · exact .inr (.inr (.inr (.inr (.inl h))))
    · exact .inr (.inr (.inr (.inr (.inr (.inl h)))))
    · exact .inr (.inl h)
    · exact .inr (.inr (.inl h))
    · exact .inr (.inr (.inr (.inl h)))
    · exact .inr (.inr (.inr (.inr (.inr (.inr h))))))
  have s46 : ∀ p ∈ T4, p ∈ T6 := fun p hp => hT6 ▸ .tail _ (.tail _ (List.mem_append.mpr (.inr hp)))
  have s56 : ∀ p ∈ (R5.t, R5.obj) :: led5, p ∈ T6 := fun p hp => by
    rw [hT6]
    rcases List.mem_cons.mp hp with rfl | hp
    · exact .tail _ (.head _)
    · exact .tail _ (.tail _ (List.mem_append.mpr (.inl hp)))
  have sl6 : (ln', W.listOf (Rs'.map NR.ref).toArray kn') ∈ T6 := hT6 ▸ .head _
  have hits6 : ∀ p ∈ its, p ∈ T6 ∧ p.2.cls ≠ .type "tuple" := fun p hp => ⟨s46 p (sT p (hits p hp).1), (hits p hp).2⟩
  have hx6 := ax_ok (ta := ta) (tb := tb) (k1 := k1') (k2 := k2') (rs := rs') (rs2 := rs2') (L := L) hC1 hits6
  have up6 : ∀ p ∈ T6, p ∈ ta.led k1' rs' ++ (tb.led k2' rs2' ++ T6) := fun p hp => List.mem_append.mpr (.inr (List.mem_append.mpr (.inr hp)))
  show wpAny _ _ (execs _ _) _ _ _
  refine wpAny_execs_cons (seg6 (T := ta.led k1' rs' ++ (tb.led k2' rs2' ++ T6)) B F6 X N6' TT hC1 hw (fun p hp => up6 p (s46 p (sW p hp))) ?_)
  intro t7 h7 tk7 F7 N7
  show wpAny _ _ (execs _ _) _ _ _
  refine wpAny_execs_cons (seg7 (lr := lf) (k := kf) (Rs := Rs2) (d := n.fmod 4) (dn := shTx (wd.map (·.1))) (vl := vl) (AD := AD L ta tb ++ its.map (·.1)) (T := ta.led k1' rs' ++ (tb.led k2' rs2' ++ T6)) B F7 X N7 TT hC1 hw (fun p hp => up6 p (s46 p (sW p hp))) hd0.1 hd0.2 hz2 (fun r hr => (S.R2 r hr).mono fun p hp => up6 p (s46 p (sT p (sB p hp)))) (up6 _ (s46 _ (sT _ (sB _ hl4)))) (fun a ha => by obtain ⟨o, h1, h2⟩ := hx6 a ha; exact ⟨o, h1, h2.2⟩)
    (by (try dsimp only); repeat (first | assumption | refine look_ne (by decide) ?_ | exact if_pos rfl)) (by (try dsimp only); repeat (first | assumption | refine look_ne (by decide) ?_ | exact if_pos rfl)) (by (try dsimp only); repeat (first | assumption | refine look_ne (by decide) ?_ | exact if_pos rfl)) (by (try dsimp only); repeat (first | assumption | refine look_ne (by decide) ?_ | exact if_pos rfl)) ?_)
  intro R7 led7 lf' kf' Rs2' f7 fv7 h8 tk8 hRd7 hRv7 hRk7 hRin7 hoffR7 hofl7 hRs7 hM2 hf7 F8 N8
  obtain ⟨T8, hT8⟩ : ∃ T8, T8 = (lf', W.listOf (Rs2'.map NR.ref).toArray kf') :: (R7.t, R7.obj) :: (led7 ++ T6) := ⟨_, rfl⟩
  have N8' : News h₀ L h8 ((L + 1, oC1) :: (ta.led k1' rs' ++ (tb.led k2' rs2' ++ T8))) := nSub N8 (fun p hp => by
    rw [hT8] at hp
    simp only [List.mem_cons, List.mem_append] at hp ⊢
    rcases hp with h | h | h | h | h | h | h
    · exact .inl h
    · exact .inr (.inr (.inr (.inr (.inl h))))
    · exact .inr (.inr (.inr (.inr (.inr (.inl h)))))
    · exact .inr (.inl h)
    · exact .inr (.inr (.inl h))
    · exact .inr (.inr (.inr (.inl h)))
    · exact .inr (.inr (.inr (.inr (.inr (.inr h))))))
  have s68 : ∀ p ∈ T6, p ∈ T8 := fun p hp => hT8 ▸ .tail _ (.tail _ (List.mem_append.mpr (.inr hp)))
  have s48 : ∀ p ∈ T4, p ∈ T8 := fun p hp => s68 p (s46 p hp)
  have s78 : ∀ p ∈ (R7.t, R7.obj) :: led7, p ∈ T8 := fun p hp => by
    rw [hT8]
    rcases List.mem_cons.mp hp with rfl | hp
    · exact .tail _ (.head _)
    · exact .tail _ (.tail _ (List.mem_append.mpr (.inl hp)))
  have sl8 : (lf', W.listOf (Rs2'.map NR.ref).toArray kf') ∈ T8 := hT8 ▸ .head _
  have up8 : ∀ p ∈ T8, p ∈ ta.led k1' rs' ++ (tb.led k2' rs2' ++ T8) := fun p hp => List.mem_append.mpr (.inr (List.mem_append.mpr (.inr hp)))
  obtain ⟨tw1, ea1⟩ := Twin.step (P := PN) (nm := nmOf 0 wd) (vl := vl) (R := R5) (by rw [hRk]; exact PN_law hwo) ⟨wd, hwo, rfl, hRk⟩ hRd hRv S.t1 hD1 hM1
  obtain ⟨tw2, ea2⟩ := Twin.step (P := PF) (nm := shTx (wd.map (·.1))) (vl := vl) (R := R7) (by rw [hRk7]; exact PF_law hwo) ⟨wd, hwo, rfl, hRk7⟩ hRd7 hRv7 S.t2 hD2 hM2
  rw [← ea1] at hf5
  rw [← ea2] at hf7
  have okv := strOk_val hv
  have z1' : rs'.length ≤ i + 1 := by have := hD1.len; have := S.z1; omega
  have z2' : rs2'.length ≤ i + 1 := by have := hD2.len; have := S.z2; omega
  have o1' : ∀ r ∈ rs', RowOk r := fun r hr => by
    rcases hD1.mem r hr with h | ⟨h1, h2⟩
    · exact S.o1 r h
    · unfold RowOk; rw [h1, h2]; exact ⟨len_nm 0 hlen, strOk_nm 0 hwo, okv⟩
  have o2' : ∀ r ∈ rs2', RowOk r := fun r hr => by
    rcases hD2.mem r hr with h | ⟨h1, h2⟩
    · exact S.o2 r h
    · unfold RowOk; rw [h1, h2]; exact ⟨len_sh hlf, strOk_sh hwo.five, okv⟩
  have R1' : ∀ r ∈ Rs', r.In T8 := fun r hr => by
    rcases hRs' r hr with h | rfl
    · exact (S.R1 r h).mono fun p hp => s48 p (sT p (sB p hp))
    · exact hRin.mono fun p hp => s68 p (s56 p hp)
  have R2' : ∀ r ∈ Rs2', r.In T8 := fun r hr => by
    rcases hRs7 r hr with h | rfl
    · exact (S.R2 r h).mono fun p hp => s48 p (sT p (sB p hp))
    · exact hRin7.mono fun p hp => s78 p hp
  have hZ1 : Rs'.length ≤ 100 := by rw [← tw1.len]; omega
  have hZ2 : Rs2'.length ≤ 100 := by rw [← tw2.len]; omega
  show wpAny _ _ (execs _ _) _ _ _
  refine wpAny_execs_cons (seg8 (D := D) (v1 := v1) (v2 := v2) (w1 := fv5) (w2 := fv7) (a1 := a1) (a2 := a2) (T := ta.led k1' rs' ++ (tb.led k2' rs2' ++ T8)) B F8 X N8' TT (up8 _ (s48 _ sD)) ha1 ha2 hf5 hf7 (hD1.ans okv fun r hr => (S.o1 r hr).2.2) (hD2.ans okv fun r hr => (S.o2 r hr).2.2)
    (by (try dsimp only); repeat (first | assumption | refine look_ne (by decide) ?_ | exact if_pos rfl)) (by (try dsimp only); repeat (first | assumption | refine look_ne (by decide) ?_ | exact if_pos rfl)) (by (try dsimp only); repeat (first | assumption | refine look_ne (by decide) ?_ | exact if_pos rfl)) ?_)
  intro h9 tk9 F9 N9
  show wpAny _ _ (execs _ _) _ _ _
  refine wpAny_execs_cons (seg9 (ta := ta) (tb := tb) (k1 := k1') (k2 := k2') (kn := kn') (kf := kf') (rs := rs') (rs2 := rs2') (Rs := Rs') (Rs2 := Rs2') (ln := ln') (lf := lf') (T := T8) B F9 X N9 TT (by omega) (by omega) hZ1 hZ2 (fun r hr => s48 _ (sR1 r hr)) (fun r hr => s48 _ (sR2 r hr)) R1' R2' (s68 _ sl6) sl8 tw1.texts tw2.texts (fun r hr => (o1' r hr).2) (fun r hr => (o2' r hr).2)
    (by (try dsimp only); repeat (first | assumption | refine look_ne (by decide) ?_ | exact if_pos rfl)) (by (try dsimp only); repeat (first | assumption | refine look_ne (by decide) ?_ | exact if_pos rfl)) (by (try dsimp only); repeat (first | assumption | refine look_ne (by decide) ?_ | exact if_pos rfl)) (by (try dsimp only); repeat (first | assumption | refine look_ne (by decide) ?_ | exact if_pos rfl)) ?_)
  intro h10 tk10 F10 N10
  show wpAny _ _ (execs _ _) _ _ _
  refine wpAny_execs_cons (seg10 (T := ta.led k1' rs' ++ (tb.led k2' rs2' ++ T8)) B F10 X N10 TT hC1 hw (fun p hp => up8 p (s48 p (sW p hp))) ?_)
  intro t11 h11 tk11 F11 N11
  show wpAny _ _ (execs _ _) _ _ _
  refine wpAny_execs_cons (seg11 (ta := ta) (k1 := k1') (kn := kn') (rs := rs') (Rs := Rs') (ln := ln') (T := tb.led k2' rs2' ++ T8) B F11 X N11 TT hC1 hw (fun p hp => List.mem_append.mpr (.inr (s48 p (sW p hp)))) (by omega) (fun r hr => (o1' r hr).1) hZ1 (fun r hr => List.mem_append.mpr (.inr (s48 _ (sR1 r hr)))) (fun r hr => (R1' r hr).mono fun p hp => List.mem_append.mpr (.inr hp)) (List.mem_append.mpr (.inr (s68 _ sl6))) (tw1.vals (PN_law hwo)) (fun r hr => (o1' r hr).2.2)
    (by (try dsimp only); repeat (first | assumption | refine look_ne (by decide) ?_ | exact if_pos rfl)) (by (try dsimp only); repeat (first | assumption | refine look_ne (by decide) ?_ | exact if_pos rfl)) (by (try dsimp only); repeat (first | assumption | refine look_ne (by decide) ?_ | exact if_pos rfl)) ?_)
  intro h12 tk12 F12 N12
  have N12' : News h₀ L h12 ((L + 1, oC1) :: (tb.led k2' rs2' ++ (ta.led k1' rs' ++ T8))) := nSub N12 (fun p hp => by
    simp only [List.mem_cons, List.mem_append] at hp ⊢
    rcases hp with h | h | h | h
    · exact .inl h
    · exact .inr (.inr (.inl h))
    · exact .inr (.inl h)
    · exact .inr (.inr (.inr h)))
  show wpAny _ _ (execs _ _) _ _ _
  refine wpAny_execs_cons (seg12 (ta := tb) (k1 := k2') (kn := kf') (rs := rs2') (Rs := Rs2') (ln := lf') (T := ta.led k1' rs' ++ T8) B F12 X N12' TT hC1 hw (fun p hp => List.mem_append.mpr (.inr (s48 p (sW p hp)))) (by omega) (fun r hr => (o2' r hr).1) hZ2 (fun r hr => List.mem_append.mpr (.inr (s48 _ (sR2 r hr)))) (fun r hr => (R2' r hr).mono fun p hp => List.mem_append.mpr (.inr hp)) (List.mem_append.mpr (.inr sl8)) rfl (tw2.vals (PF_law' hwo)) (fun r hr => (o2' r hr).2.2)
    (by (try dsimp only); repeat (first | assumption | refine look_ne (by decide) ?_ | exact if_pos rfl)) (by (try dsimp only); repeat (first | assumption | refine look_ne (by decide) ?_ | exact if_pos rfl)) (by (try dsimp only); repeat (first | assumption | refine look_ne (by decide) ?_ | exact if_pos rfl)) ?_)
  intro h13 tk13 F13 N13
  show wpAny _ _ (execs _ _) _ _ _
  refine wpAny_execs_nil ?_
  obtain ⟨T9, hT9⟩ : ∃ T9, T9 = (lf', W.listOf (Rs2'.map NR.ref).toArray kf') :: (R7.t, R7.obj) :: (led7 ++ ((ln', W.listOf (Rs'.map NR.ref).toArray kn') :: (R5.t, R5.obj) :: (led5 ++ (rowsL rs' ++ (rowsL rs2' ++ (led ++ T)))))) := ⟨_, rfl⟩
  have q1 : (lf', W.listOf (Rs2'.map NR.ref).toArray kf') ∈ T9 := hT9 ▸ .head _
  have q2 : ∀ p ∈ (R7.t, R7.obj) :: led7, p ∈ T9 := fun p hp => by
    rw [hT9]
    rcases List.mem_cons.mp hp with rfl | hp
    · exact .tail _ (.head _)
    · exact .tail _ (.tail _ (List.mem_append.mpr (.inl hp)))
  have q3 : (ln', W.listOf (Rs'.map NR.ref).toArray kn') ∈ T9 := hT9 ▸ .tail _ (.tail _ (List.mem_append.mpr (.inr (.head _))))
  have q4 : ∀ p ∈ (R5.t, R5.obj) :: led5, p ∈ T9 := fun p hp => by
    rw [hT9]
    rcases List.mem_cons.mp hp with rfl | hp
    · exact .tail _ (.tail _ (List.mem_append.mpr (.inr (.tail _ (.head _)))))
    · exact .tail _ (.tail _ (List.mem_append.mpr (.inr (.tail _ (.tail _ (List.mem_append.mpr (.inl hp)))))))
  have q5 : ∀ p ∈ rowsL rs' ++ (rowsL rs2' ++ (led ++ T)), p ∈ T9 := fun p hp => hT9 ▸ .tail _ (.tail _ (List.mem_append.mpr (.inr (.tail _ (.tail _ (List.mem_append.mpr (.inr hp)))))))
  have qT : ∀ p ∈ T, p ∈ T9 := fun p hp => q5 p (List.mem_append.mpr (.inr (List.mem_append.mpr (.inr (List.mem_append.mpr (.inr hp))))))
  have q54 : ∀ p ∈ rowsL rs' ++ (rowsL rs2' ++ (led ++ T)), p ∈ T4 := fun p hp => by
    rw [hT4]
    refine .tail _ ?_
    rcases List.mem_append.mp hp with hp | hp
    · exact List.mem_append.mpr (.inl hp)
    · rcases List.mem_append.mp hp with hp | hp
      · exact List.mem_append.mpr (.inr (List.mem_append.mpr (.inl hp)))
      · rcases List.mem_append.mp hp with hp | hp
        · exact List.mem_append.mpr (.inr (List.mem_append.mpr (.inr (List.mem_append.mpr (.inl hp)))))
        · exact List.mem_append.mpr (.inr (List.mem_append.mpr (.inr (List.mem_append.mpr (.inr (sB p hp))))))
  have q98 : ∀ p ∈ T9, p ∈ T8 := fun p hp => by
    rw [hT9] at hp
    rcases List.mem_cons.mp hp with rfl | hp
    · exact sl8
    · rcases List.mem_cons.mp hp with rfl | hp
      · exact s78 _ (.head _)
      · rcases List.mem_append.mp hp with hp | hp
        · exact s78 _ (.tail _ hp)
        · rcases List.mem_cons.mp hp with rfl | hp
          · exact s68 _ sl6
          · rcases List.mem_cons.mp hp with rfl | hp
            · exact s68 _ (s56 _ (.head _))
            · rcases List.mem_append.mp hp with hp | hp
              · exact s68 _ (s56 _ (.tail _ hp))
              · exact s48 _ (q54 _ hp)
  have hits8 : ∀ p ∈ its, p ∈ T8 ∧ p.2.cls ≠ .type "tuple" := fun p hp => ⟨s48 p (sT p (hits p hp).1), (hits p hp).2⟩
  have hx8 := ax_ok (ta := ta) (tb := tb) (k1 := k1') (k2 := k2') (rs := rs') (rs2 := rs2') (L := L) hC1 hits8
  have off9 : ∀ p ∈ T9, p ∈ T ∨ p.1 ∉ AD L ta tb ++ its.map (·.1) := fun p hp => by
    rw [hT9] at hp
    rcases List.mem_cons.mp hp with rfl | hp
    · rcases hofl7 with ⟨rfl, rfl, rfl⟩ | h
      · exact .inl hl4
      · exact .inr h
    · rcases List.mem_cons.mp hp with rfl | hp
      · exact .inr (hoffR7 _ (.head _))
      · rcases List.mem_append.mp hp with hp | hp
        · exact .inr (hoffR7 _ (.tail _ hp))
        · rcases List.mem_cons.mp hp with rfl | hp
          · rcases hofl with ⟨rfl, rfl, rfl⟩ | h
            · exact .inl hl3
            · exact .inr h
          · rcases List.mem_cons.mp hp with rfl | hp
            · exact .inr (hoffR _ (.head _))
            · rcases List.mem_append.mp hp with hp | hp
              · exact .inr (hoffR _ (.tail _ hp))
              · rcases List.mem_append.mp hp with hp' | hp'
                · obtain ⟨r, hr, rfl⟩ := List.mem_map.mp hp'
                  exact .inr (off_row N8' hx8 (.tail _ (up8 _ (s48 _ (sR1 r hr)))) ⟨r, rfl⟩)
                · rcases List.mem_append.mp hp' with hp' | hp'
                  · obtain ⟨r, hr, rfl⟩ := List.mem_map.mp hp'
                    exact .inr (off_row N8' hx8 (.tail _ (up8 _ (s48 _ (sR2 r hr)))) ⟨r, rfl⟩)
                  · rcases List.mem_append.mp hp' with hp' | hp'
                    · exact .inr (hoffW p hp')
                    · exact .inl hp'
  refine ret oC1 k1' k2' rs' rs2' Rs' Rs2' T9 _ _ _ ?_ qT off9 F13 (nSub N13 (fun p hp => ?_))
  · refine ⟨⟨_, hC1⟩, (by (try dsimp only); repeat (first | assumption | refine look_ne (by decide) ?_ | exact if_pos rfl)), (by (try dsimp only); repeat (first | assumption | refine look_ne (by decide) ?_ | exact if_pos rfl)), ⟨ln', kn', (by (try dsimp only); repeat (first | assumption | refine look_ne (by decide) ?_ | exact if_pos rfl)), q3⟩, ⟨lf', kf', (by (try dsimp only); repeat (first | assumption | refine look_ne (by decide) ?_ | exact if_pos rfl)), q1⟩, ⟨bs, bt, (by (try dsimp only); repeat (first | assumption | refine look_ne (by decide) ?_ | exact if_pos rfl)), hb0, hb1⟩, z1', z2', tw1, tw2, fun r hr => q5 _ (List.mem_append.mpr (.inl (mem_rowsL hr))), fun r hr => q5 _ (List.mem_append.mpr (.inr (List.mem_append.mpr (.inl (mem_rowsL hr))))), ?_, ?_, o1', o2', ?_⟩
    · intro r hr
      rcases hRs' r hr with h | rfl
      · exact (S.R1 r h).mono qT
      · exact hRin.mono q4
    · intro r hr
      rcases hRs7 r hr with h | rfl
      · exact (S.R2 r h).mono qT
      · exact hRin7.mono q2
    · intro p hp
      rcases off9 p hp with h | h
      · exact S.off p h
      · exact fun hm => h (List.mem_append.mpr (.inl hm))
  · rcases List.mem_cons.mp hp with rfl | hp
    · exact .head _
    · rcases List.mem_append.mp hp with hp | hp
      · exact .tail _ (List.mem_append.mpr (.inr (List.mem_append.mpr (.inl hp))))
      · rcases List.mem_append.mp hp with hp | hp
        · exact .tail _ (List.mem_append.mpr (.inl hp))
        · refine .tail _ (List.mem_append.mpr (.inr (List.mem_append.mpr (.inr ?_))))
          rcases List.mem_append.mp hp with hp | hp
          · exact (hits8 p hp).1
          · exact q98 p hp

end Mine
end
end
section
open PySem PySem.W PyProof.Rows PySem.Spec PySem.Calls
noncomputable section
namespace Mine
local macro_rules | `(tactic| walk_at "m none") => `(tactic| fail)
local macro_rules | `(tactic| walk_at "m none") => `(tactic| fail)
local macro_rules | `(tactic| walk_at "m none") => `(tactic| fail)
local macro_rules | `(tactic| walk_at "m none") => `(tactic| fail)
local macro_rules | `(tactic| walk_at "m none") => `(tactic| fail)
local macro_rules | `(tactic| walk_at "m none") => `(tactic| fail)
local macro_rules | `(tactic| walk_at "m none") => `(tactic| fail)
local macro_rules | `(tactic| walk_at "m none") => `(tactic| fail)
local macro_rules | `(tactic| walk_at "m none") => `(tactic| fail)
local macro_rules | `(tactic| walk_at "m none") => `(tactic| fail)
local macro_rules | `(tactic| walk_at "m none") => `(tactic| fail)
local macro_rules | `(tactic| walk_at "m none") => `(tactic| fail)
local macro_rules | `(tactic| walk_at "m none") => `(tactic| fail)
local macro_rules | `(tactic| walk_at "m none") => `(tactic| fail)
local macro_rules | `(tactic| walk_at "m none") => `(tactic| fail)
local macro_rules | `(tactic| walk_at "m none") => `(tactic| fail)
local macro_rules | `(tactic| walk_at "m none") => `(tactic| fail)
local macro_rules | `(tactic| walk_at "m none") => `(tactic| fail)
local macro_rules | `(tactic| walk_at "m none") => `(tactic| fail)
local macro_rules | `(tactic| walk_at "m none") => `(tactic| fail)
local macro_rules | `(tactic| walk_at "m none") => `(tactic| fail)
local macro_rules | `(tactic| walk_at "m none") => `(tactic| fail)
local macro_rules | `(tactic| walk_at "m none") => `(tactic| fail)
local macro_rules | `(tactic| walk_at "m none") => `(tactic| fail)
local macro_rules | `(tactic| walk_at "m none") => `(tactic| fail)
local macro_rules | `(tactic| walk_at "m none") => `(tactic| fail)
local macro_rules | `(tactic| walk_at "m none") => `(tactic| fail)
local macro_rules | `(tactic| walk_at "m none") => `(tactic| fail)
local macro_rules | `(tactic| walk_at "m none") => `(tactic| fail)
local macro_rules | `(tactic| walk_at "m none") => `(tactic| fail)
local macro_rules | `(tactic| walk_at "m args") => `(tactic| ((case kB => k_asm); (case kF => k_asm); (case kX => k_asm); (case kN => k_asm); (case kT => k_asm); (case kK => first | exact rfl | assumption); (case kd => ktr_room); (case ku => ktr_units)))
local macro_rules | `(tactic| walk_at "m stop") => `(tactic| first | (with_reducible show wpAny _ _ (exec (Stmt.Assign _ (Expr.ListComp _ _ _ _) _) _) _ _ _) | (with_reducible show wpAny _ _ (eval (Expr.ListComp _ _ _ _) _) _ _ _) | (with_reducible show wpAny _ _ (exec (Stmt.For _ _ _ _ _) _) _ _ _) | (with_reducible show LCt.CompSrcT _ _ _ _ _ _ _ _ _ _ _ _ _ _ _) | (with_reducible show wpAny _ _ (pyIter _) (fun it s₂ => TurnsAt _ _ _ _ _ _ _ _ _ it s₂) _ _))
local macro_rules | `(tactic| walk_at "m steps") => `(tactic| repeat' (first | ((fail_if_success (walk_at "m stop")); first | (k_unfold; (try dsimp only)) | (k_end; wrow_close) | walk1 | (dsimp only; walk1) | (leave1; walk_say "STEP leave1"; try dsimp only))))
local macro_rules | `(tactic| walk_at "m stop") => `(tactic| with_reducible show wpAny _ _ (call (Value.ref _) _ _) _ _ _)
local macro_rules | `(tactic| walk_at "eval Name") => `(tactic| (k_here; name_kind "local"; k_dflt (refine' ld ?k1 ?k2 ?_; (case k1 => k_asm); (case k2 => ((try dsimp only); (repeat (refine look_ne (by decide) ?_)); assumption)); k_whole)))
local macro_rules | `(tactic| k_all) => `(tactic| assumption)
local macro_rules | `(tactic| walk_at "eval Name") => `(tactic| (k_here; name_kind "globalImplicit"; k_dflt (refine' nameX_B ?F ?X ?T ?e ?v ?n ?_ ?a ?b; (case F => k_asm); (case X => k_asm); (case T => k_asm); (case a => rfl); (case b => rfl); (case e => k_is); (case v => boot_by_name); (case n => decide); k_whole)))
local macro_rules | `(tactic| walk_at "eval Name") => `(tactic| (k_here; name_kind "cell"; k_dflt (refine' nameX_C ?N ?c ?m ?d ?_ ?a ?b; (case a => rfl); (case b => rfl); (case N => k_asm); (case c => rfl); (case m => k_mem); (case d => k_asm); k_whole)))
local macro_rules | `(tactic| walk_at "m stop") => `(tactic| with_reducible show wpAny _ _ (compareOp _ (Value.ref _) (Value.ref _)) _ _ _)
local macro_rules | `(tactic| walk_at "m stop") => `(tactic| with_reducible show wpAny _ _ (call (Value.type "enumerate") _ _) _ _ _)
def NumV (v : Value) : Prop := ∃ n t, v = .int n t ∧ 0 ≤ n ∧ n < 1000000
def eN : Nat → List Value → List (Nat × Value)
  | _, [] => []
  | i, v :: r => (i, v) :: eN (i + 1) r
def itE (a : Nat × Value) : Itm := .pair (fun t => .int (a.1 : Int) t) a.2
theorem eN_items : ∀ (i : Nat) (vs : List Value), enumItems i vs = (eN i vs).map itE
  | _, [] => rfl
  | i, _ :: r => congrArg _ (eN_items (i + 1) r)
/-- between the turns: what is left of the numbers, the state -/
def Turns (L I NB : Addr) (nb : Obj) (ta tb : TB) (rest : List (Nat × Value)) (m : Str → Option Value) (news : List (Addr × Obj)) : Prop :=
  ∃ i vs oC k1 k2 rs rs2 Rs Rs2 T, rest = eN i vs ∧ i + vs.length ≤ 12 ∧ (∀ v ∈ vs, NumV v) ∧ news = (L + 1, oC) :: (ta.led k1 rs ++ (tb.led k2 rs2 ++ T)) ∧ St L ta tb i m oC rs rs2 Rs Rs2 T ∧ (NB, nb) ∈ T ∧ ∀ p ∈ T, p.1 ≠ I + 1 ∧ p.1 ≠ I
section
variable {w : World} {mean : ExcName → Option Value} {mg mb : Str → Option Value} {L fa : Addr} {cd : Value} {base h₀ : Heap} {m : Str → Option Value} {s : Shared} {Q : Flow → Shared → Prop} {E : Value → Shared → Prop} {ta tb : TB} {I NB : Addr} {nb : Obj}
theorem St.assign {i : Nat} {oC : Obj} {rs rs2 : List HR} {Rs Rs2 : List NR} {T : List (Addr × Obj)} {a b : Value} (S : St L ta tb i m oC rs rs2 Rs Rs2 T) : St L ta tb i (fun y => if y = Str.ofString "number" then some b else if y = Str.ofString "step" then some a else m y) oC rs rs2 Rs Rs2 T := by
  have hS1 := S.m1
  have hS2 := S.m2
  obtain ⟨ln, kn, hm3, hl3⟩ := S.m3
  obtain ⟨lf, kf, hm4, hl4⟩ := S.m4
  obtain ⟨bs, bt, hm5, hb0, hb1⟩ := S.m5
  exact ⟨S.hC, (by (try dsimp only); repeat (first | assumption | refine look_ne (by decide) ?_ | exact if_pos rfl)), (by (try dsimp only); repeat (first | assumption | refine look_ne (by decide) ?_ | exact if_pos rfl)), ⟨ln, kn, (by (try dsimp only); repeat (first | assumption | refine look_ne (by decide) ?_ | exact if_pos rfl)), hl3⟩, ⟨lf, kf, (by (try dsimp only); repeat (first | assumption | refine look_ne (by decide) ?_ | exact if_pos rfl)), hl4⟩, ⟨bs, bt, (by (try dsimp only); repeat (first | assumption | refine look_ne (by decide) ?_ | exact if_pos rfl)), hb0, hb1⟩, S.z1, S.z2, S.t1, S.t2, S.r1, S.r2, S.R1, S.R2, S.o1, S.o2, S.off⟩
theorem turn_ok (B : Below callerA base [] h₀) (X : (hd.heap_39 w.params).In h₀) (TT : Top hd.view_39 loo mean mg mb h₀) (ap : Ap L ta tb) (hI : I ∉ AD L ta tb) (hI1 : I + 1 ∉ AD L ta tb) (r : Nat × Value) (rest : List (Nat × Value)) (m₁ : Str → Option Value) (news₁ : List (Addr × Obj)) (J : Turns L I NB nb ta tb (r :: rest) m₁ news₁) (v : Value) (h : Heap) (tk : Nat) (hv : (itE r).Is v h) (F : Fr h₀ L h m₁) :
    AllObj [(I + 1, "enumerate"), (I, "list_iterator")] (fun its => News h₀ L h (its ++ news₁) →
      wpAny (model PySem.Challenge.rw_pg0217_01.row.prog w) (lawA L fa cd) (assign lawF.1.1 (lawE L fa cd) v) (fun _ s₂ => wpAny (model PySem.Challenge.rw_pg0217_01.row.prog w) (lawA L fa cd) (execs lawF.1.2.2.1 (lawE L fa cd)) (UnrPostW h₀ L { s with heap := h, toks := tk } its (fun m' n' => SubL [(NB, nb)] n' ∧ Turns L I NB nb ta tb rest m' n') Q) E s₂) E { s with heap := h, toks := tk }) := by
  obtain ⟨i, vs, oC, k1, k2, rs, rs2, Rs, Rs2, T, hrest, hlen, hnum, rfl, S, hNB, hT⟩ := J
  refine AllObj.cons (fun o1 hc1 => AllObj.cons fun o2 hc2 => AllObj.nil fun N => ?_)
  cases vs with
  | nil => cases hrest
  | cons v' vs =>
    obtain ⟨hr1, hr2⟩ := List.cons.inj hrest
    subst hr1
    obtain ⟨T0, t0, hv1, hv2⟩ := hv
    subst hv1
    obtain ⟨n, tn, hn, hn0, hn1⟩ := hnum v' (.head _)
    subst hn
    have hTup : IsTup h T0 #[.int (i : Int) t0, .int n tn] := hv2
    simp only [List.length_cons] at hlen
    obtain ⟨its, hits⟩ : ∃ its, its = [(I + 1, o1), (I, o2)] := ⟨_, rfl⟩
    have hi0 : ∀ p ∈ its, p.1 ∉ AD L ta tb ∧ p.2.cls ≠ .type "tuple" := fun p hp => by
      rw [hits] at hp
      rcases List.mem_cons.mp hp with rfl | hp
      · exact ⟨hI1, by rw [show (I + 1, o1).2.cls = _ from hc1]; simp⟩
      · rw [List.mem_singleton.mp hp]
        exact ⟨hI, by rw [show (I, o2).2.cls = _ from hc2]; simp⟩
    rw [← hits] at N ⊢
    have N' : News h₀ L h ((L + 1, oC) :: (ta.led k1 rs ++ (tb.led k2 rs2 ++ (its ++ T)))) := nSub N (fun p hp => by
      rcases List.mem_cons.mp hp with rfl | hp
      · exact List.mem_append.mpr (.inr (.head _))
      · rcases List.mem_append.mp hp with hp | hp
        · exact List.mem_append.mpr (.inr (.tail _ (List.mem_append.mpr (.inl hp))))
        · rcases List.mem_append.mp hp with hp | hp
          · exact List.mem_append.mpr (.inr (.tail _ (List.mem_append.mpr (.inr (List.mem_append.mpr (.inl hp))))))
          · rcases List.mem_append.mp hp with hp | hp
            · exact List.mem_append.mpr (.inl hp)
            · exact List.mem_append.mpr (.inr (.tail _ (List.mem_append.mpr (.inr (List.mem_append.mpr (.inr hp)))))))
    clear N
    obtain ⟨bd, hbd⟩ : ∃ bd, bd = lawF.1.2.2.1 := ⟨_, rfl⟩
    rw [← hbd]
    revert X
    k_fill
    intro X
    dsimp only [lawF, lawE, lawA, lawD]
    walk_at "m steps"
    all_goals (try exact default)
    (rename News h₀ L _ _ => N2)
    (rename Fr h₀ L _ _ => F2)
    rw [hbd]
    refine body_ok (its := its) (i := i) (n := n) (ts := t0) (tn := tn) (ta := ta) (tb := tb) (k1 := k1) (k2 := k2) (rs := rs) (rs2 := rs2) (Rs := Rs) (Rs2 := Rs2) (T := T) (oC := oC) B F2 X N2 TT ap S.assign hi0 (by omega) hn0 hn1 (by (try dsimp only); repeat (first | assumption | refine look_ne (by decide) ?_ | exact if_pos rfl)) (by (try dsimp only); repeat (first | assumption | refine look_ne (by decide) ?_ | exact if_pos rfl)) ?_
    intro oC' k1' k2' rs' rs2' Rs' Rs2' T' m' h' tk' S' hsub hoff F' N3
    have hofT : ∀ p ∈ T', p.1 ≠ I + 1 ∧ p.1 ≠ I := fun p hp => by
      rcases hoff p hp with h | h
      · exact hT p h
      · rw [hits] at h
        exact ⟨fun e => h (List.mem_append.mpr (.inr (by rw [e]; exact .head _))), fun e => h (List.mem_append.mpr (.inr (by rw [e]; exact .tail _ (.head _))))⟩
    have hofA : ∀ a ∈ AD L ta tb, a ≠ I + 1 ∧ a ≠ I := fun a ha => ⟨fun e => hI1 (e ▸ ha), fun e => hI (e ▸ ha)⟩
    have hofN : ∀ p ∈ (L + 1, oC') :: (ta.led k1' rs' ++ (tb.led k2' rs2' ++ T')), p.1 ≠ I + 1 ∧ p.1 ≠ I := fun p hp => by
      rcases List.mem_cons.mp hp with rfl | hp
      · exact hofA _ (.head _)
      · rcases List.mem_append.mp hp with hp | hp
        · exact hofA _ (.tail _ (List.mem_append.mpr (.inl (List.mem_map_of_mem (f := (·.1)) hp))))
        · rcases List.mem_append.mp hp with hp | hp
          · exact hofA _ (.tail _ (List.mem_append.mpr (.inr (List.mem_map_of_mem (f := (·.1)) hp))))
          · exact hofT p hp
    refine ⟨h', tk', m', (L + 1, oC') :: (ta.led k1' rs' ++ (tb.led k2' rs2' ++ T')), rfl, F', nSub N3 (fun p hp => ?_), ?_, ⟨?_, trivial⟩, ⟨i + 1, vs, oC', k1', k2', rs', rs2', Rs', Rs2', T', hr2, by omega, fun v hv => hnum v (.tail _ hv), rfl, S', hsub _ hNB, ?_⟩⟩
    · rcases List.mem_append.mp hp with hp | hp
      · exact .tail _ (List.mem_append.mpr (.inr (List.mem_append.mpr (.inr (List.mem_append.mpr (.inl hp))))))
      · rcases List.mem_cons.mp hp with rfl | hp
        · exact .head _
        · rcases List.mem_append.mp hp with hp | hp
          · exact .tail _ (List.mem_append.mpr (.inl hp))
          · rcases List.mem_append.mp hp with hp | hp
            · exact .tail _ (List.mem_append.mpr (.inr (List.mem_append.mpr (.inl hp))))
            · exact .tail _ (List.mem_append.mpr (.inr (List.mem_append.mpr (.inr (List.mem_append.mpr (.inr hp))))))
    · intro p hp q hq
      rw [hits] at hq
      rcases List.mem_cons.mp hq with rfl | hq
      · exact (hofN p hp).1
      · rw [List.mem_singleton.mp hq]
        exact (hofN p hp).2
    · exact .tail _ (List.mem_append.mpr (.inr (List.mem_append.mpr (.inr (hsub _ hNB)))))
    · exact hofT
theorem loop_ok {vs : List Value} {k1 k2 kn kf kb ln lf : Nat} {bs : Int} {bt : Tok} {vo : Option Value} {oC : Obj} {news : List (Addr × Obj)} (B : Below callerA base [] h₀) (F : Fr h₀ L s.heap m) (X : (hd.heap_39 w.params).In h₀) (N : News h₀ L s.heap news) (TT : Top hd.view_39 loo mean mg mb h₀) (ap : Ap L ta tb) (hC : oC.data = .cell vo)
    (n1 : (L + 1, oC) ∈ news) (n2 : ∀ p ∈ ta.led k1 [], p ∈ news) (n3 : ∀ p ∈ tb.led k2 [], p ∈ news) (n4 : (ln, W.listOf #[] kn) ∈ news) (n5 : (lf, W.listOf #[] kf) ∈ news) (n6 : (NB, W.listOf vs.toArray kb) ∈ news) (o4 : ln ∉ AD L ta tb) (o5 : lf ∉ AD L ta tb) (o6 : NB ∉ AD L ta tb)
    (hlen : vs.length ≤ 12) (hnum : ∀ v ∈ vs, NumV v) (hb0 : 0 ≤ bs) (hb1 : bs < 100000000)
    (hm1 : m (Str.ofString "lifted") = some (.ref ta.x)) (hm2 : m (Str.ofString "shown") = some (.ref tb.x)) (hm3 : m (Str.ofString "near") = some (.ref ln)) (hm4 : m (Str.ofString "far") = some (.ref lf)) (hm5 : m (Str.ofString "base") = some (.int bs bt)) (hm6 : m (Str.ofString "numbers") = some (.ref NB))
    (hE : PassesOwn (model PySem.Challenge.rw_pg0217_01.row.prog w) (lawA L fa cd) (lawE L fa cd) E)
    (ret : ∀ m' h' tk', Fr h₀ L h' m' → News h₀ L h' [] → Q .next { s with heap := h', toks := tk' }) :
    wpAny (model PySem.Challenge.rw_pg0217_01.row.prog w) (lawA L fa cd) (exec (.For lawF.1.1 lawF.1.2.1 lawF.1.2.2.1 lawF.1.2.2.2.1 lawF.1.2.2.2.2) (lawE L fa cd)) Q E s := by
  have N0 : News h₀ L s.heap ((L + 1, oC) :: (ta.led k1 [] ++ (tb.led k2 [] ++ [(NB, W.listOf vs.toArray kb), (ln, W.listOf #[] kn), (lf, W.listOf #[] kf)]))) := nSub N (fun p hp => by
    rcases List.mem_cons.mp hp with rfl | hp
    · exact n1
    · rcases List.mem_append.mp hp with hp | hp
      · exact n2 p hp
      · rcases List.mem_append.mp hp with hp | hp
        · exact n3 p hp
        · rcases List.mem_cons.mp hp with rfl | hp
          · exact n6
          · rcases List.mem_cons.mp hp with rfl | hp
            · exact n4
            · rw [List.mem_singleton.mp hp]; exact n5)
  clear N n1 n2 n3 n4 n5 n6
  obtain ⟨bd, hbd⟩ : ∃ bd, bd = lawF.1.2.2.1 := ⟨_, rfl⟩
  obtain ⟨tg, htg⟩ : ∃ tg, tg = lawF.1.1 := ⟨_, rfl⟩
  rw [← hbd, ← htg]
  revert X
  k_fill
  intro X
  dsimp only [lawF]
  refine For_turns F ?_ (hE := hE)
  dsimp only [lawE, lawA, lawD]
  walk_at "m steps"
  all_goals (try exact default)
  rw [hbd, htg]
  k_dflt (refine ktu_enum (vs := vs) (n := kb) (lo := W.listOf vs.toArray kb) rfl F N0 (.tail _ (List.mem_append.mpr (.inr (List.mem_append.mpr (.inr (.head _)))))) rfl rfl (eN_items 0 vs) ?_)
  intro I hI
  have hx := ax_ok (ta := ta) (tb := tb) (k1 := k1) (k2 := k2) (rs := []) (rs2 := []) (T := [(NB, W.listOf vs.toArray kb), (ln, W.listOf #[] kn), (lf, W.listOf #[] kf)]) (its := []) (L := L) hC (fun _ h => nomatch h)
  have hlt : ∀ a ∈ AD L ta tb, @LT.lt Nat _ a I := fun a ha => by
    obtain ⟨o, ho, _⟩ := hx a (List.mem_append.mpr (.inl ha))
    exact hI _ ho
  have hT0 : ∀ p ∈ [(NB, W.listOf vs.toArray kb), (ln, W.listOf #[] kn), (lf, W.listOf #[] kf)], p ∈ (L + 1, oC) :: (ta.led k1 [] ++ (tb.led k2 [] ++ [(NB, W.listOf vs.toArray kb), (ln, W.listOf #[] kn), (lf, W.listOf #[] kf)])) := fun p hp => .tail _ (List.mem_append.mpr (.inr (List.mem_append.mpr (.inr hp))))
  refine items_rest itE (Turns L I NB (W.listOf vs.toArray kb) ta tb) ?step ?fin (eN 0 vs) m _ ?J
  case step =>
    intro r rest m₁ news₁ J v h tk hv F1
    exact turn_ok B X TT ap (fun h => Nat.lt_irrefl _ (hlt _ h)) (fun h => Nat.lt_irrefl _ (Nat.lt_of_succ_lt (hlt _ h))) r rest m₁ news₁ J v h tk hv F1
  case fin =>
    intro m₁ news₁ h tk J F1 N1
    exact ret m₁ h tk F1 News.nil
  case J =>
    refine ⟨0, vs, oC, k1, k2, [], [], [], [], _, rfl, by omega, hnum, rfl, ⟨⟨vo, hC⟩, hm1, hm2, ⟨ln, kn, hm3, .tail _ (.head _)⟩, ⟨lf, kf, hm4, .tail _ (.tail _ (.head _))⟩, ⟨bs, bt, hm5, hb0, hb1⟩, Nat.le_refl _, Nat.le_refl _, .nil, .nil, fun _ h => (nomatch h), fun _ h => (nomatch h), fun _ h => (nomatch h), fun _ h => (nomatch h), fun _ h => (nomatch h), fun _ h => (nomatch h), ?_⟩, .head _, fun p hp => ?_⟩
    · intro p hp
      rcases List.mem_cons.mp hp with rfl | hp
      · exact o6
      · rcases List.mem_cons.mp hp with rfl | hp
        · exact o4
        · rw [List.mem_singleton.mp hp]; exact o5
    · have := hI p (hT0 p hp)
      exact ⟨Nat.ne_of_lt (Nat.lt_succ_of_lt this), Nat.ne_of_lt this⟩
end

end Mine
end
end
section
open PySem PySem.W PyProof.Rows PySem.Spec PySem.Calls
noncomputable section
namespace Mine
local macro_rules | `(tactic| walk_at "m args") => `(tactic| ((case kB => k_asm); (case kF => k_asm); (case kX => k_asm); (case kN => k_asm); (case kT => k_asm); (case kK => first | exact rfl | assumption); (case kd => ktr_room); (case ku => ktr_units)))
local macro_rules | `(tactic| walk_at "m stop") => `(tactic| first | (with_reducible show wpAny _ _ (exec (Stmt.Assign _ (Expr.ListComp _ _ _ _) _) _) _ _ _) | (with_reducible show wpAny _ _ (eval (Expr.ListComp _ _ _ _) _) _ _ _) | (with_reducible show wpAny _ _ (exec (Stmt.For _ _ _ _ _) _) _ _ _) | (with_reducible show LCt.CompSrcT _ _ _ _ _ _ _ _ _ _ _ _ _ _ _) | (with_reducible show wpAny _ _ (pyIter _) (fun it s₂ => TurnsAt _ _ _ _ _ _ _ _ _ it s₂) _ _))
local macro_rules | `(tactic| walk_at "m steps") => `(tactic| repeat' (first | ((fail_if_success (walk_at "m stop")); first | (k_unfold; (try dsimp only)) | (k_end; wrow_close) | walk1 | (dsimp only; walk1) | (leave1; walk_say "STEP leave1"; try dsimp only))))
local macro_rules | `(tactic| walk_at "m stop") => `(tactic| with_reducible show wpAny _ _ (call (Value.ref _) _ _) _ _ _)
local macro_rules | `(tactic| walk_at "eval Name") => `(tactic| (k_here; name_kind "local"; k_dflt (refine' ld ?k1 ?k2 ?_; (case k1 => k_asm); (case k2 => ((try dsimp only); (repeat (refine look_ne (by decide) ?_)); assumption)); k_whole)))
local macro_rules | `(tactic| k_all) => `(tactic| assumption)
local macro_rules | `(tactic| walk_at "eval Name") => `(tactic| (k_here; name_kind "globalImplicit"; k_dflt (refine' nameX_B ?F ?X ?T ?e ?v ?n ?_ ?a ?b; (case F => k_asm); (case X => k_asm); (case T => k_asm); (case a => rfl); (case b => rfl); (case e => k_is); (case v => boot_by_name); (case n => decide); k_whole)))
local macro_rules | `(tactic| walk_at "eval Name") => `(tactic| (k_here; name_kind "cell"; k_dflt (refine' nameX_C ?N ?c ?m ?d ?_ ?a ?b; (case a => rfl); (case b => rfl); (case N => k_asm); (case c => rfl); (case m => k_mem); (case d => k_asm); k_whole)))
local macro_rules | `(tactic| walk_at "m stop") => `(tactic| with_reducible show wpAny _ _ (compareOp _ (Value.ref _) (Value.ref _)) _ _ _)
local macro_rules | `(tactic| walk_at "m for") => `(tactic| repeat' (first | ((fail_if_success (with_reducible show wpAny _ _ (exec (Stmt.For _ (Expr.Call _ _ _ _) _ _ _) _) _ _ _)); (fail_if_success (with_reducible show wpAny _ _ (execs (Stmt.For _ (Expr.Call _ _ _ _) _ _ _ :: _) _) _ _ _)); first | (k_unfold; (try dsimp only)) | (k_end; wrow_close) | walk1 | (dsimp only; walk1) | (leave1; walk_say "STEP leave1"; try dsimp only))))
theorem ints_num : ∀ {vs : List Value} {ns : List Int}, IntsAre vs ns → (∀ n ∈ ns, 0 ≤ n ∧ n < 1000000) → ∀ v ∈ vs, NumV v
  | _, _, .nil, _ => fun _ h => nomatch h
  | _, _, .cons n t r, h => fun v hv => by
    rcases List.mem_cons.mp hv with rfl | hv
    · exact ⟨n, t, rfl, h n (.head _)⟩
    · exact ints_num r (fun n hn => h n (.tail _ hn)) v hv
theorem nums_low (xs : List Int) : ∀ n ∈ [391, 150, 32, 82] ++ xs.map (fun k : Int => k.fmod (10 ^ Int.toNat 6)), 0 ≤ n ∧ n < 1000000 := by
  intro n hn
  rcases List.mem_append.mp hn with h | h
  · simp only [List.mem_cons, List.not_mem_nil, or_false] at h
    omega
  · obtain ⟨k, _, rfl⟩ := List.mem_map.mp h
    have e : (10 : Int) ^ Int.toNat 6 = 1000000 := by decide
    rw [e, Int.fmod_eq_emod_of_nonneg k (by decide)]
    omega
theorem sum_low : ∀ {ns : List Int}, (∀ n ∈ ns, 0 ≤ n ∧ n < 1000000) → 0 ≤ ns.sum ∧ ns.sum ≤ 1000000 * (ns.length : Int)
  | [], _ => by simp
  | n :: r, h => by
    have i := sum_low (ns := r) fun n hn => h n (.tail _ hn)
    have := h n (.head _)
    rw [List.sum_cons, List.length_cons]
    omega
theorem num_all {vs : List Value} {xs : List Int} (h : IntsAre vs ([391, 150, 32, 82] ++ (xs.take 8).map (fun k : Int => k.fmod (10 ^ Int.toNat 6)))) :
    (∀ v ∈ vs, NumV v) ∧ vs.length ≤ 12 ∧ 0 ≤ ([391, 150, 32, 82] ++ (xs.take 8).map (fun k : Int => k.fmod (10 ^ Int.toNat 6))).sum + 14 ∧ ([391, 150, 32, 82] ++ (xs.take 8).map (fun k : Int => k.fmod (10 ^ Int.toNat 6))).sum + 14 < 100000000 := by
  have hLow := nums_low (xs.take 8)
  have hLen := h.length
  have hz : ([391, 150, 32, 82] ++ (xs.take 8).map (fun k : Int => k.fmod (10 ^ Int.toNat 6))).length ≤ 12 := by
    rw [List.length_append, List.length_map, List.length_take]
    have : [391, 150, 32, (82 : Int)].length = 4 := rfl
    omega
  have hSum := sum_low hLow
  exact ⟨ints_num h hLow, by omega, by omega, by omega⟩
theorem fin : PySem.Challenge.rw_pg0217_01.Holds := hd (by
  k_go0
  all_goals try k_fold
  walk_at "m steps"
  all_goals (try exact default)
  k_dflt (refine LCg.ListComp_U (F₀ := by k_asm) (by rfl) (by decide) (by rfl) (by decide) (by rfl) ?_)
  walk_at "m steps"
  all_goals (try exact default)
  walk_at "m for"
  all_goals (try exact default)
  (rename News _ _ _ _ => NF)
  (rename Fr _ _ _ _ => FF)
  (rename IntsAre _ ([391, 150, 32, 82] ++ _) => hNum)
  (rename _ = Data.cell _ => hCell)
  have hAll := num_all hNum
  refine wpAny_execs_cons ?_
  k_dflt (refine' loop_ok (ta := ⟨?xa, ?da, ?la, ?ha, ?za, ?na⟩) (tb := ⟨?xb, ?db, ?lb, ?hb, ?zb, ?nb⟩) (by k_asm) FF (by k_asm) NF (by k_asm) ?ap ?hC ?n1 ?n2 ?n3 ?n4 ?n5 ?n6 ?o4 ?o5 ?o6 ?hlen ?hnum ?hb0 ?hb1 ?m1 ?m2 ?m3 ?m4 ?m5 ?m6 ?hE ?ret)
  case m1 => exact (by (try dsimp only); repeat (first | refine look_ne (by decide) ?_ | exact if_pos rfl))
  case m2 => exact (by (try dsimp only); repeat (first | refine look_ne (by decide) ?_ | exact if_pos rfl))
  case m3 => exact (by (try dsimp only); repeat (first | refine look_ne (by decide) ?_ | exact if_pos rfl))
  case m4 => exact (by (try dsimp only); repeat (first | refine look_ne (by decide) ?_ | exact if_pos rfl))
  case m5 => exact (by (try dsimp only); repeat (first | refine look_ne (by decide) ?_ | exact if_pos rfl))
  case m6 => exact (by (try dsimp only); repeat (first | refine look_ne (by decide) ?_ | exact if_pos rfl))
  case n1 => k_dflt k_mem
  case n2 => k_dflt (exact List.forall_mem_cons.mpr ⟨by k_mem, List.forall_mem_cons.mpr ⟨by k_mem, List.forall_mem_cons.mpr ⟨by k_mem, List.forall_mem_nil _⟩⟩⟩)
  case n3 => k_dflt (exact List.forall_mem_cons.mpr ⟨by k_mem, List.forall_mem_cons.mpr ⟨by k_mem, List.forall_mem_cons.mpr ⟨by k_mem, List.forall_mem_nil _⟩⟩⟩)
  case n4 => k_dflt k_mem
  case n5 => k_dflt k_mem
  case n6 => k_dflt k_mem
  case hC => exact hCell
  case hlen => exact hAll.2.1
  case hnum => exact hAll.1
  case hb0 => exact hAll.2.2.1
  case hb1 => exact hAll.2.2.2
  case hE => passes_own
  clear hAll hNum hCell
  case o4 =>
    intro h
    simp only [AD, TB.ad, List.mem_cons, List.mem_append, List.not_mem_nil, or_false] at h
    rcases h with h | (h | h | h) | h | h | h <;> exact absurd h (neN (by (try dsimp only); omega))
  case o5 =>
    intro h
    simp only [AD, TB.ad, List.mem_cons, List.mem_append, List.not_mem_nil, or_false] at h
    rcases h with h | (h | h | h) | h | h | h <;> exact absurd h (neN (by (try dsimp only); omega))
  case o6 =>
    intro h
    simp only [AD, TB.ad, List.mem_cons, List.mem_append, List.not_mem_nil, or_false] at h
    rcases h with h | (h | h | h) | h | h | h <;> exact absurd h (neN (by (try dsimp only); omega))
  case ret =>
    intro m9 h9 tk9 F9 N9
    show wpAny _ _ (execs _ _) _ _ _
    clear NF FF
    walk_at "m for"
  case ap =>
    refine ⟨fun h => ?_, fun h => ?_, fun x h h' => ?_⟩
    · simp only [TB.ad, List.mem_cons, List.not_mem_nil, or_false] at h
      rcases h with h | h | h <;> exact absurd h (neN (by (try dsimp only); omega))
    · simp only [TB.ad, List.mem_cons, List.not_mem_nil, or_false] at h
      rcases h with h | h | h <;> exact absurd h (neN (by (try dsimp only); omega))
    · simp only [TB.ad, List.mem_cons, List.not_mem_nil, or_false] at h h'
      rcases h with rfl | rfl | rfl <;> rcases h' with h | h | h <;> exact absurd h (neN (by (try dsimp only); omega)))


end Mine
end
end
theorem PySem.Challenge.cw_pg0217_01_holds : PySem.Challenge.rw_pg0217_01.Holds :=
  Mine.fin
