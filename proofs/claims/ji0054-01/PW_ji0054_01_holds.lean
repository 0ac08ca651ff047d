import PyProof.Rows.All
import Wide.All
import OpenK.AllK
import Wide.FinOn
import Lean
import PySem.Challenge.RW_ji0054_01
open PySem PySem.W PyProof.Rows PySem.Calls
set_option Elab.async false
set_option maxRecDepth 100000
set_option linter.unusedVariables false
set_option linter.unusedSimpArgs false
namespace Mine
local macro_rules | `(tactic| walk_at $s:str) => `(tactic| k_extra $s)
section Head
set_option maxRecDepth 100000 in
set_option maxHeartbeats 8000000 in
open_top hd for PySem.Challenge.rw_ji0054_01

end Head
section Base

def StopW (P : Prop) : Prop := P
theorem stopW {P : Prop} (h : StopW P) : P := h
/-- everything outside S stands as it stood -/
def Kept (S : List Addr) (h h' : Heap) : Prop := ∀ b o, b ∉ S → h.get? b = some o → h'.get? b = some o
theorem Kept.refl {S : List Addr} {h : Heap} : Kept S h h := fun _ _ _ e => e
section
variable {prog : Program} {w : World} {A₀ A : Around} {base h₀ : Heap} {outer : List Env} {env : Env} {L : Addr} {m mg mb : PySem.Str → Option Value}
  {p : Program} {loose : List PySem.Str} {mean : ExcName → Option Value} {s : Shared} {news : List (Addr × Obj)} {E : Value → Shared → Prop} {K : Frag}

/-- a def of the text called: what stands outside the ledger is told to be kept -/
theorem def_in {R : Result → Shared → Prop} {name qual : PySem.Str} {params : Arguments} {body : List Stmt} {scope : Scope} {dV kV doc pm cdv ct oc : Value} {an od : Option Addr} {osl : Array (Option Value)} {f : Addr} {args : Args} {binds : List (PySem.Str × Value)}
    (B : Below A₀ base outer h₀) (F : Fr h₀ L s.heap m) (X₀ : K.In h₀) (N : News h₀ L s.heap news) (T : Top p loose mean mg mb h₀) (hA : A.frames = some (env :: outer)) (hf : env.frame = some L) (hke : env.scope.kind = .function)
    (ho : K.lookup f = some ⟨oc, od, .func (fnOf name qual params body scope dV kV doc pm an cdv ct), osl⟩) (hcd : codeIn K cdv qual = true) (hroom : A.depth < recursionLimit)
    (hbind : BindsTo s (fnOf name qual params body scope dV kV doc pm an cdv ct) args binds) (hloc : ∀ y ∈ binds, scope.names.lookup y.1 = some .local)
    (h : ∀ g L' h₁ m₁, (∀ y, m₁ y = binds.reverse.lookup y) → Fr h₀ L g m → Fr g L' h₁ m₁ → News g L' h₁ news → Below A base (env :: outer) g → K.In g → Top p loose mean mg mb g →
      Kept (news.map (·.1)) s.heap g → (∀ q ∈ news, q.1 < L') →
      wpAny (model prog w) (A.deeper (envOf qual scope L' f cdv)) (execs body (envOf qual scope L' f cdv))
        (fun fl s' => LeaveK h₀ L m g R (match fl with | .ret v => v | _ => .none) s')
        (fun e s' => wpAny (model prog w) (A.deeper (envOf qual scope L' f cdv)) (leaving (envOf qual scope L' f cdv) e) (fun _ s'' => R (.error e) s'') (fun e' s'' => R (.error e') s'') s')
        { s with heap := h₁, toks := s.toks + binds.length })
    (hco : scope.isCoroutine = false) (hgen : scope.isGenerator = false) (hk : scope.kind = .function)
    (hcell : ∀ x ∈ scope.names, x.2 ≠ .cell) : codeAny (model prog w) A (.call (.ref f) args) R s := by
  obtain ⟨FG, BG, st, lv⟩ := groundX (R := R) B F N hA hf hke
  refine codeAny_call_def (fd := fnOf name qual params body scope dV kV doc pm an cdv ct) (body := body) (binds := binds) hroom ((X₀.keeps F.keep) _ _ ho) rfl (T.nolimit.keeps F.keep) (codeRec_of (X₀.keeps F.keep) hcd) rfl hbind hcell hloc (fun h₁ hns hk₁ => ?_) hco hgen hk
  exact wpAny_mono (h _ s.heap.objs.size h₁ _ (fun _ => rfl) FG ⟨hns, fun b o e => hk₁ b o (of_hideAll _ e), Nat.le_of_eq (hideAll_size _ _)⟩
    (fun p hp => ⟨hk₁ _ _ (N p hp).1, Nat.ne_of_lt (Heap.lt_size (N p hp).1), hideAll_none _ (List.mem_map_of_mem hp)⟩) BG (X₀.keeps st) (T.keeps st)
    (fun b o hb e => hideAll_get _ e hb) (fun p hp => Heap.lt_size (N p hp).1)) (fun fl s' hl => lv _ _ hl) fun _ _ y => y

/-- what the call has kept, told of the caller's ledger -/
theorem News.of_kept {h h' : Heap} {S : List Addr} {own rest : List (Addr × Obj)} (N' : News h₀ L h' own) (N : News h₀ L h rest) (k : Kept S h h') (hr : ∀ q ∈ rest, q.1 ∉ S) : News h₀ L h' (own ++ rest) := fun q hq =>
  (List.mem_append.mp hq).elim (N' q) fun hq => ⟨k _ _ (hr q hq) (N q hq).1, (N q hq).2⟩

theorem kept_of {S : List Addr} {g h h' : Heap} {L' : Addr} {m' : PySem.Str → Option Value} (F : Fr g L' h' m') (k : Kept S h g) : Kept S h h' := fun b o n e => F.keep b o (k b o n e)
theorem same_one {h h' : Heap} {d : Addr} {o : Obj} (N : News h₀ L h news) (hm : (d, o) ∈ news) (N1 : News h₀ L h' [(d, o)]) (k : Kept [d] h h') : Kept [] h h' := fun b o' _ e => by
  by_cases q : b = d
  · subst q
    have := (N _ hm).1
    rw [e] at this; cases this
    exact (N1 _ (List.mem_singleton.mpr rfl)).1
  · exact k b o' (by simpa using q) e
theorem news_kept {h h' : Heap} (N : News h₀ L h news) (k : Kept [] h h') : News h₀ L h' news := fun q hq => ⟨k _ _ (by simp) (N q hq).1, (N q hq).2⟩
theorem instH {h : Heap} {x C : Addr} {ox : Obj} {od : Option Obj} (F : Fr h₀ L h m) (I : InstAt h₀ x ox C od) : InstAt h x ox C od := by
  obtain ⟨a, b, c, d⟩ := I
  refine ⟨F.keep _ _ a, b, c, ?_⟩
  revert d
  split
  · exact fun d => F.keep _ _ d
  · exact fun d => d
  · exact fun d => d
theorem listH {h : Heap} {x : Addr} {vs : Array Value} (F : Fr h₀ L h m) (I : h₀.IsList x vs) : h.IsList x vs := stays_list (fun _ _ e => F.keep _ _ e) I
theorem nameFreeB {cn : PySem.Str} {cs : Scope} {a c : Addr} {ccd v : Value} {cl : List (PySem.Str × Addr)} {x : PySem.Str} {pos : Pos} {o : Obj} {M : Model} {Q : Value → Shared → Prop} (F : Fr h₀ L s.heap m) (hc : cl.lookup x = some c) (ho : h₀.get? c = some o) (hd : o.data = .cell (some v)) (h : Q v s)
    (hk : cs.kind = .function := by rfl) (hx : (envX cn cs L a ccd cl).kindOf x = some .free := by rfl) (hb : (x == ("__debug__" : PySem.Str)) = false := by decide) (hn : (x == ("__classdict__" : PySem.Str)) = false := by decide) :
    wpAny M A (eval (.Name x pos) (envX cn cs L a ccd cl)) Q E s := wpAny_Name (wpAny_loadName_free hk hx hc ⟨o, F.keep _ _ ho, hd⟩ h hn) hb
end

def ClockEnd (t : Int) (h : Heap) (s : Shared) (v : Value) (s' : Shared) : Prop := (∃ tv, v = .int t tv) ∧ ∃ h' tk', s' = { s with heap := h', toks := tk' } ∧ Kept [] h h'
/-- the clock: a lambda over the cell of a one-item list -/
structure ClockAt (h : Heap) (f : Addr) (t : Int) : Prop where
  is : ∃ qual params scope pm ctv pa pb pc, ∃ c' cl lst : Addr, ∃ oc : Obj, ∃ tk : Tok,
    h.get? f = some (kla_obj "<lambda>" qual params (.Subscript (.Name "now" pa) (.Constant (.int 0) 0 pb) pc) scope [("now", cl)] pm c' ctv) ∧ h.CodeRec (.ref c') qual ∧
    h.get? cl = some oc ∧ oc.data = .cell (some (.ref lst)) ∧ h.IsList lst #[.int t tk] ∧
    params = { posonlyargs := [], args := [], vararg := none, kwonlyargs := [], kw_defaults := [], kwarg := none, defaults := [] } ∧
    scope = { kind := .function, names := [("now", .free)], isGenerator := false, isCoroutine := false }

section
variable {prog : Program} {w : World} {A₀ A : Around} {base h₀ : Heap} {outer : List Env} {env : Env} {L : Addr} {m mg mb : PySem.Str → Option Value}
  {p : Program} {loose : List PySem.Str} {mean : ExcName → Option Value} {s : Shared} {news : List (Addr × Obj)} {E : Value → Shared → Prop} {K : Frag}
theorem clock_in {f : Addr} {t : Int} {Q : Value → Shared → Prop} (F : Fr h₀ L s.heap m) (X₀ : K.In h₀) (N : News h₀ L s.heap news) (T : Top p loose mean mg mb h₀) (hroom : A.depth < recursionLimit) (C : ClockAt h₀ f t)
    (h : ∀ h' tk' tv, Fr h₀ L h' m → News h₀ L h' news → Kept [] s.heap h' → Q (.int t tv) { s with heap := h', toks := tk' }) : wpAny (model prog w) A (call (.ref f) [] []) Q E s := by
  (k_with "eval Name" => (k_here; k_dflt (refine' nameFreeB ?F ?c ?o ?d ?_ ?a ?b; (case a => rfl); (case b => rfl); (case F => k_asm); (case c => rfl); (case o => k_asm); (case d => k_asm); k_whole)))
  obtain ⟨qual, params, scope, pm, ctv, pa, pb, pc, c', cl, lst, oc, tk, hfn, hrec, hcl, hcd, hlst, rfl, rfl⟩ := C.is
  refine wpAny_call ?_
  refine kla_callFunE hroom (F.keep _ _ hfn) rfl rfl rfl rfl (hrec.keeps F.keep) ?_
  rw [show bindArgs _ ⟨[], []⟩ = pure [] from rfl]
  refine wpAny_pure (wpAny_newFunctionEnv (by show ∀ x ∈ [(("now" : PySem.Str), NameKind.free)], x.2 ≠ NameKind.cell; decide) (by simp) (fun h₁ hns hsb => ⟨((T.nolimit).keeps F.keep).fresh _ hsb, ?_⟩) rfl)
  have hk₁ : ∀ b o, s.heap.get? b = some o → h₁.get? b = some o := fun b o e => hsb.extBut b o (Nat.ne_of_lt (Heap.lt_size e)) (Heap.get?_push_of_some _ e)
  refine kla_codeExpr ?_
  have F₁ : Fr s.heap s.heap.objs.size h₁ (fun y => ([] : List (PySem.Str × Value)).reverse.lookup y) := ⟨hns, hk₁, Nat.le_refl _⟩
  have N₁ : News s.heap s.heap.objs.size h₁ [] := fun q hq => by cases hq
  have X₁ : K.In s.heap := X₀.keeps F.keep
  have hl1 := listH F hlst
  have hcl1 := F.keep _ _ hcl
  show wpAny _ (A.deeper (envX qual _ s.heap.objs.size f (.ref c') [("now", cl)])) (eval _ (envX qual _ s.heap.objs.size f (.ref c') [("now", cl)])) _ _ _
  refine wpAny_mono (Q := ClockEnd t h₁ s) (E := fun _ _ => False) ?_ (fun v s' hq => ?_) fun _ _ e => e.elim
  · clear F N X₀ hlst hcl hfn hrec
    k_steps
    k_with_none
    exact ⟨⟨_, rfl⟩, _, _, rfl, Kept.refl⟩
  · obtain ⟨⟨tv, rfl⟩, h', tk', rfl, hk⟩ := hq
    have hk' : Kept [] s.heap h' := fun b o n e => hk b o n (hk₁ b o e)
    exact h h' tk' tv ⟨F.ns.at' fun o e => hk' _ o (by simp) e, fun b o e => hk' b o (by simp) (F.keep b o e), F.above⟩ (fun q hq => ⟨hk' _ _ (by simp) (N q hq).1, (N q hq).2⟩) hk'
/-- a def of the text called that calls nothing itself -/
theorem def_in0 {R : Result → Shared → Prop} {name qual : PySem.Str} {params : Arguments} {body : List Stmt} {scope : Scope} {dV kV doc pm cdv ct oc : Value} {an od : Option Addr} {osl : Array (Option Value)} {f : Addr} {args : Args} {binds : List (PySem.Str × Value)}
    (F : Fr h₀ L s.heap m) (X₀ : K.In h₀) (N : News h₀ L s.heap news) (T : Top p loose mean mg mb h₀)
    (ho : K.lookup f = some ⟨oc, od, .func (fnOf name qual params body scope dV kV doc pm an cdv ct), osl⟩) (hcd : codeIn K cdv qual = true) (hroom : A.depth < recursionLimit)
    (hbind : BindsTo s (fnOf name qual params body scope dV kV doc pm an cdv ct) args binds) (hloc : ∀ y ∈ binds, scope.names.lookup y.1 = some .local)
    (h : ∀ g L' h₁ m₁, (∀ y, m₁ y = binds.reverse.lookup y) → Fr g L' h₁ m₁ → News g L' h₁ news → K.In g → Top p loose mean mg mb g →
      Kept (news.map (·.1)) s.heap g → (∀ q ∈ news, q.1 < L') →
      wpAny (model prog w) (A.deeper (envOf qual scope L' f cdv)) (execs body (envOf qual scope L' f cdv))
        (fun fl s' => LeaveK h₀ L m g R (match fl with | .ret v => v | _ => .none) s')
        (fun e s' => wpAny (model prog w) (A.deeper (envOf qual scope L' f cdv)) (leaving (envOf qual scope L' f cdv) e) (fun _ s'' => R (.error e) s'') (fun e' s'' => R (.error e') s'') s')
        { s with heap := h₁, toks := s.toks + binds.length })
    (hco : scope.isCoroutine = false) (hgen : scope.isGenerator = false) (hk : scope.kind = .function)
    (hcell : ∀ x ∈ scope.names, x.2 ≠ .cell) : codeAny (model prog w) A (.call (.ref f) args) R s := by
  obtain ⟨oL, es, ep, hL, hLd, hLk⟩ := F.ns
  have nm : ∀ b o, h₀.get? b = some o → b ∉ news.map (·.1) := fun b o e q => by
    obtain ⟨p, hp, rfl⟩ := List.mem_map.mp q
    rw [(N p hp).2.2] at e; cases e
  have nL : L ∉ news.map (·.1) := fun q => by
    obtain ⟨p, hp, e⟩ := List.mem_map.mp q
    exact (N p hp).2.1 e
  have st : ∀ b o, h₀.get? b = some o → (hideAll s.heap (news.map (·.1))).get? b = some o := fun b o e => hideAll_get _ (F.keep b o e) (nm b o e)
  have hLg := hideAll_get (news.map (·.1)) hL nL
  refine codeAny_call_def (fd := fnOf name qual params body scope dV kV doc pm an cdv ct) (body := body) (binds := binds) hroom ((X₀.keeps F.keep) _ _ ho) rfl (T.nolimit.keeps F.keep) (codeRec_of (X₀.keeps F.keep) hcd) rfl hbind hcell hloc (fun h₁ hns hk₁ => ?_) hco hgen hk
  refine wpAny_mono (h (hideAll s.heap (news.map (·.1))) s.heap.objs.size h₁ _ (fun _ => rfl) ⟨hns, fun b o e => hk₁ b o (of_hideAll _ e), Nat.le_of_eq (hideAll_size _ _)⟩ (fun q hq => ⟨hk₁ _ _ (N q hq).1, Nat.ne_of_lt (Heap.lt_size (N q hq).1), hideAll_none _ (List.mem_map_of_mem hq)⟩)
    (X₀.keeps st) (T.keeps st) (fun b o hb e => hideAll_get _ e hb) (fun q hq => Heap.lt_size (N q hq).1)) (fun fl s' hl => ?_) fun _ _ y => y
  obtain ⟨L', m', news', F', N', k⟩ := hl
  refine k ⟨⟨oL, es, ep, F'.keep L oL hLg, hLd, hLk⟩, fun b o e => F'.keep b o (st b o e), F.above⟩ fun p hp => ⟨(N' p hp).1, fun q => ?_, ?_⟩
  · have := (N' p hp).2.2; rw [q, hLg] at this; cases this
  · cases q : h₀.get? p.1 with
    | none => rfl
    | some o => have := (N' p hp).2.2; rw [st _ _ q] at this; cases this
theorem len_lst {a : Addr} {vs : List Value} {n : Nat} {Q : Value → Shared → Prop} (hl : s.heap.IsList a vs.toArray) (hn : vs.length = n) (hb : n ≤ 1000000) (h : ∀ tv, Q (.int n tv) { s with toks := s.toks + 1 + 1 }) :
    wpAny (model prog w) A (call (.builtin "len") [.ref a]) Q E s := by
  subst hn
  refine len_list hl (by simp; omega) ?_
  simpa using h _
theorem fnClock {f : Addr} {h : Heap} {t : Int} (F : Fr h₀ L h m) (C : ClockAt h₀ f t) : FnAt f h := by
  obtain ⟨qual, params, scope, pm, ctv, pa, pb, pc, c', cl, lst, oc, tk, hfn, _⟩ := C.is
  exact ⟨_, _, _, _, F.keep _ _ hfn⟩
end

end Base
section Order

/-- addresses all of them different, and none that of an entry of tl -/
def NodT (ads : List Addr) (tl : List (Addr × Obj)) : Prop := ads.Nodup ∧ ∀ p ∈ tl, ∀ a ∈ ads, p.1 ≠ a
inductive PairIn (a b : Addr) : List Addr → Prop
  | head {l : List Addr} : b ∈ l → PairIn a b (a :: l)
  | tail {c : Addr} {l : List Addr} : PairIn a b l → PairIn a b (c :: l)
theorem PairIn.ne {a b : Addr} {l : List Addr} (p : PairIn a b l) (h : l.Nodup) : a ≠ b := by
  induction p with
  | head m => intro e; subst e; exact (List.nodup_cons.mp h).1 m
  | tail _ ih => exact ih (List.nodup_cons.mp h).2
theorem ne_d1 {a b : Addr} {ads : List Addr} {tl : List (Addr × Obj)} (h : NodT ads tl) (p : PairIn a b ads) : a ≠ b := p.ne h.1
theorem ne_d2 {a b : Addr} {ads : List Addr} {tl : List (Addr × Obj)} (h : NodT ads tl) (p : PairIn b a ads) : a ≠ b := (p.ne h.1).symm
theorem nod_new {D : Addr} {news tl : List (Addr × Obj)} {ads : List Addr} (h : NodT ads tl) (l1 : ∀ p ∈ news, p.1 < D) (e : news.map (·.1) = ads ++ tl.map (·.1)) : NodT (D :: ads) tl := by
  have key : ∀ a ∈ ads ++ tl.map (·.1), a ≠ D := fun a ha => by
    rw [← e] at ha
    obtain ⟨p, hp, rfl⟩ := List.mem_map.mp ha
    exact Nat.ne_of_lt (l1 p hp)
  refine ⟨List.nodup_cons.mpr ⟨fun hm => key D (List.mem_append_left _ hm) rfl, h.1⟩, fun p hp a ha => ?_⟩
  rcases List.mem_cons.mp ha with rfl | ha
  · exact key p.1 (List.mem_append_right _ (List.mem_map_of_mem hp))
  · exact h.2 p hp a ha
inductive AtU (d : Addr) (o : Obj) : List (Addr × Obj) → (Obj → List (Addr × Obj)) → Prop
  | head {r : List (Addr × Obj)} : AtU d o ((d, o) :: r) (fun o' => (d, o') :: r)
  | tail {p : Addr × Obj} {l : List (Addr × Obj)} {g : Obj → List (Addr × Obj)} : AtU d o l g → AtU d o (p :: l) (fun o' => p :: g o')
theorem AtU.mem {d : Addr} {o : Obj} {l : List (Addr × Obj)} {g : Obj → List (Addr × Obj)} (A : AtU d o l g) : (d, o) ∈ l := by
  induction A with
  | head => exact .head _
  | tail _ ih => exact .tail _ ih
theorem updF_at {d : Addr} {o : Obj} {l : List (Addr × Obj)} {g : Obj → List (Addr × Obj)} (A : AtU d o l g) : ∀ {ads : List Addr} {tl : List (Addr × Obj)}, NodT ads tl → l.map (·.1) = ads ++ tl.map (·.1) → d ∈ ads → UpdF d o l g := by
  induction A with
  | @head r =>
    intro ads tl h e hd
    refine UpdF.head fun p hp => ?_
    cases ads with
    | nil => cases hd
    | cons a ads =>
      simp only [List.map_cons, List.cons_append, List.cons.injEq] at e
      obtain ⟨rfl, e⟩ := e
      have hm : p.1 ∈ ads ++ tl.map (·.1) := e ▸ List.mem_map_of_mem hp
      rcases List.mem_append.mp hm with hm | hm
      · exact fun q => (List.nodup_cons.mp h.1).1 (q ▸ hm)
      · obtain ⟨q, hq, e2⟩ := List.mem_map.mp hm
        rw [← e2]
        exact h.2 q hq _ (.head _)
  | @tail p l g A ih =>
    intro ads tl h e hd
    cases ads with
    | nil => cases hd
    | cons a ads =>
      simp only [List.map_cons, List.cons_append, List.cons.injEq] at e
      obtain ⟨rfl, e⟩ := e
      have hm : d ∈ ads ++ tl.map (·.1) := e ▸ List.mem_map_of_mem A.mem
      have hda : p.1 ≠ d := by
        intro q
        rcases List.mem_append.mp hm with hm | hm
        · exact (List.nodup_cons.mp h.1).1 (q ▸ hm)
        · obtain ⟨y, hy, e2⟩ := List.mem_map.mp hm
          exact h.2 y hy p.1 (.head _) (e2.trans q.symm)
      have hd' : d ∈ ads := by
        rcases List.mem_cons.mp hd with q | q
        · exact absurd q.symm hda
        · exact q
      exact UpdF.tail hda (ih ⟨(List.nodup_cons.mp h.1).2, fun y hy a ha => h.2 y hy a (.tail _ ha)⟩ e hd')
theorem nod2 {a b : Addr} (h : a ≠ b) : NodT [a, b] [] := ⟨by simp [h], fun _ h => nomatch h⟩

end Order
section Dicts

def KL : List PySem.Str := [PySem.Str.ofString "a", PySem.Str.ofString "a/b", PySem.Str.ofString ""]
def upd {α : Type} (g : PySem.Str → Option α) (k : PySem.Str) (x : Option α) : PySem.Str → Option α := fun y => if y = k then x else g y
theorem upd_self {α : Type} (g : PySem.Str → Option α) (k : PySem.Str) (x : Option α) : upd g k x k = x := if_pos rfl
theorem upd_ne {α : Type} (g : PySem.Str → Option α) {k y : PySem.Str} (x : Option α) (h : y ≠ k) : upd g k x y = g y := if_neg h

theorem len_le_of_nodup_sub {α : Type} [DecidableEq α] : ∀ (l K : List α), l.Nodup → (∀ x ∈ l, x ∈ K) → l.length ≤ K.length
  | [], _, _, _ => Nat.zero_le _
  | a :: l, K, hn, hs => by
    rw [List.nodup_cons] at hn
    have ha := hs a (.head _)
    have ih := len_le_of_nodup_sub l (K.erase a) hn.2 fun x hx => (List.mem_erase_of_ne (fun e : x = a => hn.1 (by rw [← e]; exact hx))).mpr (hs x (.tail _ hx))
    rw [List.length_erase_of_mem ha] at ih
    have : 0 < K.length := List.length_pos_of_mem ha
    rw [List.length_cons]; omega

section
variable {α β : Type} [DecidableEq α]
theorem find_map_key (f : α × Value → α × Value) (hf : ∀ x, (f x).1 = x.1) (k : α) : ∀ l : List (α × Value), ((l.map f).find? fun kv => kv.1 = k) = (l.find? fun kv => kv.1 = k).map f
  | [] => rfl
  | x :: l => by
    simp only [List.map_cons, List.find?_cons, hf]
    cases h : decide (x.1 = k) with
    | true => simp
    | false => simpa using find_map_key f hf k l
theorem valueAt_stored (kvs : List (α × Value)) (k : α) (v : Value) (y : α) : valueAt (stored kvs k v) y = if y = k then some v else valueAt kvs y := by
  unfold stored
  split
  · rename_i h
    unfold valueAt
    rw [find_map_key _ (by intro x; split <;> rfl)]
    by_cases e : y = k
    · subst e
      rw [if_pos rfl]
      cases hq : kvs.find? fun kv => kv.1 = y with
      | none =>
        obtain ⟨x, hx, hk⟩ := List.any_eq_true.mp h
        exact absurd (List.find?_eq_none.mp hq x hx) (by simpa using hk)
      | some x =>
        have := List.find?_some hq
        simp only [decide_eq_true_eq] at this
        simp [this]
    · rw [if_neg e]
      cases hq : kvs.find? fun kv => kv.1 = y with
      | none => rfl
      | some x =>
        have := List.find?_some hq
        simp only [decide_eq_true_eq] at this
        have hne : ¬ x.1 = k := fun q => e (this.symm.trans q)
        simp [hne]
  · rename_i h
    unfold valueAt
    rw [List.find?_append]
    have hno : ∀ x ∈ kvs, ¬ x.1 = k := fun x hx q => h (List.any_eq_true.mpr ⟨x, hx, by simpa using q⟩)
    by_cases e : y = k
    · subst e
      rw [if_pos rfl, List.find?_eq_none.mpr (fun x hx => by simpa using hno x hx)]
      simp
    · rw [if_neg e]
      have : ((k, v) :: ([] : List (α × Value))).find? (fun kv => kv.1 = y) = none := by
        have e' : ¬ k = y := fun q => e q.symm
        simp [e']
      rw [this, Option.or_none]
theorem valueAt_without (kvs : List (α × Value)) (k : α) (y : α) : valueAt (without kvs k) y = if y = k then none else valueAt kvs y := by
  unfold without valueAt
  rw [List.find?_filter]
  by_cases e : y = k
  · subst e
    rw [if_pos rfl, List.find?_eq_none.mpr]
    · rfl
    · intro x _; simp
  · rw [if_neg e]
    congr 2
    funext x
    by_cases q : x.1 = y
    · simp [q, e]
    · simp [q]
end

/-- a dict of the store: its keys are among the three, its values are told by R -/
def DSD (prog : Program) (w : World) {α : Type} (R : Value → α → Prop) (o : Obj) (g : PySem.Str → Option α) : Prop :=
  ∃ kvs, o.IsDictOf (PySem.strKind prog w) kvs ∧ (∀ kv ∈ kvs, kv.1 ∈ KL) ∧ ∀ k, match g k with
    | none => valueAt kvs k = none
    | some x => ∃ v, valueAt kvs k = some v ∧ R v x
def IsI (v : Value) (n : Int) : Prop := ∃ t, v = .int n t
def IsR (v : Value) (a : Addr) : Prop := v = .ref a
abbrev ISD (prog : Program) (w : World) (o : Obj) (g : PySem.Str → Option Int) : Prop := DSD prog w IsI o g
abbrev ASD (prog : Program) (w : World) (o : Obj) (g : PySem.Str → Option Addr) : Prop := DSD prog w IsR o g

section
variable {prog : Program} {w : World} {α : Type} {R : Value → α → Prop} {A : Around} {E : Value → Shared → Prop} {s : Shared} {h₀ : Heap} {L d : Addr} {m : PySem.Str → Option Value} {news : List (Addr × Obj)} {gg : Obj → List (Addr × Obj)} {o : Obj}
  {g : PySem.Str → Option α} {k : PySem.Str} {tk : Tok} {v dflt : Value}
theorem dsd_len {kvs : List (PySem.Str × Value)} (hd : o.IsDictOf (PySem.strKind prog w) kvs) (hk : ∀ kv ∈ kvs, kv.1 ∈ KL) : kvs.length ≤ 3 := by
  obtain ⟨_, _, _, _, _, _, hn⟩ := hd
  have := len_le_of_nodup_sub (kvs.map (·.1)) KL hn (fun x hx => by obtain ⟨kv, h1, rfl⟩ := List.mem_map.mp hx; exact hk kv h1)
  rwa [List.length_map] at this
theorem dsd_size {kvs : List (PySem.Str × Value)} (hd : o.IsDictOf (PySem.strKind prog w) kvs) (hk : ∀ kv ∈ kvs, kv.1 ∈ KL) : kvs.length ≤ sizeLine := by
  have := dsd_len hd hk
  rw [sizeLine_eq]; omega
theorem dsd_stored {o' : Obj} {kvs : List (PySem.Str × Value)} {x : α} (hkv : ∀ kv ∈ kvs, kv.1 ∈ KL) (hv : ∀ k, match g k with | none => valueAt kvs k = none | some x => ∃ v, valueAt kvs k = some v ∧ R v x)
    (hd' : o'.IsDictOf (PySem.strKind prog w) (stored kvs k v)) (hk : k ∈ KL) (hx : R v x) : DSD prog w R o' (upd g k (some x)) := by
  refine ⟨_, hd', fun kv h => ?_, fun y => ?_⟩
  · unfold stored at h
    split at h
    · obtain ⟨z, hz, rfl⟩ := List.mem_map.mp h
      split <;> exact hkv z hz
    · rcases List.mem_append.mp h with h | h
      · exact hkv kv h
      · rw [List.mem_singleton.mp h]; exact hk
  · rw [valueAt_stored]
    by_cases e : y = k
    · subst e; rw [upd_self, if_pos rfl]; exact ⟨v, rfl, hx⟩
    · rw [upd_ne _ _ e, if_neg e]; exact hv y
theorem dsd_without {o' : Obj} {kvs : List (PySem.Str × Value)} (hkv : ∀ kv ∈ kvs, kv.1 ∈ KL) (hv : ∀ k, match g k with | none => valueAt kvs k = none | some x => ∃ v, valueAt kvs k = some v ∧ R v x)
    (hd' : o'.IsDictOf (PySem.strKind prog w) (without kvs k)) : DSD prog w R o' (upd g k none) := by
  refine ⟨_, hd', fun kv h => hkv kv (List.mem_filter.mp h).1, fun y => ?_⟩
  rw [valueAt_without]
  by_cases e : y = k
  · subst e; rw [upd_self, if_pos rfl]
  · rw [upd_ne _ _ e, if_neg e]; exact hv y

theorem dsd_get {Q : Value → Shared → Prop} (N : News h₀ L s.heap news) (hp : (d, o) ∈ news) (D : DSD prog w R o g) (lo : (d == sysModules) = false)
    (h : ∀ v, (match g k with | none => v = dflt | some x => R v x) → Q v { s with toks := s.toks + 1 }) : wpAny (model prog w) A (call (.builtin "dict.get") [.ref d, .str k tk, dflt]) Q E s := by
  obtain ⟨kvs, hd, hk, hv⟩ := D
  refine kdg_get2 (knd := PySem.strKind prog w) N hp hd lo (strKind_is _ _ _ _) _ rfl (h _ ?_)
  have := hv k
  split at this
  · rw [this]; rfl
  · obtain ⟨v, e, r⟩ := this
    rw [e]; exact r
theorem isd_get {g : PySem.Str → Option Int} {n0 : Int} {t0 : Tok} {Q : Value → Shared → Prop} (N : News h₀ L s.heap news) (hp : (d, o) ∈ news) (D : ISD prog w o g) (lo : (d == sysModules) = false)
    (h : ∀ tv, Q (.int ((g k).getD n0) tv) { s with toks := s.toks + 1 }) : wpAny (model prog w) A (call (.builtin "dict.get") [.ref d, .str k tk, .int n0 t0]) Q E s :=
  dsd_get N hp D lo fun v hv => by
    cases hg : g k with
    | none => rw [hg] at hv h; rw [hv]; exact h t0
    | some x => rw [hg] at hv h; obtain ⟨t, rfl⟩ := hv; exact h t
theorem dsd_item {value slice : PySem.Expr} {x : α} {Q : Value → Shared → Prop} (N : News h₀ L s.heap news) (hp : (d, o) ∈ news) (D : DSD prog w R o g) (hx : g k = some x)
    (h : ∀ v, R v x → Q v { s with toks := s.toks + 1 })
    (hs : subscripted slice false (.ref d) (.str k tk) = operate [.ref d, .str k tk] (getItem (.ref d) (.str k tk)) := by with_unfolding_all rfl) (hg : ∀ r, letTemporaryGo value (.ref d) r = pure () := by intro _; with_unfolding_all rfl) :
    wpAny (model prog w) A (subscriptTail value slice (.ref d) (.str k tk)) Q E s := by
  obtain ⟨kvs, hd, hk, hv⟩ := D
  have := hv k
  rw [hx] at this
  obtain ⟨v, e, r⟩ := this
  exact kda_item (knd := PySem.strKind prog w) N hp hd (strKind_is _ _ _ _) e (h v r) hs hg
theorem isd_item {value slice : PySem.Expr} {g : PySem.Str → Option Int} {x : Int} {Q : Value → Shared → Prop} (N : News h₀ L s.heap news) (hp : (d, o) ∈ news) (D : ISD prog w o g) (hx : g k = some x)
    (h : ∀ tv, Q (.int x tv) { s with toks := s.toks + 1 })
    (hs : subscripted slice false (.ref d) (.str k tk) = operate [.ref d, .str k tk] (getItem (.ref d) (.str k tk)) := by with_unfolding_all rfl) (hg : ∀ r, letTemporaryGo value (.ref d) r = pure () := by intro _; with_unfolding_all rfl) :
    wpAny (model prog w) A (subscriptTail value slice (.ref d) (.str k tk)) Q E s := dsd_item N hp D hx (fun v hv => by obtain ⟨t, rfl⟩ := hv; exact h t) hs hg
theorem asd_item {value slice : PySem.Expr} {g : PySem.Str → Option Addr} {x : Addr} {Q : Value → Shared → Prop} (N : News h₀ L s.heap news) (hp : (d, o) ∈ news) (D : ASD prog w o g) (hx : g k = some x)
    (h : Q (.ref x) { s with toks := s.toks + 1 })
    (hs : subscripted slice false (.ref d) (.str k tk) = operate [.ref d, .str k tk] (getItem (.ref d) (.str k tk)) := by with_unfolding_all rfl) (hg : ∀ r, letTemporaryGo value (.ref d) r = pure () := by intro _; with_unfolding_all rfl) :
    wpAny (model prog w) A (subscriptTail value slice (.ref d) (.str k tk)) Q E s := dsd_item N hp D hx (fun v hv => by obtain rfl : v = .ref x := hv; exact h) hs hg
theorem dsd_set {x : α} {Q : Unit → Shared → Prop} (F : Fr h₀ L s.heap m) (N : News h₀ L s.heap news) (U : UpdF d o news gg) (D : DSD prog w R o g) (hk : k ∈ KL) (hx : R v x)
    (h : ∀ h' o', Fr h₀ L h' m → News h₀ L h' (gg o') → DSD prog w R o' (upd g k (some x)) → Q () { s with heap := h', toks := s.toks + 1 }) : wpAny (model prog w) A (setItem (.ref d) (.str k tk) v) Q E s := by
  obtain ⟨kvs, hd, hkv, hv⟩ := D
  exact kda_set (knd := PySem.strKind prog w) F N U hd (strKind_is _ _ _ _) (dsd_size hd hkv) fun h' o' F' N' hd' => h h' o' F' N' (dsd_stored hkv hv hd' hk hx)
theorem dsd_pop {Q : Value → Shared → Prop} (F : Fr h₀ L s.heap m) (N : News h₀ L s.heap news) (U : UpdF d o news gg) (D : DSD prog w R o g) (lo : (d == sysModules) = false)
    (h : ∀ h' o' r, Fr h₀ L h' m → News h₀ L h' (gg o') → DSD prog w R o' (upd g k none) → (r = dflt ∨ ∃ x, R r x) → Q r { s with heap := h', toks := s.toks + 1 }) :
    wpAny (model prog w) A (call (.builtin "dict.pop") [.ref d, .str k tk, dflt]) Q E s := by
  obtain ⟨kvs, hd, hkv, hv⟩ := D
  cases hq : valueAt kvs k with
  | none =>
    obtain ⟨pre, post, rfl, hg, a, b⟩ := U.split
    have hm := N (d, o) (List.mem_append_right _ (.head _))
    have hD : s.heap.DictOf (PySem.strKind prog w) d kvs := Heap.dictOf_iff.mpr ⟨o, hm.1, hd⟩
    refine call_meetsIn PySem.F.slot_dict_pop hD.typeIs PySem.F.entry_dict_pop (PySem.F.args_dict_pop_3 _ _ _) (meets_dict_pop_default _ d (strKind_is prog w k tk) lo rfl dflt) ⟨kvs, hD, hq, ?_⟩
    refine h s.heap o dflt F (by rw [hg]; exact N) ⟨kvs, hd, hkv, fun y => ?_⟩ (.inl rfl)
    by_cases e : y = k
    · subst e; rw [upd_self]; exact hq
    · rw [upd_ne _ _ e]; exact hv y
  | some v =>
    refine kob_pop (knd := PySem.strKind prog w) (more := [dflt]) F N U hd (strKind_is _ _ _ _) (.inr ⟨_, rfl⟩) rfl (PySem.F.args_dict_pop_3 _ _ _) hq (dsd_size hd hkv) fun h' o' F' N' hd' => h h' o' v F' N' (dsd_without hkv hv hd') (.inr ?_)
    have := hv k
    split at this
    · rw [hq] at this; cases this
    · obtain ⟨v', e, r⟩ := this
      rw [hq] at e; cases e; exact ⟨_, r⟩
theorem dsd_clear {Q : Value → Shared → Prop} (F : Fr h₀ L s.heap m) (N : News h₀ L s.heap news) (U : UpdF d o news gg) (D : DSD prog w R o g)
    (h : ∀ h' o', Fr h₀ L h' m → News h₀ L h' (gg o') → DSD prog w R o' (fun _ => none) → Q .none { s with heap := h' }) :
    wpAny (model prog w) A (call (.builtin "dict.clear") [.ref d]) Q E s := by
  obtain ⟨kvs, hd, hkv, hv⟩ := D
  obtain ⟨pre, post, rfl, hg, a, b⟩ := U.split
  refine call_clear_madeIn (enc := PyData.str) F N a b hd (fun h' o' F' N' hd' _ => h h' o' F' (by rw [hg]; exact N') ⟨[], hd', by simp, fun _ => rfl⟩) (dsd_size hd hkv)
theorem dsd_setdef {x : α} {Q : Value → Shared → Prop} (F : Fr h₀ L s.heap m) (N : News h₀ L s.heap news) (U : UpdF d o news gg) (D : DSD prog w R o g) (lo : (d == sysModules) = false) (hk : k ∈ KL) (hx : R dflt x)
    (h1 : ∀ x v, g k = some x → R v x → Q v { s with toks := s.toks + 1 })
    (h2 : g k = none → ∀ h' o', Fr h₀ L h' m → News h₀ L h' (gg o') → DSD prog w R o' (upd g k (some x)) → Q dflt { s with heap := h', toks := s.toks + 1 }) :
    wpAny (model prog w) A (call (.builtin "dict.setdefault") [.ref d, .str k tk, dflt]) Q E s := by
  obtain ⟨kvs, hd, hkv, hv⟩ := D
  have hvk := hv k
  split at hvk
  · rename_i hg
    exact kob_setdef_new (knd := PySem.strKind prog w) F N U hd lo (strKind_is _ _ _ _) (PySem.F.args_dict_setdefault_3 _ _ _) hvk (dsd_size hd hkv) fun h' o' F' N' hd' => h2 hg h' o' F' N' (dsd_stored hkv hv hd' hk hx)
  · rename_i x' hg
    obtain ⟨v, e, r⟩ := hvk
    obtain ⟨pre, post, rfl, hgg, a, b⟩ := U.split
    exact kob_setdef_there (knd := PySem.strKind prog w) N (List.mem_append_right _ (.head _)) hd lo (strKind_is _ _ _ _) (PySem.F.args_dict_setdefault_3 _ _ _) e (dsd_size hd hkv) (h1 x' v hg r)
theorem dsd_len_call {Q : Value → Shared → Prop} (N : News h₀ L s.heap news) (hp : (d, o) ∈ news) (D : DSD prog w R o g) (lo : (d == sysModules) = false)
    (h : ∀ n : Nat, n ≤ 3 → Q (.int n (s.toks + 1)) { s with toks := s.toks + 1 + 1 }) : wpAny (model prog w) A (call (.builtin "len") [.ref d]) Q E s := by
  obtain ⟨kvs, hd, hkv, hv⟩ := D
  have hl := dsd_len hd hkv
  exact kda_len (knd := PySem.strKind prog w) N hp hd lo (by omega) (h _ hl)
theorem dsd_method {name : PySem.Str} {id : String} {pl : Sem Bool} {Q : Value × List Value → Shared → Prop} (slot : Slot "dict" name id) (ty : typeOf (.builtin id) = pure (.type "method_descriptor")) (N : News h₀ L s.heap news) (hp : (d, o) ∈ news) (D : DSD prog w R o g)
    (h : Q (.builtin id, [.ref d]) s) : wpAny (model prog w) A (getMethod (.ref d) name pl) Q E s := by
  obtain ⟨kvs, hd, hkv, hv⟩ := D
  exact kob_method slot ty N hp hd h
end

end Dicts
local macro_rules | `(tactic| k_ne) => `(tactic| k_extra "k_ne")
local macro_rules | `(tactic| k_mem) => `(tactic| k_extra "k_mem")
local macro_rules | `(tactic| k_updF) => `(tactic| k_extra "k_updF")
local macro_rules | `(tactic| k_inst) => `(tactic| k_extra "k_inst")
local macro_rules | `(tactic| k_room) => `(tactic| k_extra "k_room")
local macro_rules | `(tactic| is_list) => `(tactic| k_extra "is_list")
local macro_rules | `(tactic| k_lt $h) => `(tactic| (revert $h:ident; k_extra "k_lt"; intro $h:ident))
local macro_rules | `(tactic| k_steps) => `(tactic| k_extra "k_steps")
section Get
variable {prog : Program} {w : World} {A₀ A : Around} {base h₀ : Heap} {outer : List Env} {env : Env} {L : Addr} {m mg mb : PySem.Str → Option Value}
  {p : Program} {loose : List PySem.Str} {mean : ExcName → Option Value} {s : Shared} {news : List (Addr × Obj)} {E : Value → Shared → Prop}
theorem words_Get : True := by
  k_with_none
  w_top off
  (k_with "k_steps" => repeat' (first | (k_unfold; (try dsimp only)) | (k_end; wrow_close) | (dsimp only; walk1) | walk1 | (leave1; walk_say "STEP leave1"; try dsimp only) | fail "no step"))
  (k_with "k_lt" => first | (intro hlt9; (with_reducible rename NodT _ _ => hNdZ); have hNd2 := nod_new hNdZ hlt9 rfl; replace hlt9 := allLt_of hlt9; simp only [AllLt, and_true] at hlt9; revert hNd2 hlt9; intro _) | (intro hlt9; replace hlt9 := allLt_of hlt9; simp only [AllLt, and_true] at hlt9; revert hlt9) | fail)
  (k_with "k_off1" => first | exact Or.inl (by assumption) | exact Nat.le_refl _ | exact Nat.le_of_lt (by assumption) | exact Or.inr (Nat.le_trans (m := 201) (by decide) (by assumption)) | exact Nat.le_trans (m := 201) (by decide) (by assumption) | omega | fail)
  (k_with "k_offs" => first | (refine List.forall_mem_cons.mpr ⟨?_, ?_⟩; (try dsimp only); (k_extra "k_off1"); (k_extra "k_offs")) | exact (fun _ h => absurd h List.not_mem_nil) | fail)
  (k_with "k_cj" => with_reducible first | assumption | exact And.left (by assumption) | exact And.left (And.right (by assumption)) | exact And.left (And.right (And.right (by assumption))) | exact And.left (And.right (And.right (And.right (by assumption)))) | exact And.left (And.right (And.right (And.right (And.right (by assumption))))) | exact And.left (And.right (And.right (And.right (And.right (And.right (by assumption)))))) | exact And.right (by assumption) | exact And.right (And.right (by assumption)) | exact And.right (And.right (And.right (by assumption))) | exact And.right (And.right (And.right (And.right (by assumption)))) | exact And.right (And.right (And.right (And.right (And.right (by assumption))))) | fail)
  (k_with "k_dp" => first | exact Nat.le_trans (by assumption) (by decide) | exact Nat.le_trans (Nat.succ_le_succ (by assumption)) (by decide) | exact Nat.lt_of_le_of_lt (by assumption) (by decide) | exact Nat.lt_of_le_of_lt (Nat.succ_le_succ (by assumption)) (by decide) | exact Nat.le_trans (Nat.succ_le_succ (Nat.succ_le_succ (by assumption))) (by decide) | exact Nat.lt_of_le_of_lt (Nat.succ_le_succ (Nat.succ_le_succ (by assumption))) (by decide) | (simp only [depth_mark, depth_under_make, depth_under_kw, depth_in1, depth_deeper]; omega) | fail)
  (k_with "k_mem" => first | exact AtU.head | (apply AtU.tail; k_mem) | (refine' PairIn.head ?_; k_mem) | (refine' PairIn.tail ?_; k_mem) | fail)
  (k_with "k_ne" => first | (refine' ne_d1 ?zH ?zP; (case zH => assumption); (case zP => k_mem)) | (refine' ne_d2 ?zH ?zP; (case zH => assumption); (case zP => k_mem)) | exact Nat.ne_of_gt (by (try dsimp only); k_extra "k_cj") | exact Nat.ne_of_lt (by (try dsimp only); k_extra "k_cj") | (refine neN ?_; (try dsimp only); omega) | fail)
  (k_with "k_updF" => first | (refine' updF_at ?zA ?zH ?ze ?zm; (case zA => k_mem); (case zH => assumption); (case ze => rfl); (case zm => k_mem)) | (refine' UpdF.head ?za; (case za => k_all)) | (refine' UpdF.tail ?za ?zb; (case za => k_ne); (case zb => k_updF)) | fail)
  (k_with "k_inst" => first | (refine' instH ?zF ?zI; (case zF => k_asm); (case zI => assumption)) | fail)
  (k_with "k_room" => first | (show _ < 1000; k_extra "k_dp") | fail)
  (k_with "is_list" => first | (refine' listH ?zF ?zI; (case zF => k_asm); (case zI => assumption)) | fail)
  (k_with "call ref" => (k_here; (with_reducible show wpAny _ _ (call (Value.ref _) [] []) _ _ _); k_dflt (refine' clock_in ?zF ?zX ?zN ?zT ?zr ?zC ?_; (case zF => k_asm); (case zC => assumption); (case zX => k_asm); (case zN => k_asm); (case zT => k_asm); (case zr => k_room)); intro _ _ _ _ _ _))
  (k_with "getMethod ref" => (k_here; (with_reducible show wpAny _ _ (getMethod (Value.ref _) (Str.ofString "get") _) _ _ _); k_dflt (refine' dsd_method PySem.F.slot_dict_get PySem.F.type_dict_get ?zN ?zm ?zD ?_; (case zN => k_asm); (case zm => k_mem); (case zD => k_asm))))
  (k_with "getMethod ref" => (k_here; (with_reducible show wpAny _ _ (getMethod (Value.ref _) (Str.ofString "pop") _) _ _ _); k_dflt (refine' dsd_method PySem.F.slot_dict_pop PySem.F.type_dict_pop ?zN ?zm ?zD ?_; (case zN => k_asm); (case zm => k_mem); (case zD => k_asm))))
  (k_with "getMethod ref" => (k_here; (with_reducible show wpAny _ _ (getMethod (Value.ref _) (Str.ofString "setdefault") _) _ _ _); k_dflt (refine' dsd_method PySem.F.slot_dict_setdefault PySem.F.type_dict_setdefault ?zN ?zm ?zD ?_; (case zN => k_asm); (case zm => k_mem); (case zD => k_asm))))
  (k_with "getMethod ref" => (k_here; (with_reducible show wpAny _ _ (getMethod (Value.ref _) (Str.ofString "clear") _) _ _ _); k_dflt (refine' dsd_method PySem.F.slot_dict_clear PySem.F.type_dict_clear ?zN ?zm ?zD ?_; (case zN => k_asm); (case zm => k_mem); (case zD => k_asm))))
  (k_with "getMethod ref" => (k_here; (with_reducible show wpAny _ _ (getMethod (Value.ref _) (Str.ofString "clock") _) _ _ _); k_dflt (refine' kmu_own ?zk1 ?zk2 ?zk3 ?zk4 ?zk5 ?_; (case zk1 => k_asm); (case zk2 => k_asm); (case zk3 => k_inst); (case zk4 => k_is); (case zk5 => k_is); k_whole)))
  (k_with "getAttr ref" => (k_here; k_dflt (refine' get_own ?zk1 ?zk2 ?zk3 ?zk4 ?zk5 ?zk6 ?zk7 ?zk8 ?zk9 ?_; (case zk1 => k_asm); (case zk2 => k_asm); (case zk3 => k_inst); (case zk4 => k_is); (case zk5 => k_is); (case zk6 => k_is); (case zk7 => k_is); (case zk8 => k_get); (case zk9 => k_handed); k_whole)))
  (k_with "call builtin:dict.get" => (k_here; k_dflt (refine' dsd_get ?zN ?zm ?zD ?zlo ?_; (case zN => k_asm); (case zm => k_mem); (case zD => k_asm); (case zlo => k_asm)); intro _ _))
  (k_with "call builtin:dict.get" => (k_here; (with_reducible show wpAny _ _ (call (Value.builtin _) [Value.ref _, Value.str _ _, Value.int _ _]) _ _ _); k_dflt (refine' isd_get ?zN ?zm ?zD ?zlo ?_; (case zN => k_asm); (case zm => k_mem); (case zD => k_asm); (case zlo => k_asm)); intro _))
  (k_with "call builtin:dict.pop" => (k_here; k_dflt (refine' dsd_pop ?zF ?zN ?zU ?zD ?zlo ?_; (case zF => k_asm); (case zN => k_asm); (case zU => k_updF); (case zD => k_asm); (case zlo => k_asm)); intro _ _ _ _ _ _ _))
  (k_with "call builtin:dict.clear" => (k_here; k_dflt (refine' dsd_clear ?zF ?zN ?zU ?zD ?_; (case zF => k_asm); (case zN => k_asm); (case zU => k_updF); (case zD => k_asm)); intro _ _ _ _ _))
  (k_with "call builtin:len" => (k_here; (with_reducible show wpAny _ _ (call (Value.builtin "len") [Value.ref _]) _ _ _); k_dflt (refine' dsd_len_call ?zN ?zm ?zD ?zlo ?_; (case zN => k_asm); (case zm => k_mem); (case zD => k_asm); (case zlo => k_asm)); intro _ _))
  (k_with "callWith ref" => (k_here; (with_reducible show wpAny _ _ (callWith _ _ _ (backTo _ (starEach [] _)) []) _ _ _); k_dflt (refine' callWith_F0 ?zk1 ?_; (case zk1 => exact fnClock (by k_asm) (by assumption)); k_whole); (try dsimp only [List.nil_append, List.cons_append])))
  (k_with "setItem ref str" => (k_here; k_dflt (refine' dsd_set ?zF ?zN ?zU ?zD ?zk ?zx ?_; (case zF => k_asm); (case zN => k_asm); (case zU => k_updF); (case zD => k_asm); (case zk => k_asm); (case zx => first | exact ⟨_, rfl⟩ | exact rfl)); intro _ _ _ _ _))
  (k_with "subscriptTail" => (k_here; (with_reducible show wpAny _ _ (subscriptTail _ _ (Value.ref _) (Value.str _ _)) _ _ _); k_dflt (refine' isd_item ?zN ?zm ?zD ?zx ?_; (case zN => k_asm); (case zm => k_mem); (case zD => k_asm); (case zx => first | exact upd_self _ _ _ | assumption)); intro _))
  (k_with "eval Name" => (k_here; k_dflt (refine' nameX_L ?zF ?zv ?_ ?za ?zb; (case za => rfl); (case zb => rfl); (case zF => k_asm); (case zv => first | rfl | assumption); k_whole)))
  (k_with "call builtin:len" => (k_here; (with_reducible show wpAny _ _ (call (Value.builtin "len") [Value.ref _]) _ _ _); k_dflt (refine' len_lst ?zl ?zn ?zb ?_; (case zl => is_list); (case zn => assumption); (case zb => omega); k_whole); intro _))
  (k_with "exec While Compare cons nil" => (k_here; refine stopW ?_))
  (k_with "subscriptTail" => (k_here; (with_reducible show wpAny _ _ (subscriptTail _ _ (Value.ref _) (Value.str _ _)) _ _ _); k_dflt (refine' asd_item ?zN ?zm ?zD ?zx ?_; (case zN => k_asm); (case zm => k_mem); (case zD => k_asm); (case zx => first | exact upd_self _ _ _ | assumption))))
  trivial
abbrev storeEs (w : World) (fk dS dE dV : Addr) (t1 t2 t3 t4 : Tok) : List DictEntry :=
  [⟨PyData.keyHash w.params (PySem.Str.ofString "clock"), .str (PySem.Str.ofString "clock") t1, .ref fk⟩,
   ⟨PyData.keyHash w.params (PySem.Str.ofString "storage"), .str (PySem.Str.ofString "storage") t2, .ref dS⟩,
   ⟨PyData.keyHash w.params (PySem.Str.ofString "expirations"), .str (PySem.Str.ofString "expirations") t3, .ref dE⟩,
   ⟨PyData.keyHash w.params (PySem.Str.ofString "events"), .str (PySem.Str.ofString "events") t4, .ref dV⟩]


/-- the store, its clock and where they lie: what a call leaves alone -/
structure Geo (w : World) (h : Heap) (lo x fk dS dE dV : Nat) (t : Int) : Prop where
  ex : ∃ z : (Nat × Nat × Nat × Nat) × (Tok × Tok × Tok × Tok × Tok) × (PySem.Str × Value × Value) × (Pos × Pos × Pos) × Obj,
    InstAt h x (instObj 192 z.1.1) 192 (some (dictOf (storeEs w fk dS dE dV z.2.1.1 z.2.1.2.1 z.2.1.2.2.1 z.2.1.2.2.2.1) 4)) ∧
    h.get? fk = some (kla_obj "<lambda>" z.2.2.1.1 { posonlyargs := [], args := [], vararg := none, kwonlyargs := [], kw_defaults := [], kwarg := none, defaults := [] }
      (.Subscript (.Name "now" z.2.2.2.1.1) (.Constant (.int 0) 0 z.2.2.2.1.2.1) z.2.2.2.1.2.2) { kind := .function, names := [("now", .free)], isGenerator := false, isCoroutine := false } [("now", z.1.2.1)] z.2.2.1.2.1 z.1.2.2.2 z.2.2.1.2.2) ∧
    (∃ co vs tq, h.get? z.1.2.2.2 = some co ∧ co.data = .fields vs ∧ vs[1]? = some (.str z.2.2.1.1 tq)) ∧
    h.get? z.1.2.1 = some z.2.2.2.2 ∧ z.2.2.2.2.data = .cell (some (.ref z.1.2.2.1)) ∧ h.IsList z.1.2.2.1 #[.int t z.2.1.2.2.2.2] ∧
    lo < z.1.2.1 ∧ z.1.2.1 < z.1.2.2.1 ∧ z.1.2.2.1 < z.1.2.2.2 ∧ z.1.2.2.2 < fk ∧ fk < z.1.1 ∧ z.1.1 < x
  hx : x < dS
  hS : dS < dE
  hE : dE < dV
  loS : (dS == sysModules) = false
  loE : (dE == sysModules) = false
  loV : (dV == sysModules) = false
theorem chain6 {lo a b c d e x : Nat} (h : lo < a ∧ a < b ∧ b < c ∧ c < d ∧ d < e ∧ e < x) : (lo < b ∧ lo < c ∧ lo < d ∧ lo < e ∧ lo < x) ∧ a ≤ x ∧ b ≤ x ∧ c ≤ x ∧ d ≤ x ∧ e ≤ x := by
  have l2 := Nat.lt_trans h.1 h.2.1
  have l3 := Nat.lt_trans l2 h.2.2.1
  have l4 := Nat.lt_trans l3 h.2.2.2.1
  have l5 := Nat.lt_trans l4 h.2.2.2.2.1
  have u4 := Nat.lt_trans h.2.2.2.2.1 h.2.2.2.2.2
  have u3 := Nat.lt_trans h.2.2.2.1 u4
  have u2 := Nat.lt_trans h.2.2.1 u3
  exact ⟨⟨l2, l3, l4, l5, Nat.lt_trans l5 h.2.2.2.2.2⟩, Nat.le_of_lt (Nat.lt_trans h.2.1 u2), Nat.le_of_lt u2, Nat.le_of_lt u3, Nat.le_of_lt u4, Nat.le_of_lt h.2.2.2.2.2⟩
theorem Geo.keeps {h h' : Heap} {lo x fk dS dE dV : Nat} {t : Int} {S : List Addr} (G : Geo w h lo x fk dS dE dV t) (k : Kept S h h') (hS : ∀ a : Nat, a ∈ S → (x < a ∨ a ≤ lo)) : Geo w h' lo x fk dS dE dV t := by
  obtain ⟨z, H⟩ := G.ex
  have nin : ∀ b : Nat, lo < b → b ≤ x → b ∉ S := fun b hb hb' hm => (hS b hm).elim (fun q => Nat.not_lt.mpr hb' q) fun q => Nat.not_le.mpr hb q
  have o := H.2.2.2.2.2.2
  have c := chain6 o
  obtain ⟨i1, i2, i3, i4⟩ := H.1
  obtain ⟨co, vs, tq, r1, r2⟩ := H.2.2.1
  obtain ⟨ol, l1, l2⟩ := H.2.2.2.2.2.1
  exact ⟨⟨z, ⟨k _ _ (nin _ c.1.2.2.2.2 (Nat.le_refl _)) i1, i2, i3, k _ _ (nin _ c.1.2.2.2.1 c.2.2.2.2.2) i4⟩, k _ _ (nin _ c.1.2.2.1 c.2.2.2.2.1) H.2.1, ⟨co, vs, tq, k _ _ (nin _ c.1.2.1 c.2.2.2.1) r1, r2⟩, k _ _ (nin _ o.1 c.2.1) H.2.2.2.1, H.2.2.2.2.1, ⟨ol, k _ _ (nin _ c.1.1 c.2.2.1) l1, l2⟩, o⟩,
    G.hx, G.hS, G.hE, G.loS, G.loE, G.loV⟩
theorem Geo.all {h h' : Heap} {lo x fk dS dE dV : Nat} {t : Int} (G : Geo w h lo x fk dS dE dV t) (k : ∀ b o, h.get? b = some o → h'.get? b = some o) : Geo w h' lo x fk dS dE dV t :=
  G.keeps (S := []) (fun b o _ e => k b o e) fun a ha => by cases ha
theorem Geo.inst {h : Heap} {lo x fk dS dE dV : Nat} {t : Int} (G : Geo w h lo x fk dS dE dV t) : ∃ dx t1 t2 t3 t4, InstAt h x (instObj 192 dx) 192 (some (dictOf (storeEs w fk dS dE dV t1 t2 t3 t4) 4)) := by
  obtain ⟨z, H⟩ := G.ex
  exact ⟨_, _, _, _, _, H.1⟩
theorem Geo.low {h : Heap} {lo x fk dS dE dV : Nat} {t : Int} (G : Geo w h lo x fk dS dE dV t) : lo < x := by
  obtain ⟨z, H⟩ := G.ex
  exact (chain6 H.2.2.2.2.2.2).1.2.2.2.2
theorem Geo.clock {h : Heap} {lo x fk dS dE dV : Nat} {t : Int} (G : Geo w h lo x fk dS dE dV t) : ClockAt h fk t := by
  obtain ⟨z, H⟩ := G.ex
  obtain ⟨co, vs, tq, r⟩ := H.2.2.1
  exact ⟨_, _, _, _, _, _, _, _, _, _, _, _, _, H.2.1, ⟨_, co, vs, tq, rfl, r⟩, H.2.2.2.1, H.2.2.2.2.1, H.2.2.2.2.2.1, rfl, rfl⟩
theorem news_two {h h' : Heap} {d e : Addr} {od oe od' oe' : Obj} {g1 : Obj → List (Addr × Obj)} {g2 : Obj → Obj → List (Addr × Obj)} (N : News h₀ L h news) (U1 : UpdF d od news g1) (U2 : ∀ o, UpdF e oe (g1 o) (g2 o))
    (k : Kept [d, e] h h') (N2 : News h₀ L h' [(d, od'), (e, oe')]) : News h₀ L h' (g2 od' oe') := by
  obtain ⟨pre, post, rfl, h1, a, b⟩ := U1.split
  obtain ⟨pre2, post2, h2, h3, a2, b2⟩ := (U2 od').split
  have key : ∀ q ∈ g1 od', q.1 ≠ e → News h₀ L h' [q] := fun q hq hne r hr => by
    rw [List.mem_singleton.mp hr]
    rw [h1] at hq
    have one : q ∈ pre ++ post → h'.get? q.1 = some q.2 ∧ q.1 ≠ L ∧ h₀.get? q.1 = none := fun hq => by
      have hd : q.1 ≠ d := (List.mem_append.mp hq).elim (a q) (b q)
      have n := N q (List.mem_append.mpr ((List.mem_append.mp hq).imp id (.tail _)))
      exact ⟨k _ _ (by simp [hd, hne]) n.1, n.2⟩
    rcases List.mem_append.mp hq with hq | hq
    · exact one (List.mem_append_left _ hq)
    · rcases List.mem_cons.mp hq with rfl | hq
      · exact N2 _ (by simp)
      · exact one (List.mem_append_right _ hq)
  rw [h3]
  intro q hq
  rcases List.mem_append.mp hq with hq | hq
  · exact key q (h2 ▸ List.mem_append_left _ hq) (a2 q hq) q (by simp)
  · rcases List.mem_cons.mp hq with rfl | hq
    · exact N2 _ (by simp)
    · exact key q (h2 ▸ List.mem_append_right _ (.tail _ hq)) (b2 q hq) q (by simp)

theorem two_of {d e : Addr} {od oe : Obj} {h : Heap} {g1 : Obj → List (Addr × Obj)} {g2 : Obj → Obj → List (Addr × Obj)} (N : News h₀ L h news) (U1 : UpdF d od news g1) (U2 : ∀ o, UpdF e oe (g1 o) (g2 o)) :
    News h₀ L h [(d, od), (e, oe)] ∧ (d, od) ∈ news ∧ (e, oe) ∈ news := by
  have mS : (d, od) ∈ news := by obtain ⟨pre, post, rfl, _⟩ := U1.split; simp
  have e1 : g1 od = news := by obtain ⟨pre, post, rfl, h1, _⟩ := U1.split; exact h1 od
  have mE : (e, oe) ∈ news := by obtain ⟨pre, post, h2, _⟩ := (U2 od).split; rw [e1] at h2; rw [h2]; simp
  exact ⟨fun q hq => by
    rcases List.mem_cons.mp hq with rfl | hq
    · exact N _ mS
    · rw [List.mem_singleton.mp hq]; exact N _ mE, mS, mE⟩
/-- what get finds: nought where the end has come -/
def svOf (gS gE : PySem.Str → Option Int) (k : PySem.Str) (t : Int) : Int := if (gE k).getD 0 ≤ t then 0 else (gS k).getD 0
theorem sv_get (gS gE : PySem.Str → Option Int) (k : PySem.Str) (t : Int) : ((if (gE k).getD 0 ≤ t then upd gS k none else gS) k).getD 0 = svOf gS gE k t := by
  unfold svOf
  split
  · rw [upd_self]; rfl
  · rfl
theorem upd_upd {α : Type} (g : PySem.Str → Option α) (k : PySem.Str) (x y : Option α) : upd (upd g k x) k y = upd g k y := by
  funext z
  by_cases e : z = k
  · subst e; rw [upd_self, upd_self]
  · rw [upd_ne _ _ e, upd_ne _ _ e, upd_ne _ _ e]
theorem upd_ite {α : Type} {c : Prop} [Decidable c] (g : PySem.Str → Option α) (k : PySem.Str) (x y : Option α) : upd (if c then upd g k x else g) k y = upd g k y := by
  split
  · exact upd_upd g k x y
  · rfl
set_option maxHeartbeats 8000000 in
theorem get_in {lo x fk dS dE dV : Nat} {oS oE : Obj} {kt : Tok} {t : Int} {k : PySem.Str} {gS gE : PySem.Str → Option Int} {g1 : Obj → List (Addr × Obj)} {g2 : Obj → Obj → List (Addr × Obj)} {Q : Value → Shared → Prop}
    (B : Below A₀ base outer h₀) (F : Fr h₀ L s.heap m) (X₀ : (hd.heap_39 w.params).In h₀) (N : News h₀ L s.heap news) (T : Top p loose mean mg mb h₀)
    (hA : A.frames = some (env :: outer)) (hh : A.handled = none) (hf : env.frame = some L) (hke : env.scope.kind = .function) (hroom : A.depth ≤ 900)
    (G : Geo w s.heap lo x fk dS dE dV t)
    (U1 : UpdF dS oS news g1) (U2 : ∀ o, UpdF dE oE (g1 o) (g2 o))
    (DS : ISD prog w oS gS) (DE : ISD prog w oE gE)
    (h : ∀ h' tk' oS' oE' tv, Fr h₀ L h' m → News h₀ L h' (g2 oS' oE') → Kept [dS, dE] s.heap h' →
      ISD prog w oS' (if (gE k).getD 0 ≤ t then upd gS k none else gS) → ISD prog w oE' (if (gE k).getD 0 ≤ t then upd gE k none else gE) →
      Q (.int (svOf gS gE k t) tv) { s with heap := h', toks := tk' }) :
    wpAny (model prog w) A (call (.ref 117) [.ref x, .str k kt]) Q E s := by
  obtain ⟨N₀, _, _⟩ := two_of N U1 U2
  obtain ⟨hd9, dp, fr, gs, un⟩ := A
  dsimp only at hA hh hroom
  subst hA
  subst hh
  refine wpAny_call ?_
  refine' def_in B F X₀ N₀ T rfl hf hke ?k6 ?k7 ?k8 ?k9 ?kB ?_ ?c2 ?c3 ?c4 ?c5
  case k6 => k_is
  case k7 => k_is
  case k8 => exact Nat.lt_of_le_of_lt hroom (by decide)
  case k9 => first | exact BindsTo.of_eq rfl | exact binds_K (by k_in) rfl (by k_is) rfl rfl rfl
  case kB => exact locs rfl
  case c5 => decide
  case c2 => exact rfl
  case c3 => exact rfl
  case c4 => exact rfl
  intro g' L' h' m1 hm1 FG' F' N' B' X' T' hkept hlt
  dsimp only
  k_fold
  have olo : lo < x := G.low
  have ox : x < dS := G.hx
  have oSE : dS < dE := G.hS
  have oEV : dE < dV := G.hE
  have loS := G.loS
  have loE := G.loE
  have loV := G.loV
  have oXE : x < dE := Nat.lt_trans ox oSE
  have oXV : x < dV := Nat.lt_trans oXE oEV
  have oSV : dS < dV := Nat.lt_trans oSE oEV
  have G' := G.keeps hkept (by k_extra "k_offs")
  obtain ⟨dx, t1, t2, t3, t4, I'⟩ := G'.inst
  have C' := G'.clock
  clear G
  have a_self : m1 (PySem.Str.ofString "self") = some (.ref x) := (hm1 _).trans rfl
  have a_key : m1 (PySem.Str.ofString "key") = some (.str k kt) := (hm1 _).trans rfl
  clear hm1
  k_steps
  · have hc : (gE k).getD 0 ≤ t := by assumption
    rw [if_pos hc, if_pos hc, svOf, if_pos hc] at h
    rw [upd_self]
    exact h _ _ _ _ _ (by assumption) (news_two N U1 U2 (kept_of (by assumption) hkept) (by assumption)) (kept_of (by assumption) hkept) (by assumption) (by assumption)
  · have hc : ¬ (gE k).getD 0 ≤ t := by assumption
    rw [if_neg hc, if_neg hc, svOf, if_neg hc] at h
    exact h _ _ _ _ _ (by assumption) (news_two N U1 U2 (kept_of (by assumption) hkept) (by assumption)) (kept_of (by assumption) hkept) (by assumption) (by assumption)

end Get
section Incr
variable {prog : Program} {w : World} {A₀ A : Around} {base h₀ : Heap} {outer : List Env} {env : Env} {L : Addr} {m mg mb : PySem.Str → Option Value}
  {p : Program} {loose : List PySem.Str} {mean : ExcName → Option Value} {s : Shared} {news : List (Addr × Obj)} {E : Value → Shared → Prop}
theorem words_Incr : True := by
  k_with_none
  w_top off
  (k_with "k_steps" => repeat' (first | (k_unfold; (try dsimp only)) | (k_end; wrow_close) | (dsimp only; walk1) | walk1 | (leave1; walk_say "STEP leave1"; try dsimp only) | fail "no step"))
  (k_with "k_lt" => first | (intro hlt9; (with_reducible rename NodT _ _ => hNdZ); have hNd2 := nod_new hNdZ hlt9 rfl; replace hlt9 := allLt_of hlt9; simp only [AllLt, and_true] at hlt9; revert hNd2 hlt9; intro _) | (intro hlt9; replace hlt9 := allLt_of hlt9; simp only [AllLt, and_true] at hlt9; revert hlt9) | fail)
  (k_with "k_off1" => first | exact Or.inl (by assumption) | exact Nat.le_refl _ | exact Nat.le_of_lt (by assumption) | exact Or.inr (Nat.le_trans (m := 201) (by decide) (by assumption)) | exact Nat.le_trans (m := 201) (by decide) (by assumption) | omega | fail)
  (k_with "k_offs" => first | (refine List.forall_mem_cons.mpr ⟨?_, ?_⟩; (try dsimp only); (k_extra "k_off1"); (k_extra "k_offs")) | exact (fun _ h => absurd h List.not_mem_nil) | fail)
  (k_with "k_cj" => with_reducible first | assumption | exact And.left (by assumption) | exact And.left (And.right (by assumption)) | exact And.left (And.right (And.right (by assumption))) | exact And.left (And.right (And.right (And.right (by assumption)))) | exact And.left (And.right (And.right (And.right (And.right (by assumption))))) | exact And.left (And.right (And.right (And.right (And.right (And.right (by assumption)))))) | exact And.right (by assumption) | exact And.right (And.right (by assumption)) | exact And.right (And.right (And.right (by assumption))) | exact And.right (And.right (And.right (And.right (by assumption)))) | exact And.right (And.right (And.right (And.right (And.right (by assumption))))) | fail)
  (k_with "k_dp" => first | exact Nat.le_trans (by assumption) (by decide) | exact Nat.le_trans (Nat.succ_le_succ (by assumption)) (by decide) | exact Nat.lt_of_le_of_lt (by assumption) (by decide) | exact Nat.lt_of_le_of_lt (Nat.succ_le_succ (by assumption)) (by decide) | exact Nat.le_trans (Nat.succ_le_succ (Nat.succ_le_succ (by assumption))) (by decide) | exact Nat.lt_of_le_of_lt (Nat.succ_le_succ (Nat.succ_le_succ (by assumption))) (by decide) | (simp only [depth_mark, depth_under_make, depth_under_kw, depth_in1, depth_deeper]; omega) | fail)
  (k_with "k_mem" => first | exact AtU.head | (apply AtU.tail; k_mem) | (refine' PairIn.head ?_; k_mem) | (refine' PairIn.tail ?_; k_mem) | fail)
  (k_with "k_ne" => first | (refine' ne_d1 ?zH ?zP; (case zH => assumption); (case zP => k_mem)) | (refine' ne_d2 ?zH ?zP; (case zH => assumption); (case zP => k_mem)) | exact Nat.ne_of_gt (by (try dsimp only); k_extra "k_cj") | exact Nat.ne_of_lt (by (try dsimp only); k_extra "k_cj") | (refine neN ?_; (try dsimp only); omega) | fail)
  (k_with "k_updF" => first | (refine' updF_at ?zA ?zH ?ze ?zm; (case zA => k_mem); (case zH => assumption); (case ze => rfl); (case zm => k_mem)) | (refine' UpdF.head ?za; (case za => k_all)) | (refine' UpdF.tail ?za ?zb; (case za => k_ne); (case zb => k_updF)) | fail)
  (k_with "k_inst" => first | (refine' instH ?zF ?zI; (case zF => k_asm); (case zI => assumption)) | fail)
  (k_with "k_room" => first | (show _ < 1000; k_extra "k_dp") | fail)
  (k_with "is_list" => first | (refine' listH ?zF ?zI; (case zF => k_asm); (case zI => assumption)) | fail)
  (k_with "call ref" => (k_here; (with_reducible show wpAny _ _ (call (Value.ref _) [] []) _ _ _); k_dflt (refine' clock_in ?zF ?zX ?zN ?zT ?zr ?zC ?_; (case zF => k_asm); (case zC => assumption); (case zX => k_asm); (case zN => k_asm); (case zT => k_asm); (case zr => k_room)); intro _ _ _ _ _ _))
  (k_with "getMethod ref" => (k_here; (with_reducible show wpAny _ _ (getMethod (Value.ref _) (Str.ofString "get") _) _ _ _); k_dflt (refine' dsd_method PySem.F.slot_dict_get PySem.F.type_dict_get ?zN ?zm ?zD ?_; (case zN => k_asm); (case zm => k_mem); (case zD => k_asm))))
  (k_with "getMethod ref" => (k_here; (with_reducible show wpAny _ _ (getMethod (Value.ref _) (Str.ofString "pop") _) _ _ _); k_dflt (refine' dsd_method PySem.F.slot_dict_pop PySem.F.type_dict_pop ?zN ?zm ?zD ?_; (case zN => k_asm); (case zm => k_mem); (case zD => k_asm))))
  (k_with "getMethod ref" => (k_here; (with_reducible show wpAny _ _ (getMethod (Value.ref _) (Str.ofString "setdefault") _) _ _ _); k_dflt (refine' dsd_method PySem.F.slot_dict_setdefault PySem.F.type_dict_setdefault ?zN ?zm ?zD ?_; (case zN => k_asm); (case zm => k_mem); (case zD => k_asm))))
  (k_with "getMethod ref" => (k_here; (with_reducible show wpAny _ _ (getMethod (Value.ref _) (Str.ofString "clear") _) _ _ _); k_dflt (refine' dsd_method PySem.F.slot_dict_clear PySem.F.type_dict_clear ?zN ?zm ?zD ?_; (case zN => k_asm); (case zm => k_mem); (case zD => k_asm))))
  (k_with "getMethod ref" => (k_here; (with_reducible show wpAny _ _ (getMethod (Value.ref _) (Str.ofString "clock") _) _ _ _); k_dflt (refine' kmu_own ?zk1 ?zk2 ?zk3 ?zk4 ?zk5 ?_; (case zk1 => k_asm); (case zk2 => k_asm); (case zk3 => k_inst); (case zk4 => k_is); (case zk5 => k_is); k_whole)))
  (k_with "getAttr ref" => (k_here; k_dflt (refine' get_own ?zk1 ?zk2 ?zk3 ?zk4 ?zk5 ?zk6 ?zk7 ?zk8 ?zk9 ?_; (case zk1 => k_asm); (case zk2 => k_asm); (case zk3 => k_inst); (case zk4 => k_is); (case zk5 => k_is); (case zk6 => k_is); (case zk7 => k_is); (case zk8 => k_get); (case zk9 => k_handed); k_whole)))
  (k_with "call builtin:dict.get" => (k_here; k_dflt (refine' dsd_get ?zN ?zm ?zD ?zlo ?_; (case zN => k_asm); (case zm => k_mem); (case zD => k_asm); (case zlo => k_asm)); intro _ _))
  (k_with "call builtin:dict.get" => (k_here; (with_reducible show wpAny _ _ (call (Value.builtin _) [Value.ref _, Value.str _ _, Value.int _ _]) _ _ _); k_dflt (refine' isd_get ?zN ?zm ?zD ?zlo ?_; (case zN => k_asm); (case zm => k_mem); (case zD => k_asm); (case zlo => k_asm)); intro _))
  (k_with "call builtin:dict.pop" => (k_here; k_dflt (refine' dsd_pop ?zF ?zN ?zU ?zD ?zlo ?_; (case zF => k_asm); (case zN => k_asm); (case zU => k_updF); (case zD => k_asm); (case zlo => k_asm)); intro _ _ _ _ _ _ _))
  (k_with "call builtin:dict.clear" => (k_here; k_dflt (refine' dsd_clear ?zF ?zN ?zU ?zD ?_; (case zF => k_asm); (case zN => k_asm); (case zU => k_updF); (case zD => k_asm)); intro _ _ _ _ _))
  (k_with "call builtin:len" => (k_here; (with_reducible show wpAny _ _ (call (Value.builtin "len") [Value.ref _]) _ _ _); k_dflt (refine' dsd_len_call ?zN ?zm ?zD ?zlo ?_; (case zN => k_asm); (case zm => k_mem); (case zD => k_asm); (case zlo => k_asm)); intro _ _))
  (k_with "callWith ref" => (k_here; (with_reducible show wpAny _ _ (callWith _ _ _ (backTo _ (starEach [] _)) []) _ _ _); k_dflt (refine' callWith_F0 ?zk1 ?_; (case zk1 => exact fnClock (by k_asm) (by assumption)); k_whole); (try dsimp only [List.nil_append, List.cons_append])))
  (k_with "setItem ref str" => (k_here; k_dflt (refine' dsd_set ?zF ?zN ?zU ?zD ?zk ?zx ?_; (case zF => k_asm); (case zN => k_asm); (case zU => k_updF); (case zD => k_asm); (case zk => k_asm); (case zx => first | exact ⟨_, rfl⟩ | exact rfl)); intro _ _ _ _ _))
  (k_with "subscriptTail" => (k_here; (with_reducible show wpAny _ _ (subscriptTail _ _ (Value.ref _) (Value.str _ _)) _ _ _); k_dflt (refine' isd_item ?zN ?zm ?zD ?zx ?_; (case zN => k_asm); (case zm => k_mem); (case zD => k_asm); (case zx => first | exact upd_self _ _ _ | assumption)); intro _))
  (k_with "eval Name" => (k_here; k_dflt (refine' nameX_L ?zF ?zv ?_ ?za ?zb; (case za => rfl); (case zb => rfl); (case zF => k_asm); (case zv => first | rfl | assumption); k_whole)))
  (k_with "call builtin:len" => (k_here; (with_reducible show wpAny _ _ (call (Value.builtin "len") [Value.ref _]) _ _ _); k_dflt (refine' len_lst ?zl ?zn ?zb ?_; (case zl => is_list); (case zn => assumption); (case zb => omega); k_whole); intro _))
  (k_with "exec While Compare cons nil" => (k_here; refine stopW ?_))
  (k_with "subscriptTail" => (k_here; (with_reducible show wpAny _ _ (subscriptTail _ _ (Value.ref _) (Value.str _ _)) _ _ _); k_dflt (refine' asd_item ?zN ?zm ?zD ?zx ?_; (case zN => k_asm); (case zm => k_mem); (case zD => k_asm); (case zx => first | exact upd_self _ _ _ | assumption))))
  (k_with "call ref" => (k_here; (with_reducible show wpAny _ _ (call (Value.ref 117) [Value.ref _, Value.str _ _] []) _ _ _); k_dflt (refine' get_in ?zB ?zF ?zX ?zN ?zT ?zA ?zhh ?zf ?zk ?zr ?zG ?zU1 ?zU2 ?zDS ?zDE ?_; (case zF => k_asm); (case zG => exact Geo.all (by assumption) (Fr.keep (by k_asm))); (case zB => k_asm); (case zX => k_asm); (case zN => k_asm); (case zT => k_asm); (case zA => exact rfl); (case zhh => exact rfl); (case zf => exact rfl); (case zk => exact rfl); (case zr => (show _ ≤ 900; k_extra "k_dp")); (case zU1 => k_updF); (case zU2 => (intro _; (try dsimp only); k_updF)); (case zDS => k_asm); (case zDE => k_asm)); intro _ _ _ _ _ _ _ _ _ _))
  trivial
theorem sv0 {x a : Int} (h : x + a = a) : x = 0 := by omega
set_option maxHeartbeats 8000000 in
theorem incr_in {lo x fk dS dE dV : Nat} {oS oE : Obj} {kt te ta : Tok} {t e a : Int} {k : PySem.Str} {gS gE : PySem.Str → Option Int} {g1 : Obj → List (Addr × Obj)} {g2 : Obj → Obj → List (Addr × Obj)} {Q : Value → Shared → Prop}
    (B : Below A₀ base outer h₀) (F : Fr h₀ L s.heap m) (X₀ : (hd.heap_39 w.params).In h₀) (N : News h₀ L s.heap news) (T : Top p loose mean mg mb h₀)
    (hA : A.frames = some (env :: outer)) (hh : A.handled = none) (hf : env.frame = some L) (hke : env.scope.kind = .function) (hroom : A.depth ≤ 890)
    (G : Geo w s.heap lo x fk dS dE dV t)
    (U1 : UpdF dS oS news g1) (U2 : ∀ o, UpdF dE oE (g1 o) (g2 o))
    (DS : ISD prog w oS gS) (DE : ISD prog w oE gE) (hk : k ∈ KL)
    (h : ∀ h' tk' oS' oE' tv, Fr h₀ L h' m → News h₀ L h' (g2 oS' oE') → Kept [dS, dE] s.heap h' →
      ISD prog w oS' (upd gS k (some (svOf gS gE k t + a))) → ISD prog w oE' (if svOf gS gE k t = 0 then upd gE k (some (t + e)) else if (gE k).getD 0 ≤ t then upd gE k none else gE) →
      Q (.int (svOf gS gE k t + a) tv) { s with heap := h', toks := tk' }) :
    wpAny (model prog w) A (call (.ref 102) [.ref x, .str k kt, .int e te, .int a ta]) Q E s := by
  obtain ⟨N₀, _, _⟩ := two_of N U1 U2
  obtain ⟨hd9, dp, fr, gs, un⟩ := A
  dsimp only at hA hh hroom
  subst hA
  subst hh
  refine wpAny_call ?_
  refine' def_in B F X₀ N₀ T rfl hf hke ?k6 ?k7 ?k8 ?k9 ?kB ?_ ?c2 ?c3 ?c4 ?c5
  case k6 => k_is
  case k7 => k_is
  case k8 => exact Nat.lt_of_le_of_lt hroom (by decide)
  case k9 => first | exact BindsTo.of_eq rfl | exact binds_K (by k_in) rfl (by k_is) rfl rfl rfl
  case kB => exact locs rfl
  case c5 => decide
  case c2 => exact rfl
  case c3 => exact rfl
  case c4 => exact rfl
  intro g' L' h' m1 hm1 FG' F' N' B' X' T' hkept hlt
  dsimp only
  k_fold
  have olo : lo < x := G.low
  have ox : x < dS := G.hx
  have oSE : dS < dE := G.hS
  have oEV : dE < dV := G.hE
  have loS := G.loS
  have loE := G.loE
  have loV := G.loV
  have oXE : x < dE := Nat.lt_trans ox oSE
  have oXV : x < dV := Nat.lt_trans oXE oEV
  have oSV : dS < dV := Nat.lt_trans oSE oEV
  have G' := G.keeps hkept (by k_extra "k_offs")
  obtain ⟨dx, t1, t2, t3, t4, I'⟩ := G'.inst
  have C' := G'.clock
  clear G
  have a_self : m1 (PySem.Str.ofString "self") = some (.ref x) := (hm1 _).trans rfl
  have a_key : m1 (PySem.Str.ofString "key") = some (.str k kt) := (hm1 _).trans rfl
  have a_expiry : m1 (PySem.Str.ofString "expiry") = some (.int e te) := (hm1 _).trans rfl
  have a_amount : m1 (PySem.Str.ofString "amount") = some (.int a ta) := (hm1 _).trans rfl
  clear hm1
  k_steps
  · rename DSD prog w IsI _ (upd (ite _ (upd gS _ _) _) _ _) => hS
    rename DSD prog w IsI _ (upd (ite _ (upd gE _ _) _) _ _) => hE
    have hc : ((if (gE k).getD 0 ≤ t then upd gS k none else gS) k).getD 0 + a = a := by assumption
    rw [sv_get, upd_ite] at hS
    rw [upd_ite] at hE
    rw [sv_get] at hc
    rw [if_pos (sv0 hc)] at h
    rw [upd_self, sv_get]
    exact h _ _ _ _ _ (by assumption) (news_two N U1 U2 (kept_of (by assumption) hkept) (by assumption)) (kept_of (by assumption) hkept) hS hE
  · rename DSD prog w IsI _ (upd (ite _ (upd gS _ _) _) _ _) => hS
    have hc : ((if (gE k).getD 0 ≤ t then upd gS k none else gS) k).getD 0 + a ≠ a := by assumption
    rw [sv_get, upd_ite] at hS
    rw [sv_get] at hc
    rw [if_neg fun q => hc (by rw [q, Int.zero_add])] at h
    rw [upd_self, sv_get]
    exact h _ _ _ _ _ (by assumption) (news_two N U1 U2 (kept_of (by assumption) hkept) (by assumption)) (kept_of (by assumption) hkept) hS (by assumption)

end Incr
section Decr
variable {prog : Program} {w : World} {A₀ A : Around} {base h₀ : Heap} {outer : List Env} {env : Env} {L : Addr} {m mg mb : PySem.Str → Option Value}
  {p : Program} {loose : List PySem.Str} {mean : ExcName → Option Value} {s : Shared} {news : List (Addr × Obj)} {E : Value → Shared → Prop}
theorem words_Decr : True := by
  k_with_none
  w_top off
  (k_with "k_steps" => repeat' (first | (k_unfold; (try dsimp only)) | (k_end; wrow_close) | (dsimp only; walk1) | walk1 | (leave1; walk_say "STEP leave1"; try dsimp only) | fail "no step"))
  (k_with "k_lt" => first | (intro hlt9; (with_reducible rename NodT _ _ => hNdZ); have hNd2 := nod_new hNdZ hlt9 rfl; replace hlt9 := allLt_of hlt9; simp only [AllLt, and_true] at hlt9; revert hNd2 hlt9; intro _) | (intro hlt9; replace hlt9 := allLt_of hlt9; simp only [AllLt, and_true] at hlt9; revert hlt9) | fail)
  (k_with "k_off1" => first | exact Or.inl (by assumption) | exact Nat.le_refl _ | exact Nat.le_of_lt (by assumption) | exact Or.inr (Nat.le_trans (m := 201) (by decide) (by assumption)) | exact Nat.le_trans (m := 201) (by decide) (by assumption) | omega | fail)
  (k_with "k_offs" => first | (refine List.forall_mem_cons.mpr ⟨?_, ?_⟩; (try dsimp only); (k_extra "k_off1"); (k_extra "k_offs")) | exact (fun _ h => absurd h List.not_mem_nil) | fail)
  (k_with "k_cj" => with_reducible first | assumption | exact And.left (by assumption) | exact And.left (And.right (by assumption)) | exact And.left (And.right (And.right (by assumption))) | exact And.left (And.right (And.right (And.right (by assumption)))) | exact And.left (And.right (And.right (And.right (And.right (by assumption))))) | exact And.left (And.right (And.right (And.right (And.right (And.right (by assumption)))))) | exact And.right (by assumption) | exact And.right (And.right (by assumption)) | exact And.right (And.right (And.right (by assumption))) | exact And.right (And.right (And.right (And.right (by assumption)))) | exact And.right (And.right (And.right (And.right (And.right (by assumption))))) | fail)
  (k_with "k_dp" => first | exact Nat.le_trans (by assumption) (by decide) | exact Nat.le_trans (Nat.succ_le_succ (by assumption)) (by decide) | exact Nat.lt_of_le_of_lt (by assumption) (by decide) | exact Nat.lt_of_le_of_lt (Nat.succ_le_succ (by assumption)) (by decide) | exact Nat.le_trans (Nat.succ_le_succ (Nat.succ_le_succ (by assumption))) (by decide) | exact Nat.lt_of_le_of_lt (Nat.succ_le_succ (Nat.succ_le_succ (by assumption))) (by decide) | (simp only [depth_mark, depth_under_make, depth_under_kw, depth_in1, depth_deeper]; omega) | fail)
  (k_with "k_mem" => first | exact AtU.head | (apply AtU.tail; k_mem) | (refine' PairIn.head ?_; k_mem) | (refine' PairIn.tail ?_; k_mem) | fail)
  (k_with "k_ne" => first | (refine' ne_d1 ?zH ?zP; (case zH => assumption); (case zP => k_mem)) | (refine' ne_d2 ?zH ?zP; (case zH => assumption); (case zP => k_mem)) | exact Nat.ne_of_gt (by (try dsimp only); k_extra "k_cj") | exact Nat.ne_of_lt (by (try dsimp only); k_extra "k_cj") | (refine neN ?_; (try dsimp only); omega) | fail)
  (k_with "k_updF" => first | (refine' updF_at ?zA ?zH ?ze ?zm; (case zA => k_mem); (case zH => assumption); (case ze => rfl); (case zm => k_mem)) | (refine' UpdF.head ?za; (case za => k_all)) | (refine' UpdF.tail ?za ?zb; (case za => k_ne); (case zb => k_updF)) | fail)
  (k_with "k_inst" => first | (refine' instH ?zF ?zI; (case zF => k_asm); (case zI => assumption)) | fail)
  (k_with "k_room" => first | (show _ < 1000; k_extra "k_dp") | fail)
  (k_with "is_list" => first | (refine' listH ?zF ?zI; (case zF => k_asm); (case zI => assumption)) | fail)
  (k_with "call ref" => (k_here; (with_reducible show wpAny _ _ (call (Value.ref _) [] []) _ _ _); k_dflt (refine' clock_in ?zF ?zX ?zN ?zT ?zr ?zC ?_; (case zF => k_asm); (case zC => assumption); (case zX => k_asm); (case zN => k_asm); (case zT => k_asm); (case zr => k_room)); intro _ _ _ _ _ _))
  (k_with "getMethod ref" => (k_here; (with_reducible show wpAny _ _ (getMethod (Value.ref _) (Str.ofString "get") _) _ _ _); k_dflt (refine' dsd_method PySem.F.slot_dict_get PySem.F.type_dict_get ?zN ?zm ?zD ?_; (case zN => k_asm); (case zm => k_mem); (case zD => k_asm))))
  (k_with "getMethod ref" => (k_here; (with_reducible show wpAny _ _ (getMethod (Value.ref _) (Str.ofString "pop") _) _ _ _); k_dflt (refine' dsd_method PySem.F.slot_dict_pop PySem.F.type_dict_pop ?zN ?zm ?zD ?_; (case zN => k_asm); (case zm => k_mem); (case zD => k_asm))))
  (k_with "getMethod ref" => (k_here; (with_reducible show wpAny _ _ (getMethod (Value.ref _) (Str.ofString "setdefault") _) _ _ _); k_dflt (refine' dsd_method PySem.F.slot_dict_setdefault PySem.F.type_dict_setdefault ?zN ?zm ?zD ?_; (case zN => k_asm); (case zm => k_mem); (case zD => k_asm))))
  (k_with "getMethod ref" => (k_here; (with_reducible show wpAny _ _ (getMethod (Value.ref _) (Str.ofString "clear") _) _ _ _); k_dflt (refine' dsd_method PySem.F.slot_dict_clear PySem.F.type_dict_clear ?zN ?zm ?zD ?_; (case zN => k_asm); (case zm => k_mem); (case zD => k_asm))))
  (k_with "getMethod ref" => (k_here; (with_reducible show wpAny _ _ (getMethod (Value.ref _) (Str.ofString "clock") _) _ _ _); k_dflt (refine' kmu_own ?zk1 ?zk2 ?zk3 ?zk4 ?zk5 ?_; (case zk1 => k_asm); (case zk2 => k_asm); (case zk3 => k_inst); (case zk4 => k_is); (case zk5 => k_is); k_whole)))
  (k_with "getAttr ref" => (k_here; k_dflt (refine' get_own ?zk1 ?zk2 ?zk3 ?zk4 ?zk5 ?zk6 ?zk7 ?zk8 ?zk9 ?_; (case zk1 => k_asm); (case zk2 => k_asm); (case zk3 => k_inst); (case zk4 => k_is); (case zk5 => k_is); (case zk6 => k_is); (case zk7 => k_is); (case zk8 => k_get); (case zk9 => k_handed); k_whole)))
  (k_with "call builtin:dict.get" => (k_here; k_dflt (refine' dsd_get ?zN ?zm ?zD ?zlo ?_; (case zN => k_asm); (case zm => k_mem); (case zD => k_asm); (case zlo => k_asm)); intro _ _))
  (k_with "call builtin:dict.get" => (k_here; (with_reducible show wpAny _ _ (call (Value.builtin _) [Value.ref _, Value.str _ _, Value.int _ _]) _ _ _); k_dflt (refine' isd_get ?zN ?zm ?zD ?zlo ?_; (case zN => k_asm); (case zm => k_mem); (case zD => k_asm); (case zlo => k_asm)); intro _))
  (k_with "call builtin:dict.pop" => (k_here; k_dflt (refine' dsd_pop ?zF ?zN ?zU ?zD ?zlo ?_; (case zF => k_asm); (case zN => k_asm); (case zU => k_updF); (case zD => k_asm); (case zlo => k_asm)); intro _ _ _ _ _ _ _))
  (k_with "call builtin:dict.clear" => (k_here; k_dflt (refine' dsd_clear ?zF ?zN ?zU ?zD ?_; (case zF => k_asm); (case zN => k_asm); (case zU => k_updF); (case zD => k_asm)); intro _ _ _ _ _))
  (k_with "call builtin:len" => (k_here; (with_reducible show wpAny _ _ (call (Value.builtin "len") [Value.ref _]) _ _ _); k_dflt (refine' dsd_len_call ?zN ?zm ?zD ?zlo ?_; (case zN => k_asm); (case zm => k_mem); (case zD => k_asm); (case zlo => k_asm)); intro _ _))
  (k_with "callWith ref" => (k_here; (with_reducible show wpAny _ _ (callWith _ _ _ (backTo _ (starEach [] _)) []) _ _ _); k_dflt (refine' callWith_F0 ?zk1 ?_; (case zk1 => exact fnClock (by k_asm) (by assumption)); k_whole); (try dsimp only [List.nil_append, List.cons_append])))
  (k_with "setItem ref str" => (k_here; k_dflt (refine' dsd_set ?zF ?zN ?zU ?zD ?zk ?zx ?_; (case zF => k_asm); (case zN => k_asm); (case zU => k_updF); (case zD => k_asm); (case zk => k_asm); (case zx => first | exact ⟨_, rfl⟩ | exact rfl)); intro _ _ _ _ _))
  (k_with "subscriptTail" => (k_here; (with_reducible show wpAny _ _ (subscriptTail _ _ (Value.ref _) (Value.str _ _)) _ _ _); k_dflt (refine' isd_item ?zN ?zm ?zD ?zx ?_; (case zN => k_asm); (case zm => k_mem); (case zD => k_asm); (case zx => first | exact upd_self _ _ _ | assumption)); intro _))
  (k_with "eval Name" => (k_here; k_dflt (refine' nameX_L ?zF ?zv ?_ ?za ?zb; (case za => rfl); (case zb => rfl); (case zF => k_asm); (case zv => first | rfl | assumption); k_whole)))
  (k_with "call builtin:len" => (k_here; (with_reducible show wpAny _ _ (call (Value.builtin "len") [Value.ref _]) _ _ _); k_dflt (refine' len_lst ?zl ?zn ?zb ?_; (case zl => is_list); (case zn => assumption); (case zb => omega); k_whole); intro _))
  (k_with "exec While Compare cons nil" => (k_here; refine stopW ?_))
  (k_with "subscriptTail" => (k_here; (with_reducible show wpAny _ _ (subscriptTail _ _ (Value.ref _) (Value.str _ _)) _ _ _); k_dflt (refine' asd_item ?zN ?zm ?zD ?zx ?_; (case zN => k_asm); (case zm => k_mem); (case zD => k_asm); (case zx => first | exact upd_self _ _ _ | assumption))))
  (k_with "call ref" => (k_here; (with_reducible show wpAny _ _ (call (Value.ref 117) [Value.ref _, Value.str _ _] []) _ _ _); k_dflt (refine' get_in ?zB ?zF ?zX ?zN ?zT ?zA ?zhh ?zf ?zk ?zr ?zG ?zU1 ?zU2 ?zDS ?zDE ?_; (case zF => k_asm); (case zG => exact Geo.all (by assumption) (Fr.keep (by k_asm))); (case zB => k_asm); (case zX => k_asm); (case zN => k_asm); (case zT => k_asm); (case zA => exact rfl); (case zhh => exact rfl); (case zf => exact rfl); (case zk => exact rfl); (case zr => (show _ ≤ 900; k_extra "k_dp")); (case zU1 => k_updF); (case zU2 => (intro _; (try dsimp only); k_updF)); (case zDS => k_asm); (case zDE => k_asm)); intro _ _ _ _ _ _ _ _ _ _))
  trivial
theorem ite_max (x : Int) : (if 0 > x then 0 else x) = max x 0 := by split <;> omega
set_option maxHeartbeats 8000000 in
theorem decr_in {lo x fk dS dE dV : Nat} {oS oE : Obj} {kt ta : Tok} {t a : Int} {k : PySem.Str} {gS gE : PySem.Str → Option Int} {g1 : Obj → List (Addr × Obj)} {g2 : Obj → Obj → List (Addr × Obj)} {Q : Value → Shared → Prop}
    (B : Below A₀ base outer h₀) (F : Fr h₀ L s.heap m) (X₀ : (hd.heap_39 w.params).In h₀) (N : News h₀ L s.heap news) (T : Top p loose mean mg mb h₀)
    (hA : A.frames = some (env :: outer)) (hh : A.handled = none) (hf : env.frame = some L) (hke : env.scope.kind = .function) (hroom : A.depth ≤ 890)
    (G : Geo w s.heap lo x fk dS dE dV t)
    (U1 : UpdF dS oS news g1) (U2 : ∀ o, UpdF dE oE (g1 o) (g2 o))
    (DS : ISD prog w oS gS) (DE : ISD prog w oE gE) (hk : k ∈ KL)
    (h : ∀ h' tk' oS' oE' tv, Fr h₀ L h' m → News h₀ L h' (g2 oS' oE') → Kept [dS, dE] s.heap h' →
      ISD prog w oS' (upd gS k (some (max (svOf gS gE k t - a) 0))) → ISD prog w oE' (if (gE k).getD 0 ≤ t then upd gE k none else gE) →
      Q (.int (max (svOf gS gE k t - a) 0) tv) { s with heap := h', toks := tk' }) :
    wpAny (model prog w) A (call (.ref 110) [.ref x, .str k kt, .int a ta]) Q E s := by
  obtain ⟨N₀, _, _⟩ := two_of N U1 U2
  obtain ⟨hd9, dp, fr, gs, un⟩ := A
  dsimp only at hA hh hroom
  subst hA
  subst hh
  refine wpAny_call ?_
  refine' def_in B F X₀ N₀ T rfl hf hke ?k6 ?k7 ?k8 ?k9 ?kB ?_ ?c2 ?c3 ?c4 ?c5
  case k6 => k_is
  case k7 => k_is
  case k8 => exact Nat.lt_of_le_of_lt hroom (by decide)
  case k9 => first | exact BindsTo.of_eq rfl | exact binds_K (by k_in) rfl (by k_is) rfl rfl rfl
  case kB => exact locs rfl
  case c5 => decide
  case c2 => exact rfl
  case c3 => exact rfl
  case c4 => exact rfl
  intro g' L' h' m1 hm1 FG' F' N' B' X' T' hkept hlt
  dsimp only
  k_fold
  have olo : lo < x := G.low
  have ox : x < dS := G.hx
  have oSE : dS < dE := G.hS
  have oEV : dE < dV := G.hE
  have loS := G.loS
  have loE := G.loE
  have loV := G.loV
  have oXE : x < dE := Nat.lt_trans ox oSE
  have oXV : x < dV := Nat.lt_trans oXE oEV
  have oSV : dS < dV := Nat.lt_trans oSE oEV
  have G' := G.keeps hkept (by k_extra "k_offs")
  obtain ⟨dx, t1, t2, t3, t4, I'⟩ := G'.inst
  have C' := G'.clock
  clear G
  have a_self : m1 (PySem.Str.ofString "self") = some (.ref x) := (hm1 _).trans rfl
  have a_key : m1 (PySem.Str.ofString "key") = some (.str k kt) := (hm1 _).trans rfl
  have a_amount : m1 (PySem.Str.ofString "amount") = some (.int a ta) := (hm1 _).trans rfl
  clear hm1
  k_steps
  rename DSD prog w IsI _ (upd (ite _ (upd gS _ _) _) _ _) => hS
  rw [sv_get, upd_ite, ite_max] at hS
  rw [upd_self, sv_get, ite_max]
  exact h _ _ _ _ _ (by assumption) (news_two N U1 U2 (kept_of (by assumption) hkept) (by assumption)) (kept_of (by assumption) hkept) hS (by assumption)

end Decr
section GetExp
variable {prog : Program} {w : World} {A₀ A : Around} {base h₀ : Heap} {outer : List Env} {env : Env} {L : Addr} {m mg mb : PySem.Str → Option Value}
  {p : Program} {loose : List PySem.Str} {mean : ExcName → Option Value} {s : Shared} {news : List (Addr × Obj)} {E : Value → Shared → Prop}
theorem words_GetExp : True := by
  k_with_none
  w_top off
  (k_with "k_steps" => repeat' (first | (k_unfold; (try dsimp only)) | (k_end; wrow_close) | (dsimp only; walk1) | walk1 | (leave1; walk_say "STEP leave1"; try dsimp only) | fail "no step"))
  (k_with "k_lt" => first | (intro hlt9; (with_reducible rename NodT _ _ => hNdZ); have hNd2 := nod_new hNdZ hlt9 rfl; replace hlt9 := allLt_of hlt9; simp only [AllLt, and_true] at hlt9; revert hNd2 hlt9; intro _) | (intro hlt9; replace hlt9 := allLt_of hlt9; simp only [AllLt, and_true] at hlt9; revert hlt9) | fail)
  (k_with "k_off1" => first | exact Or.inl (by assumption) | exact Nat.le_refl _ | exact Nat.le_of_lt (by assumption) | exact Or.inr (Nat.le_trans (m := 201) (by decide) (by assumption)) | exact Nat.le_trans (m := 201) (by decide) (by assumption) | omega | fail)
  (k_with "k_offs" => first | (refine List.forall_mem_cons.mpr ⟨?_, ?_⟩; (try dsimp only); (k_extra "k_off1"); (k_extra "k_offs")) | exact (fun _ h => absurd h List.not_mem_nil) | fail)
  (k_with "k_cj" => with_reducible first | assumption | exact And.left (by assumption) | exact And.left (And.right (by assumption)) | exact And.left (And.right (And.right (by assumption))) | exact And.left (And.right (And.right (And.right (by assumption)))) | exact And.left (And.right (And.right (And.right (And.right (by assumption))))) | exact And.left (And.right (And.right (And.right (And.right (And.right (by assumption)))))) | exact And.right (by assumption) | exact And.right (And.right (by assumption)) | exact And.right (And.right (And.right (by assumption))) | exact And.right (And.right (And.right (And.right (by assumption)))) | exact And.right (And.right (And.right (And.right (And.right (by assumption))))) | fail)
  (k_with "k_dp" => first | exact Nat.le_trans (by assumption) (by decide) | exact Nat.le_trans (Nat.succ_le_succ (by assumption)) (by decide) | exact Nat.lt_of_le_of_lt (by assumption) (by decide) | exact Nat.lt_of_le_of_lt (Nat.succ_le_succ (by assumption)) (by decide) | exact Nat.le_trans (Nat.succ_le_succ (Nat.succ_le_succ (by assumption))) (by decide) | exact Nat.lt_of_le_of_lt (Nat.succ_le_succ (Nat.succ_le_succ (by assumption))) (by decide) | (simp only [depth_mark, depth_under_make, depth_under_kw, depth_in1, depth_deeper]; omega) | fail)
  (k_with "k_mem" => first | exact AtU.head | (apply AtU.tail; k_mem) | (refine' PairIn.head ?_; k_mem) | (refine' PairIn.tail ?_; k_mem) | fail)
  (k_with "k_ne" => first | (refine' ne_d1 ?zH ?zP; (case zH => assumption); (case zP => k_mem)) | (refine' ne_d2 ?zH ?zP; (case zH => assumption); (case zP => k_mem)) | exact Nat.ne_of_gt (by (try dsimp only); k_extra "k_cj") | exact Nat.ne_of_lt (by (try dsimp only); k_extra "k_cj") | (refine neN ?_; (try dsimp only); omega) | fail)
  (k_with "k_updF" => first | (refine' updF_at ?zA ?zH ?ze ?zm; (case zA => k_mem); (case zH => assumption); (case ze => rfl); (case zm => k_mem)) | (refine' UpdF.head ?za; (case za => k_all)) | (refine' UpdF.tail ?za ?zb; (case za => k_ne); (case zb => k_updF)) | fail)
  (k_with "k_inst" => first | (refine' instH ?zF ?zI; (case zF => k_asm); (case zI => assumption)) | fail)
  (k_with "k_room" => first | (show _ < 1000; k_extra "k_dp") | fail)
  (k_with "is_list" => first | (refine' listH ?zF ?zI; (case zF => k_asm); (case zI => assumption)) | fail)
  (k_with "call ref" => (k_here; (with_reducible show wpAny _ _ (call (Value.ref _) [] []) _ _ _); k_dflt (refine' clock_in ?zF ?zX ?zN ?zT ?zr ?zC ?_; (case zF => k_asm); (case zC => assumption); (case zX => k_asm); (case zN => k_asm); (case zT => k_asm); (case zr => k_room)); intro _ _ _ _ _ _))
  (k_with "getMethod ref" => (k_here; (with_reducible show wpAny _ _ (getMethod (Value.ref _) (Str.ofString "get") _) _ _ _); k_dflt (refine' dsd_method PySem.F.slot_dict_get PySem.F.type_dict_get ?zN ?zm ?zD ?_; (case zN => k_asm); (case zm => k_mem); (case zD => k_asm))))
  (k_with "getMethod ref" => (k_here; (with_reducible show wpAny _ _ (getMethod (Value.ref _) (Str.ofString "pop") _) _ _ _); k_dflt (refine' dsd_method PySem.F.slot_dict_pop PySem.F.type_dict_pop ?zN ?zm ?zD ?_; (case zN => k_asm); (case zm => k_mem); (case zD => k_asm))))
  (k_with "getMethod ref" => (k_here; (with_reducible show wpAny _ _ (getMethod (Value.ref _) (Str.ofString "setdefault") _) _ _ _); k_dflt (refine' dsd_method PySem.F.slot_dict_setdefault PySem.F.type_dict_setdefault ?zN ?zm ?zD ?_; (case zN => k_asm); (case zm => k_mem); (case zD => k_asm))))
  (k_with "getMethod ref" => (k_here; (with_reducible show wpAny _ _ (getMethod (Value.ref _) (Str.ofString "clear") _) _ _ _); k_dflt (refine' dsd_method PySem.F.slot_dict_clear PySem.F.type_dict_clear ?zN ?zm ?zD ?_; (case zN => k_asm); (case zm => k_mem); (case zD => k_asm))))
  (k_with "getMethod ref" => (k_here; (with_reducible show wpAny _ _ (getMethod (Value.ref _) (Str.ofString "clock") _) _ _ _); k_dflt (refine' kmu_own ?zk1 ?zk2 ?zk3 ?zk4 ?zk5 ?_; (case zk1 => k_asm); (case zk2 => k_asm); (case zk3 => k_inst); (case zk4 => k_is); (case zk5 => k_is); k_whole)))
  (k_with "getAttr ref" => (k_here; k_dflt (refine' get_own ?zk1 ?zk2 ?zk3 ?zk4 ?zk5 ?zk6 ?zk7 ?zk8 ?zk9 ?_; (case zk1 => k_asm); (case zk2 => k_asm); (case zk3 => k_inst); (case zk4 => k_is); (case zk5 => k_is); (case zk6 => k_is); (case zk7 => k_is); (case zk8 => k_get); (case zk9 => k_handed); k_whole)))
  (k_with "call builtin:dict.get" => (k_here; k_dflt (refine' dsd_get ?zN ?zm ?zD ?zlo ?_; (case zN => k_asm); (case zm => k_mem); (case zD => k_asm); (case zlo => k_asm)); intro _ _))
  (k_with "call builtin:dict.get" => (k_here; (with_reducible show wpAny _ _ (call (Value.builtin _) [Value.ref _, Value.str _ _, Value.int _ _]) _ _ _); k_dflt (refine' isd_get ?zN ?zm ?zD ?zlo ?_; (case zN => k_asm); (case zm => k_mem); (case zD => k_asm); (case zlo => k_asm)); intro _))
  (k_with "call builtin:dict.pop" => (k_here; k_dflt (refine' dsd_pop ?zF ?zN ?zU ?zD ?zlo ?_; (case zF => k_asm); (case zN => k_asm); (case zU => k_updF); (case zD => k_asm); (case zlo => k_asm)); intro _ _ _ _ _ _ _))
  (k_with "call builtin:dict.clear" => (k_here; k_dflt (refine' dsd_clear ?zF ?zN ?zU ?zD ?_; (case zF => k_asm); (case zN => k_asm); (case zU => k_updF); (case zD => k_asm)); intro _ _ _ _ _))
  (k_with "call builtin:len" => (k_here; (with_reducible show wpAny _ _ (call (Value.builtin "len") [Value.ref _]) _ _ _); k_dflt (refine' dsd_len_call ?zN ?zm ?zD ?zlo ?_; (case zN => k_asm); (case zm => k_mem); (case zD => k_asm); (case zlo => k_asm)); intro _ _))
  (k_with "callWith ref" => (k_here; (with_reducible show wpAny _ _ (callWith _ _ _ (backTo _ (starEach [] _)) []) _ _ _); k_dflt (refine' callWith_F0 ?zk1 ?_; (case zk1 => exact fnClock (by k_asm) (by assumption)); k_whole); (try dsimp only [List.nil_append, List.cons_append])))
  (k_with "setItem ref str" => (k_here; k_dflt (refine' dsd_set ?zF ?zN ?zU ?zD ?zk ?zx ?_; (case zF => k_asm); (case zN => k_asm); (case zU => k_updF); (case zD => k_asm); (case zk => k_asm); (case zx => first | exact ⟨_, rfl⟩ | exact rfl)); intro _ _ _ _ _))
  (k_with "subscriptTail" => (k_here; (with_reducible show wpAny _ _ (subscriptTail _ _ (Value.ref _) (Value.str _ _)) _ _ _); k_dflt (refine' isd_item ?zN ?zm ?zD ?zx ?_; (case zN => k_asm); (case zm => k_mem); (case zD => k_asm); (case zx => first | exact upd_self _ _ _ | assumption)); intro _))
  (k_with "eval Name" => (k_here; k_dflt (refine' nameX_L ?zF ?zv ?_ ?za ?zb; (case za => rfl); (case zb => rfl); (case zF => k_asm); (case zv => first | rfl | assumption); k_whole)))
  (k_with "call builtin:len" => (k_here; (with_reducible show wpAny _ _ (call (Value.builtin "len") [Value.ref _]) _ _ _); k_dflt (refine' len_lst ?zl ?zn ?zb ?_; (case zl => is_list); (case zn => assumption); (case zb => omega); k_whole); intro _))
  (k_with "exec While Compare cons nil" => (k_here; refine stopW ?_))
  (k_with "subscriptTail" => (k_here; (with_reducible show wpAny _ _ (subscriptTail _ _ (Value.ref _) (Value.str _ _)) _ _ _); k_dflt (refine' asd_item ?zN ?zm ?zD ?zx ?_; (case zN => k_asm); (case zm => k_mem); (case zD => k_asm); (case zx => first | exact upd_self _ _ _ | assumption))))
  (k_with "call ref" => (k_here; (with_reducible show wpAny _ _ (call (Value.ref 117) [Value.ref _, Value.str _ _] []) _ _ _); k_dflt (refine' get_in ?zB ?zF ?zX ?zN ?zT ?zA ?zhh ?zf ?zk ?zr ?zG ?zU1 ?zU2 ?zDS ?zDE ?_; (case zF => k_asm); (case zG => exact Geo.all (by assumption) (Fr.keep (by k_asm))); (case zB => k_asm); (case zX => k_asm); (case zN => k_asm); (case zT => k_asm); (case zA => exact rfl); (case zhh => exact rfl); (case zf => exact rfl); (case zk => exact rfl); (case zr => (show _ ≤ 900; k_extra "k_dp")); (case zU1 => k_updF); (case zU2 => (intro _; (try dsimp only); k_updF)); (case zDS => k_asm); (case zDE => k_asm)); intro _ _ _ _ _ _ _ _ _ _))
  trivial
set_option maxHeartbeats 8000000 in
theorem get_expiry_in {lo x fk dS dE dV : Nat} {oE : Obj} {kt : Tok} {t : Int} {k : PySem.Str} {gE : PySem.Str → Option Int} {Q : Value → Shared → Prop}
    (B : Below A₀ base outer h₀) (F : Fr h₀ L s.heap m) (X₀ : (hd.heap_39 w.params).In h₀) (N : News h₀ L s.heap news) (T : Top p loose mean mg mb h₀)
    (hA : A.frames = some (env :: outer)) (hh : A.handled = none) (hf : env.frame = some L) (hke : env.scope.kind = .function) (hroom : A.depth ≤ 890)
    (G : Geo w s.heap lo x fk dS dE dV t)
    (hm : (dE, oE) ∈ news) (DE : ISD prog w oE gE)
    (h : ∀ h' tk' tv, Fr h₀ L h' m → News h₀ L h' news → Kept [] s.heap h' → Q (.int ((gE k).getD t) tv) { s with heap := h', toks := tk' }) :
    wpAny (model prog w) A (call (.ref 139) [.ref x, .str k kt]) Q E s := by
  have N₀ : News h₀ L s.heap [(dE, oE)] := fun q hq => by rw [List.mem_singleton.mp hq]; exact N _ hm
  obtain ⟨hd9, dp, fr, gs, un⟩ := A
  dsimp only at hA hh hroom
  subst hA
  subst hh
  refine wpAny_call ?_
  refine' def_in B F X₀ N₀ T rfl hf hke ?k6 ?k7 ?k8 ?k9 ?kB ?_ ?c2 ?c3 ?c4 ?c5
  case k6 => k_is
  case k7 => k_is
  case k8 => exact Nat.lt_of_le_of_lt hroom (by decide)
  case k9 => first | exact BindsTo.of_eq rfl | exact binds_K (by k_in) rfl (by k_is) rfl rfl rfl
  case kB => exact locs rfl
  case c5 => decide
  case c2 => exact rfl
  case c3 => exact rfl
  case c4 => exact rfl
  intro g' L' h' m1 hm1 FG' F' N' B' X' T' hkept hlt
  dsimp only
  k_fold
  have olo : lo < x := G.low
  have ox : x < dS := G.hx
  have oSE : dS < dE := G.hS
  have oEV : dE < dV := G.hE
  have loS := G.loS
  have loE := G.loE
  have loV := G.loV
  have oXE : x < dE := Nat.lt_trans ox oSE
  have oXV : x < dV := Nat.lt_trans oXE oEV
  have oSV : dS < dV := Nat.lt_trans oSE oEV
  have G' := G.keeps hkept (by k_extra "k_offs")
  obtain ⟨dx, t1, t2, t3, t4, I'⟩ := G'.inst
  have C' := G'.clock
  clear G
  have a_self : m1 (PySem.Str.ofString "self") = some (.ref x) := (hm1 _).trans rfl
  have a_key : m1 (PySem.Str.ofString "key") = some (.str k kt) := (hm1 _).trans rfl
  clear hm1
  k_steps
  have k0 := same_one N hm (by assumption) (kept_of (by assumption) hkept)
  exact h _ _ _ (by assumption) (news_kept N k0) k0

end GetExp
section Clear
variable {prog : Program} {w : World} {A₀ A : Around} {base h₀ : Heap} {outer : List Env} {env : Env} {L : Addr} {m mg mb : PySem.Str → Option Value}
  {p : Program} {loose : List PySem.Str} {mean : ExcName → Option Value} {s : Shared} {news : List (Addr × Obj)} {E : Value → Shared → Prop}
theorem words_Clear : True := by
  k_with_none
  w_top off
  (k_with "k_steps" => repeat' (first | (k_unfold; (try dsimp only)) | (k_end; wrow_close) | (dsimp only; walk1) | walk1 | (leave1; walk_say "STEP leave1"; try dsimp only) | fail "no step"))
  (k_with "k_lt" => first | (intro hlt9; (with_reducible rename NodT _ _ => hNdZ); have hNd2 := nod_new hNdZ hlt9 rfl; replace hlt9 := allLt_of hlt9; simp only [AllLt, and_true] at hlt9; revert hNd2 hlt9; intro _) | (intro hlt9; replace hlt9 := allLt_of hlt9; simp only [AllLt, and_true] at hlt9; revert hlt9) | fail)
  (k_with "k_off1" => first | exact Or.inl (by assumption) | exact Nat.le_refl _ | exact Nat.le_of_lt (by assumption) | exact Or.inr (Nat.le_trans (m := 201) (by decide) (by assumption)) | exact Nat.le_trans (m := 201) (by decide) (by assumption) | omega | fail)
  (k_with "k_offs" => first | (refine List.forall_mem_cons.mpr ⟨?_, ?_⟩; (try dsimp only); (k_extra "k_off1"); (k_extra "k_offs")) | exact (fun _ h => absurd h List.not_mem_nil) | fail)
  (k_with "k_cj" => with_reducible first | assumption | exact And.left (by assumption) | exact And.left (And.right (by assumption)) | exact And.left (And.right (And.right (by assumption))) | exact And.left (And.right (And.right (And.right (by assumption)))) | exact And.left (And.right (And.right (And.right (And.right (by assumption))))) | exact And.left (And.right (And.right (And.right (And.right (And.right (by assumption)))))) | exact And.right (by assumption) | exact And.right (And.right (by assumption)) | exact And.right (And.right (And.right (by assumption))) | exact And.right (And.right (And.right (And.right (by assumption)))) | exact And.right (And.right (And.right (And.right (And.right (by assumption))))) | fail)
  (k_with "k_dp" => first | exact Nat.le_trans (by assumption) (by decide) | exact Nat.le_trans (Nat.succ_le_succ (by assumption)) (by decide) | exact Nat.lt_of_le_of_lt (by assumption) (by decide) | exact Nat.lt_of_le_of_lt (Nat.succ_le_succ (by assumption)) (by decide) | exact Nat.le_trans (Nat.succ_le_succ (Nat.succ_le_succ (by assumption))) (by decide) | exact Nat.lt_of_le_of_lt (Nat.succ_le_succ (Nat.succ_le_succ (by assumption))) (by decide) | (simp only [depth_mark, depth_under_make, depth_under_kw, depth_in1, depth_deeper]; omega) | fail)
  (k_with "k_mem" => first | exact AtU.head | (apply AtU.tail; k_mem) | (refine' PairIn.head ?_; k_mem) | (refine' PairIn.tail ?_; k_mem) | fail)
  (k_with "k_ne" => first | (refine' ne_d1 ?zH ?zP; (case zH => assumption); (case zP => k_mem)) | (refine' ne_d2 ?zH ?zP; (case zH => assumption); (case zP => k_mem)) | exact Nat.ne_of_gt (by (try dsimp only); k_extra "k_cj") | exact Nat.ne_of_lt (by (try dsimp only); k_extra "k_cj") | (refine neN ?_; (try dsimp only); omega) | fail)
  (k_with "k_updF" => first | (refine' updF_at ?zA ?zH ?ze ?zm; (case zA => k_mem); (case zH => assumption); (case ze => rfl); (case zm => k_mem)) | (refine' UpdF.head ?za; (case za => k_all)) | (refine' UpdF.tail ?za ?zb; (case za => k_ne); (case zb => k_updF)) | fail)
  (k_with "k_inst" => first | (refine' instH ?zF ?zI; (case zF => k_asm); (case zI => assumption)) | fail)
  (k_with "k_room" => first | (show _ < 1000; k_extra "k_dp") | fail)
  (k_with "is_list" => first | (refine' listH ?zF ?zI; (case zF => k_asm); (case zI => assumption)) | fail)
  (k_with "call ref" => (k_here; (with_reducible show wpAny _ _ (call (Value.ref _) [] []) _ _ _); k_dflt (refine' clock_in ?zF ?zX ?zN ?zT ?zr ?zC ?_; (case zF => k_asm); (case zC => assumption); (case zX => k_asm); (case zN => k_asm); (case zT => k_asm); (case zr => k_room)); intro _ _ _ _ _ _))
  (k_with "getMethod ref" => (k_here; (with_reducible show wpAny _ _ (getMethod (Value.ref _) (Str.ofString "get") _) _ _ _); k_dflt (refine' dsd_method PySem.F.slot_dict_get PySem.F.type_dict_get ?zN ?zm ?zD ?_; (case zN => k_asm); (case zm => k_mem); (case zD => k_asm))))
  (k_with "getMethod ref" => (k_here; (with_reducible show wpAny _ _ (getMethod (Value.ref _) (Str.ofString "pop") _) _ _ _); k_dflt (refine' dsd_method PySem.F.slot_dict_pop PySem.F.type_dict_pop ?zN ?zm ?zD ?_; (case zN => k_asm); (case zm => k_mem); (case zD => k_asm))))
  (k_with "getMethod ref" => (k_here; (with_reducible show wpAny _ _ (getMethod (Value.ref _) (Str.ofString "setdefault") _) _ _ _); k_dflt (refine' dsd_method PySem.F.slot_dict_setdefault PySem.F.type_dict_setdefault ?zN ?zm ?zD ?_; (case zN => k_asm); (case zm => k_mem); (case zD => k_asm))))
  (k_with "getMethod ref" => (k_here; (with_reducible show wpAny _ _ (getMethod (Value.ref _) (Str.ofString "clear") _) _ _ _); k_dflt (refine' dsd_method PySem.F.slot_dict_clear PySem.F.type_dict_clear ?zN ?zm ?zD ?_; (case zN => k_asm); (case zm => k_mem); (case zD => k_asm))))
  (k_with "getMethod ref" => (k_here; (with_reducible show wpAny _ _ (getMethod (Value.ref _) (Str.ofString "clock") _) _ _ _); k_dflt (refine' kmu_own ?zk1 ?zk2 ?zk3 ?zk4 ?zk5 ?_; (case zk1 => k_asm); (case zk2 => k_asm); (case zk3 => k_inst); (case zk4 => k_is); (case zk5 => k_is); k_whole)))
  (k_with "getAttr ref" => (k_here; k_dflt (refine' get_own ?zk1 ?zk2 ?zk3 ?zk4 ?zk5 ?zk6 ?zk7 ?zk8 ?zk9 ?_; (case zk1 => k_asm); (case zk2 => k_asm); (case zk3 => k_inst); (case zk4 => k_is); (case zk5 => k_is); (case zk6 => k_is); (case zk7 => k_is); (case zk8 => k_get); (case zk9 => k_handed); k_whole)))
  (k_with "call builtin:dict.get" => (k_here; k_dflt (refine' dsd_get ?zN ?zm ?zD ?zlo ?_; (case zN => k_asm); (case zm => k_mem); (case zD => k_asm); (case zlo => k_asm)); intro _ _))
  (k_with "call builtin:dict.get" => (k_here; (with_reducible show wpAny _ _ (call (Value.builtin _) [Value.ref _, Value.str _ _, Value.int _ _]) _ _ _); k_dflt (refine' isd_get ?zN ?zm ?zD ?zlo ?_; (case zN => k_asm); (case zm => k_mem); (case zD => k_asm); (case zlo => k_asm)); intro _))
  (k_with "call builtin:dict.pop" => (k_here; k_dflt (refine' dsd_pop ?zF ?zN ?zU ?zD ?zlo ?_; (case zF => k_asm); (case zN => k_asm); (case zU => k_updF); (case zD => k_asm); (case zlo => k_asm)); intro _ _ _ _ _ _ _))
  (k_with "call builtin:dict.clear" => (k_here; k_dflt (refine' dsd_clear ?zF ?zN ?zU ?zD ?_; (case zF => k_asm); (case zN => k_asm); (case zU => k_updF); (case zD => k_asm)); intro _ _ _ _ _))
  (k_with "call builtin:len" => (k_here; (with_reducible show wpAny _ _ (call (Value.builtin "len") [Value.ref _]) _ _ _); k_dflt (refine' dsd_len_call ?zN ?zm ?zD ?zlo ?_; (case zN => k_asm); (case zm => k_mem); (case zD => k_asm); (case zlo => k_asm)); intro _ _))
  (k_with "callWith ref" => (k_here; (with_reducible show wpAny _ _ (callWith _ _ _ (backTo _ (starEach [] _)) []) _ _ _); k_dflt (refine' callWith_F0 ?zk1 ?_; (case zk1 => exact fnClock (by k_asm) (by assumption)); k_whole); (try dsimp only [List.nil_append, List.cons_append])))
  (k_with "setItem ref str" => (k_here; k_dflt (refine' dsd_set ?zF ?zN ?zU ?zD ?zk ?zx ?_; (case zF => k_asm); (case zN => k_asm); (case zU => k_updF); (case zD => k_asm); (case zk => k_asm); (case zx => first | exact ⟨_, rfl⟩ | exact rfl)); intro _ _ _ _ _))
  (k_with "subscriptTail" => (k_here; (with_reducible show wpAny _ _ (subscriptTail _ _ (Value.ref _) (Value.str _ _)) _ _ _); k_dflt (refine' isd_item ?zN ?zm ?zD ?zx ?_; (case zN => k_asm); (case zm => k_mem); (case zD => k_asm); (case zx => first | exact upd_self _ _ _ | assumption)); intro _))
  (k_with "eval Name" => (k_here; k_dflt (refine' nameX_L ?zF ?zv ?_ ?za ?zb; (case za => rfl); (case zb => rfl); (case zF => k_asm); (case zv => first | rfl | assumption); k_whole)))
  (k_with "call builtin:len" => (k_here; (with_reducible show wpAny _ _ (call (Value.builtin "len") [Value.ref _]) _ _ _); k_dflt (refine' len_lst ?zl ?zn ?zb ?_; (case zl => is_list); (case zn => assumption); (case zb => omega); k_whole); intro _))
  (k_with "exec While Compare cons nil" => (k_here; refine stopW ?_))
  (k_with "subscriptTail" => (k_here; (with_reducible show wpAny _ _ (subscriptTail _ _ (Value.ref _) (Value.str _ _)) _ _ _); k_dflt (refine' asd_item ?zN ?zm ?zD ?zx ?_; (case zN => k_asm); (case zm => k_mem); (case zD => k_asm); (case zx => first | exact upd_self _ _ _ | assumption))))
  (k_with "call ref" => (k_here; (with_reducible show wpAny _ _ (call (Value.ref 117) [Value.ref _, Value.str _ _] []) _ _ _); k_dflt (refine' get_in ?zB ?zF ?zX ?zN ?zT ?zA ?zhh ?zf ?zk ?zr ?zG ?zU1 ?zU2 ?zDS ?zDE ?_; (case zF => k_asm); (case zG => exact Geo.all (by assumption) (Fr.keep (by k_asm))); (case zB => k_asm); (case zX => k_asm); (case zN => k_asm); (case zT => k_asm); (case zA => exact rfl); (case zhh => exact rfl); (case zf => exact rfl); (case zk => exact rfl); (case zr => (show _ ≤ 900; k_extra "k_dp")); (case zU1 => k_updF); (case zU2 => (intro _; (try dsimp only); k_updF)); (case zDS => k_asm); (case zDE => k_asm)); intro _ _ _ _ _ _ _ _ _ _))
  trivial
def NewsBut (S : List Addr) (h₀ : Heap) (L : Addr) (h : Heap) (news : List (Addr × Obj)) : Prop := ∀ q ∈ news, q.1 ∉ S → h.get? q.1 = some q.2 ∧ q.1 ≠ L ∧ h₀.get? q.1 = none
theorem nb_start {S : List Addr} {h h' : Heap} (N : News h₀ L h news) (k : Kept S h h') : NewsBut S h₀ L h' news := fun q hq hs => ⟨k _ _ hs (N q hq).1, (N q hq).2⟩
theorem nb_step {S : List Addr} {h' : Heap} {d : Addr} {o o' : Obj} {g : Obj → List (Addr × Obj)} (x : NewsBut (d :: S) h₀ L h' news) (U : UpdF d o news g) (hd : h'.get? d = some o' ∧ d ≠ L ∧ h₀.get? d = none) : NewsBut S h₀ L h' (g o') := by
  obtain ⟨pre, post, rfl, h1, a, b⟩ := U.split
  rw [h1]
  intro q hq hs
  rcases List.mem_append.mp hq with hq | hq
  · exact x q (List.mem_append_left _ hq) (by simp [a q hq, hs])
  · rcases List.mem_cons.mp hq with rfl | hq
    · exact hd
    · exact x q (List.mem_append_right _ (.tail _ hq)) (by simp [b q hq, hs])
theorem nb_end {h' : Heap} (x : NewsBut [] h₀ L h' news) : News h₀ L h' news := fun q hq => x q hq (by simp)
theorem news_three {h h' : Heap} {d e v : Addr} {od oe ov od' oe' ov' : Obj} {g1 : Obj → List (Addr × Obj)} {g2 : Obj → Obj → List (Addr × Obj)} {g3 : Obj → Obj → Obj → List (Addr × Obj)} (N : News h₀ L h news)
    (U1 : UpdF d od news g1) (U2 : ∀ o, UpdF e oe (g1 o) (g2 o)) (U3 : ∀ o o', UpdF v ov (g2 o o') (g3 o o'))
    (k : Kept [d, e, v] h h') (N2 : News h₀ L h' [(d, od'), (e, oe'), (v, ov')]) : News h₀ L h' (g3 od' oe' ov') :=
  nb_end (nb_step (nb_step (nb_step (nb_start N k) U1 (N2 (d, od') (by simp))) (U2 od') (N2 (e, oe') (by simp))) (U3 od' oe') (N2 (v, ov') (by simp)))
theorem three_of {d e v : Addr} {od oe ov : Obj} {h : Heap} {g1 : Obj → List (Addr × Obj)} {g2 : Obj → Obj → List (Addr × Obj)} {g3 : Obj → Obj → Obj → List (Addr × Obj)} (N : News h₀ L h news)
    (U1 : UpdF d od news g1) (U2 : ∀ o, UpdF e oe (g1 o) (g2 o)) (U3 : ∀ o o', UpdF v ov (g2 o o') (g3 o o')) : News h₀ L h [(d, od), (e, oe), (v, ov)] := by
  obtain ⟨N2, _, mE⟩ := two_of N U1 U2
  have e1 : g1 od = news := by obtain ⟨pre, post, rfl, h1, _⟩ := U1.split; exact h1 od
  have e2 : g2 od oe = news := by obtain ⟨pre, post, h2, h3, _⟩ := (U2 od).split; rw [e1] at h2; rw [h2]; exact h3 oe
  have mV : (v, ov) ∈ news := by obtain ⟨pre, post, h2, _⟩ := (U3 od oe).split; rw [e2] at h2; rw [h2]; simp
  intro q hq
  simp only [List.mem_cons, List.not_mem_nil, or_false] at hq
  rcases hq with rfl | rfl | rfl
  · exact N2 _ (by simp)
  · exact N2 _ (by simp)
  · exact N _ mV
set_option maxHeartbeats 8000000 in
theorem clear_in {lo x fk dS dE dV : Nat} {oS oE oV : Obj} {kt : Tok} {t : Int} {k : PySem.Str} {gS gE : PySem.Str → Option Int} {gV : PySem.Str → Option Addr} {g1 : Obj → List (Addr × Obj)} {g2 : Obj → Obj → List (Addr × Obj)} {g3 : Obj → Obj → Obj → List (Addr × Obj)} {Q : Value → Shared → Prop}
    (B : Below A₀ base outer h₀) (F : Fr h₀ L s.heap m) (X₀ : (hd.heap_39 w.params).In h₀) (N : News h₀ L s.heap news) (T : Top p loose mean mg mb h₀)
    (hA : A.frames = some (env :: outer)) (hh : A.handled = none) (hf : env.frame = some L) (hke : env.scope.kind = .function) (hroom : A.depth ≤ 890)
    (G : Geo w s.heap lo x fk dS dE dV t)
    (U1 : UpdF dS oS news g1) (U2 : ∀ o, UpdF dE oE (g1 o) (g2 o)) (U3 : ∀ o o', UpdF dV oV (g2 o o') (g3 o o'))
   
    (DS : ISD prog w oS gS) (DE : ISD prog w oE gE) (DV : ASD prog w oV gV)
    (h : ∀ h' tk' oS' oE' oV', Fr h₀ L h' m → News h₀ L h' (g3 oS' oE' oV') → Kept [dS, dE, dV] s.heap h' →
      ISD prog w oS' (upd gS k none) → ISD prog w oE' (upd gE k none) → ASD prog w oV' (upd gV k none) → Q .none { s with heap := h', toks := tk' }) :
    wpAny (model prog w) A (call (.ref 124) [.ref x, .str k kt]) Q E s := by
  have N₀ := three_of N U1 U2 U3
  obtain ⟨hd9, dp, fr, gs, un⟩ := A
  dsimp only at hA hh hroom
  subst hA
  subst hh
  refine wpAny_call ?_
  refine' def_in B F X₀ N₀ T rfl hf hke ?k6 ?k7 ?k8 ?k9 ?kB ?_ ?c2 ?c3 ?c4 ?c5
  case k6 => k_is
  case k7 => k_is
  case k8 => exact Nat.lt_of_le_of_lt hroom (by decide)
  case k9 => first | exact BindsTo.of_eq rfl | exact binds_K (by k_in) rfl (by k_is) rfl rfl rfl
  case kB => exact locs rfl
  case c5 => decide
  case c2 => exact rfl
  case c3 => exact rfl
  case c4 => exact rfl
  intro g' L' h' m1 hm1 FG' F' N' B' X' T' hkept hlt
  dsimp only
  k_fold
  have olo : lo < x := G.low
  have ox : x < dS := G.hx
  have oSE : dS < dE := G.hS
  have oEV : dE < dV := G.hE
  have loS := G.loS
  have loE := G.loE
  have loV := G.loV
  have oXE : x < dE := Nat.lt_trans ox oSE
  have oXV : x < dV := Nat.lt_trans oXE oEV
  have oSV : dS < dV := Nat.lt_trans oSE oEV
  have G' := G.keeps hkept (by k_extra "k_offs")
  obtain ⟨dx, t1, t2, t3, t4, I'⟩ := G'.inst
  have C' := G'.clock
  clear G
  have a_self : m1 (PySem.Str.ofString "self") = some (.ref x) := (hm1 _).trans rfl
  have a_key : m1 (PySem.Str.ofString "key") = some (.str k kt) := (hm1 _).trans rfl
  clear hm1
  k_steps
  exact h _ _ _ _ _ (by assumption) (news_three N U1 U2 U3 (kept_of (by assumption) hkept) (by assumption)) (kept_of (by assumption) hkept) (by assumption) (by assumption) (by assumption)
set_option maxHeartbeats 8000000 in
theorem reset_in {lo x fk dS dE dV : Nat} {oS oE oV : Obj} {t : Int} {gS gE : PySem.Str → Option Int} {gV : PySem.Str → Option Addr} {g1 : Obj → List (Addr × Obj)} {g2 : Obj → Obj → List (Addr × Obj)} {g3 : Obj → Obj → Obj → List (Addr × Obj)} {Q : Value → Shared → Prop}
    (B : Below A₀ base outer h₀) (F : Fr h₀ L s.heap m) (X₀ : (hd.heap_39 w.params).In h₀) (N : News h₀ L s.heap news) (T : Top p loose mean mg mb h₀)
    (hA : A.frames = some (env :: outer)) (hh : A.handled = none) (hf : env.frame = some L) (hke : env.scope.kind = .function) (hroom : A.depth ≤ 890)
    (G : Geo w s.heap lo x fk dS dE dV t)
    (U1 : UpdF dS oS news g1) (U2 : ∀ o, UpdF dE oE (g1 o) (g2 o)) (U3 : ∀ o o', UpdF dV oV (g2 o o') (g3 o o'))
   
    (DS : ISD prog w oS gS) (DE : ISD prog w oE gE) (DV : ASD prog w oV gV)
    (h : ∀ h' tk' oS' oE' oV' n tv, Fr h₀ L h' m → News h₀ L h' (g3 oS' oE' oV') → Kept [dS, dE, dV] s.heap h' →
      ISD prog w oS' (fun _ => none) → ISD prog w oE' (fun _ => none) → ASD prog w oV' (fun _ => none) → Q (.int n tv) { s with heap := h', toks := tk' }) :
    wpAny (model prog w) A (call (.ref 189) [.ref x]) Q E s := by
  have N₀ := three_of N U1 U2 U3
  obtain ⟨hd9, dp, fr, gs, un⟩ := A
  dsimp only at hA hh hroom
  subst hA
  subst hh
  refine wpAny_call ?_
  refine' def_in B F X₀ N₀ T rfl hf hke ?k6 ?k7 ?k8 ?k9 ?kB ?_ ?c2 ?c3 ?c4 ?c5
  case k6 => k_is
  case k7 => k_is
  case k8 => exact Nat.lt_of_le_of_lt hroom (by decide)
  case k9 => first | exact BindsTo.of_eq rfl | exact binds_K (by k_in) rfl (by k_is) rfl rfl rfl
  case kB => exact locs rfl
  case c5 => decide
  case c2 => exact rfl
  case c3 => exact rfl
  case c4 => exact rfl
  intro g' L' h' m1 hm1 FG' F' N' B' X' T' hkept hlt
  dsimp only
  k_fold
  have olo : lo < x := G.low
  have ox : x < dS := G.hx
  have oSE : dS < dE := G.hS
  have oEV : dE < dV := G.hE
  have loS := G.loS
  have loE := G.loE
  have loV := G.loV
  have oXE : x < dE := Nat.lt_trans ox oSE
  have oXV : x < dV := Nat.lt_trans oXE oEV
  have oSV : dS < dV := Nat.lt_trans oSE oEV
  have G' := G.keeps hkept (by k_extra "k_offs")
  obtain ⟨dx, t1, t2, t3, t4, I'⟩ := G'.inst
  have C' := G'.clock
  clear G
  have a_self : m1 (PySem.Str.ofString "self") = some (.ref x) := (hm1 _).trans rfl
  clear hm1
  k_steps
  exact h _ _ _ _ _ _ _ (by assumption) (news_three N U1 U2 U3 (kept_of (by assumption) hkept) (by assumption)) (kept_of (by assumption) hkept) (by assumption) (by assumption) (by assumption)

end Clear
section Bisect
variable {prog : Program} {w : World} {A₀ A : Around} {base h₀ : Heap} {outer : List Env} {env : Env} {L : Addr} {m mg mb : PySem.Str → Option Value}
  {p : Program} {loose : List PySem.Str} {mean : ExcName → Option Value} {s : Shared} {news : List (Addr × Obj)} {E : Value → Shared → Prop}
theorem words_Bisect : True := by
  k_with_none
  w_top off
  (k_with "k_steps" => repeat' (first | (k_unfold; (try dsimp only)) | (k_end; wrow_close) | (dsimp only; walk1) | walk1 | (leave1; walk_say "STEP leave1"; try dsimp only) | fail "no step"))
  (k_with "k_lt" => first | (intro hlt9; (with_reducible rename NodT _ _ => hNdZ); have hNd2 := nod_new hNdZ hlt9 rfl; replace hlt9 := allLt_of hlt9; simp only [AllLt, and_true] at hlt9; revert hNd2 hlt9; intro _) | (intro hlt9; replace hlt9 := allLt_of hlt9; simp only [AllLt, and_true] at hlt9; revert hlt9) | fail)
  (k_with "k_off1" => first | exact Or.inl (by assumption) | exact Nat.le_refl _ | exact Nat.le_of_lt (by assumption) | exact Or.inr (Nat.le_trans (m := 201) (by decide) (by assumption)) | exact Nat.le_trans (m := 201) (by decide) (by assumption) | omega | fail)
  (k_with "k_offs" => first | (refine List.forall_mem_cons.mpr ⟨?_, ?_⟩; (try dsimp only); (k_extra "k_off1"); (k_extra "k_offs")) | exact (fun _ h => absurd h List.not_mem_nil) | fail)
  (k_with "k_cj" => with_reducible first | assumption | exact And.left (by assumption) | exact And.left (And.right (by assumption)) | exact And.left (And.right (And.right (by assumption))) | exact And.left (And.right (And.right (And.right (by assumption)))) | exact And.left (And.right (And.right (And.right (And.right (by assumption))))) | exact And.left (And.right (And.right (And.right (And.right (And.right (by assumption)))))) | exact And.right (by assumption) | exact And.right (And.right (by assumption)) | exact And.right (And.right (And.right (by assumption))) | exact And.right (And.right (And.right (And.right (by assumption)))) | exact And.right (And.right (And.right (And.right (And.right (by assumption))))) | fail)
  (k_with "k_dp" => first | exact Nat.le_trans (by assumption) (by decide) | exact Nat.le_trans (Nat.succ_le_succ (by assumption)) (by decide) | exact Nat.lt_of_le_of_lt (by assumption) (by decide) | exact Nat.lt_of_le_of_lt (Nat.succ_le_succ (by assumption)) (by decide) | exact Nat.le_trans (Nat.succ_le_succ (Nat.succ_le_succ (by assumption))) (by decide) | exact Nat.lt_of_le_of_lt (Nat.succ_le_succ (Nat.succ_le_succ (by assumption))) (by decide) | (simp only [depth_mark, depth_under_make, depth_under_kw, depth_in1, depth_deeper]; omega) | fail)
  (k_with "k_mem" => first | exact AtU.head | (apply AtU.tail; k_mem) | (refine' PairIn.head ?_; k_mem) | (refine' PairIn.tail ?_; k_mem) | fail)
  (k_with "k_ne" => first | (refine' ne_d1 ?zH ?zP; (case zH => assumption); (case zP => k_mem)) | (refine' ne_d2 ?zH ?zP; (case zH => assumption); (case zP => k_mem)) | exact Nat.ne_of_gt (by (try dsimp only); k_extra "k_cj") | exact Nat.ne_of_lt (by (try dsimp only); k_extra "k_cj") | (refine neN ?_; (try dsimp only); omega) | fail)
  (k_with "k_updF" => first | (refine' updF_at ?zA ?zH ?ze ?zm; (case zA => k_mem); (case zH => assumption); (case ze => rfl); (case zm => k_mem)) | (refine' UpdF.head ?za; (case za => k_all)) | (refine' UpdF.tail ?za ?zb; (case za => k_ne); (case zb => k_updF)) | fail)
  (k_with "k_inst" => first | (refine' instH ?zF ?zI; (case zF => k_asm); (case zI => assumption)) | fail)
  (k_with "k_room" => first | (show _ < 1000; k_extra "k_dp") | fail)
  (k_with "is_list" => first | (refine' listH ?zF ?zI; (case zF => k_asm); (case zI => assumption)) | fail)
  (k_with "call ref" => (k_here; (with_reducible show wpAny _ _ (call (Value.ref _) [] []) _ _ _); k_dflt (refine' clock_in ?zF ?zX ?zN ?zT ?zr ?zC ?_; (case zF => k_asm); (case zC => assumption); (case zX => k_asm); (case zN => k_asm); (case zT => k_asm); (case zr => k_room)); intro _ _ _ _ _ _))
  (k_with "getMethod ref" => (k_here; (with_reducible show wpAny _ _ (getMethod (Value.ref _) (Str.ofString "get") _) _ _ _); k_dflt (refine' dsd_method PySem.F.slot_dict_get PySem.F.type_dict_get ?zN ?zm ?zD ?_; (case zN => k_asm); (case zm => k_mem); (case zD => k_asm))))
  (k_with "getMethod ref" => (k_here; (with_reducible show wpAny _ _ (getMethod (Value.ref _) (Str.ofString "pop") _) _ _ _); k_dflt (refine' dsd_method PySem.F.slot_dict_pop PySem.F.type_dict_pop ?zN ?zm ?zD ?_; (case zN => k_asm); (case zm => k_mem); (case zD => k_asm))))
  (k_with "getMethod ref" => (k_here; (with_reducible show wpAny _ _ (getMethod (Value.ref _) (Str.ofString "setdefault") _) _ _ _); k_dflt (refine' dsd_method PySem.F.slot_dict_setdefault PySem.F.type_dict_setdefault ?zN ?zm ?zD ?_; (case zN => k_asm); (case zm => k_mem); (case zD => k_asm))))
  (k_with "getMethod ref" => (k_here; (with_reducible show wpAny _ _ (getMethod (Value.ref _) (Str.ofString "clear") _) _ _ _); k_dflt (refine' dsd_method PySem.F.slot_dict_clear PySem.F.type_dict_clear ?zN ?zm ?zD ?_; (case zN => k_asm); (case zm => k_mem); (case zD => k_asm))))
  (k_with "getMethod ref" => (k_here; (with_reducible show wpAny _ _ (getMethod (Value.ref _) (Str.ofString "clock") _) _ _ _); k_dflt (refine' kmu_own ?zk1 ?zk2 ?zk3 ?zk4 ?zk5 ?_; (case zk1 => k_asm); (case zk2 => k_asm); (case zk3 => k_inst); (case zk4 => k_is); (case zk5 => k_is); k_whole)))
  (k_with "getAttr ref" => (k_here; k_dflt (refine' get_own ?zk1 ?zk2 ?zk3 ?zk4 ?zk5 ?zk6 ?zk7 ?zk8 ?zk9 ?_; (case zk1 => k_asm); (case zk2 => k_asm); (case zk3 => k_inst); (case zk4 => k_is); (case zk5 => k_is); (case zk6 => k_is); (case zk7 => k_is); (case zk8 => k_get); (case zk9 => k_handed); k_whole)))
  (k_with "call builtin:dict.get" => (k_here; k_dflt (refine' dsd_get ?zN ?zm ?zD ?zlo ?_; (case zN => k_asm); (case zm => k_mem); (case zD => k_asm); (case zlo => k_asm)); intro _ _))
  (k_with "call builtin:dict.get" => (k_here; (with_reducible show wpAny _ _ (call (Value.builtin _) [Value.ref _, Value.str _ _, Value.int _ _]) _ _ _); k_dflt (refine' isd_get ?zN ?zm ?zD ?zlo ?_; (case zN => k_asm); (case zm => k_mem); (case zD => k_asm); (case zlo => k_asm)); intro _))
  (k_with "call builtin:dict.pop" => (k_here; k_dflt (refine' dsd_pop ?zF ?zN ?zU ?zD ?zlo ?_; (case zF => k_asm); (case zN => k_asm); (case zU => k_updF); (case zD => k_asm); (case zlo => k_asm)); intro _ _ _ _ _ _ _))
  (k_with "call builtin:dict.clear" => (k_here; k_dflt (refine' dsd_clear ?zF ?zN ?zU ?zD ?_; (case zF => k_asm); (case zN => k_asm); (case zU => k_updF); (case zD => k_asm)); intro _ _ _ _ _))
  (k_with "call builtin:len" => (k_here; (with_reducible show wpAny _ _ (call (Value.builtin "len") [Value.ref _]) _ _ _); k_dflt (refine' dsd_len_call ?zN ?zm ?zD ?zlo ?_; (case zN => k_asm); (case zm => k_mem); (case zD => k_asm); (case zlo => k_asm)); intro _ _))
  (k_with "callWith ref" => (k_here; (with_reducible show wpAny _ _ (callWith _ _ _ (backTo _ (starEach [] _)) []) _ _ _); k_dflt (refine' callWith_F0 ?zk1 ?_; (case zk1 => exact fnClock (by k_asm) (by assumption)); k_whole); (try dsimp only [List.nil_append, List.cons_append])))
  (k_with "setItem ref str" => (k_here; k_dflt (refine' dsd_set ?zF ?zN ?zU ?zD ?zk ?zx ?_; (case zF => k_asm); (case zN => k_asm); (case zU => k_updF); (case zD => k_asm); (case zk => k_asm); (case zx => first | exact ⟨_, rfl⟩ | exact rfl)); intro _ _ _ _ _))
  (k_with "subscriptTail" => (k_here; (with_reducible show wpAny _ _ (subscriptTail _ _ (Value.ref _) (Value.str _ _)) _ _ _); k_dflt (refine' isd_item ?zN ?zm ?zD ?zx ?_; (case zN => k_asm); (case zm => k_mem); (case zD => k_asm); (case zx => first | exact upd_self _ _ _ | assumption)); intro _))
  (k_with "eval Name" => (k_here; k_dflt (refine' nameX_L ?zF ?zv ?_ ?za ?zb; (case za => rfl); (case zb => rfl); (case zF => k_asm); (case zv => first | rfl | assumption); k_whole)))
  (k_with "call builtin:len" => (k_here; (with_reducible show wpAny _ _ (call (Value.builtin "len") [Value.ref _]) _ _ _); k_dflt (refine' len_lst ?zl ?zn ?zb ?_; (case zl => is_list); (case zn => assumption); (case zb => omega); k_whole); intro _))
  (k_with "exec While Compare cons nil" => (k_here; refine stopW ?_))
  (k_with "subscriptTail" => (k_here; (with_reducible show wpAny _ _ (subscriptTail _ _ (Value.ref _) (Value.str _ _)) _ _ _); k_dflt (refine' asd_item ?zN ?zm ?zD ?zx ?_; (case zN => k_asm); (case zm => k_mem); (case zD => k_asm); (case zx => first | exact upd_self _ _ _ | assumption))))
  (k_with "call ref" => (k_here; (with_reducible show wpAny _ _ (call (Value.ref 117) [Value.ref _, Value.str _ _] []) _ _ _); k_dflt (refine' get_in ?zB ?zF ?zX ?zN ?zT ?zA ?zhh ?zf ?zk ?zr ?zG ?zU1 ?zU2 ?zDS ?zDE ?_; (case zF => k_asm); (case zG => exact Geo.all (by assumption) (Fr.keep (by k_asm))); (case zB => k_asm); (case zX => k_asm); (case zN => k_asm); (case zT => k_asm); (case zA => exact rfl); (case zhh => exact rfl); (case zf => exact rfl); (case zk => exact rfl); (case zr => (show _ ≤ 900; k_extra "k_dp")); (case zU1 => k_updF); (case zU2 => (intro _; (try dsimp only); k_updF)); (case zDS => k_asm); (case zDE => k_asm)); intro _ _ _ _ _ _ _ _ _ _))
  trivial
abbrev entryEs (w : World) (at' ex : Int) (t1 t2 t3 t4 : Tok) : List DictEntry :=
  [⟨PyData.keyHash w.params (PySem.Str.ofString "atime"), .str (PySem.Str.ofString "atime") t1, .int at' t2⟩,
   ⟨PyData.keyHash w.params (PySem.Str.ofString "expiry"), .str (PySem.Str.ofString "expiry") t3, .int ex t4⟩]
/-- an entry: when it came, when it goes -/
def EntryAt (w : World) (h : Heap) (r : Addr) (q : Int × Int) : Prop := ∃ d t1 t2 t3 t4, InstAt h r (instObj 69 d) 69 (some (dictOf (entryEs w q.1 q.2 t1 t2 t3 t4) 2))
/-- an entry's place and dict, above bd -/
def EntAt (w : World) (h : Heap) (bd : Nat) (q : Int × Int) (v : Value) : Prop := ∃ r d : Nat, v = .ref r ∧ bd < r ∧ bd < d ∧ ∃ t1 t2 t3 t4, InstAt h r (instObj 69 d) 69 (some (dictOf (entryEs w q.1 q.2 t1 t2 t3 t4) 2))
theorem EntAt.keeps {h h' : Heap} {bd : Nat} {q : Int × Int} {v : Value} {S : List Addr} (x : EntAt w h bd q v) (k : Kept S h h') (hS : ∀ b : Nat, b ∈ S → b ≤ bd) : EntAt w h' bd q v := by
  obtain ⟨r, d, e, hr, hd, t1, t2, t3, t4, a1, a2, a3, a4⟩ := x
  exact ⟨r, d, e, hr, hd, t1, t2, t3, t4, k _ _ (fun m => Nat.not_le.mpr hr (hS r m)) a1, a2, a3, k _ _ (fun m => Nat.not_le.mpr hd (hS d m)) a4⟩
/-- a list of entries; it and they lie above bd -/
def EvAt (w : World) (h : Heap) (bd a : Nat) (l : List (Int × Int)) : Prop := bd < a ∧ ∃ vs : List Value, h.IsList a vs.toArray ∧ vs.length = l.length ∧ ∀ (i : Nat) q, l[i]? = some q → ∃ v, vs[i]? = some v ∧ EntAt w h bd q v
theorem EvAt.keeps {h h' : Heap} {bd a : Nat} {l : List (Int × Int)} {S : List Addr} (x : EvAt w h bd a l) (k : Kept S h h') (hS : ∀ b : Nat, b ∈ S → b ≤ bd) : EvAt w h' bd a l := by
  obtain ⟨ha, vs, ⟨ol, h1, h2⟩, h3, h4⟩ := x
  exact ⟨ha, vs, ⟨ol, k _ _ (fun m => Nat.not_le.mpr ha (hS a m)) h1, h2⟩, h3, fun i q hq => (h4 i q hq).imp fun _ e => ⟨e.1, e.2.keeps k hS⟩⟩
theorem EvAt.all {h h' : Heap} {bd a : Nat} {l : List (Int × Int)} (x : EvAt w h bd a l) (k : ∀ b o, h.get? b = some o → h'.get? b = some o) : EvAt w h' bd a l := x.keeps (S := []) (fun b o _ e => k b o e) fun a ha => by cases ha
theorem EntAt.entry {h : Heap} {bd : Nat} {q : Int × Int} {v : Value} (x : EntAt w h bd q v) : ∃ r : Addr, v = .ref r ∧ EntryAt w h r q := by
  obtain ⟨r, d, e, _, _, t1, t2, t3, t4, x⟩ := x
  exact ⟨r, e, d, t1, t2, t3, t4, x⟩
theorem EvAt.plain {h : Heap} {bd a : Nat} {l : List (Int × Int)} (x : EvAt w h bd a l) : ∃ vs : List Value, h.IsList a vs.toArray ∧ vs.length = l.length ∧ ∀ (i : Nat) q, l[i]? = some q → ∃ r : Addr, vs[i]? = some (Value.ref r) ∧ EntryAt w h r q := by
  obtain ⟨ha, vs, h1, h2, h3⟩ := x
  refine ⟨vs, h1, h2, fun i q hq => ?_⟩
  obtain ⟨v, e, x⟩ := h3 i q hq
  obtain ⟨r, rfl, y⟩ := x.entry
  exact ⟨r, e, y⟩
/-- the two lambdas: minus an entry's atime, minus its expiry -/
def kOf (b : Bool) (q : Int × Int) : Int := if b then -q.1 else -q.2
def nmOf (b : Bool) : PySem.Str := if b then PySem.Str.ofString "entry" else PySem.Str.ofString "event"
def atOf (b : Bool) : PySem.Str := if b then PySem.Str.ofString "atime" else PySem.Str.ofString "expiry"
structure NegAt (h : Heap) (f : Addr) (b : Bool) : Prop where
  is : ∃ qual pm ctv pa pb pc pp, ∃ c' : Addr,
    h.get? f = some (kla_obj "<lambda>" qual { posonlyargs := [], args := [{ arg := nmOf b, annotation := none, pos := pp }], vararg := none, kwonlyargs := [], kw_defaults := [], kwarg := none, defaults := [] }
      (.UnaryOp .USub (.Attribute (.Name (nmOf b) pa) (atOf b) pb) pc) { kind := .function, names := [(nmOf b, .local)], isGenerator := false, isCoroutine := false } [] pm c' ctv) ∧ h.CodeRec (.ref c') qual
theorem NegAt.keeps {h h' : Heap} {f : Addr} {b : Bool} (x : NegAt h f b) (k : ∀ b o, h.get? b = some o → h'.get? b = some o) : NegAt h' f b := by
  obtain ⟨qual, pm, ctv, pa, pb, pc, pp, c', h1, h2⟩ := x.is
  exact ⟨qual, pm, ctv, pa, pb, pc, pp, c', k _ _ h1, h2.keeps k⟩
theorem NegAt.fn {h : Heap} {f : Addr} {b : Bool} (x : NegAt h f b) : FnAt f h := by
  obtain ⟨qual, pm, ctv, pa, pb, pc, pp, c', h1, h2⟩ := x.is
  exact ⟨_, _, _, _, h1⟩
def NegEnd (t : Int) (h : Heap) (s : Shared) (v : Value) (s' : Shared) : Prop := (∃ tv, v = .int t tv) ∧ ∃ h' tk', s' = { s with heap := h', toks := tk' } ∧ Kept [] h h'
set_option maxHeartbeats 4000000 in
theorem neg_in {f r : Addr} {b : Bool} {q : Int × Int} {Q : Value → Shared → Prop} (F : Fr h₀ L s.heap m) (X₀ : (hd.heap_39 w.params).In h₀) (N : News h₀ L s.heap news) (T : Top p loose mean mg mb h₀)
    (hroom : A.depth < recursionLimit) (C : NegAt h₀ f b) (R : EntryAt w h₀ r q)
    (h : ∀ h' tk' tv, Fr h₀ L h' m → News h₀ L h' news → Kept [] s.heap h' → Q (.int (kOf b q) tv) { s with heap := h', toks := tk' }) : wpAny (model prog w) A (call (.ref f) [.ref r] []) Q E s := by
  obtain ⟨qual, pm, ctv, pa, pb, pc, pp, c', hfn, hrec⟩ := C.is
  obtain ⟨d, t1, t2, t3, t4, I⟩ := R
  refine wpAny_call ?_
  refine kla_callFunE hroom (F.keep _ _ hfn) rfl rfl rfl rfl (hrec.keeps F.keep) ?_
  have hb : bindArgs (kla_fn "<lambda>" qual { posonlyargs := [], args := [{ arg := nmOf b, annotation := none, pos := pp }], vararg := none, kwonlyargs := [], kw_defaults := [], kwarg := none, defaults := [] }
      (.UnaryOp .USub (.Attribute (.Name (nmOf b) pa) (atOf b) pb) pc) { kind := .function, names := [(nmOf b, .local)], isGenerator := false, isCoroutine := false } [] pm (.ref c') ctv) ⟨[.ref r], []⟩ = pure [(nmOf b, .ref r)] := by
    cases b <;> rfl
  rw [hb]
  refine wpAny_pure (wpAny_newFunctionEnv (by show ∀ x ∈ [(nmOf b, NameKind.local)], x.2 ≠ NameKind.cell; simp) (by intro x hx; rw [List.mem_singleton.mp hx]; cases b <;> rfl) (fun h₁ hns hsb => ⟨((T.nolimit).keeps F.keep).fresh _ hsb, ?_⟩) rfl)
  have hk₁ : ∀ b o, s.heap.get? b = some o → h₁.get? b = some o := fun b o e => hsb.extBut b o (Nat.ne_of_lt (Heap.lt_size e)) (Heap.get?_push_of_some _ e)
  refine kla_codeExpr ?_
  have F₁ : Fr s.heap s.heap.objs.size h₁ (fun y => [(nmOf b, Value.ref r)].reverse.lookup y) := ⟨hns, hk₁, Nat.le_refl _⟩
  have N₁ : News s.heap s.heap.objs.size h₁ [] := fun q hq => by cases hq
  have X₁ : (hd.heap_39 w.params).In s.heap := X₀.keeps F.keep
  have I' : InstAt s.heap _ _ _ _ := instH F I
  show wpAny _ (A.deeper (envX qual _ s.heap.objs.size f (.ref c') [])) (eval _ (envX qual _ s.heap.objs.size f (.ref c') [])) _ _ _
  refine wpAny_mono (Q := NegEnd (kOf b q) h₁ s) (E := fun _ _ => False) ?_ (fun v s' hq => ?_) fun _ _ e => e.elim
  · clear F N X₀ I hfn hrec
    cases b
    · dsimp only [nmOf, atOf, kOf] at F₁ ⊢
      k_steps
      exact ⟨⟨_, rfl⟩, _, _, rfl, Kept.refl⟩
    · dsimp only [nmOf, atOf, kOf] at F₁ ⊢
      k_steps
      exact ⟨⟨_, rfl⟩, _, _, rfl, Kept.refl⟩
  · obtain ⟨⟨tv, rfl⟩, h', tk', rfl, hk⟩ := hq
    have hk' : Kept [] s.heap h' := fun b o n e => hk b o n (hk₁ b o e)
    exact h h' tk' tv ⟨F.ns.at' fun o e => hk' _ o (by simp) e, fun b o e => hk' b o (by simp) (F.keep b o e), F.above⟩ (fun q hq => ⟨hk' _ _ (by simp) (N q hq).1, (N q hq).2⟩) hk'
theorem words_neg : True := by
  (k_with "callWith ref" => (k_here; k_dflt (refine' callWith_F ?zk1 ?_; (case zk1 => exact NegAt.fn (NegAt.keeps (by assumption) (Fr.keep (by k_asm)))); k_whole)))
  (k_with "call ref" => (k_here; (with_reducible show wpAny _ _ (call (Value.ref _) [Value.ref _] []) _ _ _); k_dflt (refine' neg_in ?zF ?zX ?zN ?zT ?zr ?zC ?zR ?_; (case zF => k_asm); (case zC => assumption); (case zR => assumption); (case zX => k_asm); (case zN => k_asm); (case zT => k_asm); (case zr => k_room)); intro _ _ _ _ _ _))
  (k_with "FnAt" => exact NegAt.fn (NegAt.keeps (by assumption) (Fr.keep (by k_asm))))
  trivial
theorem mid_of {lo hi : Nat} (h : lo < hi) : lo ≤ (lo + hi) / 2 ∧ (lo + hi) / 2 < hi ∧ hi - ((lo + hi) / 2 + 1) < hi - lo ∧ (lo + hi) / 2 - lo < hi - lo :=
  have g1 : lo ≤ (lo + hi) / 2 := (Nat.le_div_iff_mul_le (by decide)).mpr (Nat.mul_two lo ▸ Nat.add_le_add_left (Nat.le_of_lt h) lo)
  have g2 : (lo + hi) / 2 < hi := Nat.div_lt_of_lt_mul (Nat.two_mul hi ▸ Nat.add_lt_add_right h hi)
  ⟨g1, g2, Nat.sub_lt_sub_left h (Nat.lt_succ_of_le g1), Nat.sub_lt_sub_right g1 g2⟩
def BisJ (a f : Addr) (x : Int) (l : List (Int × Int)) (b : Bool) (n : Nat) (m₁ : PySem.Str → Option Value) (news₁ : List (Addr × Obj)) : Prop :=
  ∃ (lo hi : Nat) (t1 t2 t3 : Tok), m₁ (PySem.Str.ofString "lo") = some (.int lo t1) ∧ m₁ (PySem.Str.ofString "hi") = some (.int hi t2) ∧ m₁ (PySem.Str.ofString "rows") = some (.ref a) ∧
    m₁ (PySem.Str.ofString "x") = some (.int x t3) ∧ m₁ (PySem.Str.ofString "key") = some (.ref f) ∧ lo ≤ hi ∧ hi ≤ l.length ∧ n = hi - lo ∧
    ∀ (i : Nat) q, l[i]? = some q → (i < lo → kOf b q < x) ∧ (hi ≤ i → ¬ kOf b q < x)
set_option maxHeartbeats 8000000 in
theorem bisect_in {a f bd : Nat} {x : Int} {tx : Tok} {l : List (Int × Int)} {b : Bool} {Q : Value → Shared → Prop}
    (B : Below A₀ base outer h₀) (F : Fr h₀ L s.heap m) (X₀ : (hd.heap_39 w.params).In h₀) (N : News h₀ L s.heap news) (T : Top p loose mean mg mb h₀)
    (hA : A.frames = some (env :: outer)) (hh : A.handled = none) (hf : env.frame = some L) (hke : env.scope.kind = .function) (hroom : A.depth ≤ 890)
    (C : NegAt s.heap f b) (R : EvAt w s.heap bd a l) (hl : l.length ≤ 1000) (hs : ∀ (i j : Nat) q r, i < j → l[i]? = some q → l[j]? = some r → kOf b q ≤ kOf b r)
    (h : ∀ h' tk' (n : Nat) tv, Fr h₀ L h' m → News h₀ L h' news → Kept [] s.heap h' → n ≤ l.length → (∀ (i : Nat) q, l[i]? = some q → (i < n ↔ kOf b q < x)) → Q (.int n tv) { s with heap := h', toks := tk' }) :
    wpAny (model prog w) A (call (.ref 52) [.ref a, .int x tx] [(PySem.Str.ofString "key", .ref f)]) Q E s := by
  have N₀ : News h₀ L s.heap [] := fun q hq => by cases hq
  obtain ⟨hd9, dp, fr, gs, un⟩ := A
  dsimp only at hA hh hroom
  subst hA
  subst hh
  refine wpAny_call ?_
  refine' def_in B F X₀ N₀ T rfl hf hke ?k6 ?k7 ?k8 ?k9 ?kB ?_ ?c2 ?c3 ?c4 ?c5
  case k6 => k_is
  case k7 => k_is
  case k8 => exact Nat.lt_of_le_of_lt hroom (by decide)
  case k9 => first | exact BindsTo.of_eq rfl | exact binds_K (by k_in) rfl (by k_is) rfl rfl rfl
  case kB => exact locs rfl
  case c5 => decide
  case c2 => exact rfl
  case c3 => exact rfl
  case c4 => exact rfl
  intro g' L' h' m1 hm1 FG' F' N' B' X' T' hkept hlt
  dsimp only
  k_fold
  have a_rows : m1 (PySem.Str.ofString "rows") = some (.ref a) := (hm1 _).trans rfl
  have a_x : m1 (PySem.Str.ofString "x") = some (.int x tx) := (hm1 _).trans rfl
  have a_key : m1 (PySem.Str.ofString "key") = some (.ref f) := (hm1 _).trans rfl
  clear hm1
  have R' := R.keeps hkept (by simp)
  obtain ⟨vs, hvs, hlen, hev⟩ := R'.plain
  have C' : NegAt g' f b := C.keeps fun b o e => hkept b o (by simp) e
  k_steps
  show wpAny _ _ _ _ _ _
  refine wpAny_noRaise (While_inv (BisJ a f x l b) (n₀ := l.length) (by assumption) (by assumption) ?_ ?_ PassesOwn.never)
  · exact ⟨0, l.length, _, _, _, rfl, rfl, by assumption, by assumption, by assumption, Nat.zero_le _, Nat.le_refl _, rfl, fun i q hq => ⟨fun hi => absurd hi (Nat.not_lt_zero _), fun hi => absurd (List.getElem?_eq_some_iff.mp hq).1 (Nat.not_lt.mpr hi)⟩⟩
  intro n m₁ news₁ h₁ tk₁ F₁ N₁ J₁
  obtain ⟨lo, hi, t1, t2, t3, h1, h2, h3, h4, h5, h6, h7, h8, h9⟩ := J₁
  k_steps
  · have hlh : (lo : Int) < hi := by assumption
    have hmid : Int.fdiv (↑lo + ↑hi) 2 = (((lo + hi) / 2 : Nat) : Int) := Int.fdiv_eq_ediv_of_nonneg _ (by decide)
    obtain ⟨g1, g2, g3, g4⟩ := mid_of (Int.ofNat_lt.mp hlh)
    have hm : (lo + hi) / 2 < l.length := Nat.lt_of_lt_of_le g2 h7
    obtain ⟨r, hr, hE⟩ := hev _ _ (List.getElem?_eq_getElem hm)
    refine item_list (x := .ref r) (listH (by assumption) hvs) (by rw [hmid]; exact Int.natCast_nonneg _) (by rw [hmid]; exact Int.lt_trans (Int.ofNat_lt.mpr (Nat.lt_of_lt_of_le hm hl)) (by decide)) (by rw [hmid, Int.toNat_natCast]; simpa using hr) ?_
    have hq := List.getElem?_eq_getElem hm
    k_steps
    · have hc : kOf b l[(lo + hi) / 2] < x := by assumption
      refine WhileStep.intro (n' := hi - ((lo + hi) / 2 + 1)) (by assumption) (by assumption) (h8 ▸ g3) ?_
      refine ⟨(lo + hi) / 2 + 1, hi, _, _, _, by rw [hmid]; rfl, h2, h3, h4, h5, g2, h7, rfl, fun i q hi' => ⟨fun hlt => ?_, (h9 i q hi').2⟩⟩
      rcases Nat.lt_or_ge i ((lo + hi) / 2) with h | h
      · exact Int.lt_of_le_of_lt (hs i _ q _ h hi' hq) hc
      · have e : i = (lo + hi) / 2 := Nat.le_antisymm (Nat.le_of_lt_succ hlt) h
        subst e; rw [hq] at hi'; cases hi'; exact hc
    · have hc : ¬ kOf b l[(lo + hi) / 2] < x := by assumption
      refine WhileStep.intro (n' := (lo + hi) / 2 - lo) (by assumption) (by assumption) (h8 ▸ g4) ?_
      refine ⟨lo, (lo + hi) / 2, _, _, _, h1, by rw [hmid]; rfl, h3, h4, h5, g1, Nat.le_of_lt hm, rfl, fun i q hi' => ⟨(h9 i q hi').1, fun hlt => ?_⟩⟩
      rcases Nat.lt_or_ge ((lo + hi) / 2) i with h | h
      · exact fun hx => hc (Int.lt_of_le_of_lt (hs _ i _ q h hq hi') hx)
      · have e : i = (lo + hi) / 2 := Nat.le_antisymm h hlt
        subst e; rw [hq] at hi'; cases hi'; exact hc
  · have hle : ¬ (lo : Int) < hi := by assumption
    have k0 : Kept [] s.heap h₁ := kept_of (by assumption) hkept
    exact h _ _ lo _ (by assumption) (news_kept N k0) k0 (Nat.le_trans h6 h7) fun i q hi' => ⟨(h9 i q hi').1, fun hlt => Nat.lt_of_not_le fun hge => (h9 i q hi').2 (Nat.le_trans (Int.ofNat_le.mp (Int.not_lt.mp hle)) hge) hlt⟩

end Bisect
section Entry
variable {prog : Program} {w : World} {A₀ A : Around} {base h₀ : Heap} {outer : List Env} {env : Env} {L : Addr} {m mg mb : PySem.Str → Option Value}
  {p : Program} {loose : List PySem.Str} {mean : ExcName → Option Value} {s : Shared} {news : List (Addr × Obj)} {E : Value → Shared → Prop}
theorem words_Entry : True := by
  k_with_none
  w_top off
  (k_with "k_steps" => repeat' (first | (k_unfold; (try dsimp only)) | (k_end; wrow_close) | (dsimp only; walk1) | walk1 | (leave1; walk_say "STEP leave1"; try dsimp only) | fail "no step"))
  (k_with "k_lt" => first | (intro hlt9; (with_reducible rename NodT _ _ => hNdZ); have hNd2 := nod_new hNdZ hlt9 rfl; replace hlt9 := allLt_of hlt9; simp only [AllLt, and_true] at hlt9; revert hNd2 hlt9; intro _) | (intro hlt9; replace hlt9 := allLt_of hlt9; simp only [AllLt, and_true] at hlt9; revert hlt9) | fail)
  (k_with "k_off1" => first | exact Or.inl (by assumption) | exact Nat.le_refl _ | exact Nat.le_of_lt (by assumption) | exact Or.inr (Nat.le_trans (m := 201) (by decide) (by assumption)) | exact Nat.le_trans (m := 201) (by decide) (by assumption) | omega | fail)
  (k_with "k_offs" => first | (refine List.forall_mem_cons.mpr ⟨?_, ?_⟩; (try dsimp only); (k_extra "k_off1"); (k_extra "k_offs")) | exact (fun _ h => absurd h List.not_mem_nil) | fail)
  (k_with "k_cj" => with_reducible first | assumption | exact And.left (by assumption) | exact And.left (And.right (by assumption)) | exact And.left (And.right (And.right (by assumption))) | exact And.left (And.right (And.right (And.right (by assumption)))) | exact And.left (And.right (And.right (And.right (And.right (by assumption))))) | exact And.left (And.right (And.right (And.right (And.right (And.right (by assumption)))))) | exact And.right (by assumption) | exact And.right (And.right (by assumption)) | exact And.right (And.right (And.right (by assumption))) | exact And.right (And.right (And.right (And.right (by assumption)))) | exact And.right (And.right (And.right (And.right (And.right (by assumption))))) | fail)
  (k_with "k_dp" => first | exact Nat.le_trans (by assumption) (by decide) | exact Nat.le_trans (Nat.succ_le_succ (by assumption)) (by decide) | exact Nat.lt_of_le_of_lt (by assumption) (by decide) | exact Nat.lt_of_le_of_lt (Nat.succ_le_succ (by assumption)) (by decide) | exact Nat.le_trans (Nat.succ_le_succ (Nat.succ_le_succ (by assumption))) (by decide) | exact Nat.lt_of_le_of_lt (Nat.succ_le_succ (Nat.succ_le_succ (by assumption))) (by decide) | (simp only [depth_mark, depth_under_make, depth_under_kw, depth_in1, depth_deeper]; omega) | fail)
  (k_with "k_mem" => first | exact AtU.head | (apply AtU.tail; k_mem) | (refine' PairIn.head ?_; k_mem) | (refine' PairIn.tail ?_; k_mem) | fail)
  (k_with "k_ne" => first | (refine' ne_d1 ?zH ?zP; (case zH => assumption); (case zP => k_mem)) | (refine' ne_d2 ?zH ?zP; (case zH => assumption); (case zP => k_mem)) | exact Nat.ne_of_gt (by (try dsimp only); k_extra "k_cj") | exact Nat.ne_of_lt (by (try dsimp only); k_extra "k_cj") | (refine neN ?_; (try dsimp only); omega) | fail)
  (k_with "k_updF" => first | (refine' updF_at ?zA ?zH ?ze ?zm; (case zA => k_mem); (case zH => assumption); (case ze => rfl); (case zm => k_mem)) | (refine' UpdF.head ?za; (case za => k_all)) | (refine' UpdF.tail ?za ?zb; (case za => k_ne); (case zb => k_updF)) | fail)
  (k_with "k_inst" => first | (refine' instH ?zF ?zI; (case zF => k_asm); (case zI => assumption)) | fail)
  (k_with "k_room" => first | (show _ < 1000; k_extra "k_dp") | fail)
  (k_with "is_list" => first | (refine' listH ?zF ?zI; (case zF => k_asm); (case zI => assumption)) | fail)
  (k_with "call ref" => (k_here; (with_reducible show wpAny _ _ (call (Value.ref _) [] []) _ _ _); k_dflt (refine' clock_in ?zF ?zX ?zN ?zT ?zr ?zC ?_; (case zF => k_asm); (case zC => assumption); (case zX => k_asm); (case zN => k_asm); (case zT => k_asm); (case zr => k_room)); intro _ _ _ _ _ _))
  (k_with "getMethod ref" => (k_here; (with_reducible show wpAny _ _ (getMethod (Value.ref _) (Str.ofString "get") _) _ _ _); k_dflt (refine' dsd_method PySem.F.slot_dict_get PySem.F.type_dict_get ?zN ?zm ?zD ?_; (case zN => k_asm); (case zm => k_mem); (case zD => k_asm))))
  (k_with "getMethod ref" => (k_here; (with_reducible show wpAny _ _ (getMethod (Value.ref _) (Str.ofString "pop") _) _ _ _); k_dflt (refine' dsd_method PySem.F.slot_dict_pop PySem.F.type_dict_pop ?zN ?zm ?zD ?_; (case zN => k_asm); (case zm => k_mem); (case zD => k_asm))))
  (k_with "getMethod ref" => (k_here; (with_reducible show wpAny _ _ (getMethod (Value.ref _) (Str.ofString "setdefault") _) _ _ _); k_dflt (refine' dsd_method PySem.F.slot_dict_setdefault PySem.F.type_dict_setdefault ?zN ?zm ?zD ?_; (case zN => k_asm); (case zm => k_mem); (case zD => k_asm))))
  (k_with "getMethod ref" => (k_here; (with_reducible show wpAny _ _ (getMethod (Value.ref _) (Str.ofString "clear") _) _ _ _); k_dflt (refine' dsd_method PySem.F.slot_dict_clear PySem.F.type_dict_clear ?zN ?zm ?zD ?_; (case zN => k_asm); (case zm => k_mem); (case zD => k_asm))))
  (k_with "getMethod ref" => (k_here; (with_reducible show wpAny _ _ (getMethod (Value.ref _) (Str.ofString "clock") _) _ _ _); k_dflt (refine' kmu_own ?zk1 ?zk2 ?zk3 ?zk4 ?zk5 ?_; (case zk1 => k_asm); (case zk2 => k_asm); (case zk3 => k_inst); (case zk4 => k_is); (case zk5 => k_is); k_whole)))
  (k_with "getAttr ref" => (k_here; k_dflt (refine' get_own ?zk1 ?zk2 ?zk3 ?zk4 ?zk5 ?zk6 ?zk7 ?zk8 ?zk9 ?_; (case zk1 => k_asm); (case zk2 => k_asm); (case zk3 => k_inst); (case zk4 => k_is); (case zk5 => k_is); (case zk6 => k_is); (case zk7 => k_is); (case zk8 => k_get); (case zk9 => k_handed); k_whole)))
  (k_with "call builtin:dict.get" => (k_here; k_dflt (refine' dsd_get ?zN ?zm ?zD ?zlo ?_; (case zN => k_asm); (case zm => k_mem); (case zD => k_asm); (case zlo => k_asm)); intro _ _))
  (k_with "call builtin:dict.get" => (k_here; (with_reducible show wpAny _ _ (call (Value.builtin _) [Value.ref _, Value.str _ _, Value.int _ _]) _ _ _); k_dflt (refine' isd_get ?zN ?zm ?zD ?zlo ?_; (case zN => k_asm); (case zm => k_mem); (case zD => k_asm); (case zlo => k_asm)); intro _))
  (k_with "call builtin:dict.pop" => (k_here; k_dflt (refine' dsd_pop ?zF ?zN ?zU ?zD ?zlo ?_; (case zF => k_asm); (case zN => k_asm); (case zU => k_updF); (case zD => k_asm); (case zlo => k_asm)); intro _ _ _ _ _ _ _))
  (k_with "call builtin:dict.clear" => (k_here; k_dflt (refine' dsd_clear ?zF ?zN ?zU ?zD ?_; (case zF => k_asm); (case zN => k_asm); (case zU => k_updF); (case zD => k_asm)); intro _ _ _ _ _))
  (k_with "call builtin:len" => (k_here; (with_reducible show wpAny _ _ (call (Value.builtin "len") [Value.ref _]) _ _ _); k_dflt (refine' dsd_len_call ?zN ?zm ?zD ?zlo ?_; (case zN => k_asm); (case zm => k_mem); (case zD => k_asm); (case zlo => k_asm)); intro _ _))
  (k_with "callWith ref" => (k_here; (with_reducible show wpAny _ _ (callWith _ _ _ (backTo _ (starEach [] _)) []) _ _ _); k_dflt (refine' callWith_F0 ?zk1 ?_; (case zk1 => exact fnClock (by k_asm) (by assumption)); k_whole); (try dsimp only [List.nil_append, List.cons_append])))
  (k_with "setItem ref str" => (k_here; k_dflt (refine' dsd_set ?zF ?zN ?zU ?zD ?zk ?zx ?_; (case zF => k_asm); (case zN => k_asm); (case zU => k_updF); (case zD => k_asm); (case zk => k_asm); (case zx => first | exact ⟨_, rfl⟩ | exact rfl)); intro _ _ _ _ _))
  (k_with "subscriptTail" => (k_here; (with_reducible show wpAny _ _ (subscriptTail _ _ (Value.ref _) (Value.str _ _)) _ _ _); k_dflt (refine' isd_item ?zN ?zm ?zD ?zx ?_; (case zN => k_asm); (case zm => k_mem); (case zD => k_asm); (case zx => first | exact upd_self _ _ _ | assumption)); intro _))
  (k_with "eval Name" => (k_here; k_dflt (refine' nameX_L ?zF ?zv ?_ ?za ?zb; (case za => rfl); (case zb => rfl); (case zF => k_asm); (case zv => first | rfl | assumption); k_whole)))
  (k_with "call builtin:len" => (k_here; (with_reducible show wpAny _ _ (call (Value.builtin "len") [Value.ref _]) _ _ _); k_dflt (refine' len_lst ?zl ?zn ?zb ?_; (case zl => is_list); (case zn => assumption); (case zb => omega); k_whole); intro _))
  (k_with "exec While Compare cons nil" => (k_here; refine stopW ?_))
  (k_with "subscriptTail" => (k_here; (with_reducible show wpAny _ _ (subscriptTail _ _ (Value.ref _) (Value.str _ _)) _ _ _); k_dflt (refine' asd_item ?zN ?zm ?zD ?zx ?_; (case zN => k_asm); (case zm => k_mem); (case zD => k_asm); (case zx => first | exact upd_self _ _ _ | assumption))))
  (k_with "call ref" => (k_here; (with_reducible show wpAny _ _ (call (Value.ref 117) [Value.ref _, Value.str _ _] []) _ _ _); k_dflt (refine' get_in ?zB ?zF ?zX ?zN ?zT ?zA ?zhh ?zf ?zk ?zr ?zG ?zU1 ?zU2 ?zDS ?zDE ?_; (case zF => k_asm); (case zG => exact Geo.all (by assumption) (Fr.keep (by k_asm))); (case zB => k_asm); (case zX => k_asm); (case zN => k_asm); (case zT => k_asm); (case zA => exact rfl); (case zhh => exact rfl); (case zf => exact rfl); (case zk => exact rfl); (case zr => (show _ ≤ 900; k_extra "k_dp")); (case zU1 => k_updF); (case zU2 => (intro _; (try dsimp only); k_updF)); (case zDS => k_asm); (case zDE => k_asm)); intro _ _ _ _ _ _ _ _ _ _))
  trivial
theorem flat1 (n : Nat) (v : Value) : (List.replicate n [v]).flatten = List.replicate n v := by
  induction n with
  | zero => rfl
  | succ n ih => rw [List.replicate_succ, List.flatten_cons, ih]; rfl
theorem up_new {S : List Addr} {g' h' : Heap} {L' : Addr} {nn : List (Addr × Obj)} {q : Addr × Obj} (F : Fr h₀ L s.heap m) (hkept : Kept S s.heap g') (N' : News g' L' h' nn) (hq : q ∈ nn) (hn : q.1 ∉ S) :
    (h'.get? q.1 = some q.2 ∧ q.1 ≠ L ∧ h₀.get? q.1 = none) ∧ s.heap.get? q.1 = none := by
  have e0 : s.heap.get? q.1 = none := by
    cases e : s.heap.get? q.1 with
    | none => rfl
    | some o => have h2 := (N' q hq).2.2; rw [hkept _ _ hn e] at h2; cases h2
  refine ⟨⟨(N' q hq).1, fun e => ?_, ?_⟩, e0⟩
  · obtain ⟨oL, _, _, hL, _⟩ := F.ns
    rw [← e, e0] at hL; cases hL
  · cases e : h₀.get? q.1 with
    | none => rfl
    | some o => rw [F.keep _ _ e] at e0; cases e0
theorem news_cons {h : Heap} {a : Addr × Obj} {l : List (Addr × Obj)} (ha : h.get? a.1 = some a.2 ∧ a.1 ≠ L ∧ h₀.get? a.1 = none) (N : News h₀ L h l) : News h₀ L h (a :: l) := by
  intro q hq
  rcases List.mem_cons.mp hq with rfl | hq
  · exact ha
  · exact N q hq
theorem off2 {a b c : Nat} (h1 : c ≠ a) (h2 : c ≠ b) : (c : Addr) ∉ [(a : Addr), b] := by
  intro h
  rcases List.mem_cons.mp h with h | h
  · exact h1 h
  · exact h2 (List.mem_singleton.mp h)
theorem news_more {h h' : Heap} {r d : Addr} {o1 o2 o1' o2' : Obj} (N1 : News h₀ L h ((r, o1) :: (d, o2) :: news)) (N' : News h₀ L h' [(r, o1'), (d, o2')]) (k : Kept [r, d] h h') (l1 : ∀ q ∈ news, q.1 < d) (l2 : d < r) :
    News h₀ L h' ((r, o1') :: (d, o2') :: news) := by
  intro q hq
  rcases List.mem_cons.mp hq with rfl | hq
  · exact N' _ (.head _)
  · rcases List.mem_cons.mp hq with rfl | hq
    · exact N' _ (.tail _ (.head _))
    · have l := l1 q hq
      refine ⟨k _ _ (by simp only [List.mem_cons, List.not_mem_nil, or_false, not_or]; exact ⟨Nat.ne_of_lt (Nat.lt_trans l l2), Nat.ne_of_lt l⟩) (N1 q (.tail _ (.tail _ hq))).1, (N1 q (.tail _ (.tail _ hq))).2⟩
set_option maxHeartbeats 8000000 in
theorem entry_in {ex at' : Int} {te ta : Tok} {Q : Value → Shared → Prop}
    (F : Fr h₀ L s.heap m) (X₀ : (hd.heap_39 w.params).In h₀) (N : News h₀ L s.heap news) (T : Top p loose mean mg mb h₀) (hroom : A.depth ≤ 890)
    (h : ∀ (r d : Nat) h' tk' u1 u2 u3 u4, Fr h₀ L h' m → News h₀ L h' ((r, instObj 69 d) :: (d, dictOf (entryEs w at' (at' + ex) u1 u2 u3 u4) 2) :: news) → (∀ q ∈ news, q.1 < d) → d < r → Q (.ref r) { s with heap := h', toks := tk' }) :
    wpAny (model prog w) A (call (.ref 69) [.int ex te, .int at' ta] []) Q E s := by
  refine' call_cls F X₀ N ?k4 ?k5 ?k6 ?_
  case k4 => k_is
  case k5 => k_is
  case k6 => k_is
  intro r d h1 F1 N1 l1 l2
  have N₀ : News h₀ L h1 [(r, instObj 69 d), (d, dictOf [] 0)] := fun q hq => N1 q (by rcases List.mem_cons.mp hq with rfl | hq; exact .head _; rw [List.mem_singleton.mp hq]; exact .tail _ (.head _))
  refine' def_in0 F1 X₀ N₀ T ?k7 ?k8 ?k9 ?kA ?kB ?_ ?c2 ?c3 ?c4 ?c5
  case k7 => k_is
  case k8 => k_is
  case k9 => rw [depth_under_make]; exact Nat.lt_of_le_of_lt (Nat.succ_le_succ hroom) (by decide)
  case kA => first | exact BindsTo.of_eq rfl | exact binds_K (by k_in) rfl (by k_is) rfl rfl rfl
  case kB => exact locs rfl
  case c5 => decide
  case c2 => exact rfl
  case c3 => exact rfl
  case c4 => exact rfl
  intro g' L' h' m1 hm1 F' N' X' T' hkept hlt
  dsimp only
  k_fold
  have a_self : m1 (PySem.Str.ofString "self") = some (.ref r) := (hm1 _).trans rfl
  have a_expiry : m1 (PySem.Str.ofString "expiry") = some (.int ex te) := (hm1 _).trans rfl
  have a_atime : m1 (PySem.Str.ofString "atime") = some (.int at' ta) := (hm1 _).trans rfl
  clear hm1
  have l2' : @LT.lt Nat instLTNat d r := l2
  k_steps
  refine h r d _ _ _ _ _ _ (by assumption) (news_more N1 (by assumption) (kept_of (by assumption) hkept) l1 l2) l1 l2

end Entry
section Lam
variable {prog : Program} {w : World} {A₀ A : Around} {base h₀ : Heap} {outer : List Env} {env : Env} {L : Addr} {m mg mb : PySem.Str → Option Value}
  {p : Program} {loose : List PySem.Str} {mean : ExcName → Option Value} {s : Shared} {news : List (Addr × Obj)} {E : Value → Shared → Prop}
theorem words_Lam : True := by
  k_with_none
  w_top off
  (k_with "k_steps" => repeat' (first | (k_unfold; (try dsimp only)) | (k_end; wrow_close) | (dsimp only; walk1) | walk1 | (leave1; walk_say "STEP leave1"; try dsimp only) | fail "no step"))
  (k_with "k_lt" => first | (intro hlt9; (with_reducible rename NodT _ _ => hNdZ); have hNd2 := nod_new hNdZ hlt9 rfl; replace hlt9 := allLt_of hlt9; simp only [AllLt, and_true] at hlt9; revert hNd2 hlt9; intro _) | (intro hlt9; replace hlt9 := allLt_of hlt9; simp only [AllLt, and_true] at hlt9; revert hlt9) | fail)
  (k_with "k_off1" => first | exact Or.inl (by assumption) | exact Nat.le_refl _ | exact Nat.le_of_lt (by assumption) | exact Or.inr (Nat.le_trans (m := 201) (by decide) (by assumption)) | exact Nat.le_trans (m := 201) (by decide) (by assumption) | omega | fail)
  (k_with "k_offs" => first | (refine List.forall_mem_cons.mpr ⟨?_, ?_⟩; (try dsimp only); (k_extra "k_off1"); (k_extra "k_offs")) | exact (fun _ h => absurd h List.not_mem_nil) | fail)
  (k_with "k_cj" => with_reducible first | assumption | exact And.left (by assumption) | exact And.left (And.right (by assumption)) | exact And.left (And.right (And.right (by assumption))) | exact And.left (And.right (And.right (And.right (by assumption)))) | exact And.left (And.right (And.right (And.right (And.right (by assumption))))) | exact And.left (And.right (And.right (And.right (And.right (And.right (by assumption)))))) | exact And.right (by assumption) | exact And.right (And.right (by assumption)) | exact And.right (And.right (And.right (by assumption))) | exact And.right (And.right (And.right (And.right (by assumption)))) | exact And.right (And.right (And.right (And.right (And.right (by assumption))))) | fail)
  (k_with "k_dp" => first | exact Nat.le_trans (by assumption) (by decide) | exact Nat.le_trans (Nat.succ_le_succ (by assumption)) (by decide) | exact Nat.lt_of_le_of_lt (by assumption) (by decide) | exact Nat.lt_of_le_of_lt (Nat.succ_le_succ (by assumption)) (by decide) | exact Nat.le_trans (Nat.succ_le_succ (Nat.succ_le_succ (by assumption))) (by decide) | exact Nat.lt_of_le_of_lt (Nat.succ_le_succ (Nat.succ_le_succ (by assumption))) (by decide) | (simp only [depth_mark, depth_under_make, depth_under_kw, depth_in1, depth_deeper]; omega) | fail)
  (k_with "k_mem" => first | exact AtU.head | (apply AtU.tail; k_mem) | (refine' PairIn.head ?_; k_mem) | (refine' PairIn.tail ?_; k_mem) | fail)
  (k_with "k_ne" => first | (refine' ne_d1 ?zH ?zP; (case zH => assumption); (case zP => k_mem)) | (refine' ne_d2 ?zH ?zP; (case zH => assumption); (case zP => k_mem)) | exact Nat.ne_of_gt (by (try dsimp only); k_extra "k_cj") | exact Nat.ne_of_lt (by (try dsimp only); k_extra "k_cj") | (refine neN ?_; (try dsimp only); omega) | fail)
  (k_with "k_updF" => first | (refine' updF_at ?zA ?zH ?ze ?zm; (case zA => k_mem); (case zH => assumption); (case ze => rfl); (case zm => k_mem)) | (refine' UpdF.head ?za; (case za => k_all)) | (refine' UpdF.tail ?za ?zb; (case za => k_ne); (case zb => k_updF)) | fail)
  (k_with "k_inst" => first | (refine' instH ?zF ?zI; (case zF => k_asm); (case zI => assumption)) | fail)
  (k_with "k_room" => first | (show _ < 1000; k_extra "k_dp") | fail)
  (k_with "is_list" => first | (refine' listH ?zF ?zI; (case zF => k_asm); (case zI => assumption)) | fail)
  (k_with "call ref" => (k_here; (with_reducible show wpAny _ _ (call (Value.ref _) [] []) _ _ _); k_dflt (refine' clock_in ?zF ?zX ?zN ?zT ?zr ?zC ?_; (case zF => k_asm); (case zC => assumption); (case zX => k_asm); (case zN => k_asm); (case zT => k_asm); (case zr => k_room)); intro _ _ _ _ _ _))
  (k_with "getMethod ref" => (k_here; (with_reducible show wpAny _ _ (getMethod (Value.ref _) (Str.ofString "get") _) _ _ _); k_dflt (refine' dsd_method PySem.F.slot_dict_get PySem.F.type_dict_get ?zN ?zm ?zD ?_; (case zN => k_asm); (case zm => k_mem); (case zD => k_asm))))
  (k_with "getMethod ref" => (k_here; (with_reducible show wpAny _ _ (getMethod (Value.ref _) (Str.ofString "pop") _) _ _ _); k_dflt (refine' dsd_method PySem.F.slot_dict_pop PySem.F.type_dict_pop ?zN ?zm ?zD ?_; (case zN => k_asm); (case zm => k_mem); (case zD => k_asm))))
  (k_with "getMethod ref" => (k_here; (with_reducible show wpAny _ _ (getMethod (Value.ref _) (Str.ofString "setdefault") _) _ _ _); k_dflt (refine' dsd_method PySem.F.slot_dict_setdefault PySem.F.type_dict_setdefault ?zN ?zm ?zD ?_; (case zN => k_asm); (case zm => k_mem); (case zD => k_asm))))
  (k_with "getMethod ref" => (k_here; (with_reducible show wpAny _ _ (getMethod (Value.ref _) (Str.ofString "clear") _) _ _ _); k_dflt (refine' dsd_method PySem.F.slot_dict_clear PySem.F.type_dict_clear ?zN ?zm ?zD ?_; (case zN => k_asm); (case zm => k_mem); (case zD => k_asm))))
  (k_with "getMethod ref" => (k_here; (with_reducible show wpAny _ _ (getMethod (Value.ref _) (Str.ofString "clock") _) _ _ _); k_dflt (refine' kmu_own ?zk1 ?zk2 ?zk3 ?zk4 ?zk5 ?_; (case zk1 => k_asm); (case zk2 => k_asm); (case zk3 => k_inst); (case zk4 => k_is); (case zk5 => k_is); k_whole)))
  (k_with "getAttr ref" => (k_here; k_dflt (refine' get_own ?zk1 ?zk2 ?zk3 ?zk4 ?zk5 ?zk6 ?zk7 ?zk8 ?zk9 ?_; (case zk1 => k_asm); (case zk2 => k_asm); (case zk3 => k_inst); (case zk4 => k_is); (case zk5 => k_is); (case zk6 => k_is); (case zk7 => k_is); (case zk8 => k_get); (case zk9 => k_handed); k_whole)))
  (k_with "call builtin:dict.get" => (k_here; k_dflt (refine' dsd_get ?zN ?zm ?zD ?zlo ?_; (case zN => k_asm); (case zm => k_mem); (case zD => k_asm); (case zlo => k_asm)); intro _ _))
  (k_with "call builtin:dict.get" => (k_here; (with_reducible show wpAny _ _ (call (Value.builtin _) [Value.ref _, Value.str _ _, Value.int _ _]) _ _ _); k_dflt (refine' isd_get ?zN ?zm ?zD ?zlo ?_; (case zN => k_asm); (case zm => k_mem); (case zD => k_asm); (case zlo => k_asm)); intro _))
  (k_with "call builtin:dict.pop" => (k_here; k_dflt (refine' dsd_pop ?zF ?zN ?zU ?zD ?zlo ?_; (case zF => k_asm); (case zN => k_asm); (case zU => k_updF); (case zD => k_asm); (case zlo => k_asm)); intro _ _ _ _ _ _ _))
  (k_with "call builtin:dict.clear" => (k_here; k_dflt (refine' dsd_clear ?zF ?zN ?zU ?zD ?_; (case zF => k_asm); (case zN => k_asm); (case zU => k_updF); (case zD => k_asm)); intro _ _ _ _ _))
  (k_with "call builtin:len" => (k_here; (with_reducible show wpAny _ _ (call (Value.builtin "len") [Value.ref _]) _ _ _); k_dflt (refine' dsd_len_call ?zN ?zm ?zD ?zlo ?_; (case zN => k_asm); (case zm => k_mem); (case zD => k_asm); (case zlo => k_asm)); intro _ _))
  (k_with "callWith ref" => (k_here; (with_reducible show wpAny _ _ (callWith _ _ _ (backTo _ (starEach [] _)) []) _ _ _); k_dflt (refine' callWith_F0 ?zk1 ?_; (case zk1 => exact fnClock (by k_asm) (by assumption)); k_whole); (try dsimp only [List.nil_append, List.cons_append])))
  (k_with "setItem ref str" => (k_here; k_dflt (refine' dsd_set ?zF ?zN ?zU ?zD ?zk ?zx ?_; (case zF => k_asm); (case zN => k_asm); (case zU => k_updF); (case zD => k_asm); (case zk => k_asm); (case zx => first | exact ⟨_, rfl⟩ | exact rfl)); intro _ _ _ _ _))
  (k_with "subscriptTail" => (k_here; (with_reducible show wpAny _ _ (subscriptTail _ _ (Value.ref _) (Value.str _ _)) _ _ _); k_dflt (refine' isd_item ?zN ?zm ?zD ?zx ?_; (case zN => k_asm); (case zm => k_mem); (case zD => k_asm); (case zx => first | exact upd_self _ _ _ | assumption)); intro _))
  (k_with "eval Name" => (k_here; k_dflt (refine' nameX_L ?zF ?zv ?_ ?za ?zb; (case za => rfl); (case zb => rfl); (case zF => k_asm); (case zv => first | rfl | assumption); k_whole)))
  (k_with "call builtin:len" => (k_here; (with_reducible show wpAny _ _ (call (Value.builtin "len") [Value.ref _]) _ _ _); k_dflt (refine' len_lst ?zl ?zn ?zb ?_; (case zl => is_list); (case zn => assumption); (case zb => omega); k_whole); intro _))
  (k_with "exec While Compare cons nil" => (k_here; refine stopW ?_))
  (k_with "subscriptTail" => (k_here; (with_reducible show wpAny _ _ (subscriptTail _ _ (Value.ref _) (Value.str _ _)) _ _ _); k_dflt (refine' asd_item ?zN ?zm ?zD ?zx ?_; (case zN => k_asm); (case zm => k_mem); (case zD => k_asm); (case zx => first | exact upd_self _ _ _ | assumption))))
  (k_with "call ref" => (k_here; (with_reducible show wpAny _ _ (call (Value.ref 117) [Value.ref _, Value.str _ _] []) _ _ _); k_dflt (refine' get_in ?zB ?zF ?zX ?zN ?zT ?zA ?zhh ?zf ?zk ?zr ?zG ?zU1 ?zU2 ?zDS ?zDE ?_; (case zF => k_asm); (case zG => exact Geo.all (by assumption) (Fr.keep (by k_asm))); (case zB => k_asm); (case zX => k_asm); (case zN => k_asm); (case zT => k_asm); (case zA => exact rfl); (case zhh => exact rfl); (case zf => exact rfl); (case zk => exact rfl); (case zr => (show _ ≤ 900; k_extra "k_dp")); (case zU1 => k_updF); (case zU2 => (intro _; (try dsimp only); k_updF)); (case zDS => k_asm); (case zDE => k_asm)); intro _ _ _ _ _ _ _ _ _ _))
  (k_with "callWith ref" => (k_here; k_dflt (refine' callWith_F ?zk1 ?_; (case zk1 => exact NegAt.fn (NegAt.keeps (by assumption) (Fr.keep (by k_asm)))); k_whole)))
  (k_with "call ref" => (k_here; (with_reducible show wpAny _ _ (call (Value.ref 52) _ _) _ _ _); refine stopW ?_))
  (k_with "call builtin:dict.setdefault" => (k_here; refine stopW ?_))
  (k_with "eval Lambda" => (k_here; k_dflt (refine' lam_in ?zF ?zN ?zT ?zC ?zcd ?zU ?zhps ?zhsub ?zcl ?zdf ?_; (case zF => k_asm); (case zN => k_asm); (case zT => k_asm); (case zcd => exact rfl); (case zC => kn_code); (case zU => k_updF); (case zhps => assumption); (case zhsub => (intro _ hq; first | (exact absurd hq List.not_mem_nil) | (repeat (first | exact hq | refine List.Mem.tail _ ?_)))); (case zcl => exact rfl); (case zdf => exact rfl); k_whole); intro fl cl ct psl lsl hpl tkl Fl Nl hfl hrl hnt ltl; (simp only [List.cons_append, List.nil_append] at Nl)))
  trivial
/-- a code's table of nested codes: empty, or the one lambda's -/
def TabSt (h : Heap) (bd line col : Nat) (qual : PySem.Str) (ps : Array Value) : Prop := ps = #[] ∨ ∃ c' : Nat, bd < c' ∧ ps = #[rawInt line, rawInt col, .ref c'] ∧ h.CodeRec (.ref c') qual
theorem TabSt.keeps {h h' : Heap} {bd line col : Nat} {qual : PySem.Str} {ps : Array Value} {S : List Addr} (x : TabSt h bd line col qual ps) (k : Kept S h h') (hS : ∀ b : Nat, b ∈ S → b ≤ bd) : TabSt h' bd line col qual ps := by
  rcases x with x | ⟨c', hc, e, c₂, co, vs, tq, e2, h1, h2, h3⟩
  · exact .inl x
  · cases e2
    exact .inr ⟨c', hc, e, c', co, vs, tq, rfl, k _ _ (fun hm => by have := hS c' hm; omega) h1, h2, h3⟩
theorem TabSt.all {h h' : Heap} {bd line col : Nat} {qual : PySem.Str} {ps : Array Value} (x : TabSt h bd line col qual ps) (k : ∀ b o, h.get? b = some o → h'.get? b = some o) : TabSt h' bd line col qual ps :=
  x.keeps (S := []) (fun b o _ e => k b o e) fun a ha => by cases ha
abbrev qMov : PySem.Str := (PySem.Str.ofString "MemoryStorage.get_moving_window" ++ ".<locals>.") ++ "<lambda>"
abbrev qExp : PySem.Str := (PySem.Str.ofString "MemoryStorage.expire_events" ++ ".<locals>.") ++ "<lambda>"
/-- what a def leaves in its code's table of nested codes -/
def NewTab (line col : Nat) (qual : PySem.Str) (ls : List (Addr × Obj)) (ps ps' : Array Value) : Prop :=
  (ls = [] ∧ ps' = ps) ∨ ∃ (c' : Addr) (co : Obj) (vs : Array Value) (t : Tok), ls = [(c', co)] ∧ ps = #[] ∧ ps' = #[rawInt line, rawInt col, .ref c'] ∧ co.data = .fields vs ∧ vs[1]? = some (.str qual t)
/-- a code's table, the code within told by what lies in tl -/
def TabIn (h₀ : Heap) (line col : Nat) (qual : PySem.Str) (ps : Array Value) (tl : List (Addr × Obj)) : Prop :=
  ps = #[] ∨ ∃ c' : Addr, ps = #[rawInt line, rawInt col, .ref c'] ∧ ∀ h' : Heap, (∀ b o, h₀.get? b = some o → h'.get? b = some o) → (∀ q ∈ tl, h'.get? q.1 = some q.2) → h'.CodeRec (.ref c') qual
theorem TabSt.tabIn {h : Heap} {bd line col : Nat} {qual : PySem.Str} {ps : Array Value} {tl : List (Addr × Obj)} (x : TabSt h bd line col qual ps) : TabIn h line col qual ps tl :=
  x.imp id fun ⟨c', _, e, r⟩ => ⟨c', e, fun _ k _ => r.keeps k⟩
/-- a lambda made, whether its code lies in the table or not -/
theorem lam_in {M : Model} {a c P : Addr} {cn : PySem.Str} {cs : Scope} {ccd : Value} {cl clos : List (PySem.Str × Addr)} {tl : List (Addr × Obj)} {g : Obj → List (Addr × Obj)} {params : Arguments} {body : PySem.Expr} {scope : Scope} {ps : Array Value} {pos : Pos} {Q : Value → Shared → Prop}
    (F : Fr h₀ L s.heap m) (N : News h₀ L s.heap news) (T : Top p loose mean mg mb h₀) (C : CodeHd h₀ c P) (hcd : ccd = .ref c) (U : UpdF P (tabObj ps) news g)
    (hps : TabIn h₀ pos.line pos.col ((envX cn cs L a ccd cl).qual ++ "<lambda>") ps tl) (hsub : ∀ q ∈ tl, q ∈ news)
    (hcl : closureFor scope (envX cn cs L a ccd cl) = pure clos) (hdef : defaultsOf params (envX cn cs L a ccd cl) = ([], []))
    (h : ∀ f (c' : Addr) ctv ps' ls h' tk, Fr h₀ L h' m → News h₀ L h' (g (tabObj ps') ++ ls) → h'.get? f = some (kla_obj "<lambda>" ((envX cn cs L a ccd cl).qual ++ "<lambda>") params body scope clos ((mg "__name__").getD .none) c' ctv) →
      h'.CodeRec (.ref c') ((envX cn cs L a ccd cl).qual ++ "<lambda>") → NewTab pos.line pos.col ((envX cn cs L a ccd cl).qual ++ "<lambda>") ls ps ps' → (∀ q ∈ ls, ∀ r ∈ news, r.1 < q.1) → Q (.ref f) { s with heap := h', toks := tk }) :
    wpAny M A (eval (.Lambda params body scope pos) (envX cn cs L a ccd cl)) Q E s := by
  refine kla_eval hdef ?_
  rcases hps with rfl | ⟨c', rfl, hrec⟩
  · refine kla_nest F N T C hcd U trivial rfl hcl fun f c' oc vs t ctv h' tk F' N' d1 d2 l1 l2 => ?_
    refine h f c' ctv _ [(c', oc)] h' tk F' (fun q hq => N' q ?_) (N' _ (.head _)).1 ⟨c', oc, vs, t, rfl, (N' (c', oc) (.tail _ (.head _))).1, d1, d2⟩ (.inr ⟨c', oc, vs, t, rfl, rfl, rfl, d1, d2⟩) fun q hq r hr => ?_
    · rcases List.mem_append.mp hq with hq | hq
      · exact .tail _ (.tail _ hq)
      · rw [List.mem_singleton.mp hq]; exact .tail _ (.head _)
    · rw [List.mem_singleton.mp hq]; exact l1 r hr
  · obtain ⟨own, rest, e1, hgr, _, _⟩ := U.split
    have hm : (P, tabObj #[rawInt pos.line, rawInt pos.col, .ref c']) ∈ news := by rw [e1]; simp
    have ge : g (tabObj #[rawInt pos.line, rawInt pos.col, .ref c']) = news := by rw [hgr, ← e1]
    refine kla_hit (c' := c') F N T C hcd hm trivial (by simp [codeAmong, rawInt]) hcl fun f ctv h' tk F' N' l1 => ?_
    have hr' := hrec h' F'.keep fun q hq => (N' q (.tail _ (hsub q hq))).1
    exact h f c' ctv _ [] h' tk F' (fun q hq => N' q (by rw [ge, List.append_nil] at hq; exact .tail _ hq)) (N' _ (.head _)).1 hr' (.inl ⟨rfl, rfl⟩) fun q hq => by cases hq

end Lam
section Moving
variable {prog : Program} {w : World} {A₀ A : Around} {base h₀ : Heap} {outer : List Env} {env : Env} {L : Addr} {m mg mb : PySem.Str → Option Value}
  {p : Program} {loose : List PySem.Str} {mean : ExcName → Option Value} {s : Shared} {news : List (Addr × Obj)} {E : Value → Shared → Prop}
theorem words_Moving : True := by
  k_with_none
  w_top off
  (k_with "k_steps" => repeat' (first | (k_unfold; (try dsimp only)) | (k_end; wrow_close) | (dsimp only; walk1) | walk1 | (leave1; walk_say "STEP leave1"; try dsimp only) | fail "no step"))
  (k_with "k_lt" => first | (intro hlt9; (with_reducible rename NodT _ _ => hNdZ); have hNd2 := nod_new hNdZ hlt9 rfl; replace hlt9 := allLt_of hlt9; simp only [AllLt, and_true] at hlt9; revert hNd2 hlt9; intro _) | (intro hlt9; replace hlt9 := allLt_of hlt9; simp only [AllLt, and_true] at hlt9; revert hlt9) | fail)
  (k_with "k_off1" => first | exact Or.inl (by assumption) | exact Nat.le_refl _ | exact Nat.le_of_lt (by assumption) | exact Or.inr (Nat.le_trans (m := 201) (by decide) (by assumption)) | exact Nat.le_trans (m := 201) (by decide) (by assumption) | omega | fail)
  (k_with "k_offs" => first | (refine List.forall_mem_cons.mpr ⟨?_, ?_⟩; (try dsimp only); (k_extra "k_off1"); (k_extra "k_offs")) | exact (fun _ h => absurd h List.not_mem_nil) | fail)
  (k_with "k_cj" => with_reducible first | assumption | exact And.left (by assumption) | exact And.left (And.right (by assumption)) | exact And.left (And.right (And.right (by assumption))) | exact And.left (And.right (And.right (And.right (by assumption)))) | exact And.left (And.right (And.right (And.right (And.right (by assumption))))) | exact And.left (And.right (And.right (And.right (And.right (And.right (by assumption)))))) | exact And.right (by assumption) | exact And.right (And.right (by assumption)) | exact And.right (And.right (And.right (by assumption))) | exact And.right (And.right (And.right (And.right (by assumption)))) | exact And.right (And.right (And.right (And.right (And.right (by assumption))))) | fail)
  (k_with "k_dp" => first | exact Nat.le_trans (by assumption) (by decide) | exact Nat.le_trans (Nat.succ_le_succ (by assumption)) (by decide) | exact Nat.lt_of_le_of_lt (by assumption) (by decide) | exact Nat.lt_of_le_of_lt (Nat.succ_le_succ (by assumption)) (by decide) | exact Nat.le_trans (Nat.succ_le_succ (Nat.succ_le_succ (by assumption))) (by decide) | exact Nat.lt_of_le_of_lt (Nat.succ_le_succ (Nat.succ_le_succ (by assumption))) (by decide) | (simp only [depth_mark, depth_under_make, depth_under_kw, depth_in1, depth_deeper]; omega) | fail)
  (k_with "k_mem" => first | exact AtU.head | (apply AtU.tail; k_mem) | (refine' PairIn.head ?_; k_mem) | (refine' PairIn.tail ?_; k_mem) | fail)
  (k_with "k_ne" => first | (refine' ne_d1 ?zH ?zP; (case zH => assumption); (case zP => k_mem)) | (refine' ne_d2 ?zH ?zP; (case zH => assumption); (case zP => k_mem)) | exact Nat.ne_of_gt (by (try dsimp only); k_extra "k_cj") | exact Nat.ne_of_lt (by (try dsimp only); k_extra "k_cj") | (refine neN ?_; (try dsimp only); omega) | fail)
  (k_with "k_updF" => first | (refine' updF_at ?zA ?zH ?ze ?zm; (case zA => k_mem); (case zH => assumption); (case ze => rfl); (case zm => k_mem)) | (refine' UpdF.head ?za; (case za => k_all)) | (refine' UpdF.tail ?za ?zb; (case za => k_ne); (case zb => k_updF)) | fail)
  (k_with "k_inst" => first | (refine' instH ?zF ?zI; (case zF => k_asm); (case zI => assumption)) | fail)
  (k_with "k_room" => first | (show _ < 1000; k_extra "k_dp") | fail)
  (k_with "is_list" => first | (refine' listH ?zF ?zI; (case zF => k_asm); (case zI => assumption)) | fail)
  (k_with "call ref" => (k_here; (with_reducible show wpAny _ _ (call (Value.ref _) [] []) _ _ _); k_dflt (refine' clock_in ?zF ?zX ?zN ?zT ?zr ?zC ?_; (case zF => k_asm); (case zC => assumption); (case zX => k_asm); (case zN => k_asm); (case zT => k_asm); (case zr => k_room)); intro _ _ _ _ _ _))
  (k_with "getMethod ref" => (k_here; (with_reducible show wpAny _ _ (getMethod (Value.ref _) (Str.ofString "get") _) _ _ _); k_dflt (refine' dsd_method PySem.F.slot_dict_get PySem.F.type_dict_get ?zN ?zm ?zD ?_; (case zN => k_asm); (case zm => k_mem); (case zD => k_asm))))
  (k_with "getMethod ref" => (k_here; (with_reducible show wpAny _ _ (getMethod (Value.ref _) (Str.ofString "pop") _) _ _ _); k_dflt (refine' dsd_method PySem.F.slot_dict_pop PySem.F.type_dict_pop ?zN ?zm ?zD ?_; (case zN => k_asm); (case zm => k_mem); (case zD => k_asm))))
  (k_with "getMethod ref" => (k_here; (with_reducible show wpAny _ _ (getMethod (Value.ref _) (Str.ofString "setdefault") _) _ _ _); k_dflt (refine' dsd_method PySem.F.slot_dict_setdefault PySem.F.type_dict_setdefault ?zN ?zm ?zD ?_; (case zN => k_asm); (case zm => k_mem); (case zD => k_asm))))
  (k_with "getMethod ref" => (k_here; (with_reducible show wpAny _ _ (getMethod (Value.ref _) (Str.ofString "clear") _) _ _ _); k_dflt (refine' dsd_method PySem.F.slot_dict_clear PySem.F.type_dict_clear ?zN ?zm ?zD ?_; (case zN => k_asm); (case zm => k_mem); (case zD => k_asm))))
  (k_with "getMethod ref" => (k_here; (with_reducible show wpAny _ _ (getMethod (Value.ref _) (Str.ofString "clock") _) _ _ _); k_dflt (refine' kmu_own ?zk1 ?zk2 ?zk3 ?zk4 ?zk5 ?_; (case zk1 => k_asm); (case zk2 => k_asm); (case zk3 => k_inst); (case zk4 => k_is); (case zk5 => k_is); k_whole)))
  (k_with "getAttr ref" => (k_here; k_dflt (refine' get_own ?zk1 ?zk2 ?zk3 ?zk4 ?zk5 ?zk6 ?zk7 ?zk8 ?zk9 ?_; (case zk1 => k_asm); (case zk2 => k_asm); (case zk3 => k_inst); (case zk4 => k_is); (case zk5 => k_is); (case zk6 => k_is); (case zk7 => k_is); (case zk8 => k_get); (case zk9 => k_handed); k_whole)))
  (k_with "call builtin:dict.get" => (k_here; k_dflt (refine' dsd_get ?zN ?zm ?zD ?zlo ?_; (case zN => k_asm); (case zm => k_mem); (case zD => k_asm); (case zlo => k_asm)); intro _ _))
  (k_with "call builtin:dict.get" => (k_here; (with_reducible show wpAny _ _ (call (Value.builtin _) [Value.ref _, Value.str _ _, Value.int _ _]) _ _ _); k_dflt (refine' isd_get ?zN ?zm ?zD ?zlo ?_; (case zN => k_asm); (case zm => k_mem); (case zD => k_asm); (case zlo => k_asm)); intro _))
  (k_with "call builtin:dict.pop" => (k_here; k_dflt (refine' dsd_pop ?zF ?zN ?zU ?zD ?zlo ?_; (case zF => k_asm); (case zN => k_asm); (case zU => k_updF); (case zD => k_asm); (case zlo => k_asm)); intro _ _ _ _ _ _ _))
  (k_with "call builtin:dict.clear" => (k_here; k_dflt (refine' dsd_clear ?zF ?zN ?zU ?zD ?_; (case zF => k_asm); (case zN => k_asm); (case zU => k_updF); (case zD => k_asm)); intro _ _ _ _ _))
  (k_with "call builtin:len" => (k_here; (with_reducible show wpAny _ _ (call (Value.builtin "len") [Value.ref _]) _ _ _); k_dflt (refine' dsd_len_call ?zN ?zm ?zD ?zlo ?_; (case zN => k_asm); (case zm => k_mem); (case zD => k_asm); (case zlo => k_asm)); intro _ _))
  (k_with "callWith ref" => (k_here; (with_reducible show wpAny _ _ (callWith _ _ _ (backTo _ (starEach [] _)) []) _ _ _); k_dflt (refine' callWith_F0 ?zk1 ?_; (case zk1 => exact fnClock (by k_asm) (by assumption)); k_whole); (try dsimp only [List.nil_append, List.cons_append])))
  (k_with "setItem ref str" => (k_here; k_dflt (refine' dsd_set ?zF ?zN ?zU ?zD ?zk ?zx ?_; (case zF => k_asm); (case zN => k_asm); (case zU => k_updF); (case zD => k_asm); (case zk => k_asm); (case zx => first | exact ⟨_, rfl⟩ | exact rfl)); intro _ _ _ _ _))
  (k_with "subscriptTail" => (k_here; (with_reducible show wpAny _ _ (subscriptTail _ _ (Value.ref _) (Value.str _ _)) _ _ _); k_dflt (refine' isd_item ?zN ?zm ?zD ?zx ?_; (case zN => k_asm); (case zm => k_mem); (case zD => k_asm); (case zx => first | exact upd_self _ _ _ | assumption)); intro _))
  (k_with "eval Name" => (k_here; k_dflt (refine' nameX_L ?zF ?zv ?_ ?za ?zb; (case za => rfl); (case zb => rfl); (case zF => k_asm); (case zv => first | rfl | assumption); k_whole)))
  (k_with "call builtin:len" => (k_here; (with_reducible show wpAny _ _ (call (Value.builtin "len") [Value.ref _]) _ _ _); k_dflt (refine' len_lst ?zl ?zn ?zb ?_; (case zl => is_list); (case zn => assumption); (case zb => omega); k_whole); intro _))
  (k_with "exec While Compare cons nil" => (k_here; refine stopW ?_))
  (k_with "subscriptTail" => (k_here; (with_reducible show wpAny _ _ (subscriptTail _ _ (Value.ref _) (Value.str _ _)) _ _ _); k_dflt (refine' asd_item ?zN ?zm ?zD ?zx ?_; (case zN => k_asm); (case zm => k_mem); (case zD => k_asm); (case zx => first | exact upd_self _ _ _ | assumption))))
  (k_with "call ref" => (k_here; (with_reducible show wpAny _ _ (call (Value.ref 117) [Value.ref _, Value.str _ _] []) _ _ _); k_dflt (refine' get_in ?zB ?zF ?zX ?zN ?zT ?zA ?zhh ?zf ?zk ?zr ?zG ?zU1 ?zU2 ?zDS ?zDE ?_; (case zF => k_asm); (case zG => exact Geo.all (by assumption) (Fr.keep (by k_asm))); (case zB => k_asm); (case zX => k_asm); (case zN => k_asm); (case zT => k_asm); (case zA => exact rfl); (case zhh => exact rfl); (case zf => exact rfl); (case zk => exact rfl); (case zr => (show _ ≤ 900; k_extra "k_dp")); (case zU1 => k_updF); (case zU2 => (intro _; (try dsimp only); k_updF)); (case zDS => k_asm); (case zDE => k_asm)); intro _ _ _ _ _ _ _ _ _ _))
  (k_with "callWith ref" => (k_here; k_dflt (refine' callWith_F ?zk1 ?_; (case zk1 => exact NegAt.fn (NegAt.keeps (by assumption) (Fr.keep (by k_asm)))); k_whole)))
  (k_with "call ref" => (k_here; (with_reducible show wpAny _ _ (call (Value.ref 52) _ _) _ _ _); refine stopW ?_))
  (k_with "call builtin:dict.setdefault" => (k_here; refine stopW ?_))
  (k_with "eval Lambda" => (k_here; k_dflt (refine' lam_in ?zF ?zN ?zT ?zC ?zcd ?zU ?zhps ?zhsub ?zcl ?zdf ?_; (case zF => k_asm); (case zN => k_asm); (case zT => k_asm); (case zcd => exact rfl); (case zC => kn_code); (case zU => k_updF); (case zhps => assumption); (case zhsub => (intro _ hq; first | (exact absurd hq List.not_mem_nil) | (repeat (first | exact hq | refine List.Mem.tail _ ?_)))); (case zcl => exact rfl); (case zdf => exact rfl); k_whole); intro fl cl ct psl lsl hpl tkl Fl Nl hfl hrl hnt ltl; (simp only [List.cons_append, List.nil_append] at Nl)))
  trivial
theorem pred_lt {n m : Nat} (h : n ≤ m) (hm : m ≤ 1000) : (n : Int) - 1 < 2 ^ 63 := by omega
theorem pred_nat (n : Nat) : ((n : Int) - 1).toNat = n - 1 := Int.toNat_sub n 1
theorem neg_ix (m : Nat) : (((0 : Nat) : Int) - 1 + (m : Int)).toNat = m - 1 := by
  rw [Int.add_comm]
  exact Int.toNat_sub m 1
theorem sub_swap {a t w : Int} : t - w < a ↔ t - a < w := Int.sub_lt_iff.trans (by rw [Int.add_comm]; exact Int.sub_lt_iff.symm)
theorem neg_cut {a t w : Int} : -a < -(t - w) ↔ t - a < w := Int.neg_lt_neg_iff.trans sub_swap
theorem ev_prev {a : Addr} {vs : List Value} {l : List (Int × Int)} {n : Nat} {u : Tok} {value slice : PySem.Expr} {hb : Heap} {Q : Value → Shared → Prop} (hl : s.heap.IsList a vs.toArray) (hlen : vs.length = l.length)
    (hev : ∀ (i : Nat) q, l[i]? = some q → ∃ r : Addr, vs[i]? = some (Value.ref r) ∧ EntryAt w hb r q) (hne : 0 < l.length) (hn : n ≤ l.length) (hb' : l.length ≤ 1000)
    (h : ∀ (r : Addr) q, EntryAt w hb r q → (0 < n → l[n - 1]? = some q) → Q (.ref r) s)
    (hs : subscripted slice false (.ref a) (.int (↑n - 1) u) = operate [.ref a, .int (↑n - 1) u] (getItem (.ref a) (.int (↑n - 1) u)) := by with_unfolding_all rfl) (hg : ∀ r, letTemporaryGo value (.ref a) r = pure () := by intro _; with_unfolding_all rfl) :
    wpAny (model prog w) A (subscriptTail value slice (.ref a) (.int (↑n - 1) u)) Q E s := by
  rcases Nat.eq_zero_or_pos n with rfl | hp
  · have hm : l.length - 1 < l.length := Nat.sub_lt hne Nat.one_pos
    obtain ⟨r, hr, hE⟩ := hev _ _ (List.getElem?_eq_getElem hm)
    refine subscriptTail_builtin hl.typeIs slot_list_getitem.lookup (wpAny_getItem_list_neg (x := .ref r) hl (by omega) (by simp; omega) (by omega) ?_ (h r _ hE (fun q => absurd q (Nat.lt_irrefl 0)))) hs hg
    have : ((↑(0 : Nat) : Int) - 1 + (vs.toArray.size : Int)).toNat = l.length - 1 := hlen ▸ neg_ix vs.length
    rw [this]; simpa using hr
  · have hm : n - 1 < l.length := Nat.lt_of_lt_of_le (Nat.sub_lt hp Nat.one_pos) hn
    obtain ⟨r, hr, hE⟩ := hev _ _ (List.getElem?_eq_getElem hm)
    refine item_list (x := .ref r) hl (Int.sub_nonneg.mpr (Int.ofNat_le.mpr hp)) (pred_lt hn hb') ?_ (h r _ hE (fun _ => List.getElem?_eq_getElem hm)) hs hg
    have : ((↑n : Int) - 1).toNat = n - 1 := pred_nat n
    rw [this]; simpa using hr
theorem kept_less {g h h' : Heap} {L' d : Addr} {S : List Addr} {o : Obj} {m' : PySem.Str → Option Value} (e : h.get? d = some o) (k : Kept (d :: S) h g) (F' : Fr g L' h' m') (e' : h'.get? d = some o) : Kept S h h' := fun b o' n hb => by
  by_cases q : b = d
  · subst q; rw [e] at hb; cases hb; exact e'
  · exact F'.keep _ _ (k b o' (by simp [q, n]) hb)
theorem news_one {h h' : Heap} {d : Addr} {o o' : Obj} {g : Obj → List (Addr × Obj)} (N : News h₀ L h news) (U : UpdF d o news g) (k : Kept [d] h h') (hd : h'.get? d = some o' ∧ d ≠ L ∧ h₀.get? d = none) : News h₀ L h' (g o') :=
  nb_end (nb_step (nb_start N k) U hd)
set_option maxHeartbeats 8000000 in
theorem moving_in {lo x fk dS dE dV : Nat} {oV : Obj} {ps : Array Value} {kt t6 tw : Tok} {t wd z6 : Int} {k : PySem.Str} {gV : PySem.Str → Option Addr} {l : List (Int × Int)} {g1 : Obj → List (Addr × Obj)} {Q : Value → Shared → Prop}
    (B : Below A₀ base outer h₀) (F : Fr h₀ L s.heap m) (X₀ : (hd.heap_39 w.params).In h₀) (N : News h₀ L s.heap news) (T : Top p loose mean mg mb h₀)
    (hA : A.frames = some (env :: outer)) (hh : A.handled = none) (hf : env.frame = some L) (hke : env.scope.kind = .function) (hroom : A.depth ≤ 880)
    (G : Geo w s.heap lo x fk dS dE dV t) (hlo : 201 ≤ lo) (CH : CodeHd base 145 141)
    (mV : (dV, oV) ∈ news) (U : UpdF 141 (tabObj ps) news g1)
    (DV : ASD prog w oV gV) (hT : TabSt s.heap dV 90 68 qMov ps)
    (hEv : match gV k with | none => l = [] | some a => EvAt w s.heap dV a l) (hl : l.length ≤ 1000) (hs : ∀ (i j : Nat) q r, i < j → l[i]? = some q → l[j]? = some r → r.1 ≤ q.1)
    (h : ∀ h' tk' ps' (R : Addr) st (n : Nat) u1 u2 ls, Fr h₀ L h' m → News h₀ L h' (g1 (tabObj ps') ++ ls) → IsTup h' R #[.int st u1, .int n u2] → NewTab 90 68 qMov ls ps ps' →
      (∀ q ∈ ls, s.heap.get? q.1 = none ∧ dV < q.1) →
      n ≤ l.length → (∀ (i : Nat) q, l[i]? = some q → (i < n ↔ t - q.1 < wd)) → (l = [] → st = t) → (∀ q, 0 < n → l[n - 1]? = some q → st = q.1) → Q (.ref R) { s with heap := h', toks := tk' }) :
    wpAny (model prog w) A (call (.ref 146) [.ref x, .str k kt, .int z6 t6, .int wd tw]) Q E s := by
  have mT : (141, tabObj ps) ∈ news := by obtain ⟨pre, post, rfl, _⟩ := U.split; simp
  have N₀ : News h₀ L s.heap [(dV, oV), (141, tabObj ps)] := fun q hq => by
    rcases List.mem_cons.mp hq with rfl | hq
    · exact N _ mV
    · rw [List.mem_singleton.mp hq]; exact N _ mT
  obtain ⟨hd9, dp, fr, gs, un⟩ := A
  dsimp only at hA hh hroom
  subst hA
  subst hh
  refine wpAny_call ?_
  refine' def_in B F X₀ N₀ T rfl hf hke ?k6 ?k7 ?k8 ?k9 ?kB ?_ ?c2 ?c3 ?c4 ?c5
  case k6 => k_is
  case k7 => k_is
  case k8 => exact Nat.lt_of_le_of_lt hroom (by decide)
  case k9 => first | exact BindsTo.of_eq rfl | exact binds_K (by k_in) rfl (by k_is) rfl rfl rfl
  case kB => exact locs rfl
  case c5 => decide
  case c2 => exact rfl
  case c3 => exact rfl
  case c4 => exact rfl
  intro g' L' h' m1 hm1 FG' F' N' B' X' T' hkept hlt
  dsimp only
  k_fold
  have olo : lo < x := G.low
  have ox : x < dS := G.hx
  have oSE : dS < dE := G.hS
  have oEV : dE < dV := G.hE
  have loS := G.loS
  have loE := G.loE
  have loV := G.loV
  have oXE : x < dE := Nat.lt_trans ox oSE
  have oXV : x < dV := Nat.lt_trans oXE oEV
  have oSV : dS < dV := Nat.lt_trans oSE oEV
  have G' := G.keeps hkept (by k_extra "k_offs")
  obtain ⟨dx, t1, t2, t3, t4, I'⟩ := G'.inst
  have C' := G'.clock
  clear G
  have a_self : m1 (PySem.Str.ofString "self") = some (.ref x) := (hm1 _).trans rfl
  have a_key : m1 (PySem.Str.ofString "key") = some (.str k kt) := (hm1 _).trans rfl
  have a_expiry : m1 (PySem.Str.ofString "expiry") = some (.int wd tw) := (hm1 _).trans rfl
  clear hm1
  have hbV : 201 ≤ dV := Nat.le_trans hlo (Nat.le_of_lt (Nat.lt_trans olo oXV))
  have hT' : TabIn g' 90 68 qMov ps [] := (hT.keeps hkept (by k_extra "k_offs")).tabIn
  clear hT
  k_steps
  rename_i v hv h2 F2 N2
  have hv2 : ∃ (a : Addr) (vs : List Value), v = .ref a ∧ vs.length = l.length ∧ h2.IsList a vs.toArray ∧ (l ≠ [] → EvAt w g' dV a l ∧ g'.IsList a vs.toArray ∧ ∀ (i : Nat) q, l[i]? = some q → ∃ r : Addr, vs[i]? = some (Value.ref r) ∧ EntryAt w g' r q) := by
    cases hg : gV k with
    | none =>
      rw [hg] at hv hEv
      subst hEv
      exact ⟨_, [], hv, rfl, by kmk_list, fun e => absurd rfl e⟩
    | some a =>
      rw [hg] at hv hEv
      have hEv' := hEv.keeps hkept (by k_extra "k_offs")
      obtain ⟨vs, hvs, hlen, hev⟩ := hEv'.plain
      exact ⟨a, vs, hv, hlen, listH F2 hvs, fun _ => ⟨hEv', hvs, hev⟩⟩
  clear hv
  obtain ⟨a, vs, rfl, hlen, hvs2, hne⟩ := hv2
  refine wpAny_truthy_list hvs2 (by simp; omega) ?_
  clear hvs2
  cases l with
  | nil =>
    obtain rfl : vs = [] := List.eq_nil_of_length_eq_zero hlen
    rw [if_neg (show ¬ (!([] : List Value).toArray.isEmpty) = true by simp)]
    k_steps
    rename News h₀ L _ _ => kN
    rename Fr g' L' _ _ => kF'
    have hK := kept_less (N _ mV).1 hkept kF' (kN (dV, oV) (by k_mem)).1
    rename News g' L' _ _ => kN'
    exact h _ _ ps _ _ 0 _ _ [] (by assumption) (by rw [List.append_nil]; exact news_one N U hK (kN (141, tabObj ps) (by k_mem))) (News.isTup kN (.head _)) (.inl ⟨rfl, rfl⟩) (fun q hq => nomatch hq) (Nat.zero_le _) (fun i q hq => by simp at hq) (fun _ => rfl) (fun q hq => absurd hq (Nat.lt_irrefl 0))
  | cons q0 l0 =>
    obtain ⟨hEv', hvs, hev⟩ := hne (by simp)
    clear hne
    obtain ⟨v0, vs0, rfl⟩ : ∃ v0 vs0, vs = v0 :: vs0 := by cases vs with | nil => cases hlen | cons v0 vs0 => exact ⟨_, _, rfl⟩
    rw [if_pos (show (!(v0 :: vs0).toArray.isEmpty) = true by simp)]
    k_steps
    show wpAny _ _ _ _ _ _
    refine bisect_in (b := true) (by assumption) (by assumption) (by assumption) (by assumption) (by assumption) rfl rfl rfl rfl (by show _ ≤ 890; k_extra "k_dp") ⟨_, _, _, _, _, _, _, _, hfl, hrl⟩ (hEv'.all (Fr.keep (by assumption))) hl (fun i j q r hij h1 h2 => Int.neg_le_neg (hs i j q r hij h1 h2)) ?_
    intro h3 tk3 n3 tv3 F3 N3 K3 hn3 hlt3
    have ltV := fun q hq => ltl q hq (dV, oV) (by k_mem)
    have lt1 := fun q hq => ltl q hq (141, tabObj ps) (by k_mem)
    clear hfl hrl ltl
    k_steps
    refine ev_prev (listH (by assumption) hvs) hlen hev (by simp) hn3 hl ?_
    intro r3 q3 hE3 hq3
    obtain ⟨d3, u1, u2, u3, u4, I3⟩ := hE3
    k_steps
    rename News h₀ L _ _ => kN
    rename Fr g' L' _ _ => kF'
    have hK := kept_less (N _ mV).1 hkept kF' (kN (dV, oV) (by k_mem)).1
    rename News g' L' _ _ => kN'
    have up2 := fun q (hq : q ∈ lsl) => up_new F hkept kN' (q := q) (by repeat (first | exact hq | refine List.Mem.tail _ ?_)) (off2 (Nat.ne_of_gt (ltV q hq)) (Nat.ne_of_gt (lt1 q hq)))
    exact h _ _ psl _ _ n3 _ _ lsl (by assumption) (fun q hq => (List.mem_append.mp hq).elim (fun hq => news_one N U hK (kN (141, tabObj psl) (by k_mem)) q hq) fun hq => (up2 q hq).1) (News.isTup kN (.head _)) hnt (fun q hq => ⟨(up2 q hq).2, ltV q hq⟩) hn3 (fun i q hq => (hlt3 i q hq).trans neg_cut) (fun q => by cases q) (fun q hp hq => by have := hq3 hp; rw [hq] at this; cases this; rfl)

end Moving
section Acquire
variable {prog : Program} {w : World} {A₀ A : Around} {base h₀ : Heap} {outer : List Env} {env : Env} {L : Addr} {m mg mb : PySem.Str → Option Value}
  {p : Program} {loose : List PySem.Str} {mean : ExcName → Option Value} {s : Shared} {news : List (Addr × Obj)} {E : Value → Shared → Prop}
theorem words_Acquire : True := by
  k_with_none
  w_top off
  (k_with "k_steps" => repeat' (first | (k_unfold; (try dsimp only)) | (k_end; wrow_close) | (dsimp only; walk1) | walk1 | (leave1; walk_say "STEP leave1"; try dsimp only) | fail "no step"))
  (k_with "k_lt" => first | (intro hlt9; (with_reducible rename NodT _ _ => hNdZ); have hNd2 := nod_new hNdZ hlt9 rfl; replace hlt9 := allLt_of hlt9; simp only [AllLt, and_true] at hlt9; revert hNd2 hlt9; intro _) | (intro hlt9; replace hlt9 := allLt_of hlt9; simp only [AllLt, and_true] at hlt9; revert hlt9) | fail)
  (k_with "k_off1" => first | exact Or.inl (by assumption) | exact Nat.le_refl _ | exact Nat.le_of_lt (by assumption) | exact Or.inr (Nat.le_trans (m := 201) (by decide) (by assumption)) | exact Nat.le_trans (m := 201) (by decide) (by assumption) | omega | fail)
  (k_with "k_offs" => first | (refine List.forall_mem_cons.mpr ⟨?_, ?_⟩; (try dsimp only); (k_extra "k_off1"); (k_extra "k_offs")) | exact (fun _ h => absurd h List.not_mem_nil) | fail)
  (k_with "k_cj" => with_reducible first | assumption | exact And.left (by assumption) | exact And.left (And.right (by assumption)) | exact And.left (And.right (And.right (by assumption))) | exact And.left (And.right (And.right (And.right (by assumption)))) | exact And.left (And.right (And.right (And.right (And.right (by assumption))))) | exact And.left (And.right (And.right (And.right (And.right (And.right (by assumption)))))) | exact And.right (by assumption) | exact And.right (And.right (by assumption)) | exact And.right (And.right (And.right (by assumption))) | exact And.right (And.right (And.right (And.right (by assumption)))) | exact And.right (And.right (And.right (And.right (And.right (by assumption))))) | fail)
  (k_with "k_dp" => first | exact Nat.le_trans (by assumption) (by decide) | exact Nat.le_trans (Nat.succ_le_succ (by assumption)) (by decide) | exact Nat.lt_of_le_of_lt (by assumption) (by decide) | exact Nat.lt_of_le_of_lt (Nat.succ_le_succ (by assumption)) (by decide) | exact Nat.le_trans (Nat.succ_le_succ (Nat.succ_le_succ (by assumption))) (by decide) | exact Nat.lt_of_le_of_lt (Nat.succ_le_succ (Nat.succ_le_succ (by assumption))) (by decide) | (simp only [depth_mark, depth_under_make, depth_under_kw, depth_in1, depth_deeper]; omega) | fail)
  (k_with "k_mem" => first | exact AtU.head | (apply AtU.tail; k_mem) | (refine' PairIn.head ?_; k_mem) | (refine' PairIn.tail ?_; k_mem) | fail)
  (k_with "k_ne" => first | (refine' ne_d1 ?zH ?zP; (case zH => assumption); (case zP => k_mem)) | (refine' ne_d2 ?zH ?zP; (case zH => assumption); (case zP => k_mem)) | exact Nat.ne_of_gt (by (try dsimp only); k_extra "k_cj") | exact Nat.ne_of_lt (by (try dsimp only); k_extra "k_cj") | (refine neN ?_; (try dsimp only); omega) | fail)
  (k_with "k_updF" => first | (refine' updF_at ?zA ?zH ?ze ?zm; (case zA => k_mem); (case zH => assumption); (case ze => rfl); (case zm => k_mem)) | (refine' UpdF.head ?za; (case za => k_all)) | (refine' UpdF.tail ?za ?zb; (case za => k_ne); (case zb => k_updF)) | fail)
  (k_with "k_inst" => first | (refine' instH ?zF ?zI; (case zF => k_asm); (case zI => assumption)) | fail)
  (k_with "k_room" => first | (show _ < 1000; k_extra "k_dp") | fail)
  (k_with "is_list" => first | (refine' listH ?zF ?zI; (case zF => k_asm); (case zI => assumption)) | fail)
  (k_with "call ref" => (k_here; (with_reducible show wpAny _ _ (call (Value.ref _) [] []) _ _ _); k_dflt (refine' clock_in ?zF ?zX ?zN ?zT ?zr ?zC ?_; (case zF => k_asm); (case zC => assumption); (case zX => k_asm); (case zN => k_asm); (case zT => k_asm); (case zr => k_room)); intro _ _ _ _ _ _))
  (k_with "getMethod ref" => (k_here; (with_reducible show wpAny _ _ (getMethod (Value.ref _) (Str.ofString "get") _) _ _ _); k_dflt (refine' dsd_method PySem.F.slot_dict_get PySem.F.type_dict_get ?zN ?zm ?zD ?_; (case zN => k_asm); (case zm => k_mem); (case zD => k_asm))))
  (k_with "getMethod ref" => (k_here; (with_reducible show wpAny _ _ (getMethod (Value.ref _) (Str.ofString "pop") _) _ _ _); k_dflt (refine' dsd_method PySem.F.slot_dict_pop PySem.F.type_dict_pop ?zN ?zm ?zD ?_; (case zN => k_asm); (case zm => k_mem); (case zD => k_asm))))
  (k_with "getMethod ref" => (k_here; (with_reducible show wpAny _ _ (getMethod (Value.ref _) (Str.ofString "setdefault") _) _ _ _); k_dflt (refine' dsd_method PySem.F.slot_dict_setdefault PySem.F.type_dict_setdefault ?zN ?zm ?zD ?_; (case zN => k_asm); (case zm => k_mem); (case zD => k_asm))))
  (k_with "getMethod ref" => (k_here; (with_reducible show wpAny _ _ (getMethod (Value.ref _) (Str.ofString "clear") _) _ _ _); k_dflt (refine' dsd_method PySem.F.slot_dict_clear PySem.F.type_dict_clear ?zN ?zm ?zD ?_; (case zN => k_asm); (case zm => k_mem); (case zD => k_asm))))
  (k_with "getMethod ref" => (k_here; (with_reducible show wpAny _ _ (getMethod (Value.ref _) (Str.ofString "clock") _) _ _ _); k_dflt (refine' kmu_own ?zk1 ?zk2 ?zk3 ?zk4 ?zk5 ?_; (case zk1 => k_asm); (case zk2 => k_asm); (case zk3 => k_inst); (case zk4 => k_is); (case zk5 => k_is); k_whole)))
  (k_with "getAttr ref" => (k_here; k_dflt (refine' get_own ?zk1 ?zk2 ?zk3 ?zk4 ?zk5 ?zk6 ?zk7 ?zk8 ?zk9 ?_; (case zk1 => k_asm); (case zk2 => k_asm); (case zk3 => k_inst); (case zk4 => k_is); (case zk5 => k_is); (case zk6 => k_is); (case zk7 => k_is); (case zk8 => k_get); (case zk9 => k_handed); k_whole)))
  (k_with "call builtin:dict.get" => (k_here; k_dflt (refine' dsd_get ?zN ?zm ?zD ?zlo ?_; (case zN => k_asm); (case zm => k_mem); (case zD => k_asm); (case zlo => k_asm)); intro _ _))
  (k_with "call builtin:dict.get" => (k_here; (with_reducible show wpAny _ _ (call (Value.builtin _) [Value.ref _, Value.str _ _, Value.int _ _]) _ _ _); k_dflt (refine' isd_get ?zN ?zm ?zD ?zlo ?_; (case zN => k_asm); (case zm => k_mem); (case zD => k_asm); (case zlo => k_asm)); intro _))
  (k_with "call builtin:dict.pop" => (k_here; k_dflt (refine' dsd_pop ?zF ?zN ?zU ?zD ?zlo ?_; (case zF => k_asm); (case zN => k_asm); (case zU => k_updF); (case zD => k_asm); (case zlo => k_asm)); intro _ _ _ _ _ _ _))
  (k_with "call builtin:dict.clear" => (k_here; k_dflt (refine' dsd_clear ?zF ?zN ?zU ?zD ?_; (case zF => k_asm); (case zN => k_asm); (case zU => k_updF); (case zD => k_asm)); intro _ _ _ _ _))
  (k_with "call builtin:len" => (k_here; (with_reducible show wpAny _ _ (call (Value.builtin "len") [Value.ref _]) _ _ _); k_dflt (refine' dsd_len_call ?zN ?zm ?zD ?zlo ?_; (case zN => k_asm); (case zm => k_mem); (case zD => k_asm); (case zlo => k_asm)); intro _ _))
  (k_with "callWith ref" => (k_here; (with_reducible show wpAny _ _ (callWith _ _ _ (backTo _ (starEach [] _)) []) _ _ _); k_dflt (refine' callWith_F0 ?zk1 ?_; (case zk1 => exact fnClock (by k_asm) (by assumption)); k_whole); (try dsimp only [List.nil_append, List.cons_append])))
  (k_with "setItem ref str" => (k_here; k_dflt (refine' dsd_set ?zF ?zN ?zU ?zD ?zk ?zx ?_; (case zF => k_asm); (case zN => k_asm); (case zU => k_updF); (case zD => k_asm); (case zk => k_asm); (case zx => first | exact ⟨_, rfl⟩ | exact rfl)); intro _ _ _ _ _))
  (k_with "subscriptTail" => (k_here; (with_reducible show wpAny _ _ (subscriptTail _ _ (Value.ref _) (Value.str _ _)) _ _ _); k_dflt (refine' isd_item ?zN ?zm ?zD ?zx ?_; (case zN => k_asm); (case zm => k_mem); (case zD => k_asm); (case zx => first | exact upd_self _ _ _ | assumption)); intro _))
  (k_with "eval Name" => (k_here; k_dflt (refine' nameX_L ?zF ?zv ?_ ?za ?zb; (case za => rfl); (case zb => rfl); (case zF => k_asm); (case zv => first | rfl | assumption); k_whole)))
  (k_with "call builtin:len" => (k_here; (with_reducible show wpAny _ _ (call (Value.builtin "len") [Value.ref _]) _ _ _); k_dflt (refine' len_lst ?zl ?zn ?zb ?_; (case zl => is_list); (case zn => assumption); (case zb => omega); k_whole); intro _))
  (k_with "exec While Compare cons nil" => (k_here; refine stopW ?_))
  (k_with "subscriptTail" => (k_here; (with_reducible show wpAny _ _ (subscriptTail _ _ (Value.ref _) (Value.str _ _)) _ _ _); k_dflt (refine' asd_item ?zN ?zm ?zD ?zx ?_; (case zN => k_asm); (case zm => k_mem); (case zD => k_asm); (case zx => first | exact upd_self _ _ _ | assumption))))
  (k_with "call ref" => (k_here; (with_reducible show wpAny _ _ (call (Value.ref 117) [Value.ref _, Value.str _ _] []) _ _ _); k_dflt (refine' get_in ?zB ?zF ?zX ?zN ?zT ?zA ?zhh ?zf ?zk ?zr ?zG ?zU1 ?zU2 ?zDS ?zDE ?_; (case zF => k_asm); (case zG => exact Geo.all (by assumption) (Fr.keep (by k_asm))); (case zB => k_asm); (case zX => k_asm); (case zN => k_asm); (case zT => k_asm); (case zA => exact rfl); (case zhh => exact rfl); (case zf => exact rfl); (case zk => exact rfl); (case zr => (show _ ≤ 900; k_extra "k_dp")); (case zU1 => k_updF); (case zU2 => (intro _; (try dsimp only); k_updF)); (case zDS => k_asm); (case zDE => k_asm)); intro _ _ _ _ _ _ _ _ _ _))
  (k_with "callWith ref" => (k_here; k_dflt (refine' callWith_F ?zk1 ?_; (case zk1 => exact NegAt.fn (NegAt.keeps (by assumption) (Fr.keep (by k_asm)))); k_whole)))
  (k_with "call ref" => (k_here; (with_reducible show wpAny _ _ (call (Value.ref 52) _ _) _ _ _); refine stopW ?_))
  (k_with "call builtin:dict.setdefault" => (k_here; refine stopW ?_))
  (k_with "eval Lambda" => (k_here; k_dflt (refine' lam_in ?zF ?zN ?zT ?zC ?zcd ?zU ?zhps ?zhsub ?zcl ?zdf ?_; (case zF => k_asm); (case zN => k_asm); (case zT => k_asm); (case zcd => exact rfl); (case zC => kn_code); (case zU => k_updF); (case zhps => assumption); (case zhsub => (intro _ hq; first | (exact absurd hq List.not_mem_nil) | (repeat (first | exact hq | refine List.Mem.tail _ ?_)))); (case zcl => exact rfl); (case zdf => exact rfl); k_whole); intro fl cl ct psl lsl hpl tkl Fl Nl hfl hrl hnt ltl; (simp only [List.cons_append, List.nil_append] at Nl)))
  (k_with "call ref" => (k_here; (with_reducible show wpAny _ _ (call (Value.ref 69) _ _) _ _ _); k_dflt (refine' entry_in ?zF ?zX ?zN ?zT ?zr ?_; (case zF => k_asm); (case zX => k_asm); (case zN => k_asm); (case zT => k_asm); (case zr => (show _ ≤ 890; k_extra "k_dp"))); intro r9 d9 _ _ _ _ _ _ _ _ l1 l2; (try k_lt l1); (replace l2 : @LT.lt Nat instLTNat d9 r9 := l2)))
  (k_with "binaryOp Mult ref int" => (k_here; (with_reducible show wpAny _ _ (binaryOp Operator.Mult (Value.ref _) (Value.int _ _)) _ _ _); k_dflt (refine' KMa.mul ?zF ?zN ?zl ?zlo ?zhi ?z ?ze ?_; (case zF => k_asm); (case zN => k_asm); (case zl => is_list); (case zlo => omega); (case zhi => omega); (case z => (simp only [List.length_cons, List.length_nil]; omega)); (case ze => exact flat1 _ _)); intro _ _ _ _ l1; (try k_lt l1)))
  (k_with "binaryOp Add ref ref" => (k_here; (with_reducible show wpAny _ _ (binaryOp _ (Value.ref _) (Value.ref _)) _ _ _); k_dflt (refine' kmk_add_lit ?zF ?zN ?za ?zb ?ze ?_ ?z; (case zF => k_asm); (case zN => k_asm); (case za => first | kmk_list | is_list); (case zb => first | kmk_list | is_list); (case ze => exact rfl); (case z => (simp only [sizeLine, List.toList_toArray, List.length_replicate, List.length_nil, List.length_cons]; omega))); intro _ _ _ _ l1; (try k_lt l1)))
  trivial
def LeaveT (h₀ : Heap) (L : Addr) (m : PySem.Str → Option Value) (g : Heap) (oL : Obj) (R : Result → Shared → Prop) (v : Value) (s' : Shared) : Prop :=
  (∃ sl L' m', Fr g L' s'.heap m' ∧ s'.heap.get? L = some { oL with slots := sl }) ∧ (Fr h₀ L s'.heap m → R (.ok (.ret v)) s')
/-- a def of the text called, the caller's frame in the ledger too: for a def that catches -/
theorem def_inT {K : Frag} {R : Result → Shared → Prop} {name qual : PySem.Str} {params : Arguments} {body : List Stmt} {scope : Scope} {dV kV doc pm cdv ct oc : Value} {an od : Option Addr} {osl : Array (Option Value)} {f : Addr} {args : Args} {binds : List (PySem.Str × Value)}
    (F : Fr h₀ L s.heap m) (X₀ : K.In h₀) (N : News h₀ L s.heap news) (T : Top p loose mean mg mb h₀) (hf : env.frame = some L) (hke : env.scope.kind = .function)
    (ho : K.lookup f = some ⟨oc, od, .func (fnOf name qual params body scope dV kV doc pm an cdv ct), osl⟩) (hcd : codeIn K cdv qual = true) (hroom : A.depth < recursionLimit)
    (hbind : BindsTo s (fnOf name qual params body scope dV kV doc pm an cdv ct) args binds) (hloc : ∀ y ∈ binds, scope.names.lookup y.1 = some .local)
    (h : ∀ g L' h₁ oL m₁, (∀ y, m₁ y = binds.reverse.lookup y) → Fr g L' h₁ m₁ → News g L' h₁ (news ++ [(L, oL)]) → PyProof.Rows.TI.Frs [env] [(L, oL)] → K.In g → Top p loose mean mg mb g →
      Kept (L :: news.map (·.1)) s.heap g → (∀ q ∈ news, q.1 < L') → L < L' →
      wpAny (model prog w) (A.deeper (envOf qual scope L' f cdv)) (execs body (envOf qual scope L' f cdv))
        (fun fl s' => LeaveT h₀ L m g oL R (match fl with | .ret v => v | _ => .none) s')
        (fun e s' => wpAny (model prog w) (A.deeper (envOf qual scope L' f cdv)) (leaving (envOf qual scope L' f cdv) e) (fun _ s'' => R (.error e) s'') (fun e' s'' => R (.error e') s'') s')
        { s with heap := h₁, toks := s.toks + binds.length })
    (hco : scope.isCoroutine = false) (hgen : scope.isGenerator = false) (hk : scope.kind = .function)
    (hcell : ∀ x ∈ scope.names, x.2 ≠ .cell) : codeAny (model prog w) A (.call (.ref f) args) R s := by
  obtain ⟨oL, es, ep, hL, hLd, hLk⟩ := F.ns
  have hLs := Heap.lt_size hL
  have nL : h₀.get? L = none := by
    cases q : h₀.get? L with
    | none => rfl
    | some o => exact absurd (Nat.lt_of_lt_of_le (Heap.lt_size q) F.above) (Nat.lt_irrefl _)
  have nm : ∀ b o, h₀.get? b = some o → b ∉ L :: news.map (·.1) := fun b o e q => by
    rcases List.mem_cons.mp q with rfl | q
    · rw [nL] at e; cases e
    · obtain ⟨p, hp, rfl⟩ := List.mem_map.mp q
      rw [(N p hp).2.2] at e; cases e
  have st : h₀.StaysIn (hideAll s.heap (L :: news.map (·.1))) := fun b o e => hideAll_get _ (F.keep b o e) (nm b o e)
  refine codeAny_call_def (fd := fnOf name qual params body scope dV kV doc pm an cdv ct) (body := body) (binds := binds) hroom ((X₀.keeps F.keep) _ _ ho) rfl (T.nolimit.keeps F.keep) (codeRec_of (X₀.keeps F.keep) hcd) rfl hbind hcell hloc (fun h₁ hns hk₁ => ?_) hco hgen hk
  refine wpAny_mono (h (hideAll s.heap (L :: news.map (·.1))) s.heap.objs.size h₁ oL _ (fun _ => rfl) ⟨hns, fun b o e => hk₁ b o (of_hideAll _ e), Nat.le_of_eq (hideAll_size _ _)⟩ (fun q hq => ?_)
    ⟨by rw [hke]; decide, hf, ⟨es, ep, hLd⟩, trivial⟩ (X₀.keeps fun b o e => show (hideAll s.heap (L :: news.map (·.1))).get? b = some o from st b o e) (T.keeps fun b o e => show (hideAll s.heap (L :: news.map (·.1))).get? b = some o from st b o e) (fun b o hb e => hideAll_get _ e hb) (fun q hq => Heap.lt_size (N q hq).1) hLs) (fun fl s' hl => ?_) fun _ _ y => y
  · rcases List.mem_append.mp hq with hq | hq
    · exact ⟨hk₁ _ _ (N q hq).1, Nat.ne_of_lt (Heap.lt_size (N q hq).1), hideAll_none _ (.tail _ (List.mem_map_of_mem hq))⟩
    · rw [List.mem_singleton.mp hq]
      exact ⟨hk₁ _ _ hL, Nat.ne_of_lt hLs, hideAll_none _ (.head _)⟩
  · obtain ⟨⟨sl, L', m', F', hL'⟩, k⟩ := hl
    exact k ⟨⟨_, es, ep, hL', hLd, hLk⟩, fun b o e => F'.keep b o (st b o e), F.above⟩
theorem news_oneL {h h' : Heap} {d : Addr} {o o' : Obj} {g : Obj → List (Addr × Obj)} (N : News h₀ L h news) (U : UpdF d o news g) (k : Kept [L, d] h h') (hd : h'.get? d = some o' ∧ d ≠ L ∧ h₀.get? d = none) : News h₀ L h' (g o') := by
  obtain ⟨pre, post, rfl, h1, a, b⟩ := U.split
  rw [h1]
  have one : ∀ q ∈ pre ++ (d, o) :: post, q.1 ≠ d → h'.get? q.1 = some q.2 ∧ q.1 ≠ L ∧ h₀.get? q.1 = none := fun q hq hne => ⟨k _ _ (by simp [hne, (N q hq).2.1]) (N q hq).1, (N q hq).2⟩
  intro q hq
  rcases List.mem_append.mp hq with hq | hq
  · exact one q (List.mem_append_left _ hq) (a q hq)
  · rcases List.mem_cons.mp hq with rfl | hq
    · exact hd
    · exact one q (List.mem_append_right _ (.tail _ hq)) (b q hq)
theorem upd_same {α : Type} {g : PySem.Str → Option α} {k : PySem.Str} {x : Option α} (h : g k = x) : upd g k x = g := by
  funext z
  by_cases e : z = k
  · subst e; rw [upd_self, h]
  · exact upd_ne _ _ e
theorem News.mem' {h : Heap} {a : Addr} {o : Obj} {l : List (Addr × Obj)} (N : News h₀ L h l) (hm : (a, o) ∈ l) : h.get? a = some o := (N _ hm).1
theorem EvAt.plain2 {h h' : Heap} {bd a : Nat} {l : List (Int × Int)} {S : List Addr} (x : EvAt w h bd a l) (k : Kept S h h') (hS : ∀ b : Nat, b ∈ S → b ≤ bd) :
    ∃ vs : List Value, h.IsList a vs.toArray ∧ h'.IsList a vs.toArray ∧ vs.length = l.length ∧ ∀ (i : Nat) q, l[i]? = some q → ∃ r : Addr, vs[i]? = some (Value.ref r) ∧ EntryAt w h' r q := by
  obtain ⟨ha, vs, h1, h2, h3⟩ := x
  refine ⟨vs, h1, ?_, h2, fun i q hq => ?_⟩
  · obtain ⟨o, ho, h4⟩ := h1
    exact ⟨o, k _ _ (fun m => Nat.not_le.mpr ha (hS a m)) ho, h4⟩
  · obtain ⟨v, e, x⟩ := h3 i q hq
    obtain ⟨r, rfl, y⟩ := (x.keeps k hS).entry
    exact ⟨r, e, y⟩
theorem cons3 {h : Heap} {a b c : Addr × Obj} {l : List (Addr × Obj)} (ha : h.get? a.1 = some a.2 ∧ a.1 ≠ L ∧ h₀.get? a.1 = none) (hb : h.get? b.1 = some b.2 ∧ b.1 ≠ L ∧ h₀.get? b.1 = none)
    (hc : h.get? c.1 = some c.2 ∧ c.1 ≠ L ∧ h₀.get? c.1 = none) (N : News h₀ L h l) : News h₀ L h (a :: b :: c :: l) := by
  intro q hq
  rcases List.mem_cons.mp hq with rfl | hq
  · exact ha
  rcases List.mem_cons.mp hq with rfl | hq
  · exact hb
  rcases List.mem_cons.mp hq with rfl | hq
  · exact hc
  exact N q hq
theorem dsd_setdef1 {α : Type} {R : Value → α → Prop} {d : Addr} {o : Obj} {g : PySem.Str → Option α} {gg : Obj → List (Addr × Obj)} {k : PySem.Str} {tk : Tok} {dflt : Value} {x : α} {Q : Value → Shared → Prop} (F : Fr h₀ L s.heap m) (N : News h₀ L s.heap news) (U : UpdF d o news gg) (D : DSD prog w R o g) (lo : (d == sysModules) = false) (hk : k ∈ KL) (hx : R dflt x)
    (h : ∀ h' o' x' v, R v x' → (g k = some x' ∨ g k = none ∧ x' = x) → Fr h₀ L h' m → News h₀ L h' (gg o') → DSD prog w R o' (upd g k (some x')) → Q v { s with heap := h', toks := s.toks + 1 }) :
    wpAny (model prog w) A (call (.builtin "dict.setdefault") [.ref d, .str k tk, dflt]) Q E s :=
  dsd_setdef F N U D lo hk hx (fun x' v e r => h s.heap o x' v r (.inl e) F (by obtain ⟨pre, post, rfl, hg, _⟩ := U.split; rw [hg]; exact N) (by rw [upd_same e]; exact D)) fun e h' o' F' N' D' => h h' o' x dflt hx (.inr ⟨e, rfl⟩) F' N' D'
def CutQ {α : Type} (R : α → Shared → Prop) : α → Shared → Prop := R
theorem cut_exec {α : Type} {M : Model} {t : Sem α} {Q : α → Shared → Prop} (R : α → Shared → Prop) (h1 : wpAny M A t (CutQ R) (fun _ _ => False) s) (h2 : ∀ v s', R v s' → Q v s') : wpAny M A t Q E s := wpAny_mono h1 h2 fun _ _ e => e.elim
theorem lim_sub {lim am : Int} (h : ¬ am > lim) (h0 : 0 < am) (h6 : lim ≤ 6) : 0 ≤ lim - am ∧ lim - am < 2 ^ 63 := ⟨Int.sub_nonneg.mpr (Int.not_lt.mp h), Int.lt_of_le_of_lt (Int.sub_le_self _ (Int.le_of_lt h0)) (Int.lt_of_le_of_lt h6 (by decide))⟩
theorem words_acq : True := by
  (k_with "exec Try" => (fail_if_success (with_reducible show wpAny _ _ _ (CutQ _) _ _)); refine stopW ?_)
  (k_with "exec If" => (with_reducible show wpAny _ _ (exec (Stmt.If (Expr.BoolOp _ _ _) _ _ _) _) _ _ _); refine stopW ?_)
  (k_with "is_list" => first | exact hL1 _ (Fr.keep (by k_asm)) (News.mem' (by k_asm) (by k_mem)) | fail)
  trivial
set_option maxHeartbeats 8000000 in
theorem acquire_in {lo x fk dS dE dV : Nat} {oV : Obj} {kt tl tw ta : Tok} {t wd lim am : Int} {k : PySem.Str} {gV : PySem.Str → Option Addr} {l : List (Int × Int)} {g1 : Obj → List (Addr × Obj)} {Q : Value → Shared → Prop}
    (F : Fr h₀ L s.heap m) (X₀ : (hd.heap_39 w.params).In h₀) (N : News h₀ L s.heap news) (T : Top p loose mean mg mb h₀)
    (hA : A.frames = some [env]) (hh : A.handled = none) (hf : env.frame = some L) (hke : env.scope.kind = .function) (hroom : A.depth ≤ 880)
    (ti2 : PySem.Str.ofString "IndexError" ∉ loose) (ti3 : PySem.Str.ofString "IndexError" ∉ (recsOf p).map (·.name)) (ti4 : PySem.Str.ofString "IndexError" ∉ (litsOf p).map (·.1)) (ti5 : PySem.Str.ofString "IndexError" ∉ (clssOf p loose).map (·.name))
    (G : Geo w s.heap lo x fk dS dE dV t) (hlo : (L : Nat) ≤ lo)
    (U : UpdF dV oV news g1) (hk : k ∈ KL)
    (DV : ASD prog w oV gV) (h0 : 0 < am) (hlim : lim ≤ 6)
    (hEv : match gV k with | none => l = [] | some a => EvAt w s.heap dV a l) (hl : l.length ≤ 1000)
    (hno : am > lim → ∀ h' tk', Fr h₀ L h' m → News h₀ L h' news → Q (.bool false) { s with heap := h', toks := tk' })
    (href : ∀ q, am ≤ lim → l[(lim - am).toNat]? = some q → t - wd ≤ q.1 → ∀ h' tk' oV', Fr h₀ L h' m → News h₀ L h' (g1 oV') → ASD prog w oV' gV → Q (.bool false) { s with heap := h', toks := tk' })
    (hyes : am ≤ lim → (∀ q, l[(lim - am).toNat]? = some q → q.1 < t - wd) → ∀ h' tk' oV' (a' r d : Nat) vs n u1 u2 u3 u4, Fr h₀ L h' m → News h₀ L h' ((a', W.listOf (List.replicate am.toNat (.ref r) ++ vs).toArray n) :: (r, instObj 69 d) :: (d, dictOf (entryEs w t (t + wd) u1 u2 u3 u4) 2) :: g1 oV') →
      ASD prog w oV' (upd gV k (some a')) → dV < a' → dV < r → dV < d → s.heap.get? a' = none → s.heap.get? r = none → s.heap.get? d = none → (match gV k with | none => vs = [] | some a => s.heap.IsList a vs.toArray) → Q (.bool true) { s with heap := h', toks := tk' }) :
    wpAny (model prog w) A (call (.ref 132) [.ref x, .str k kt, .int lim tl, .int wd tw, .int am ta]) Q E s := by
  have mV : (dV, oV) ∈ news := by obtain ⟨pre, post, rfl, _⟩ := U.split; simp
  have N₀ : News h₀ L s.heap [(dV, oV)] := fun q hq => by rw [List.mem_singleton.mp hq]; exact N _ mV
  obtain ⟨hd9, dp, fr, gs, un⟩ := A
  dsimp only at hA hh hroom
  subst hA
  subst hh
  refine wpAny_call ?_
  refine' def_inT F X₀ N₀ T hf hke ?k6 ?k7 ?k8 ?k9 ?kB ?_ ?c2 ?c3 ?c4 ?c5
  case k6 => k_is
  case k7 => k_is
  case k8 => exact Nat.lt_of_le_of_lt hroom (by decide)
  case k9 => first | exact BindsTo.of_eq rfl | exact binds_K (by k_in) rfl (by k_is) rfl rfl rfl
  case kB => exact locs rfl
  case c5 => decide
  case c2 => exact rfl
  case c3 => exact rfl
  case c4 => exact rfl
  intro g' L' h' oL m1 hm1 F' N' Frs' X' T' hkept hlt hLlt
  simp only [List.cons_append, List.nil_append] at N'
  dsimp only
  k_fold
  have olo : lo < x := G.low
  have ox : x < dS := G.hx
  have oSE : dS < dE := G.hS
  have oEV : dE < dV := G.hE
  have LdV : @LT.lt Nat instLTNat L dV := Nat.lt_of_le_of_lt hlo (Nat.lt_trans olo (Nat.lt_trans ox (Nat.lt_trans oSE oEV)))
  have loS := G.loS
  have loE := G.loE
  have loV := G.loV
  have G' := G.keeps hkept (by intro a ha; simp only [List.map_cons, List.map_nil, List.mem_cons, List.not_mem_nil, or_false] at ha; rcases ha with rfl | rfl; exact .inr hlo; exact .inl (Nat.lt_trans ox (Nat.lt_trans oSE oEV)))
  obtain ⟨dx, t1, t2, t3, t4, I'⟩ := G'.inst
  have C' := G'.clock
  clear G
  have a_self : m1 (PySem.Str.ofString "self") = some (.ref x) := (hm1 _).trans rfl
  have a_key : m1 (PySem.Str.ofString "key") = some (.str k kt) := (hm1 _).trans rfl
  have a_limit : m1 (PySem.Str.ofString "limit") = some (.int lim tl) := (hm1 _).trans rfl
  have a_expiry : m1 (PySem.Str.ofString "expiry") = some (.int wd tw) := (hm1 _).trans rfl
  have a_amount : m1 (PySem.Str.ofString "amount") = some (.int am ta) := (hm1 _).trans rfl
  clear hm1
  have hNd := nod2 (a := dV) (b := L) (Nat.ne_of_gt LdV)
  have gN : g1 oV = news := by obtain ⟨pre, post, rfl, h1, _⟩ := U.split; exact h1 oV
  k_steps
  · show LeaveT _ _ _ _ _ _ _ _
    refine ⟨⟨_, _, _, by assumption, (News.mem' (by assumption) (by k_mem) : _ = some oL)⟩, fun F9 => hno (by assumption) _ _ F9 (gN ▸ news_oneL N U (kept_of (by assumption) hkept) ⟨(News.mem' (by assumption) (by k_mem) : _ = some oV), Nat.ne_of_gt LdV, (N _ mV).2.2⟩)⟩
  show wpAny _ _ _ _ _ _
  have hle : ¬ am > lim := by assumption
  rename Addr => D
  refine dsd_setdef1 (x := D) (by assumption) (by assumption) (by k_updF) DV loV hk rfl ?_
  intro h1 o1 a1 v1 hx1 hor F1 N1 D1
  obtain rfl : v1 = .ref a1 := hx1
  (try dsimp only at N1)
  have hL : ∃ vs : List Value, (∀ h : Heap, (∀ b o, g'.get? b = some o → h.get? b = some o) → h.get? D = some (W.listOf #[] 0) → h.IsList a1 vs.toArray) ∧ vs.length = l.length ∧ (∀ (i : Nat) q, l[i]? = some q → ∃ r : Addr, vs[i]? = some (Value.ref r) ∧ EntryAt w g' r q) ∧ (match gV k with | none => vs = [] | some a => s.heap.IsList a vs.toArray) ∧ (l ≠ [] → gV k = some a1) := by
    rcases hor with e | ⟨e, rfl⟩
    · rw [e] at hEv ⊢
      obtain ⟨vs, hvs0, hvs, hlen, hev⟩ := hEv.plain2 hkept (by intro a ha; simp only [List.map_cons, List.map_nil, List.mem_cons, List.not_mem_nil, or_false] at ha; rcases ha with rfl | rfl; exact Nat.le_of_lt LdV; exact Nat.le_refl _)
      exact ⟨vs, fun h k _ => stays_list k hvs, hlen, hev, hvs0, fun _ => rfl⟩
    · rw [e] at hEv ⊢
      subst hEv
      exact ⟨[], fun h _ k => ⟨_, k, rfl, _, rfl⟩, rfl, fun i q h => by simp at h, rfl, fun h => absurd rfl h⟩
  obtain ⟨vs, hL1, hlen, hev, hvs0, hgk⟩ := hL
  clear hor hEv
  k_steps
  show wpAny _ _ _ _ _ _
  obtain ⟨R9, hR9⟩ : ∃ R9 : Flow → Shared → Prop, R9 = fun fl s' => fl = Flow.next ∧ ∃ h9 tk9 sl9 m9 ev9 u9, s' = { s with heap := h9, toks := tk9 } ∧ Fr g' L' h9 m9 ∧ News g' L' h9 [(D, W.listOf #[] 0), (dV, o1), (L, { oL with slots := sl9 })] ∧ m9 (PySem.Str.ofString "self") = some (.ref x) ∧ m9 (PySem.Str.ofString "key") = some (.str k kt) ∧ m9 (PySem.Str.ofString "expiry") = some (.int wd tw) ∧ m9 (PySem.Str.ofString "amount") = some (.int am ta) ∧ m9 (PySem.Str.ofString "timestamp") = some (.int t u9) ∧ m9 (PySem.Str.ofString "entry") = some ev9 ∧
    ((ev9 = .none ∧ l[(lim - am).toNat]? = none) ∨ ∃ r q, ev9 = .ref r ∧ EntryAt w g' r q ∧ l[(lim - am).toNat]? = some q) := ⟨_, rfl⟩
  refine cut_exec R9 ?_ ?_
  · k_steps
    show wpAny _ _ _ _ _ _
    by_cases hin : (lim - am).toNat < l.length
    · obtain ⟨r, hr, hE⟩ := hev _ _ (List.getElem?_eq_getElem hin)
      refine item_list (x := .ref r) (hL1 _ (Fr.keep (by assumption)) (News.mem' (by assumption) (by k_mem))) (lim_sub hle h0 hlim).1 (lim_sub hle h0 hlim).2 (by simpa using hr) ?_
      k_steps
      show R9 _ _
      rw [hR9]
      exact ⟨rfl, _, _, _, _, _, _, rfl, by assumption, by assumption, by assumption, by assumption, by assumption, by assumption, rfl, rfl, .inr ⟨r, _, rfl, hE, List.getElem?_eq_getElem hin⟩⟩
    · have hl1 : (_ : Heap).IsList a1 vs.toArray := hL1 _ (Fr.keep (by assumption)) (News.mem' (by assumption) (by k_mem))
      refine subscriptTail_builtin hl1.typeIs slot_list_getitem.lookup (wpAny_getItem_list_out (by exact rfl) hl1 (.inr ?o1) ?o2 ?o3 fun h' tk' e9 hx => ?_)
      case o1 => rw [List.size_toArray]; omega
      case o2 => first | exact (lim_sub hle h0 hlim).1 | exact (lim_sub hle h0 hlim).2 | omega
      case o3 => first | exact (lim_sub hle h0 hlim).2 | exact (lim_sub hle h0 hlim).1 | omega
      clear hl1
      k_steps
      refine TLg.noted_new1 (new := [_, _]) rfl Frs' (by assumption) (by assumption) (by assumption) ?ne ?_
      case ne => exact ⟨by k_ne, by k_ne, trivial⟩
      intro h1 sl1 Frs1 H1
      refine TT.HeldNA.land H1 ?_
      intro h2 H2
      refine TT.clause_hitTN H2 T' (by decide +kernel) ti2 ti3 ti4 ti5 ?_
      intro h3 F3 N3
      simp only [List.cons_append, List.nil_append] at N3
      k_steps
      show R9 _ _
      rw [hR9]
      exact ⟨rfl, _, _, _, _, _, _, rfl, by assumption, by assumption, by assumption, by assumption, by assumption, by assumption, rfl, rfl, .inl ⟨rfl, List.getElem?_eq_none_iff.mpr (Nat.le_of_not_lt hin)⟩⟩
  intro fl s9 hR
  rw [hR9] at hR
  clear hR9
  obtain ⟨rfl, h9, tk9, sl9, m9, ev9, u9, rfl, F9, N9, e1, e2, e3, e4, e5, e6, hR⟩ := hR
  clear hev
  show wpAny _ _ _ _ _ _
  k_steps
  show wpAny _ _ _ _ _ _
  obtain ⟨R8, hR8⟩ : ∃ R8 : Bool → Shared → Prop, R8 = fun b s' => ∃ h8 tk8, s' = { s with heap := h8, toks := tk8 } ∧ Fr g' L' h8 m9 ∧ News g' L' h8 [(D, W.listOf #[] 0), (dV, o1), (L, { oL with slots := sl9 })] ∧
    (match b with | true => ∃ q, l[(lim - am).toNat]? = some q ∧ t - wd ≤ q.1 | false => ∀ q, l[(lim - am).toNat]? = some q → q.1 < t - wd) := ⟨_, rfl⟩
  refine wpAny_If (cut_exec R8 ?_ ?_)
  · rcases hR with ⟨rfl, hn⟩ | ⟨r, q, rfl, hE, hq⟩
    · k_steps
      show R8 _ _
      rw [hR8]
      exact ⟨_, _, rfl, by assumption, by assumption, fun q e => by rw [hn] at e; cases e⟩
    · obtain ⟨d3, u1, u2, u3, u4, I3⟩ := hE
      k_steps
      · show R8 _ _
        rw [hR8]
        exact ⟨_, _, rfl, by assumption, by assumption, q, hq, by first | assumption | omega⟩
      · show R8 _ _
        rw [hR8]
        exact ⟨_, _, rfl, by assumption, by assumption, fun q' e => by rw [hq] at e; cases e; first | exact Int.not_le.mp (by assumption) | omega⟩
  intro b s8 hR
  rw [hR8] at hR
  clear hR8
  obtain ⟨h8, tk8, rfl, F8, N8, hR⟩ := hR
  clear F9 N9
  cases b with
  | true =>
    show wpAny _ _ _ _ _ _
    k_steps
    show LeaveT _ _ _ _ _ _ _ _
    obtain ⟨q, hq, hge⟩ := hR
    exact ⟨⟨_, _, _, by assumption, (News.mem' (by assumption) (by k_mem) : _ = some { oL with slots := sl9 })⟩, fun F9 => href q (Int.not_lt.mp hle) hq hge _ _ o1 F9 (news_oneL N U (kept_of (by assumption) hkept) ⟨(News.mem' (by assumption) (by k_mem) : _ = some o1), Nat.ne_of_gt LdV, (N _ mV).2.2⟩) (by rw [upd_same (hgk (fun e => by rw [e] at hq; simp at hq))] at D1; exact D1)⟩
  | false =>
    show wpAny _ _ _ _ _ _
    k_steps
    rename_i N9 D9
    show LeaveT _ _ _ _ _ _ _ _
    refine ⟨⟨_, _, _, by assumption, (N9 (L, _) (by k_mem)).1⟩, fun F9 => ?_⟩
    rw [upd_upd] at D9
    have y1 := up_new F hkept N9 (.head _) (by refine off2 ?_ ?_ <;> k_ne)
    have y2 := up_new F hkept N9 (.tail _ (.tail _ (.tail _ (.head _)))) (by refine off2 ?_ ?_ <;> k_ne)
    have y3 := up_new F hkept N9 (.tail _ (.tail _ (.tail _ (.tail _ (.head _))))) (by refine off2 ?_ ?_ <;> k_ne)
    refine hyes (Int.not_lt.mp hle) hR _ _ _ _ _ _ _ _ _ _ _ _ F9 (cons3 y1.1 y2.1 y3.1 (news_oneL N U (kept_of (by assumption) hkept) ⟨(N9 (dV, _) (by k_mem)).1, Nat.ne_of_gt LdV, (N _ mV).2.2⟩)) D9 ?n4 ?n5 ?n6 y1.2 y2.2 y3.2 hvs0
    case n4 => show @LT.lt Nat instLTNat _ _; first | k_extra "k_cj" | omega
    case n5 => show @LT.lt Nat instLTNat _ _; first | k_extra "k_cj" | omega
    case n6 => show @LT.lt Nat instLTNat _ _; first | k_extra "k_cj" | omega

end Acquire
section Keys
variable {prog : Program} {w : World} {A₀ A : Around} {base h₀ : Heap} {outer : List Env} {env : Env} {L : Addr} {m mg mb : PySem.Str → Option Value}
  {p : Program} {loose : List PySem.Str} {mean : ExcName → Option Value} {s : Shared} {news : List (Addr × Obj)} {E : Value → Shared → Prop}
theorem words_Keys : True := by
  k_with_none
  w_top off
  (k_with "k_steps" => repeat' (first | (k_unfold; (try dsimp only)) | (k_end; wrow_close) | (dsimp only; walk1) | walk1 | (leave1; walk_say "STEP leave1"; try dsimp only) | fail "no step"))
  (k_with "k_lt" => first | (intro hlt9; (with_reducible rename NodT _ _ => hNdZ); have hNd2 := nod_new hNdZ hlt9 rfl; replace hlt9 := allLt_of hlt9; simp only [AllLt, and_true] at hlt9; revert hNd2 hlt9; intro _) | (intro hlt9; replace hlt9 := allLt_of hlt9; simp only [AllLt, and_true] at hlt9; revert hlt9) | fail)
  (k_with "k_off1" => first | exact Or.inl (by assumption) | exact Nat.le_refl _ | exact Nat.le_of_lt (by assumption) | exact Or.inr (Nat.le_trans (m := 201) (by decide) (by assumption)) | exact Nat.le_trans (m := 201) (by decide) (by assumption) | omega | fail)
  (k_with "k_offs" => first | (refine List.forall_mem_cons.mpr ⟨?_, ?_⟩; (try dsimp only); (k_extra "k_off1"); (k_extra "k_offs")) | exact (fun _ h => absurd h List.not_mem_nil) | fail)
  (k_with "k_cj" => with_reducible first | assumption | exact And.left (by assumption) | exact And.left (And.right (by assumption)) | exact And.left (And.right (And.right (by assumption))) | exact And.left (And.right (And.right (And.right (by assumption)))) | exact And.left (And.right (And.right (And.right (And.right (by assumption))))) | exact And.left (And.right (And.right (And.right (And.right (And.right (by assumption)))))) | exact And.right (by assumption) | exact And.right (And.right (by assumption)) | exact And.right (And.right (And.right (by assumption))) | exact And.right (And.right (And.right (And.right (by assumption)))) | exact And.right (And.right (And.right (And.right (And.right (by assumption))))) | fail)
  (k_with "k_dp" => first | exact Nat.le_trans (by assumption) (by decide) | exact Nat.le_trans (Nat.succ_le_succ (by assumption)) (by decide) | exact Nat.lt_of_le_of_lt (by assumption) (by decide) | exact Nat.lt_of_le_of_lt (Nat.succ_le_succ (by assumption)) (by decide) | exact Nat.le_trans (Nat.succ_le_succ (Nat.succ_le_succ (by assumption))) (by decide) | exact Nat.lt_of_le_of_lt (Nat.succ_le_succ (Nat.succ_le_succ (by assumption))) (by decide) | (simp only [depth_mark, depth_under_make, depth_under_kw, depth_in1, depth_deeper]; omega) | fail)
  (k_with "k_mem" => first | exact AtU.head | (apply AtU.tail; k_mem) | (refine' PairIn.head ?_; k_mem) | (refine' PairIn.tail ?_; k_mem) | fail)
  (k_with "k_ne" => first | (refine' ne_d1 ?zH ?zP; (case zH => assumption); (case zP => k_mem)) | (refine' ne_d2 ?zH ?zP; (case zH => assumption); (case zP => k_mem)) | exact Nat.ne_of_gt (by (try dsimp only); k_extra "k_cj") | exact Nat.ne_of_lt (by (try dsimp only); k_extra "k_cj") | (refine neN ?_; (try dsimp only); omega) | fail)
  (k_with "k_updF" => first | (refine' updF_at ?zA ?zH ?ze ?zm; (case zA => k_mem); (case zH => assumption); (case ze => rfl); (case zm => k_mem)) | (refine' UpdF.head ?za; (case za => k_all)) | (refine' UpdF.tail ?za ?zb; (case za => k_ne); (case zb => k_updF)) | fail)
  (k_with "k_inst" => first | (refine' instH ?zF ?zI; (case zF => k_asm); (case zI => assumption)) | fail)
  (k_with "k_room" => first | (show _ < 1000; k_extra "k_dp") | fail)
  (k_with "is_list" => first | (refine' listH ?zF ?zI; (case zF => k_asm); (case zI => assumption)) | fail)
  (k_with "call ref" => (k_here; (with_reducible show wpAny _ _ (call (Value.ref _) [] []) _ _ _); k_dflt (refine' clock_in ?zF ?zX ?zN ?zT ?zr ?zC ?_; (case zF => k_asm); (case zC => assumption); (case zX => k_asm); (case zN => k_asm); (case zT => k_asm); (case zr => k_room)); intro _ _ _ _ _ _))
  (k_with "getMethod ref" => (k_here; (with_reducible show wpAny _ _ (getMethod (Value.ref _) (Str.ofString "get") _) _ _ _); k_dflt (refine' dsd_method PySem.F.slot_dict_get PySem.F.type_dict_get ?zN ?zm ?zD ?_; (case zN => k_asm); (case zm => k_mem); (case zD => k_asm))))
  (k_with "getMethod ref" => (k_here; (with_reducible show wpAny _ _ (getMethod (Value.ref _) (Str.ofString "pop") _) _ _ _); k_dflt (refine' dsd_method PySem.F.slot_dict_pop PySem.F.type_dict_pop ?zN ?zm ?zD ?_; (case zN => k_asm); (case zm => k_mem); (case zD => k_asm))))
  (k_with "getMethod ref" => (k_here; (with_reducible show wpAny _ _ (getMethod (Value.ref _) (Str.ofString "setdefault") _) _ _ _); k_dflt (refine' dsd_method PySem.F.slot_dict_setdefault PySem.F.type_dict_setdefault ?zN ?zm ?zD ?_; (case zN => k_asm); (case zm => k_mem); (case zD => k_asm))))
  (k_with "getMethod ref" => (k_here; (with_reducible show wpAny _ _ (getMethod (Value.ref _) (Str.ofString "clear") _) _ _ _); k_dflt (refine' dsd_method PySem.F.slot_dict_clear PySem.F.type_dict_clear ?zN ?zm ?zD ?_; (case zN => k_asm); (case zm => k_mem); (case zD => k_asm))))
  (k_with "getMethod ref" => (k_here; (with_reducible show wpAny _ _ (getMethod (Value.ref _) (Str.ofString "clock") _) _ _ _); k_dflt (refine' kmu_own ?zk1 ?zk2 ?zk3 ?zk4 ?zk5 ?_; (case zk1 => k_asm); (case zk2 => k_asm); (case zk3 => k_inst); (case zk4 => k_is); (case zk5 => k_is); k_whole)))
  (k_with "getAttr ref" => (k_here; k_dflt (refine' get_own ?zk1 ?zk2 ?zk3 ?zk4 ?zk5 ?zk6 ?zk7 ?zk8 ?zk9 ?_; (case zk1 => k_asm); (case zk2 => k_asm); (case zk3 => k_inst); (case zk4 => k_is); (case zk5 => k_is); (case zk6 => k_is); (case zk7 => k_is); (case zk8 => k_get); (case zk9 => k_handed); k_whole)))
  (k_with "call builtin:dict.get" => (k_here; k_dflt (refine' dsd_get ?zN ?zm ?zD ?zlo ?_; (case zN => k_asm); (case zm => k_mem); (case zD => k_asm); (case zlo => k_asm)); intro _ _))
  (k_with "call builtin:dict.get" => (k_here; (with_reducible show wpAny _ _ (call (Value.builtin _) [Value.ref _, Value.str _ _, Value.int _ _]) _ _ _); k_dflt (refine' isd_get ?zN ?zm ?zD ?zlo ?_; (case zN => k_asm); (case zm => k_mem); (case zD => k_asm); (case zlo => k_asm)); intro _))
  (k_with "call builtin:dict.pop" => (k_here; k_dflt (refine' dsd_pop ?zF ?zN ?zU ?zD ?zlo ?_; (case zF => k_asm); (case zN => k_asm); (case zU => k_updF); (case zD => k_asm); (case zlo => k_asm)); intro _ _ _ _ _ _ _))
  (k_with "call builtin:dict.clear" => (k_here; k_dflt (refine' dsd_clear ?zF ?zN ?zU ?zD ?_; (case zF => k_asm); (case zN => k_asm); (case zU => k_updF); (case zD => k_asm)); intro _ _ _ _ _))
  (k_with "call builtin:len" => (k_here; (with_reducible show wpAny _ _ (call (Value.builtin "len") [Value.ref _]) _ _ _); k_dflt (refine' dsd_len_call ?zN ?zm ?zD ?zlo ?_; (case zN => k_asm); (case zm => k_mem); (case zD => k_asm); (case zlo => k_asm)); intro _ _))
  (k_with "callWith ref" => (k_here; (with_reducible show wpAny _ _ (callWith _ _ _ (backTo _ (starEach [] _)) []) _ _ _); k_dflt (refine' callWith_F0 ?zk1 ?_; (case zk1 => exact fnClock (by k_asm) (by assumption)); k_whole); (try dsimp only [List.nil_append, List.cons_append])))
  (k_with "setItem ref str" => (k_here; k_dflt (refine' dsd_set ?zF ?zN ?zU ?zD ?zk ?zx ?_; (case zF => k_asm); (case zN => k_asm); (case zU => k_updF); (case zD => k_asm); (case zk => k_asm); (case zx => first | exact ⟨_, rfl⟩ | exact rfl)); intro _ _ _ _ _))
  (k_with "subscriptTail" => (k_here; (with_reducible show wpAny _ _ (subscriptTail _ _ (Value.ref _) (Value.str _ _)) _ _ _); k_dflt (refine' isd_item ?zN ?zm ?zD ?zx ?_; (case zN => k_asm); (case zm => k_mem); (case zD => k_asm); (case zx => first | exact upd_self _ _ _ | assumption)); intro _))
  (k_with "eval Name" => (k_here; k_dflt (refine' nameX_L ?zF ?zv ?_ ?za ?zb; (case za => rfl); (case zb => rfl); (case zF => k_asm); (case zv => first | rfl | assumption); k_whole)))
  (k_with "call builtin:len" => (k_here; (with_reducible show wpAny _ _ (call (Value.builtin "len") [Value.ref _]) _ _ _); k_dflt (refine' len_lst ?zl ?zn ?zb ?_; (case zl => is_list); (case zn => assumption); (case zb => omega); k_whole); intro _))
  (k_with "exec While Compare cons nil" => (k_here; refine stopW ?_))
  (k_with "subscriptTail" => (k_here; (with_reducible show wpAny _ _ (subscriptTail _ _ (Value.ref _) (Value.str _ _)) _ _ _); k_dflt (refine' asd_item ?zN ?zm ?zD ?zx ?_; (case zN => k_asm); (case zm => k_mem); (case zD => k_asm); (case zx => first | exact upd_self _ _ _ | assumption))))
  (k_with "call ref" => (k_here; (with_reducible show wpAny _ _ (call (Value.ref 117) [Value.ref _, Value.str _ _] []) _ _ _); k_dflt (refine' get_in ?zB ?zF ?zX ?zN ?zT ?zA ?zhh ?zf ?zk ?zr ?zG ?zU1 ?zU2 ?zDS ?zDE ?_; (case zF => k_asm); (case zG => exact Geo.all (by assumption) (Fr.keep (by k_asm))); (case zB => k_asm); (case zX => k_asm); (case zN => k_asm); (case zT => k_asm); (case zA => exact rfl); (case zhh => exact rfl); (case zf => exact rfl); (case zk => exact rfl); (case zr => (show _ ≤ 900; k_extra "k_dp")); (case zU1 => k_updF); (case zU2 => (intro _; (try dsimp only); k_updF)); (case zDS => k_asm); (case zDE => k_asm)); intro _ _ _ _ _ _ _ _ _ _))
  (k_with "callWith ref" => (k_here; k_dflt (refine' callWith_F ?zk1 ?_; (case zk1 => exact NegAt.fn (NegAt.keeps (by assumption) (Fr.keep (by k_asm)))); k_whole)))
  (k_with "call ref" => (k_here; (with_reducible show wpAny _ _ (call (Value.ref 52) _ _) _ _ _); refine stopW ?_))
  (k_with "call builtin:dict.setdefault" => (k_here; refine stopW ?_))
  (k_with "eval Lambda" => (k_here; k_dflt (refine' lam_in ?zF ?zN ?zT ?zC ?zcd ?zU ?zhps ?zhsub ?zcl ?zdf ?_; (case zF => k_asm); (case zN => k_asm); (case zT => k_asm); (case zcd => exact rfl); (case zC => kn_code); (case zU => k_updF); (case zhps => assumption); (case zhsub => (intro _ hq; first | (exact absurd hq List.not_mem_nil) | (repeat (first | exact hq | refine List.Mem.tail _ ?_)))); (case zcl => exact rfl); (case zdf => exact rfl); k_whole); intro fl cl ct psl lsl hpl tkl Fl Nl hfl hrl hnt ltl; (simp only [List.cons_append, List.nil_append] at Nl)))
  (k_with "call ref" => (k_here; (with_reducible show wpAny _ _ (call (Value.ref 69) _ _) _ _ _); k_dflt (refine' entry_in ?zF ?zX ?zN ?zT ?zr ?_; (case zF => k_asm); (case zX => k_asm); (case zN => k_asm); (case zT => k_asm); (case zr => (show _ ≤ 890; k_extra "k_dp"))); intro r9 d9 _ _ _ _ _ _ _ _ l1 l2; (try k_lt l1); (replace l2 : @LT.lt Nat instLTNat d9 r9 := l2)))
  (k_with "binaryOp Mult ref int" => (k_here; (with_reducible show wpAny _ _ (binaryOp Operator.Mult (Value.ref _) (Value.int _ _)) _ _ _); k_dflt (refine' KMa.mul ?zF ?zN ?zl ?zlo ?zhi ?z ?ze ?_; (case zF => k_asm); (case zN => k_asm); (case zl => is_list); (case zlo => omega); (case zhi => omega); (case z => (simp only [List.length_cons, List.length_nil]; omega)); (case ze => exact flat1 _ _)); intro _ _ _ _ l1; (try k_lt l1)))
  (k_with "binaryOp Add ref ref" => (k_here; (with_reducible show wpAny _ _ (binaryOp _ (Value.ref _) (Value.ref _)) _ _ _); k_dflt (refine' kmk_add_lit ?zF ?zN ?za ?zb ?ze ?_ ?z; (case zF => k_asm); (case zN => k_asm); (case za => first | kmk_list | is_list); (case zb => first | kmk_list | is_list); (case ze => exact rfl); (case z => (simp only [sizeLine, List.toList_toArray, List.length_replicate, List.length_nil, List.length_cons]; omega))); intro _ _ _ _ l1; (try k_lt l1)))
  trivial
theorem dsd_keys {α : Type} {R : Value → α → Prop} {d : Addr} {o : Obj} {g : PySem.Str → Option α} {Q : Value → Shared → Prop} (F : Fr h₀ L s.heap m) (N : News h₀ L s.heap news) (hp : (d, o) ∈ news) (D : DSD prog w R o g) (lo : (d == sysModules) = false)
    (h : ∀ (V : Addr) h', Fr h₀ L h' m → News h₀ L h' ((V, { cls := .type "dict_keys", data := .fields #[.ref d] }) :: news) → (∀ q ∈ news, q.1 < V) → Q (.ref V) { s with heap := h' }) :
    wpAny (model prog w) A (call (.builtin "dict.keys") [.ref d]) Q E s := by
  obtain ⟨kvs, hd, hkv, hv⟩ := D
  exact kdl_view_keys (knd := PySem.strKind _ _) F N hp hd lo h
/-- the keys that list(d.keys()) gives -/
def KeysOf {α : Type} (g : PySem.Str → Option α) (ks : List PySem.Str) (vs : List Value) : Prop :=
  ks.Nodup ∧ (∀ k ∈ ks, k ∈ KL) ∧ (∀ k, k ∈ ks ↔ ∃ x, g k = some x) ∧ vs.length = ks.length ∧ ∀ (i : Nat) (v : Value), vs[i]? = some v → ∃ k t, ks[i]? = some k ∧ v = Value.str k t
theorem valueAt_mem {kvs : List (PySem.Str × Value)} (k : PySem.Str) : (∃ v, valueAt kvs k = some v) ↔ k ∈ kvs.map (·.1) := by
  unfold valueAt
  constructor
  · rintro ⟨v, e⟩
    cases hq : kvs.find? (fun kv => kv.1 = k) with
    | none => rw [hq] at e; cases e
    | some x =>
      have h1 := List.find?_some hq
      have h2 := List.mem_of_find?_eq_some hq
      simp only [decide_eq_true_eq] at h1
      exact h1 ▸ List.mem_map_of_mem h2
  · intro hm
    obtain ⟨x, hx, rfl⟩ := List.mem_map.mp hm
    cases hq : kvs.find? (fun kv => kv.1 = x.1) with
    | none => exact absurd (List.find?_eq_none.mp hq x hx) (by simp)
    | some y => exact ⟨y.2, rfl⟩
theorem dsd_list {α : Type} {R : Value → α → Prop} {d V : Addr} {o : Obj} {g : PySem.Str → Option α} {Q : Value → Shared → Prop} (hh : A.handled = none) (F : Fr h₀ L s.heap m) (N : News h₀ L s.heap news) (hv : (V, { cls := .type "dict_keys", data := .fields #[.ref d] }) ∈ news) (hp : (d, o) ∈ news) (D : DSD prog w R o g)
    (h : ∀ (B : Addr) c h' tk ks vs, KeysOf g ks vs → Fr h₀ L h' m → News h₀ L h' ((B, W.listOf vs.toArray c) :: news) → (∀ q ∈ news, q.1 < B) → Q (.ref B) { s with heap := h', toks := tk }) :
    wpAny (model prog w) A (call (.type "list") [.ref V]) Q E s := by
  obtain ⟨kvs, hd, hkv, hg⟩ := D
  obtain ⟨ep, hat⟩ := (kda_dict N hp hd).dictAt
  have hn := dsd_len hd hkv
  have hnd : (kvs.map (·.1)).Nodup := by obtain ⟨_, _, _, _, _, _, hn⟩ := hd; exact hn
  refine kdl_N (kdl_keys (knd := PySem.strKind prog w) (kvs := kvs) (ep := ep)) hh F N ⟨⟨_, (N _ hv).1, rfl, rfl⟩, hat⟩ (kdl_size (by omega)) fun B c h' tk vs F' N' l1 hl hv => ?_
  refine h B c h' tk (kvs.map (·.1)) vs ⟨hnd, fun k hk => ?_, fun k => ?_, by rw [hl, List.length_map], fun j u hu => ?_⟩ F' N' l1
  · obtain ⟨x, hx, rfl⟩ := List.mem_map.mp hk
    exact hkv x hx
  · rw [← valueAt_mem]
    have := hg k
    split at this
    · rename_i e; rw [this, e]; simp
    · rename_i x e; obtain ⟨v, e2, _⟩ := this; rw [e, e2]; simp
  · obtain ⟨k, x, hx, hk⟩ := hv j u hu
    obtain ⟨t, rfl⟩ := Value.isStrOf_shape hk
    exact ⟨k, t, by rw [List.getElem?_map, hx]; rfl, rfl⟩

end Keys
section Items
variable {prog : Program} {w : World} {A₀ A : Around} {base h₀ : Heap} {outer : List Env} {env : Env} {L : Addr} {m mg mb : PySem.Str → Option Value}
  {p : Program} {loose : List PySem.Str} {mean : ExcName → Option Value} {s : Shared} {news : List (Addr × Obj)} {E : Value → Shared → Prop}
theorem words_Items : True := by
  k_with_none
  w_top off
  (k_with "k_steps" => repeat' (first | (k_unfold; (try dsimp only)) | (k_end; wrow_close) | (dsimp only; walk1) | walk1 | (leave1; walk_say "STEP leave1"; try dsimp only) | fail "no step"))
  (k_with "k_lt" => first | (intro hlt9; (with_reducible rename NodT _ _ => hNdZ); have hNd2 := nod_new hNdZ hlt9 rfl; replace hlt9 := allLt_of hlt9; simp only [AllLt, and_true] at hlt9; revert hNd2 hlt9; intro _) | (intro hlt9; replace hlt9 := allLt_of hlt9; simp only [AllLt, and_true] at hlt9; revert hlt9) | fail)
  (k_with "k_off1" => first | exact Or.inl (by assumption) | exact Nat.le_refl _ | exact Nat.le_of_lt (by assumption) | exact Or.inr (Nat.le_trans (m := 201) (by decide) (by assumption)) | exact Nat.le_trans (m := 201) (by decide) (by assumption) | omega | fail)
  (k_with "k_offs" => first | (refine List.forall_mem_cons.mpr ⟨?_, ?_⟩; (try dsimp only); (k_extra "k_off1"); (k_extra "k_offs")) | exact (fun _ h => absurd h List.not_mem_nil) | fail)
  (k_with "k_cj" => with_reducible first | assumption | exact And.left (by assumption) | exact And.left (And.right (by assumption)) | exact And.left (And.right (And.right (by assumption))) | exact And.left (And.right (And.right (And.right (by assumption)))) | exact And.left (And.right (And.right (And.right (And.right (by assumption))))) | exact And.left (And.right (And.right (And.right (And.right (And.right (by assumption)))))) | exact And.right (by assumption) | exact And.right (And.right (by assumption)) | exact And.right (And.right (And.right (by assumption))) | exact And.right (And.right (And.right (And.right (by assumption)))) | exact And.right (And.right (And.right (And.right (And.right (by assumption))))) | fail)
  (k_with "k_dp" => first | exact Nat.le_trans (by assumption) (by decide) | exact Nat.le_trans (Nat.succ_le_succ (by assumption)) (by decide) | exact Nat.lt_of_le_of_lt (by assumption) (by decide) | exact Nat.lt_of_le_of_lt (Nat.succ_le_succ (by assumption)) (by decide) | exact Nat.le_trans (Nat.succ_le_succ (Nat.succ_le_succ (by assumption))) (by decide) | exact Nat.lt_of_le_of_lt (Nat.succ_le_succ (Nat.succ_le_succ (by assumption))) (by decide) | (simp only [depth_mark, depth_under_make, depth_under_kw, depth_in1, depth_deeper]; omega) | fail)
  (k_with "k_mem" => first | exact AtU.head | (apply AtU.tail; k_mem) | (refine' PairIn.head ?_; k_mem) | (refine' PairIn.tail ?_; k_mem) | fail)
  (k_with "k_ne" => first | (refine' ne_d1 ?zH ?zP; (case zH => assumption); (case zP => k_mem)) | (refine' ne_d2 ?zH ?zP; (case zH => assumption); (case zP => k_mem)) | exact Nat.ne_of_gt (by (try dsimp only); k_extra "k_cj") | exact Nat.ne_of_lt (by (try dsimp only); k_extra "k_cj") | (refine neN ?_; (try dsimp only); omega) | fail)
  (k_with "k_updF" => first | (refine' updF_at ?zA ?zH ?ze ?zm; (case zA => k_mem); (case zH => assumption); (case ze => rfl); (case zm => k_mem)) | (refine' UpdF.head ?za; (case za => k_all)) | (refine' UpdF.tail ?za ?zb; (case za => k_ne); (case zb => k_updF)) | fail)
  (k_with "k_inst" => first | (refine' instH ?zF ?zI; (case zF => k_asm); (case zI => assumption)) | fail)
  (k_with "k_room" => first | (show _ < 1000; k_extra "k_dp") | fail)
  (k_with "is_list" => first | (refine' listH ?zF ?zI; (case zF => k_asm); (case zI => assumption)) | fail)
  (k_with "call ref" => (k_here; (with_reducible show wpAny _ _ (call (Value.ref _) [] []) _ _ _); k_dflt (refine' clock_in ?zF ?zX ?zN ?zT ?zr ?zC ?_; (case zF => k_asm); (case zC => assumption); (case zX => k_asm); (case zN => k_asm); (case zT => k_asm); (case zr => k_room)); intro _ _ _ _ _ _))
  (k_with "getMethod ref" => (k_here; (with_reducible show wpAny _ _ (getMethod (Value.ref _) (Str.ofString "get") _) _ _ _); k_dflt (refine' dsd_method PySem.F.slot_dict_get PySem.F.type_dict_get ?zN ?zm ?zD ?_; (case zN => k_asm); (case zm => k_mem); (case zD => k_asm))))
  (k_with "getMethod ref" => (k_here; (with_reducible show wpAny _ _ (getMethod (Value.ref _) (Str.ofString "pop") _) _ _ _); k_dflt (refine' dsd_method PySem.F.slot_dict_pop PySem.F.type_dict_pop ?zN ?zm ?zD ?_; (case zN => k_asm); (case zm => k_mem); (case zD => k_asm))))
  (k_with "getMethod ref" => (k_here; (with_reducible show wpAny _ _ (getMethod (Value.ref _) (Str.ofString "setdefault") _) _ _ _); k_dflt (refine' dsd_method PySem.F.slot_dict_setdefault PySem.F.type_dict_setdefault ?zN ?zm ?zD ?_; (case zN => k_asm); (case zm => k_mem); (case zD => k_asm))))
  (k_with "getMethod ref" => (k_here; (with_reducible show wpAny _ _ (getMethod (Value.ref _) (Str.ofString "clear") _) _ _ _); k_dflt (refine' dsd_method PySem.F.slot_dict_clear PySem.F.type_dict_clear ?zN ?zm ?zD ?_; (case zN => k_asm); (case zm => k_mem); (case zD => k_asm))))
  (k_with "getMethod ref" => (k_here; (with_reducible show wpAny _ _ (getMethod (Value.ref _) (Str.ofString "clock") _) _ _ _); k_dflt (refine' kmu_own ?zk1 ?zk2 ?zk3 ?zk4 ?zk5 ?_; (case zk1 => k_asm); (case zk2 => k_asm); (case zk3 => k_inst); (case zk4 => k_is); (case zk5 => k_is); k_whole)))
  (k_with "getAttr ref" => (k_here; k_dflt (refine' get_own ?zk1 ?zk2 ?zk3 ?zk4 ?zk5 ?zk6 ?zk7 ?zk8 ?zk9 ?_; (case zk1 => k_asm); (case zk2 => k_asm); (case zk3 => k_inst); (case zk4 => k_is); (case zk5 => k_is); (case zk6 => k_is); (case zk7 => k_is); (case zk8 => k_get); (case zk9 => k_handed); k_whole)))
  (k_with "call builtin:dict.get" => (k_here; k_dflt (refine' dsd_get ?zN ?zm ?zD ?zlo ?_; (case zN => k_asm); (case zm => k_mem); (case zD => k_asm); (case zlo => k_asm)); intro _ _))
  (k_with "call builtin:dict.get" => (k_here; (with_reducible show wpAny _ _ (call (Value.builtin _) [Value.ref _, Value.str _ _, Value.int _ _]) _ _ _); k_dflt (refine' isd_get ?zN ?zm ?zD ?zlo ?_; (case zN => k_asm); (case zm => k_mem); (case zD => k_asm); (case zlo => k_asm)); intro _))
  (k_with "call builtin:dict.pop" => (k_here; k_dflt (refine' dsd_pop ?zF ?zN ?zU ?zD ?zlo ?_; (case zF => k_asm); (case zN => k_asm); (case zU => k_updF); (case zD => k_asm); (case zlo => k_asm)); intro _ _ _ _ _ _ _))
  (k_with "call builtin:dict.clear" => (k_here; k_dflt (refine' dsd_clear ?zF ?zN ?zU ?zD ?_; (case zF => k_asm); (case zN => k_asm); (case zU => k_updF); (case zD => k_asm)); intro _ _ _ _ _))
  (k_with "call builtin:len" => (k_here; (with_reducible show wpAny _ _ (call (Value.builtin "len") [Value.ref _]) _ _ _); k_dflt (refine' dsd_len_call ?zN ?zm ?zD ?zlo ?_; (case zN => k_asm); (case zm => k_mem); (case zD => k_asm); (case zlo => k_asm)); intro _ _))
  (k_with "callWith ref" => (k_here; (with_reducible show wpAny _ _ (callWith _ _ _ (backTo _ (starEach [] _)) []) _ _ _); k_dflt (refine' callWith_F0 ?zk1 ?_; (case zk1 => exact fnClock (by k_asm) (by assumption)); k_whole); (try dsimp only [List.nil_append, List.cons_append])))
  (k_with "setItem ref str" => (k_here; k_dflt (refine' dsd_set ?zF ?zN ?zU ?zD ?zk ?zx ?_; (case zF => k_asm); (case zN => k_asm); (case zU => k_updF); (case zD => k_asm); (case zk => k_asm); (case zx => first | exact ⟨_, rfl⟩ | exact rfl)); intro _ _ _ _ _))
  (k_with "subscriptTail" => (k_here; (with_reducible show wpAny _ _ (subscriptTail _ _ (Value.ref _) (Value.str _ _)) _ _ _); k_dflt (refine' isd_item ?zN ?zm ?zD ?zx ?_; (case zN => k_asm); (case zm => k_mem); (case zD => k_asm); (case zx => first | exact upd_self _ _ _ | assumption)); intro _))
  (k_with "eval Name" => (k_here; k_dflt (refine' nameX_L ?zF ?zv ?_ ?za ?zb; (case za => rfl); (case zb => rfl); (case zF => k_asm); (case zv => first | rfl | assumption); k_whole)))
  (k_with "call builtin:len" => (k_here; (with_reducible show wpAny _ _ (call (Value.builtin "len") [Value.ref _]) _ _ _); k_dflt (refine' len_lst ?zl ?zn ?zb ?_; (case zl => is_list); (case zn => assumption); (case zb => omega); k_whole); intro _))
  (k_with "exec While Compare cons nil" => (k_here; refine stopW ?_))
  (k_with "subscriptTail" => (k_here; (with_reducible show wpAny _ _ (subscriptTail _ _ (Value.ref _) (Value.str _ _)) _ _ _); k_dflt (refine' asd_item ?zN ?zm ?zD ?zx ?_; (case zN => k_asm); (case zm => k_mem); (case zD => k_asm); (case zx => first | exact upd_self _ _ _ | assumption))))
  trivial
theorem AllObj.mono' {k k' : List (Addr × Obj) → Prop} : ∀ {ws : List (Addr × String)}, AllObj ws k → (∀ its, k its → k' its) → AllObj ws k' := by
  intro ws
  induction ws generalizing k k' with
  | nil => intro a h; exact h _ a
  | cons w r ih => intro a h o ho; exact ih (a o ho) fun its q => h _ q
/-- a loop over items by an invariant -/
theorem items_ind {env : Env} {target : PySem.Expr} {body : List PySem.Stmt} {Q : Flow → Shared → Prop} {ws : List (Addr × String)} {keep : List (Addr × Obj)} {items : List Itm} (J : Nat → (PySem.Str → Option Value) → List (Addr × Obj) → Prop)
    (h0 : J 0 m news)
    (step : ∀ i a m₁ n₁, items[i]? = some a → J i m₁ n₁ → ∀ v h tk, a.Is v h → Fr h₀ env.locals h m₁ → AllObj ws (fun its => ∀ U : Flow → Shared → Prop, (∀ h' tk' m' n', Fr h₀ env.locals h' m' → News h₀ env.locals h' (its ++ n') → (∀ p ∈ n', ∀ q ∈ its, p.1 ≠ q.1) → SubL keep n' → J (i + 1) m' n' → U .next { s with heap := h', toks := tk' }) → (∀ v s₃, Q (.ret v) s₃ → U (.ret v) s₃) →
      News h₀ env.locals h (its ++ n₁) → wpAny (model prog w) A (assign target env v) (fun _ s₂ => wpAny (model prog w) A (execs body env) U E s₂) E { s with heap := h, toks := tk }))
    (done : ∀ m₁ n₁, J items.length m₁ n₁ → ∀ h tk, Fr h₀ env.locals h m₁ → News h₀ env.locals h n₁ → Q .next { s with heap := h, toks := tk }) :
    ItemsRest prog w A E h₀ env target body Q s ws keep items m news := by
  have main : ∀ (r : List Itm) (i : Nat) m₁ n₁, items.drop i = r → i ≤ items.length → J i m₁ n₁ → ItemsRest prog w A E h₀ env target body Q s ws keep r m₁ n₁ := by
    intro r
    induction r with
    | nil =>
      intro i m₁ n₁ e hi hJ
      have : i = items.length := by
        have := List.drop_eq_nil_iff.mp e
        omega
      subst this
      exact done _ _ hJ
    | cons a r ih =>
      intro i m₁ n₁ e hi hJ
      have hlt : i < items.length := by
        rcases Nat.lt_or_ge i items.length with h | h
        · exact h
        · rw [List.drop_eq_nil_of_le h] at e; cases e
      have e2 := List.drop_eq_getElem_cons hlt
      rw [e] at e2
      obtain ⟨rfl, rfl⟩ := List.cons.inj e2
      intro v h tk hv F
      refine AllObj.mono' (step i _ m₁ n₁ (List.getElem?_eq_getElem hlt) hJ v h tk hv F) fun its q N => ?_
      refine wpAny_mono (q (UnrPostW h₀ env.locals { s with heap := h, toks := tk } its (fun m' n' => SubL keep n' ∧ J (i + 1) m' n') Q) (fun h' tk' m' n' F' N' o k j => ⟨h', tk', m', n', rfl, F', N', o, k, j⟩) (fun _ _ y => y) N) (fun _ s₂ h₂ => wpAny_mono h₂ (fun f s₃ p => ?_) fun _ _ e => e) fun _ _ e => e
      have fin : UnrEndW h₀ env.locals { s with heap := h, toks := tk } its (fun m' n' => SubL keep n' ∧ J (i + 1) m' n') s₃ → UnrEndW h₀ env.locals { s with heap := h, toks := tk } its (fun m' n' => SubL keep n' ∧ ItemsRest prog w A E h₀ env target body Q s ws keep (items.drop (i + 1)) m' n') s₃ := by
        rintro ⟨h', tk', m', news', e, F', N', ho, hk', hj⟩
        exact ⟨h', tk', m', news', e, F', N', ho, hk', ih (i + 1) m' news' rfl hlt hj⟩
      cases f with
      | ret v => exact p
      | brk => exact p
      | next => exact fin p
      | cont => exact fin p
  exact main items 0 m news rfl (Nat.zero_le _) h0
theorem pick_upto (vs : List Value) (n : Nat) : (slicePick vs.toArray none (some (n : Int)) none).toList = vs.take n := by
  have e : sliceBounds none (some (n : Int)) none vs.toArray.size = (((0 : Nat) : Int), ((min n vs.toArray.size : Nat) : Int), 1) := by
    simp only [sliceBounds, Option.getD_none, show (1 : Int) > 0 by decide, if_true, if_neg (show ¬ ((n : Int) < 0) by omega)]
    congr 1
    congr 1
    omega
  rw [kmk_pick_nat _ e]
  show (vs.drop 0).take (min n vs.toArray.size - 0) = _
  rw [List.drop_zero, Nat.sub_zero, List.size_toArray, kmk_take_min]

end Items
section Expire
variable {prog : Program} {w : World} {A₀ A : Around} {base h₀ : Heap} {outer : List Env} {env : Env} {L : Addr} {m mg mb : PySem.Str → Option Value}
  {p : Program} {loose : List PySem.Str} {mean : ExcName → Option Value} {s : Shared} {news : List (Addr × Obj)} {E : Value → Shared → Prop}
theorem words_Expire : True := by
  k_with_none
  w_top off
  (k_with "k_steps" => repeat' (first | (k_unfold; (try dsimp only)) | (k_end; wrow_close) | (dsimp only; walk1) | walk1 | (leave1; walk_say "STEP leave1"; try dsimp only) | fail "no step"))
  (k_with "k_lt" => first | (intro hlt9; (with_reducible rename NodT _ _ => hNdZ); have hNd2 := nod_new hNdZ hlt9 rfl; replace hlt9 := allLt_of hlt9; simp only [AllLt, and_true] at hlt9; revert hNd2 hlt9; intro _) | (intro hlt9; replace hlt9 := allLt_of hlt9; simp only [AllLt, and_true] at hlt9; revert hlt9) | fail)
  (k_with "k_off1" => first | exact Or.inl (by assumption) | exact Nat.le_refl _ | exact Nat.le_of_lt (by assumption) | exact Or.inr (Nat.le_trans (m := 201) (by decide) (by assumption)) | exact Nat.le_trans (m := 201) (by decide) (by assumption) | omega | fail)
  (k_with "k_offs" => first | (refine List.forall_mem_cons.mpr ⟨?_, ?_⟩; (try dsimp only); (k_extra "k_off1"); (k_extra "k_offs")) | exact (fun _ h => absurd h List.not_mem_nil) | fail)
  (k_with "k_cj" => with_reducible first | assumption | exact And.left (by assumption) | exact And.left (And.right (by assumption)) | exact And.left (And.right (And.right (by assumption))) | exact And.left (And.right (And.right (And.right (by assumption)))) | exact And.left (And.right (And.right (And.right (And.right (by assumption))))) | exact And.left (And.right (And.right (And.right (And.right (And.right (by assumption)))))) | exact And.right (by assumption) | exact And.right (And.right (by assumption)) | exact And.right (And.right (And.right (by assumption))) | exact And.right (And.right (And.right (And.right (by assumption)))) | exact And.right (And.right (And.right (And.right (And.right (by assumption))))) | fail)
  (k_with "k_dp" => first | exact Nat.le_trans (by assumption) (by decide) | exact Nat.le_trans (Nat.succ_le_succ (by assumption)) (by decide) | exact Nat.lt_of_le_of_lt (by assumption) (by decide) | exact Nat.lt_of_le_of_lt (Nat.succ_le_succ (by assumption)) (by decide) | exact Nat.le_trans (Nat.succ_le_succ (Nat.succ_le_succ (by assumption))) (by decide) | exact Nat.lt_of_le_of_lt (Nat.succ_le_succ (Nat.succ_le_succ (by assumption))) (by decide) | (simp only [depth_mark, depth_under_make, depth_under_kw, depth_in1, depth_deeper]; omega) | fail)
  (k_with "k_mem" => first | exact AtU.head | (apply AtU.tail; k_mem) | (refine' PairIn.head ?_; k_mem) | (refine' PairIn.tail ?_; k_mem) | fail)
  (k_with "k_ne" => first | (refine' ne_d1 ?zH ?zP; (case zH => assumption); (case zP => k_mem)) | (refine' ne_d2 ?zH ?zP; (case zH => assumption); (case zP => k_mem)) | exact Nat.ne_of_gt (by (try dsimp only); k_extra "k_cj") | exact Nat.ne_of_lt (by (try dsimp only); k_extra "k_cj") | (refine neN ?_; (try dsimp only); omega) | fail)
  (k_with "k_updF" => first | (refine' updF_at ?zA ?zH ?ze ?zm; (case zA => k_mem); (case zH => assumption); (case ze => rfl); (case zm => k_mem)) | (refine' UpdF.head ?za; (case za => k_all)) | (refine' UpdF.tail ?za ?zb; (case za => k_ne); (case zb => k_updF)) | fail)
  (k_with "k_inst" => first | (refine' instH ?zF ?zI; (case zF => k_asm); (case zI => assumption)) | fail)
  (k_with "k_room" => first | (show _ < 1000; k_extra "k_dp") | fail)
  (k_with "is_list" => first | (refine' listH ?zF ?zI; (case zF => k_asm); (case zI => assumption)) | fail)
  (k_with "call ref" => (k_here; (with_reducible show wpAny _ _ (call (Value.ref _) [] []) _ _ _); k_dflt (refine' clock_in ?zF ?zX ?zN ?zT ?zr ?zC ?_; (case zF => k_asm); (case zC => assumption); (case zX => k_asm); (case zN => k_asm); (case zT => k_asm); (case zr => k_room)); intro _ _ _ _ _ _))
  (k_with "getMethod ref" => (k_here; (with_reducible show wpAny _ _ (getMethod (Value.ref _) (Str.ofString "get") _) _ _ _); k_dflt (refine' dsd_method PySem.F.slot_dict_get PySem.F.type_dict_get ?zN ?zm ?zD ?_; (case zN => k_asm); (case zm => k_mem); (case zD => k_asm))))
  (k_with "getMethod ref" => (k_here; (with_reducible show wpAny _ _ (getMethod (Value.ref _) (Str.ofString "pop") _) _ _ _); k_dflt (refine' dsd_method PySem.F.slot_dict_pop PySem.F.type_dict_pop ?zN ?zm ?zD ?_; (case zN => k_asm); (case zm => k_mem); (case zD => k_asm))))
  (k_with "getMethod ref" => (k_here; (with_reducible show wpAny _ _ (getMethod (Value.ref _) (Str.ofString "setdefault") _) _ _ _); k_dflt (refine' dsd_method PySem.F.slot_dict_setdefault PySem.F.type_dict_setdefault ?zN ?zm ?zD ?_; (case zN => k_asm); (case zm => k_mem); (case zD => k_asm))))
  (k_with "getMethod ref" => (k_here; (with_reducible show wpAny _ _ (getMethod (Value.ref _) (Str.ofString "clear") _) _ _ _); k_dflt (refine' dsd_method PySem.F.slot_dict_clear PySem.F.type_dict_clear ?zN ?zm ?zD ?_; (case zN => k_asm); (case zm => k_mem); (case zD => k_asm))))
  (k_with "getMethod ref" => (k_here; (with_reducible show wpAny _ _ (getMethod (Value.ref _) (Str.ofString "clock") _) _ _ _); k_dflt (refine' kmu_own ?zk1 ?zk2 ?zk3 ?zk4 ?zk5 ?_; (case zk1 => k_asm); (case zk2 => k_asm); (case zk3 => k_inst); (case zk4 => k_is); (case zk5 => k_is); k_whole)))
  (k_with "getAttr ref" => (k_here; k_dflt (refine' get_own ?zk1 ?zk2 ?zk3 ?zk4 ?zk5 ?zk6 ?zk7 ?zk8 ?zk9 ?_; (case zk1 => k_asm); (case zk2 => k_asm); (case zk3 => k_inst); (case zk4 => k_is); (case zk5 => k_is); (case zk6 => k_is); (case zk7 => k_is); (case zk8 => k_get); (case zk9 => k_handed); k_whole)))
  (k_with "call builtin:dict.get" => (k_here; k_dflt (refine' dsd_get ?zN ?zm ?zD ?zlo ?_; (case zN => k_asm); (case zm => k_mem); (case zD => k_asm); (case zlo => k_asm)); intro _ _))
  (k_with "call builtin:dict.get" => (k_here; (with_reducible show wpAny _ _ (call (Value.builtin _) [Value.ref _, Value.str _ _, Value.int _ _]) _ _ _); k_dflt (refine' isd_get ?zN ?zm ?zD ?zlo ?_; (case zN => k_asm); (case zm => k_mem); (case zD => k_asm); (case zlo => k_asm)); intro _))
  (k_with "call builtin:dict.pop" => (k_here; k_dflt (refine' dsd_pop ?zF ?zN ?zU ?zD ?zlo ?_; (case zF => k_asm); (case zN => k_asm); (case zU => k_updF); (case zD => k_asm); (case zlo => k_asm)); intro _ _ _ _ _ _ _))
  (k_with "call builtin:dict.clear" => (k_here; k_dflt (refine' dsd_clear ?zF ?zN ?zU ?zD ?_; (case zF => k_asm); (case zN => k_asm); (case zU => k_updF); (case zD => k_asm)); intro _ _ _ _ _))
  (k_with "call builtin:len" => (k_here; (with_reducible show wpAny _ _ (call (Value.builtin "len") [Value.ref _]) _ _ _); k_dflt (refine' dsd_len_call ?zN ?zm ?zD ?zlo ?_; (case zN => k_asm); (case zm => k_mem); (case zD => k_asm); (case zlo => k_asm)); intro _ _))
  (k_with "callWith ref" => (k_here; (with_reducible show wpAny _ _ (callWith _ _ _ (backTo _ (starEach [] _)) []) _ _ _); k_dflt (refine' callWith_F0 ?zk1 ?_; (case zk1 => exact fnClock (by k_asm) (by assumption)); k_whole); (try dsimp only [List.nil_append, List.cons_append])))
  (k_with "setItem ref str" => (k_here; k_dflt (refine' dsd_set ?zF ?zN ?zU ?zD ?zk ?zx ?_; (case zF => k_asm); (case zN => k_asm); (case zU => k_updF); (case zD => k_asm); (case zk => k_asm); (case zx => first | exact ⟨_, rfl⟩ | exact rfl)); intro _ _ _ _ _))
  (k_with "subscriptTail" => (k_here; (with_reducible show wpAny _ _ (subscriptTail _ _ (Value.ref _) (Value.str _ _)) _ _ _); k_dflt (refine' isd_item ?zN ?zm ?zD ?zx ?_; (case zN => k_asm); (case zm => k_mem); (case zD => k_asm); (case zx => first | exact upd_self _ _ _ | assumption)); intro _))
  (k_with "eval Name" => (k_here; k_dflt (refine' nameX_L ?zF ?zv ?_ ?za ?zb; (case za => rfl); (case zb => rfl); (case zF => k_asm); (case zv => first | rfl | assumption); k_whole)))
  (k_with "call builtin:len" => (k_here; (with_reducible show wpAny _ _ (call (Value.builtin "len") [Value.ref _]) _ _ _); k_dflt (refine' len_lst ?zl ?zn ?zb ?_; (case zl => is_list); (case zn => assumption); (case zb => omega); k_whole); intro _))
  (k_with "exec While Compare cons nil" => (k_here; refine stopW ?_))
  (k_with "subscriptTail" => (k_here; (with_reducible show wpAny _ _ (subscriptTail _ _ (Value.ref _) (Value.str _ _)) _ _ _); k_dflt (refine' asd_item ?zN ?zm ?zD ?zx ?_; (case zN => k_asm); (case zm => k_mem); (case zD => k_asm); (case zx => first | exact upd_self _ _ _ | assumption))))
  (k_with "call ref" => (k_here; (with_reducible show wpAny _ _ (call (Value.ref 117) [Value.ref _, Value.str _ _] []) _ _ _); k_dflt (refine' get_in ?zB ?zF ?zX ?zN ?zT ?zA ?zhh ?zf ?zk ?zr ?zG ?zU1 ?zU2 ?zDS ?zDE ?_; (case zF => k_asm); (case zG => exact Geo.all (by assumption) (Fr.keep (by k_asm))); (case zB => k_asm); (case zX => k_asm); (case zN => k_asm); (case zT => k_asm); (case zA => exact rfl); (case zhh => exact rfl); (case zf => exact rfl); (case zk => exact rfl); (case zr => (show _ ≤ 900; k_extra "k_dp")); (case zU1 => k_updF); (case zU2 => (intro _; (try dsimp only); k_updF)); (case zDS => k_asm); (case zDE => k_asm)); intro _ _ _ _ _ _ _ _ _ _))
  (k_with "callWith ref" => (k_here; k_dflt (refine' callWith_F ?zk1 ?_; (case zk1 => exact NegAt.fn (NegAt.keeps (by assumption) (Fr.keep (by k_asm)))); k_whole)))
  (k_with "call ref" => (k_here; (with_reducible show wpAny _ _ (call (Value.ref 52) _ _) _ _ _); refine stopW ?_))
  (k_with "call builtin:dict.setdefault" => (k_here; refine stopW ?_))
  (k_with "eval Lambda" => (k_here; k_dflt (refine' lam_in ?zF ?zN ?zT ?zC ?zcd ?zU ?zhps ?zhsub ?zcl ?zdf ?_; (case zF => k_asm); (case zN => k_asm); (case zT => k_asm); (case zcd => exact rfl); (case zC => kn_code); (case zU => k_updF); (case zhps => assumption); (case zhsub => (intro _ hq; first | (exact absurd hq List.not_mem_nil) | (repeat (first | exact hq | refine List.Mem.tail _ ?_)))); (case zcl => exact rfl); (case zdf => exact rfl); k_whole); intro fl cl ct psl lsl hpl tkl Fl Nl hfl hrl hnt ltl; (simp only [List.cons_append, List.nil_append] at Nl)))
  (k_with "call ref" => (k_here; (with_reducible show wpAny _ _ (call (Value.ref 69) _ _) _ _ _); k_dflt (refine' entry_in ?zF ?zX ?zN ?zT ?zr ?_; (case zF => k_asm); (case zX => k_asm); (case zN => k_asm); (case zT => k_asm); (case zr => (show _ ≤ 890; k_extra "k_dp"))); intro r9 d9 _ _ _ _ _ _ _ _ l1 l2; (try k_lt l1); (replace l2 : @LT.lt Nat instLTNat d9 r9 := l2)))
  (k_with "binaryOp Mult ref int" => (k_here; (with_reducible show wpAny _ _ (binaryOp Operator.Mult (Value.ref _) (Value.int _ _)) _ _ _); k_dflt (refine' KMa.mul ?zF ?zN ?zl ?zlo ?zhi ?z ?ze ?_; (case zF => k_asm); (case zN => k_asm); (case zl => is_list); (case zlo => omega); (case zhi => omega); (case z => (simp only [List.length_cons, List.length_nil]; omega)); (case ze => exact flat1 _ _)); intro _ _ _ _ l1; (try k_lt l1)))
  (k_with "binaryOp Add ref ref" => (k_here; (with_reducible show wpAny _ _ (binaryOp _ (Value.ref _) (Value.ref _)) _ _ _); k_dflt (refine' kmk_add_lit ?zF ?zN ?za ?zb ?ze ?_ ?z; (case zF => k_asm); (case zN => k_asm); (case za => first | kmk_list | is_list); (case zb => first | kmk_list | is_list); (case ze => exact rfl); (case z => (simp only [sizeLine, List.toList_toArray, List.length_replicate, List.length_nil, List.length_cons]; omega))); intro _ _ _ _ l1; (try k_lt l1)))
  (k_with "getMethod ref" => (k_here; (with_reducible show wpAny _ _ (getMethod (Value.ref _) (Str.ofString "keys") _) _ _ _); k_dflt (refine' dsd_method PySem.F.slot_dict_keys PySem.F.type_dict_keys ?zN ?zm ?zD ?_; (case zN => k_asm); (case zm => k_mem); (case zD => k_asm))))
  (k_with "call builtin:dict.keys" => (k_here; (with_reducible show wpAny _ _ (call (Value.builtin "dict.keys") [Value.ref _]) _ _ _); k_dflt (refine' dsd_keys ?zF ?zN ?zm ?zD ?zlo ?_; (case zF => k_asm); (case zN => k_asm); (case zm => k_mem); (case zD => k_asm); (case zlo => k_asm)); intro _ _ _ _ l1; (try k_lt l1)))
  (k_with "call type:list" => (k_here; (with_reducible show wpAny _ _ (call (Value.type "list") [Value.ref _]) _ _ _); k_dflt (refine' dsd_list ?zh ?zF ?zN ?zv ?zm ?zD ?_; (case zh => exact rfl); (case zF => k_asm); (case zN => k_asm); (case zv => exact List.Mem.head _); (case zm => k_mem); (case zD => k_asm)); intro _ _ _ _ _ _ _ _ _ l1; (try k_lt l1)))
  (k_with "exec For Name Call cons nil" => (k_here; refine stopW ?_))
  trivial
/-- what expire_events makes of the list at one key -/
def Trimmed (h : Heap) (t : Int) (l : List (Int × Int)) (tl : List (Addr × Obj)) (x y : Option Addr) : Prop :=
  match x with
  | none => y = none
  | some a => (l = [] ∧ y = some a) ∨ ∃ (vs : List Value) (a' : Addr) (c n : Nat), y = some a' ∧ h.IsList a vs.toArray ∧ vs.length = l.length ∧ c ≤ l.length ∧ (∀ (i : Nat) q, l[i]? = some q → (i < c ↔ t < q.2)) ∧ (a', W.listOf (vs.take c).toArray n) ∈ tl
def ExpTab (ps ps' : Array Value) (tl : List (Addr × Obj)) : Prop :=
  ps' = ps ∨ ∃ (c' : Addr) (co : Obj) (vs : Array Value) (t : Tok), (c', co) ∈ tl ∧ ps' = #[rawInt 38, rawInt 64, .ref c'] ∧ co.data = .fields vs ∧ vs[1]? = some (.str qExp t)
theorem ExpTab.tabIn {g : Heap} {bd : Nat} {ps ps' : Array Value} {tl : List (Addr × Obj)} (x : ExpTab ps ps' tl) (y : TabSt g bd 38 64 qExp ps) : TabIn g 38 64 qExp ps' tl := by
  rcases x with rfl | ⟨c', co, vs, t, hc, rfl, d1, d2⟩
  · exact y.tabIn
  · exact .inr ⟨c', rfl, fun h' _ n => ⟨c', co, vs, t, rfl, n (c', co) hc, d1, d2⟩⟩
theorem ExpTab.new {ps ps' ps'' : Array Value} {tl ls tl' : List (Addr × Obj)} (x : ExpTab ps ps' tl) (y : NewTab 38 64 qExp ls ps' ps'') (h1 : ∀ q ∈ tl, q ∈ tl') (h2 : ∀ q ∈ ls, q ∈ tl') : ExpTab ps ps'' tl' := by
  rcases y with ⟨_, rfl⟩ | ⟨c', co, vs, t, rfl, _, rfl, d1, d2⟩
  · rcases x with rfl | ⟨c', co, vs, t, hc, rfl, d1, d2⟩
    · exact .inl rfl
    · exact .inr ⟨c', co, vs, t, h1 _ hc, rfl, d1, d2⟩
  · exact .inr ⟨c', co, vs, t, h2 _ (List.mem_singleton.mpr rfl), rfl, d1, d2⟩
def ExpJ2 (prog : Program) (w : World) (t : Int) (x dS dE dV : Nat) (gS gE : PySem.Str → Option Int) (ks : List PySem.Str) (B : Addr) (oB oV' oT : Obj) (tl : List (Addr × Obj))
    (i : Nat) (m₁ : PySem.Str → Option Value) (n₁ : List (Addr × Obj)) : Prop :=
  ∃ oS' oE' gS' gE', n₁ = (dS, oS') :: (dE, oE') :: (dV, oV') :: (89, oT) :: (B, oB) :: tl ∧ m₁ (PySem.Str.ofString "self") = some (.ref x) ∧ ISD prog w oS' gS' ∧ ISD prog w oE' gE' ∧
    (∀ (j : Nat) k, ks[j]? = some k → if j < i then gS' k = (if (gE k).getD (t + 1) ≤ t then none else gS k) ∧ gE' k = (if (gE k).getD (t + 1) ≤ t then none else gE k) else gS' k = gS k ∧ gE' k = gE k) ∧ ∀ k, k ∉ ks → gS' k = gS k ∧ gE' k = gE k
theorem expJ2_mk {t : Int} {x dS dE dV : Nat} {gS gE gS' gE' : PySem.Str → Option Int} {ks : List PySem.Str} {B : Addr} {oB oV' oT oS' oE' : Obj} {tl : List (Addr × Obj)} {i : Nat} {m₁ : PySem.Str → Option Value} (h1 : m₁ (PySem.Str.ofString "self") = some (.ref x)) (h2 : ISD prog w oS' gS') (h3 : ISD prog w oE' gE')
    (h4 : ∀ (j : Nat) k, ks[j]? = some k → if j < i then gS' k = (if (gE k).getD (t + 1) ≤ t then none else gS k) ∧ gE' k = (if (gE k).getD (t + 1) ≤ t then none else gE k) else gS' k = gS k ∧ gE' k = gE k) (h5 : ∀ k, k ∉ ks → gS' k = gS k ∧ gE' k = gE k) :
    ExpJ2 prog w t x dS dE dV gS gE ks B oB oV' oT tl i m₁ ((dS, oS') :: (dE, oE') :: (dV, oV') :: (89, oT) :: (B, oB) :: tl) := ⟨oS', oE', gS', gE', rfl, h1, h2, h3, h4, h5⟩
theorem exp_next2 {t : Int} {gS gE gS' gE' gS'' gE'' : PySem.Str → Option Int} {ks : List PySem.Str} {i : Nat} {k : PySem.Str} (hnd : ks.Nodup) (hk : ks[i]? = some k)
    (h1 : ∀ k', k' ≠ k → gS'' k' = gS' k' ∧ gE'' k' = gE' k') (h2 : gS'' k = (if (gE k).getD (t + 1) ≤ t then none else gS k) ∧ gE'' k = (if (gE k).getD (t + 1) ≤ t then none else gE k))
    (hdone : ∀ (j : Nat) k, ks[j]? = some k → if j < i then gS' k = (if (gE k).getD (t + 1) ≤ t then none else gS k) ∧ gE' k = (if (gE k).getD (t + 1) ≤ t then none else gE k) else gS' k = gS k ∧ gE' k = gE k)
    (hrest : ∀ k, k ∉ ks → gS' k = gS k ∧ gE' k = gE k) :
    (∀ (j : Nat) k, ks[j]? = some k → if j < i + 1 then gS'' k = (if (gE k).getD (t + 1) ≤ t then none else gS k) ∧ gE'' k = (if (gE k).getD (t + 1) ≤ t then none else gE k) else gS'' k = gS k ∧ gE'' k = gE k) ∧ ∀ k, k ∉ ks → gS'' k = gS k ∧ gE'' k = gE k := by
  have hlt : i < ks.length := (List.getElem?_eq_some_iff.mp hk).1
  refine ⟨fun j k' hj => ?_, fun k' hk' => ?_⟩
  · by_cases e : j = i
    · subst e
      rw [hk] at hj; cases hj
      rw [if_pos (Nat.lt_succ_self _)]
      exact h2
    · have hne : k' ≠ k := fun q => e (((List.getElem?_inj hlt hnd).mp (hk.trans (by rw [hj, q]))).symm)
      rw [(h1 k' hne).1, (h1 k' hne).2]
      have := hdone j k' hj
      by_cases hji : j < i
      · rw [if_pos hji] at this; rw [if_pos (Nat.lt_succ_of_lt hji)]; exact this
      · rw [if_neg hji] at this; rw [if_neg fun q => (Nat.lt_or_eq_of_le (Nat.le_of_lt_succ q)).elim hji e]; exact this
  · have hne : k' ≠ k := fun q => hk' (by rw [q]; exact List.mem_of_getElem? hk)
    rw [(h1 k' hne).1, (h1 k' hne).2]
    exact hrest k' hk'
theorem news_four {h h' : Heap} {d e v z : Addr} {od oe ov oz od' oe' ov' oz' : Obj} {g1 : Obj → List (Addr × Obj)} {g2 : Obj → Obj → List (Addr × Obj)} {g3 : Obj → Obj → Obj → List (Addr × Obj)} {g4 : Obj → Obj → Obj → Obj → List (Addr × Obj)} (N : News h₀ L h news)
    (U1 : UpdF d od news g1) (U2 : ∀ o, UpdF e oe (g1 o) (g2 o)) (U3 : ∀ o o', UpdF v ov (g2 o o') (g3 o o')) (U4 : ∀ o o' o'', UpdF z oz (g3 o o' o'') (g4 o o' o''))
    (k : Kept [d, e, v, z] h h') (n1 : h'.get? d = some od' ∧ d ≠ L ∧ h₀.get? d = none) (n2 : h'.get? e = some oe' ∧ e ≠ L ∧ h₀.get? e = none) (n3 : h'.get? v = some ov' ∧ v ≠ L ∧ h₀.get? v = none) (n4 : h'.get? z = some oz' ∧ z ≠ L ∧ h₀.get? z = none) : News h₀ L h' (g4 od' oe' ov' oz') :=
  nb_end (nb_step (nb_step (nb_step (nb_step (nb_start N k) U1 n1) (U2 od') n2) (U3 od' oe') n3) (U4 od' oe' ov') n4)
theorem four_of {d e v z : Addr} {od oe ov oz : Obj} {h : Heap} {g1 : Obj → List (Addr × Obj)} {g2 : Obj → Obj → List (Addr × Obj)} {g3 : Obj → Obj → Obj → List (Addr × Obj)} {g4 : Obj → Obj → Obj → Obj → List (Addr × Obj)} (N : News h₀ L h news)
    (U1 : UpdF d od news g1) (U2 : ∀ o, UpdF e oe (g1 o) (g2 o)) (U3 : ∀ o o', UpdF v ov (g2 o o') (g3 o o')) (U4 : ∀ o o' o'', UpdF z oz (g3 o o' o'') (g4 o o' o'')) : News h₀ L h [(d, od), (e, oe), (v, ov), (z, oz)] := by
  have N3 := three_of N U1 U2 U3
  have e1 : g1 od = news := by obtain ⟨pre, post, rfl, h1, _⟩ := U1.split; exact h1 od
  have e2 : g2 od oe = news := by obtain ⟨pre, post, h2, h3, _⟩ := (U2 od).split; rw [e1] at h2; rw [h2]; exact h3 oe
  have e3 : g3 od oe ov = news := by obtain ⟨pre, post, h2, h3, _⟩ := (U3 od oe).split; rw [e2] at h2; rw [h2]; exact h3 ov
  have mZ : (z, oz) ∈ news := by obtain ⟨pre, post, h2, _⟩ := (U4 od oe ov).split; rw [e3] at h2; rw [h2]; simp
  intro q hq
  simp only [List.mem_cons, List.not_mem_nil, or_false] at hq
  rcases hq with rfl | rfl | rfl | rfl
  · exact N3 _ (by simp)
  · exact N3 _ (by simp)
  · exact N3 _ (by simp)
  · exact N _ mZ
def ExpJ1 (prog : Program) (w : World) (hs : Heap) (t : Int) (x dS dE dV : Nat) (oS oE : Obj) (ps : Array Value) (gV : PySem.Str → Option Addr) (l : PySem.Str → List (Int × Int)) (ks : List PySem.Str) (B I : Addr) (oB : Obj)
    (i : Nat) (m₁ : PySem.Str → Option Value) (n₁ : List (Addr × Obj)) : Prop :=
  ∃ oV' gV' ps' tl, n₁ = (dV, oV') :: (89, tabObj ps') :: (dS, oS) :: (dE, oE) :: (B, oB) :: tl ∧ m₁ (PySem.Str.ofString "self") = some (.ref x) ∧ ASD prog w oV' gV' ∧
    OwnOff tl [dV, 89, dS, dE, B, I] ∧ (∀ q ∈ tl, @LT.lt Nat instLTNat dV q.1) ∧
    ExpTab ps ps' tl ∧
    (∀ (j : Nat) k, ks[j]? = some k → if j < i then Trimmed hs t (l k) tl (gV k) (gV' k) else gV' k = gV k) ∧ ∀ k, k ∉ ks → gV' k = gV k
theorem expJ1_mk {hs : Heap} {t : Int} {x dS dE dV : Nat} {oS oE : Obj} {ps : Array Value} {gV : PySem.Str → Option Addr} {l : PySem.Str → List (Int × Int)} {ks : List PySem.Str} {B I : Addr} {oB : Obj} {i : Nat} {m₁ : PySem.Str → Option Value} {oV' : Obj} {gV' : PySem.Str → Option Addr} {ps' : Array Value} {tl : List (Addr × Obj)}
    (h1 : m₁ (PySem.Str.ofString "self") = some (.ref x)) (h2 : ASD prog w oV' gV') (h3 : OwnOff tl [dV, 89, dS, dE, B, I]) (h4 : ∀ q ∈ tl, @LT.lt Nat instLTNat dV q.1) (h5 : ExpTab ps ps' tl)
    (h6 : ∀ (j : Nat) k, ks[j]? = some k → if j < i then Trimmed hs t (l k) tl (gV k) (gV' k) else gV' k = gV k) (h7 : ∀ k, k ∉ ks → gV' k = gV k) :
    ExpJ1 prog w hs t x dS dE dV oS oE ps gV l ks B I oB i m₁ ((dV, oV') :: (89, tabObj ps') :: (dS, oS) :: (dE, oE) :: (B, oB) :: tl) := ⟨oV', gV', ps', tl, rfl, h1, h2, h3, h4, h5, h6, h7⟩
theorem Trimmed.sub {hs : Heap} {t : Int} {l : List (Int × Int)} {tl tl' : List (Addr × Obj)} {x y : Option Addr} (h : Trimmed hs t l tl x y) (hsub : ∀ q ∈ tl, q ∈ tl') : Trimmed hs t l tl' x y := by
  unfold Trimmed at h ⊢
  split
  · exact h
  · rcases h with h | ⟨vs, a', c, n, h1, h2, h3, h4, h5, h6⟩
    · exact .inl h
    · exact .inr ⟨vs, a', c, n, h1, h2, h3, h4, h5, hsub _ h6⟩
theorem exp_next {hs : Heap} {t : Int} {gV gV' : PySem.Str → Option Addr} {l : PySem.Str → List (Int × Int)} {ks : List PySem.Str} {i : Nat} {k : PySem.Str} {y : Option Addr} {tl tl' : List (Addr × Obj)} (hsub : ∀ q ∈ tl, q ∈ tl') (hnd : ks.Nodup) (hk : ks[i]? = some k)
    (hT : Trimmed hs t (l k) tl' (gV k) y) (hdone : ∀ (j : Nat) k, ks[j]? = some k → if j < i then Trimmed hs t (l k) tl (gV k) (gV' k) else gV' k = gV k) (hrest : ∀ k, k ∉ ks → gV' k = gV k) :
    (∀ (j : Nat) k', ks[j]? = some k' → if j < i + 1 then Trimmed hs t (l k') tl' (gV k') (upd gV' k y k') else upd gV' k y k' = gV k') ∧ ∀ k', k' ∉ ks → upd gV' k y k' = gV k' := by
  have hlt : i < ks.length := (List.getElem?_eq_some_iff.mp hk).1
  refine ⟨fun j k' hj => ?_, fun k' hk' => ?_⟩
  · by_cases e : j = i
    · subst e
      rw [hk] at hj; cases hj
      rw [if_pos (Nat.lt_succ_self _), upd_self]
      exact hT
    · have hne : k' ≠ k := fun q => e (((List.getElem?_inj hlt hnd).mp (hk.trans (by rw [hj, q]))).symm)
      rw [upd_ne _ _ hne]
      have := hdone j k' hj
      by_cases hji : j < i
      · rw [if_pos hji] at this; rw [if_pos (Nat.lt_succ_of_lt hji)]; exact this.sub hsub
      · rw [if_neg hji] at this; rw [if_neg fun q => (Nat.lt_or_eq_of_le (Nat.le_of_lt_succ q)).elim hji e]; exact this
  · rw [upd_ne _ _ (fun q => hk' (by rw [q]; exact List.mem_of_getElem? hk))]
    exact hrest k' hk'
theorem off_nil {I : Addr} {oI : Obj} {l : List (Addr × Obj)} (h : ∀ q ∈ l, q.1 ≠ I) : ∀ p ∈ l, ∀ q ∈ [(I, oI)], p.1 ≠ q.1 := fun p hp q hq => by
  rw [List.mem_singleton.mp hq]; exact h p hp
theorem off_cons {a I : Addr} {o oI : Obj} {l : List (Addr × Obj)} (h : a ≠ I) (r : ∀ p ∈ l, ∀ q ∈ [(I, oI)], p.1 ≠ q.1) : ∀ p ∈ (a, o) :: l, ∀ q ∈ [(I, oI)], p.1 ≠ q.1 := fun p hp q hq => by
  rcases List.mem_cons.mp hp with rfl | hp
  · rw [List.mem_singleton.mp hq]; exact h
  · exact r p hp q hq
theorem ncons {h : Heap} {a : Addr × Obj} {l : List (Addr × Obj)} (ha : h.get? a.1 = some a.2 ∧ a.1 ≠ L ∧ h₀.get? a.1 = none) (N : News h₀ L h l) : News h₀ L h (a :: l) := List.forall_mem_cons.mpr ⟨ha, N⟩
theorem own_cons6 {a b1 b2 b3 b4 b5 b6 : Nat} {o : Obj} {tl : List (Addr × Obj)} (h1 : a ≠ b1) (h2 : a ≠ b2) (h3 : a ≠ b3) (h4 : a ≠ b4) (h5 : a ≠ b5) (h6 : a ≠ b6) (H : OwnOff tl [b1, b2, b3, b4, b5, b6]) : OwnOff (((a : Addr), o) :: tl) [b1, b2, b3, b4, b5, b6] := by
  intro p hp b hb
  rcases List.mem_cons.mp hp with rfl | hp
  · simp only [List.mem_cons, List.not_mem_nil, or_false] at hb
    rcases hb with rfl | rfl | rfl | rfl | rfl | rfl
    · exact h1
    · exact h2
    · exact h3
    · exact h4
    · exact h5
    · exact h6
  · exact H p hp b hb
set_option maxHeartbeats 8000000 in
theorem expire_in {lo x fk dS dE dV : Nat} {oS oE oV : Obj} {ps : Array Value} {t : Int} {gS gE : PySem.Str → Option Int} {gV : PySem.Str → Option Addr} {l : PySem.Str → List (Int × Int)}
    {g1 : Obj → List (Addr × Obj)} {g2 : Obj → Obj → List (Addr × Obj)} {g3 : Obj → Obj → Obj → List (Addr × Obj)} {g4 : Obj → Obj → Obj → Obj → List (Addr × Obj)} {Q : Value → Shared → Prop}
    (B : Below A₀ base outer h₀) (F : Fr h₀ L s.heap m) (X₀ : (hd.heap_39 w.params).In h₀) (N : News h₀ L s.heap news) (T : Top p loose mean mg mb h₀)
    (hA : A.frames = some (env :: outer)) (hh : A.handled = none) (hf : env.frame = some L) (hke : env.scope.kind = .function) (hroom : A.depth ≤ 880)
    (G : Geo w s.heap lo x fk dS dE dV t) (hlo : 201 ≤ lo) (CH : CodeHd base 93 89)
    (U1 : UpdF dS oS news g1) (U2 : ∀ o, UpdF dE oE (g1 o) (g2 o)) (U3 : ∀ o o', UpdF dV oV (g2 o o') (g3 o o')) (U4 : ∀ o o' o'', UpdF 89 (tabObj ps) (g3 o o' o'') (g4 o o' o''))
    (DS : ISD prog w oS gS) (DE : ISD prog w oE gE) (DV : ASD prog w oV gV) (hT : TabSt s.heap dV 38 64 qExp ps)
    (hEv : ∀ k a, gV k = some a → EvAt w s.heap dV a (l k)) (hl : ∀ k, (l k).length ≤ 1000) (hs : ∀ k (i j : Nat) q r, i < j → (l k)[i]? = some q → (l k)[j]? = some r → r.2 ≤ q.2)
    (h : ∀ h' tk' oS' oE' oV' ps' tl gV', Fr h₀ L h' m → News h₀ L h' (tl ++ g4 oS' oE' oV' (tabObj ps')) → ExpTab ps ps' tl → (∀ q ∈ tl, s.heap.get? q.1 = none ∧ @LT.lt Nat instLTNat dV q.1) →
      ISD prog w oS' (fun k => if (gE k).getD (t + 1) ≤ t then none else gS k) → ISD prog w oE' (fun k => if (gE k).getD (t + 1) ≤ t then none else gE k) → ASD prog w oV' gV' →
      (∀ k, Trimmed s.heap t (l k) tl (gV k) (gV' k)) → Q .none { s with heap := h', toks := tk' }) :
    wpAny (model prog w) A (call (.ref 94) [.ref x]) Q E s := by
  have N₀ : News h₀ L s.heap [(dS, oS), (dE, oE), (dV, oV), (89, tabObj ps)] := four_of N U1 U2 U3 U4
  obtain ⟨hd9, dp, fr, gs, un⟩ := A
  dsimp only at hA hh hroom
  subst hA
  subst hh
  refine wpAny_call ?_
  refine' def_in B F X₀ N₀ T rfl hf hke ?k6 ?k7 ?k8 ?k9 ?kB ?_ ?c2 ?c3 ?c4 ?c5
  case k6 => k_is
  case k7 => k_is
  case k8 => exact Nat.lt_of_le_of_lt hroom (by decide)
  case k9 => first | exact BindsTo.of_eq rfl | exact binds_K (by k_in) rfl (by k_is) rfl rfl rfl
  case kB => exact locs rfl
  case c5 => decide
  case c2 => exact rfl
  case c3 => exact rfl
  case c4 => exact rfl
  intro g' L' h' m1 hm1 FG' F' N' B' X' T' hkept hlt
  dsimp only
  k_fold
  have olo : lo < x := G.low
  have ox : x < dS := G.hx
  have oSE : dS < dE := G.hS
  have oEV : dE < dV := G.hE
  have loS := G.loS
  have loE := G.loE
  have loV := G.loV
  have oXE : x < dE := Nat.lt_trans ox oSE
  have oXV : x < dV := Nat.lt_trans oXE oEV
  have oSV : dS < dV := Nat.lt_trans oSE oEV
  have G' := G.keeps hkept (by k_extra "k_offs")
  obtain ⟨dx, t1, t2, t3, t4, I'⟩ := G'.inst
  have C' := G'.clock
  clear G
  have a_self : m1 (PySem.Str.ofString "self") = some (.ref x) := (hm1 _).trans rfl
  clear hm1
  have hbV : 201 ≤ dV := Nat.le_trans hlo (Nat.le_of_lt (Nat.lt_trans olo oXV))
  have xS : 89 < dS := Nat.lt_of_lt_of_le (by decide) (Nat.le_trans hlo (Nat.le_of_lt (Nat.lt_trans olo ox)))
  have xE : 89 < dE := Nat.lt_trans xS oSE
  have xV : 89 < dV := Nat.lt_trans xE oEV
  have hT' := hT.keeps hkept (by k_extra "k_offs")
  clear hT
  k_steps
  show wpAny _ _ _ _ _ _
  refine For_turns (by assumption) ?_
  k_steps
  rename_i B9 c9 h9 tk9 ks vs hK F9 N9
  have N9' : News g' L' h9 [(dV, oV), (89, tabObj ps), (dS, oS), (dE, oE), (B9, W.listOf vs.toArray c9)] := ncons (N9 _ (by k_mem)) (ncons (N9 _ (by k_mem)) (ncons (N9 _ (by k_mem)) (ncons (N9 _ (by k_mem)) (ncons (N9 _ (by k_mem)) fun _ h => nomatch h))))
  clear N9
  refine iter_listTurns rfl F9 N9' (.tail _ (.tail _ (.tail _ (.tail _ (.head _))))) rfl rfl (fun I hI => ?_)
  k_lt hI
  obtain ⟨hI1, hI2, hI3, hI4, hI5⟩ := hI
  replace hI5 : @LT.lt Nat instLTNat B9 I := hI5
  refine items_ind (ExpJ1 prog w s.heap t x dS dE dV oS oE ps gV l ks B9 I (W.listOf vs.toArray c9)) ⟨oV, gV, ps, [], rfl, by assumption, DV, (fun _ h => nomatch h), (fun _ h => nomatch h), .inl rfl, fun j k hj => rfl, fun _ _ => rfl⟩ ?_ ?_
  · intro i a m₁ n₁ ha hJ v h₁ tk₁ hv F₁
    refine AllObj.cons (fun oI hoI => AllObj.nil (fun U hU _ N₁ => ?_))
    obtain ⟨oV', gV', ps', tl, rfl, hself, DV', hOff, hgt, hps, hdone, hrest⟩ := hJ
    replace N₁ : News g' L' h₁ ((I, oI) :: (dV, oV') :: (89, tabObj ps') :: (dS, oS) :: (dE, oE) :: (B9, W.listOf vs.toArray c9) :: tl) := N₁
    rw [List.getElem?_map] at ha
    obtain ⟨v', hv', rfl⟩ := Option.map_eq_some_iff.mp ha
    obtain rfl : v = v' := hv
    obtain ⟨hK1, hK2, hK3, hK4, hK5⟩ := hK
    obtain ⟨k, t', hk, rfl⟩ := hK5 i v hv'
    obtain ⟨a, hga⟩ := (hK3 k).mp (List.mem_of_getElem? hk)
    have hkK := hK2 k (List.mem_of_getElem? hk)
    have hg' : gV' k = some a := by have := hdone i k hk; rw [if_neg (Nat.lt_irrefl i)] at this; rw [this, hga]
    k_steps
    rename_i v9 hv9 h2 F2 N2
    rw [hg'] at hv9
    obtain rfl : v9 = .ref a := hv9
    have hEv' := (hEv k a hga).keeps hkept (by k_extra "k_offs")
    obtain ⟨vs', hvs0, hvs, hlen, hev⟩ := (hEv k a hga).plain2 hkept (by k_extra "k_offs")
    refine wpAny_truthy_list (listH (by assumption) hvs) (by have := hl k; simp; omega) ?_
    rcases Nat.eq_zero_or_pos (l k).length with h0 | h0
    · obtain rfl : vs' = [] := List.eq_nil_of_length_eq_zero (hlen.trans h0)
      rw [if_neg (show ¬ (!([] : List Value).toArray.isEmpty) = true by simp)]
      k_steps
      have hl0 : l k = [] := List.eq_nil_of_length_eq_zero h0
      have nx := exp_next (tl' := tl) (y := some a) (hs := s.heap) (t := t) (fun _ h => h) hK1 hk (by unfold Trimmed; rw [hga]; exact .inl ⟨hl0, rfl⟩) hdone hrest
      rw [upd_same hg'] at nx
      exact hU _ _ _ ((dV, oV') :: (89, tabObj ps') :: (dS, oS) :: (dE, oE) :: (B9, W.listOf vs.toArray c9) :: tl) F2 (fun q hq => N2 q (.tail _ hq)) (off_cons (by k_ne) (off_cons (by k_ne) (off_cons (by k_ne) (off_cons (by k_ne) (off_cons (by k_ne) (off_nil fun q hq => hOff q hq _ (by simp))))))) ⟨by simp, trivial⟩ (expJ1_mk (by first | exact hself | assumption) DV' hOff hgt hps nx.1 nx.2)
    · obtain ⟨v0, vs0, rfl⟩ : ∃ v0 vs0, vs' = v0 :: vs0 := by cases vs' with | nil => exact absurd h0 (by rw [← hlen]; exact Nat.lt_irrefl 0) | cons v0 vs0 => exact ⟨_, _, rfl⟩
      rw [if_pos (show (!(v0 :: vs0).toArray.isEmpty) = true by simp)]
      have hTi := hps.tabIn hT'
      k_steps
      show wpAny _ _ _ _ _ _
      refine bisect_in (b := false) (by assumption) (by assumption) (by assumption) (by assumption) (by assumption) rfl rfl rfl rfl (by show _ ≤ 890; k_extra "k_dp") ⟨_, _, _, _, _, _, _, _, hfl, hrl⟩ (hEv'.all (Fr.keep (by assumption))) (hl k) (fun i j q r hij h1 h2 => Int.neg_le_neg (hs k i j q r hij h1 h2)) ?_
      intro h3 tk3 n3 tv3 F3 N3 K3 hn3 hlt3
      have ltV := fun q hq => ltl q hq (dV, oV') (by k_mem)
      have lt1 := fun q hq => ltl q hq (89, tabObj ps') (by k_mem)
      have ltS := fun q hq => ltl q hq (dS, oS) (by k_mem)
      have ltE := fun q hq => ltl q hq (dE, oE) (by k_mem)
      have ltB := fun q hq => ltl q hq (B9, W.listOf vs.toArray c9) (by k_mem)
      have ltI := fun q hq => ltl q hq (I, oI) (by k_mem)
      clear hfl hrl ltl
      have offs : OwnOff (tl ++ lsl) [dV, 89, dS, dE, B9, I] := fun q hq b hb => by
        rcases List.mem_append.mp hq with hq | hq
        · exact hOff q hq b hb
        · simp only [List.mem_cons, List.not_mem_nil, or_false] at hb
          rcases hb with rfl | rfl | rfl | rfl | rfl | rfl
          · exact Nat.ne_of_gt (ltV q hq)
          · exact Nat.ne_of_gt (lt1 q hq)
          · exact Nat.ne_of_gt (ltS q hq)
          · exact Nat.ne_of_gt (ltE q hq)
          · exact Nat.ne_of_gt (ltB q hq)
          · exact Nat.ne_of_gt (ltI q hq)
      k_steps
      refine kmk_slice_lit (s := { s with heap := _, toks := _ }) (zs := (v0 :: vs0).take n3) (by k_asm) (by k_asm) (listH (by k_asm) hvs) (IsPart.none) (IsPart.int _ _) (pick_upto _ _) ?_ (by with_unfolding_all rfl) (by intro _; with_unfolding_all rfl) (by have := hl k; simp only [List.size_toArray, sizeLine_eq]; omega)
      intro D9 h4 F4 N4 l4
      k_lt l4
      k_steps
      rename_i h7 o7 F7 N7 D7
      have N8 : News g' L' _ ((I, oI) :: (dV, o7) :: (89, tabObj psl) :: (dS, oS) :: (dE, oE) :: (B9, W.listOf vs.toArray c9) :: (D9, W.listOf ((v0 :: vs0).take n3).toArray 0) :: (tl ++ lsl)) := ncons (N7 _ (by k_mem)) (ncons (N7 _ (by k_mem)) (ncons (N7 _ (by k_mem)) (ncons (N7 _ (by k_mem)) (ncons (N7 _ (by k_mem)) (ncons (N7 _ (by k_mem)) (ncons (N7 _ (by k_mem)) (fun q hq => N7 q (by repeat (first | exact hq | refine List.Mem.tail _ ?_)))))))))
      have nx := exp_next (tl' := (D9, W.listOf ((v0 :: vs0).take n3).toArray 0) :: (tl ++ lsl)) (y := some D9) (hs := s.heap) (t := t) (fun _ h => .tail _ (List.mem_append_left _ h)) hK1 hk (by unfold Trimmed; rw [hga]; exact .inr ⟨v0 :: vs0, D9, n3, 0, rfl, hvs0, hlen, hn3, fun i q hq => (hlt3 i q hq).trans (⟨Int.lt_of_neg_lt_neg, Int.neg_lt_neg⟩ : -q.2 < -t ↔ t < q.2), .head _⟩) hdone hrest
      refine hU _ _ _ ((dV, o7) :: (89, tabObj psl) :: (dS, oS) :: (dE, oE) :: (B9, W.listOf vs.toArray c9) :: (D9, W.listOf ((v0 :: vs0).take n3).toArray 0) :: (tl ++ lsl)) F7 N8 ?_ ⟨by simp, trivial⟩ (expJ1_mk (by first | exact hself | assumption) D7 (own_cons6 (by k_ne) (by k_ne) (by k_ne) (by k_ne) (by k_ne) (by k_ne) offs) ?_ (hps.new hnt (fun _ h => .tail _ (List.mem_append_left _ h)) (fun _ h => .tail _ (List.mem_append_right _ h))) nx.1 nx.2)
      · exact off_cons (by k_ne) (off_cons (by k_ne) (off_cons (by k_ne) (off_cons (by k_ne) (off_cons (by k_ne) (off_cons (by k_ne) (off_nil fun q hq => offs q hq _ (by simp)))))))
      · intro q hq
        simp only [List.mem_cons] at hq
        rcases hq with rfl | hq
        · show @LT.lt Nat instLTNat _ _; first | k_extra "k_cj" | omega
        · exact (List.mem_append.mp hq).elim (hgt q) (ltV q)
  · intro m₁ n₁ hJ h₁ tk₁ F₁ N₁
    obtain ⟨oV', gV', ps', tl, rfl, hself, DV', hOff, hgt, hps, hdone, hrest⟩ := hJ
    obtain ⟨hK1, hK2, hK3, hK4, hK5⟩ := hK
    have hTr : ∀ k, Trimmed s.heap t (l k) tl (gV k) (gV' k) := by
      intro k
      by_cases hk : k ∈ ks
      · obtain ⟨j, hj, rfl⟩ := List.getElem_of_mem hk
        have := hdone j _ (List.getElem?_eq_getElem hj)
        rwa [if_pos (by rw [List.length_map, hK4]; exact hj)] at this
      · have e1 := hrest k hk
        have e2 : gV k = none := by
          cases e : gV k with
          | none => rfl
          | some a => exact absurd ((hK3 k).mpr ⟨a, e⟩) hk
        unfold Trimmed
        rw [e2] at e1 ⊢
        exact e1
    clear hdone hrest hK1 hK2 hK3 hK4 hK5
    k_steps
    show wpAny _ _ _ _ _ _
    refine For_turns (by assumption) ?_
    k_steps
    rename_i B2 c2 h2 tk2 ks2 vs2 hK F2 N2
    have N2' : News g' L' h2 ((dS, oS) :: (dE, oE) :: (dV, oV') :: (89, tabObj ps') :: (B2, W.listOf vs2.toArray c2) :: tl) := ncons (N2 _ (by k_mem)) (ncons (N2 _ (by k_mem)) (ncons (N2 _ (by k_mem)) (ncons (N2 _ (by k_mem)) (ncons (N2 _ (by k_mem)) (fun q hq => N2 q (by repeat (first | exact hq | refine List.Mem.tail _ ?_)))))))
    clear N2
    refine iter_listTurns rfl F2 N2' (.tail _ (.tail _ (.tail _ (.tail _ (.head _))))) rfl rfl (fun I2 hI => ?_)
    have hT2 : ∀ p ∈ tl, p.1 ≠ I2 := fun p hp => Nat.ne_of_lt (hI p (.tail _ (.tail _ (.tail _ (.tail _ (.tail _ hp))))))
    k_lt hI
    obtain ⟨hI1, hI2, hI3, hI4, hI5, _⟩ := hI
    replace hI5 : @LT.lt Nat instLTNat B2 I2 := hI5
    obtain ⟨hK1, hK2, hK3, hK4, hK5⟩ := hK
    refine items_ind (ExpJ2 prog w t x dS dE dV gS gE ks2 B2 (W.listOf vs2.toArray c2) oV' (tabObj ps') tl) ⟨oS, oE, gS, gE, rfl, by first | exact hself | assumption, DS, DE, fun j k hj => ⟨rfl, rfl⟩, fun _ _ => ⟨rfl, rfl⟩⟩ ?_ ?_
    · intro i a m₁ n₁ ha hJ v h₁ tk₁ hv F₁
      refine AllObj.cons (fun oI hoI => AllObj.nil (fun U hU _ N₁ => ?_))
      obtain ⟨oS', oE', gS', gE', rfl, hself', DS', DE', hdone, hrest⟩ := hJ
      replace N₁ : News g' L' h₁ ((I2, oI) :: (dS, oS') :: (dE, oE') :: (dV, oV') :: (89, tabObj ps') :: (B2, W.listOf vs2.toArray c2) :: tl) := N₁
      rw [List.getElem?_map] at ha
      obtain ⟨v', hv', rfl⟩ := Option.map_eq_some_iff.mp ha
      obtain rfl : v = v' := hv
      obtain ⟨k, t', hk, rfl⟩ := hK5 i v hv'
      obtain ⟨e, hge⟩ := (hK3 k).mp (List.mem_of_getElem? hk)
      have hkK := hK2 k (List.mem_of_getElem? hk)
      have hg2 : gS' k = gS k ∧ gE' k = gE k := by have := hdone i k hk; rwa [if_neg (Nat.lt_irrefl i)] at this
      have hg' : gE' k = some e := hg2.2.trans hge
      k_steps
      · have hle : e ≤ t := by assumption
        have nx := exp_next2 (t := t) (gS := gS) (gE := gE) (gS'' := upd gS' k none) (gE'' := upd gE' k none) hK1 hk (fun k' hne => ⟨upd_ne _ _ hne, upd_ne _ _ hne⟩) (by rw [upd_self, upd_self, hge, if_pos (show (some e).getD (t + 1) ≤ t from hle), if_pos (show (some e).getD (t + 1) ≤ t from hle)]; exact ⟨rfl, rfl⟩) hdone hrest
        rename News g' L' _ _ => N8
        rename Fr g' L' _ _ => F8
        refine hU _ _ _ ((dS, _) :: (dE, _) :: (dV, oV') :: (89, tabObj ps') :: (B2, W.listOf vs2.toArray c2) :: tl) F8 N8 ?_ ⟨by simp, trivial⟩ (expJ2_mk (by first | exact hself' | assumption) (by assumption) (by assumption) nx.1 nx.2)
        · exact off_cons (by k_ne) (off_cons (by k_ne) (off_cons (by k_ne) (off_cons (by k_ne) (off_cons (by k_ne) (off_nil hT2)))))
      · have hle : ¬ e ≤ t := by assumption
        have nx := exp_next2 (t := t) (gS := gS) (gE := gE) (gS'' := gS') (gE'' := gE') hK1 hk (fun k' hne => ⟨rfl, rfl⟩) (by rw [hg2.1, hg2.2, hge, if_neg (show ¬ (some e).getD (t + 1) ≤ t from hle), if_neg (show ¬ (some e).getD (t + 1) ≤ t from hle)]; exact ⟨rfl, rfl⟩) hdone hrest
        rename News g' L' _ _ => N8
        rename Fr g' L' _ _ => F8
        refine hU _ _ _ ((dS, _) :: (dE, _) :: (dV, oV') :: (89, tabObj ps') :: (B2, W.listOf vs2.toArray c2) :: tl) F8 N8 ?_ ⟨by simp, trivial⟩ (expJ2_mk (by first | exact hself' | assumption) DS' DE' nx.1 nx.2)
        · exact off_cons (by k_ne) (off_cons (by k_ne) (off_cons (by k_ne) (off_cons (by k_ne) (off_cons (by k_ne) (off_nil hT2)))))
    · intro m₁ n₁ hJ h₁ tk₁ F₁ N₁
      obtain ⟨oS', oE', gS', gE', rfl, hself', DS', DE', hdone, hrest⟩ := hJ
      have hS : gS' = fun k => if (gE k).getD (t + 1) ≤ t then none else gS k := by
        funext k
        by_cases hk : k ∈ ks2
        · obtain ⟨j, hj, rfl⟩ := List.getElem_of_mem hk
          have := hdone j _ (List.getElem?_eq_getElem hj)
          rw [if_pos (by rw [List.length_map, hK4]; exact hj)] at this
          exact this.1
        · have e2 : gE k = none := by
            cases e : gE k with
            | none => rfl
            | some a => exact absurd ((hK3 k).mpr ⟨a, e⟩) hk
          rw [(hrest k hk).1, e2, if_neg (show ¬ (none : Option Int).getD (t + 1) ≤ t from Int.not_le.mpr (Int.lt_add_one_of_le (Int.le_refl t)))]
      have hE : gE' = fun k => if (gE k).getD (t + 1) ≤ t then none else gE k := by
        funext k
        by_cases hk : k ∈ ks2
        · obtain ⟨j, hj, rfl⟩ := List.getElem_of_mem hk
          have := hdone j _ (List.getElem?_eq_getElem hj)
          rw [if_pos (by rw [List.length_map, hK4]; exact hj)] at this
          exact this.2
        · have e2 : gE k = none := by
            cases e : gE k with
            | none => rfl
            | some a => exact absurd ((hK3 k).mpr ⟨a, e⟩) hk
          rw [(hrest k hk).2, e2, if_neg (show ¬ (none : Option Int).getD (t + 1) ≤ t from Int.not_le.mpr (Int.lt_add_one_of_le (Int.le_refl t)))]
      subst hS
      subst hE
      k_steps
      rename News h₀ L _ _ => kN
      rename Fr h₀ L _ _ => kF
      rename News g' L' _ _ => N8
      rename Fr g' L' _ _ => F8
      have hK := kept_of F8 hkept
      have T4 : ∀ q ∈ tl, q ∈ (dS, oS') :: (dE, oE') :: (dV, oV') :: (89, tabObj ps') :: (B2, W.listOf vs2.toArray c2) :: tl := fun q hq => .tail _ (.tail _ (.tail _ (.tail _ (.tail _ hq))))
      refine h _ _ oS' oE' oV' ps' tl gV' kF (fun q hq => ?_) hps (fun q hq => ⟨(up_new F hkept N8 (T4 q hq) ?_).2, hgt q hq⟩) DS' DE' DV' hTr
      · rcases List.mem_append.mp hq with hq | hq
        · exact kN q (T4 q hq)
        · exact news_four N U1 U2 U3 U4 hK (kN (dS, oS') (by k_mem)) (kN (dE, oE') (by k_mem)) (kN (dV, oV') (by k_mem)) (kN (89, tabObj ps') (by k_mem)) q hq
      · have hO := hOff q hq
        intro hm
        simp only [List.map_cons, List.map_nil, List.mem_cons, List.not_mem_nil, or_false] at hm
        rcases hm with h9 | h9 | h9 | h9
        · exact hO _ (by simp) h9
        · exact hO _ (by simp) h9
        · exact hO _ (by simp) h9
        · exact hO _ (by simp) h9

end Expire
section Cell
variable {prog : Program} {w : World} {A₀ A : Around} {base h₀ : Heap} {outer : List Env} {env : Env} {L : Addr} {m mg mb : PySem.Str → Option Value}
  {p : Program} {loose : List PySem.Str} {mean : ExcName → Option Value} {s : Shared} {news : List (Addr × Obj)} {E : Value → Shared → Prop}
theorem words_Cell : True := by
  k_with_none
  w_top off
  (k_with "k_steps" => repeat' (first | (k_unfold; (try dsimp only)) | (k_end; wrow_close) | (dsimp only; walk1) | walk1 | (leave1; walk_say "STEP leave1"; try dsimp only) | fail "no step"))
  (k_with "k_lt" => first | (intro hlt9; (with_reducible rename NodT _ _ => hNdZ); have hNd2 := nod_new hNdZ hlt9 rfl; replace hlt9 := allLt_of hlt9; simp only [AllLt, and_true] at hlt9; revert hNd2 hlt9; intro _) | (intro hlt9; replace hlt9 := allLt_of hlt9; simp only [AllLt, and_true] at hlt9; revert hlt9) | fail)
  (k_with "k_off1" => first | exact Or.inl (by assumption) | exact Nat.le_refl _ | exact Nat.le_of_lt (by assumption) | exact Or.inr (Nat.le_trans (m := 201) (by decide) (by assumption)) | exact Nat.le_trans (m := 201) (by decide) (by assumption) | omega | fail)
  (k_with "k_offs" => first | (refine List.forall_mem_cons.mpr ⟨?_, ?_⟩; (try dsimp only); (k_extra "k_off1"); (k_extra "k_offs")) | exact (fun _ h => absurd h List.not_mem_nil) | fail)
  (k_with "k_cj" => with_reducible first | assumption | exact And.left (by assumption) | exact And.left (And.right (by assumption)) | exact And.left (And.right (And.right (by assumption))) | exact And.left (And.right (And.right (And.right (by assumption)))) | exact And.left (And.right (And.right (And.right (And.right (by assumption))))) | exact And.left (And.right (And.right (And.right (And.right (And.right (by assumption)))))) | exact And.right (by assumption) | exact And.right (And.right (by assumption)) | exact And.right (And.right (And.right (by assumption))) | exact And.right (And.right (And.right (And.right (by assumption)))) | exact And.right (And.right (And.right (And.right (And.right (by assumption))))) | fail)
  (k_with "k_dp" => first | exact Nat.le_trans (by assumption) (by decide) | exact Nat.le_trans (Nat.succ_le_succ (by assumption)) (by decide) | exact Nat.lt_of_le_of_lt (by assumption) (by decide) | exact Nat.lt_of_le_of_lt (Nat.succ_le_succ (by assumption)) (by decide) | exact Nat.le_trans (Nat.succ_le_succ (Nat.succ_le_succ (by assumption))) (by decide) | exact Nat.lt_of_le_of_lt (Nat.succ_le_succ (Nat.succ_le_succ (by assumption))) (by decide) | (simp only [depth_mark, depth_under_make, depth_under_kw, depth_in1, depth_deeper]; omega) | fail)
  (k_with "k_mem" => first | exact AtU.head | (apply AtU.tail; k_mem) | (refine' PairIn.head ?_; k_mem) | (refine' PairIn.tail ?_; k_mem) | fail)
  (k_with "k_ne" => first | (refine' ne_d1 ?zH ?zP; (case zH => assumption); (case zP => k_mem)) | (refine' ne_d2 ?zH ?zP; (case zH => assumption); (case zP => k_mem)) | exact Nat.ne_of_gt (by (try dsimp only); k_extra "k_cj") | exact Nat.ne_of_lt (by (try dsimp only); k_extra "k_cj") | (refine neN ?_; (try dsimp only); omega) | fail)
  (k_with "k_updF" => first | (refine' updF_at ?zA ?zH ?ze ?zm; (case zA => k_mem); (case zH => assumption); (case ze => rfl); (case zm => k_mem)) | (refine' UpdF.head ?za; (case za => k_all)) | (refine' UpdF.tail ?za ?zb; (case za => k_ne); (case zb => k_updF)) | fail)
  (k_with "k_inst" => first | (refine' instH ?zF ?zI; (case zF => k_asm); (case zI => assumption)) | fail)
  (k_with "k_room" => first | (show _ < 1000; k_extra "k_dp") | fail)
  (k_with "is_list" => first | (refine' listH ?zF ?zI; (case zF => k_asm); (case zI => assumption)) | fail)
  (k_with "call ref" => (k_here; (with_reducible show wpAny _ _ (call (Value.ref _) [] []) _ _ _); k_dflt (refine' clock_in ?zF ?zX ?zN ?zT ?zr ?zC ?_; (case zF => k_asm); (case zC => assumption); (case zX => k_asm); (case zN => k_asm); (case zT => k_asm); (case zr => k_room)); intro _ _ _ _ _ _))
  (k_with "getMethod ref" => (k_here; (with_reducible show wpAny _ _ (getMethod (Value.ref _) (Str.ofString "get") _) _ _ _); k_dflt (refine' dsd_method PySem.F.slot_dict_get PySem.F.type_dict_get ?zN ?zm ?zD ?_; (case zN => k_asm); (case zm => k_mem); (case zD => k_asm))))
  (k_with "getMethod ref" => (k_here; (with_reducible show wpAny _ _ (getMethod (Value.ref _) (Str.ofString "pop") _) _ _ _); k_dflt (refine' dsd_method PySem.F.slot_dict_pop PySem.F.type_dict_pop ?zN ?zm ?zD ?_; (case zN => k_asm); (case zm => k_mem); (case zD => k_asm))))
  (k_with "getMethod ref" => (k_here; (with_reducible show wpAny _ _ (getMethod (Value.ref _) (Str.ofString "setdefault") _) _ _ _); k_dflt (refine' dsd_method PySem.F.slot_dict_setdefault PySem.F.type_dict_setdefault ?zN ?zm ?zD ?_; (case zN => k_asm); (case zm => k_mem); (case zD => k_asm))))
  (k_with "getMethod ref" => (k_here; (with_reducible show wpAny _ _ (getMethod (Value.ref _) (Str.ofString "clear") _) _ _ _); k_dflt (refine' dsd_method PySem.F.slot_dict_clear PySem.F.type_dict_clear ?zN ?zm ?zD ?_; (case zN => k_asm); (case zm => k_mem); (case zD => k_asm))))
  (k_with "getMethod ref" => (k_here; (with_reducible show wpAny _ _ (getMethod (Value.ref _) (Str.ofString "clock") _) _ _ _); k_dflt (refine' kmu_own ?zk1 ?zk2 ?zk3 ?zk4 ?zk5 ?_; (case zk1 => k_asm); (case zk2 => k_asm); (case zk3 => k_inst); (case zk4 => k_is); (case zk5 => k_is); k_whole)))
  (k_with "getAttr ref" => (k_here; k_dflt (refine' get_own ?zk1 ?zk2 ?zk3 ?zk4 ?zk5 ?zk6 ?zk7 ?zk8 ?zk9 ?_; (case zk1 => k_asm); (case zk2 => k_asm); (case zk3 => k_inst); (case zk4 => k_is); (case zk5 => k_is); (case zk6 => k_is); (case zk7 => k_is); (case zk8 => k_get); (case zk9 => k_handed); k_whole)))
  (k_with "call builtin:dict.get" => (k_here; k_dflt (refine' dsd_get ?zN ?zm ?zD ?zlo ?_; (case zN => k_asm); (case zm => k_mem); (case zD => k_asm); (case zlo => k_asm)); intro _ _))
  (k_with "call builtin:dict.get" => (k_here; (with_reducible show wpAny _ _ (call (Value.builtin _) [Value.ref _, Value.str _ _, Value.int _ _]) _ _ _); k_dflt (refine' isd_get ?zN ?zm ?zD ?zlo ?_; (case zN => k_asm); (case zm => k_mem); (case zD => k_asm); (case zlo => k_asm)); intro _))
  (k_with "call builtin:dict.pop" => (k_here; k_dflt (refine' dsd_pop ?zF ?zN ?zU ?zD ?zlo ?_; (case zF => k_asm); (case zN => k_asm); (case zU => k_updF); (case zD => k_asm); (case zlo => k_asm)); intro _ _ _ _ _ _ _))
  (k_with "call builtin:dict.clear" => (k_here; k_dflt (refine' dsd_clear ?zF ?zN ?zU ?zD ?_; (case zF => k_asm); (case zN => k_asm); (case zU => k_updF); (case zD => k_asm)); intro _ _ _ _ _))
  (k_with "call builtin:len" => (k_here; (with_reducible show wpAny _ _ (call (Value.builtin "len") [Value.ref _]) _ _ _); k_dflt (refine' dsd_len_call ?zN ?zm ?zD ?zlo ?_; (case zN => k_asm); (case zm => k_mem); (case zD => k_asm); (case zlo => k_asm)); intro _ _))
  (k_with "callWith ref" => (k_here; (with_reducible show wpAny _ _ (callWith _ _ _ (backTo _ (starEach [] _)) []) _ _ _); k_dflt (refine' callWith_F0 ?zk1 ?_; (case zk1 => exact fnClock (by k_asm) (by assumption)); k_whole); (try dsimp only [List.nil_append, List.cons_append])))
  (k_with "setItem ref str" => (k_here; k_dflt (refine' dsd_set ?zF ?zN ?zU ?zD ?zk ?zx ?_; (case zF => k_asm); (case zN => k_asm); (case zU => k_updF); (case zD => k_asm); (case zk => k_asm); (case zx => first | exact ⟨_, rfl⟩ | exact rfl)); intro _ _ _ _ _))
  (k_with "subscriptTail" => (k_here; (with_reducible show wpAny _ _ (subscriptTail _ _ (Value.ref _) (Value.str _ _)) _ _ _); k_dflt (refine' isd_item ?zN ?zm ?zD ?zx ?_; (case zN => k_asm); (case zm => k_mem); (case zD => k_asm); (case zx => first | exact upd_self _ _ _ | assumption)); intro _))
  (k_with "eval Name" => (k_here; k_dflt (refine' nameX_L ?zF ?zv ?_ ?za ?zb; (case za => rfl); (case zb => rfl); (case zF => k_asm); (case zv => first | rfl | assumption); k_whole)))
  (k_with "call builtin:len" => (k_here; (with_reducible show wpAny _ _ (call (Value.builtin "len") [Value.ref _]) _ _ _); k_dflt (refine' len_lst ?zl ?zn ?zb ?_; (case zl => is_list); (case zn => assumption); (case zb => omega); k_whole); intro _))
  (k_with "exec While Compare cons nil" => (k_here; refine stopW ?_))
  (k_with "subscriptTail" => (k_here; (with_reducible show wpAny _ _ (subscriptTail _ _ (Value.ref _) (Value.str _ _)) _ _ _); k_dflt (refine' asd_item ?zN ?zm ?zD ?zx ?_; (case zN => k_asm); (case zm => k_mem); (case zD => k_asm); (case zx => first | exact upd_self _ _ _ | assumption))))
  trivial
theorem def_inC {R : Result → Shared → Prop} {name qual : PySem.Str} {params : Arguments} {body : List Stmt} {scope : Scope} {dV kV doc pm cdv ct oc : Value} {an od : Option Addr} {osl : Array (Option Value)} {f : Addr} {args : Args} {binds : List (PySem.Str × Value)} {K : Frag}
    (B : Below A₀ base outer h₀) (F : Fr h₀ L s.heap m) (X₀ : K.In h₀) (N : News h₀ L s.heap news) (T : Top p loose mean mg mb h₀) (hA : A.frames = some (env :: outer)) (hf : env.frame = some L) (hke : env.scope.kind = .function)
    (ho : K.lookup f = some ⟨oc, od, .func (fnOf name qual params body scope dV kV doc pm an cdv ct), osl⟩) (hcd : codeIn K cdv qual = true) (hroom : A.depth < recursionLimit)
    (hbind : BindsTo s (fnOf name qual params body scope dV kV doc pm an cdv ct) args binds) (hkind : (binds.all fun y => scope.names.lookup y.1 == some .local || scope.names.lookup y.1 == some .cell) = true)
    (hnd : ((cellsFrom 0 scope.names []).map (·.1)).Nodup)
    (h : ∀ g L' h₁ tk cells m₁, (∀ y, m₁ y = bindL (envOfC qual scope L' f cdv).kindOf binds (fun _ => none) y) → Fr h₀ L g m → Fr g L' h₁ m₁ → News g L' h₁ (cells ++ news) →
      CellsAre (bindC (envOfC qual scope L' f cdv).kindOf binds fun _ => none) (cellsFrom (L' + 1) scope.names []) cells → Below A base (env :: outer) g → K.In g → Top p loose mean mg mb g →
      Kept (news.map (·.1)) s.heap g → (∀ q ∈ news, q.1 < L') →
      wpAny (model prog w) (A.deeper (envOfC qual scope L' f cdv)) (execs body (envOfC qual scope L' f cdv))
        (fun fl s' => LeaveK h₀ L m g R (match fl with | .ret v => v | _ => .none) s')
        (fun e s' => wpAny (model prog w) (A.deeper (envOfC qual scope L' f cdv)) (leaving (envOfC qual scope L' f cdv) e) (fun _ s'' => R (.error e) s'') (fun e' s'' => R (.error e') s'') s')
        { s with heap := h₁, toks := tk })
    (hco : scope.isCoroutine = false) (hgen : scope.isGenerator = false) (hk : scope.kind = .function) : codeAny (model prog w) A (.call (.ref f) args) R s := by
  have Xs := X₀.keeps F.keep
  obtain ⟨FG, BG, st, lv⟩ := groundX (R := R) B F N hA hf hke
  refine codeAny_call_function hroom (Xs _ _ ho) rfl hco hgen rfl (codeRec_of Xs hcd) (hbind _ _ _ _ (wpAny_newFunctionEnv_cells hk (kindsX hkind _) fun env' he s' x => ?_))
  subst he
  refine ⟨(T.nolimit.keeps F.keep).keeps x.toInCall.keep, codeAny_func ?_⟩
  obtain ⟨h₁, tk, rfl, _⟩ := x.done
  have up := x.toInCall.keep
  obtain ⟨cells, NC, Y⟩ := Cl.news (h₀ := s.heap) (Nat.le_refl _) fun n c hm => ⟨x.cell n c (lookup_of_mem_nodup (cellsFrom_names scope.names 0 (s.heap.objs.size + 1) [] [] rfl ▸ hnd) hm), x.above n c hm⟩
  refine wpAny_mono (h _ s.heap.objs.size h₁ tk cells _ (fun _ => rfl) FG ⟨x.toInCall.ns, fun b o e => up b o (of_hideAll _ e), Nat.le_of_eq (hideAll_size _ _)⟩ (fun q hq => ?_) Y BG (X₀.keeps st) (T.keeps st) (fun b o hb e => hideAll_get _ e hb) fun q hq => Heap.lt_size (N q hq).1) (fun fl s' hl => lv _ _ hl) fun _ _ y => y
  rcases List.mem_append.mp hq with hq | hq
  · refine ⟨(NC q hq).1, (NC q hq).2.1, ?_⟩
    cases e : (hideAll s.heap (news.map (·.1))).get? q.1 with
    | none => rfl
    | some o => have z := of_hideAll _ e; rw [(NC q hq).2.2] at z; cases z
  · exact ⟨up _ _ (N q hq).1, Nat.ne_of_lt (Heap.lt_size (N q hq).1), hideAll_none _ (List.mem_map_of_mem hq)⟩
theorem ev_all {h h' : Heap} {gV : PySem.Str → Option Addr} {k : PySem.Str} {bd : Nat} {l : List (Int × Int)} (x : match gV k with | none => l = [] | some a => EvAt w h bd a l) (kp : ∀ b o, h.get? b = some o → h'.get? b = some o) :
    match gV k with | none => l = [] | some a => EvAt w h' bd a l := by
  cases e : gV k with
  | none => rw [e] at x; exact x
  | some a => rw [e] at x; exact x.all kp
theorem ne_cls {h : Heap} {D d : Addr} {oD o : Obj} {l : List (Addr × Obj)} (N : News h₀ L h l) (m1 : (D, oD) ∈ l) (m2 : (d, o) ∈ l) (hc : oD.cls ≠ o.cls) : D ≠ d := by
  intro e
  subst e
  have e1 := (N _ m1).1
  have e2 := (N _ m2).1
  rw [e1] at e2
  exact hc (congrArg Obj.cls (Option.some.inj e2))
theorem dsd_cls {α : Type} {R : Value → α → Prop} {o : Obj} {g : PySem.Str → Option α} (X : DSD prog w R o g) : o.cls = .type "dict" := by
  obtain ⟨kvs, hd, _⟩ := X
  obtain ⟨_, _, hc, _⟩ := hd
  first | exact hc | exact hc.1
theorem ne_list_dsd {α : Type} {R : Value → α → Prop} {h : Heap} {D d : Addr} {oD o : Obj} {g : PySem.Str → Option α} {l : List (Addr × Obj)} (N : News h₀ L h l) (m1 : (D, oD) ∈ l) (m2 : (d, o) ∈ l) (hc : oD.cls = .type "list") (X : DSD prog w R o g) : D ≠ d :=
  ne_cls N m1 m2 (by rw [hc, dsd_cls X]; simp)
theorem len_ints {D : Addr} {vs : List Value} {ns : List Int} {Q : Value → Shared → Prop} (hl : s.heap.IsList D vs.toArray) (hi : IntsAre vs ns) (hb : ns.length ≤ 1000000) (h : ∀ tv, Q (.int (ns.length : Nat) tv) { s with toks := s.toks + 1 + 1 }) :
    wpAny (model prog w) A (call (.builtin "len") [.ref D]) Q E s :=
  len_lst hl hi.length hb h
theorem len_filter_le {f : Int → Bool} {g : Int → Int} {ns : List Int} {n : Nat} (h : ns.length ≤ n) : ((ns.filter f).map g).length ≤ n := by
  rw [List.length_map]
  exact Nat.le_trans (List.length_filter_le _ _) h
theorem truthy_ints {D : Addr} {vs : List Value} {ns : List Int} {Q : Bool → Shared → Prop} (hl : s.heap.IsList D vs.toArray) (hi : IntsAre vs ns) (hb : ns.length ≤ 1000000) (h1 : ns ≠ [] → Q true { s with toks := s.toks + 1 + 1 }) (h2 : ns = [] → Q false { s with toks := s.toks + 1 + 1 }) :
    wpAny (model prog w) A (truthy (.ref D)) Q E s := by
  have hlen := hi.length
  refine wpAny_truthy_list hl (by simp; omega) ?_
  cases ns with
  | nil =>
    obtain rfl : vs = [] := List.eq_nil_of_length_eq_zero hlen
    exact h2 rfl
  | cons n ns =>
    cases vs with
    | nil => cases hlen
    | cons v vs => exact h1 (by simp)

end Cell
section LawStore
variable {prog : Program} {w : World} {A₀ A : Around} {base h₀ : Heap} {outer : List Env} {env : Env} {L : Addr} {m mg mb : PySem.Str → Option Value}
  {p : Program} {loose : List PySem.Str} {mean : ExcName → Option Value} {s : Shared} {news : List (Addr × Obj)} {E : Value → Shared → Prop}
theorem words_LawStore : True := by
  k_with_none
  w_top off
  (k_with "k_steps" => repeat' (first | (k_unfold; (try dsimp only)) | (k_end; wrow_close) | (dsimp only; walk1) | walk1 | (leave1; walk_say "STEP leave1"; try dsimp only) | fail "no step"))
  (k_with "k_lt" => first | (intro hlt9; (with_reducible rename NodT _ _ => hNdZ); have hNd2 := nod_new hNdZ hlt9 rfl; replace hlt9 := allLt_of hlt9; simp only [AllLt, and_true] at hlt9; revert hNd2 hlt9; intro _) | (intro hlt9; replace hlt9 := allLt_of hlt9; simp only [AllLt, and_true] at hlt9; revert hlt9) | fail)
  (k_with "k_off1" => first | exact Or.inl (by assumption) | exact Nat.le_refl _ | exact Nat.le_of_lt (by assumption) | exact Or.inr (Nat.le_trans (m := 201) (by decide) (by assumption)) | exact Nat.le_trans (m := 201) (by decide) (by assumption) | omega | fail)
  (k_with "k_offs" => first | (refine List.forall_mem_cons.mpr ⟨?_, ?_⟩; (try dsimp only); (k_extra "k_off1"); (k_extra "k_offs")) | exact (fun _ h => absurd h List.not_mem_nil) | fail)
  (k_with "k_cj" => with_reducible first | assumption | exact And.left (by assumption) | exact And.left (And.right (by assumption)) | exact And.left (And.right (And.right (by assumption))) | exact And.left (And.right (And.right (And.right (by assumption)))) | exact And.left (And.right (And.right (And.right (And.right (by assumption))))) | exact And.left (And.right (And.right (And.right (And.right (And.right (by assumption)))))) | exact And.right (by assumption) | exact And.right (And.right (by assumption)) | exact And.right (And.right (And.right (by assumption))) | exact And.right (And.right (And.right (And.right (by assumption)))) | exact And.right (And.right (And.right (And.right (And.right (by assumption))))) | fail)
  (k_with "k_dp" => first | exact Nat.le_trans (by assumption) (by decide) | exact Nat.le_trans (Nat.succ_le_succ (by assumption)) (by decide) | exact Nat.lt_of_le_of_lt (by assumption) (by decide) | exact Nat.lt_of_le_of_lt (Nat.succ_le_succ (by assumption)) (by decide) | exact Nat.le_trans (Nat.succ_le_succ (Nat.succ_le_succ (by assumption))) (by decide) | exact Nat.lt_of_le_of_lt (Nat.succ_le_succ (Nat.succ_le_succ (by assumption))) (by decide) | (simp only [depth_mark, depth_under_make, depth_under_kw, depth_in1, depth_deeper]; omega) | fail)
  (k_with "k_mem" => first | exact AtU.head | (apply AtU.tail; k_mem) | (refine' PairIn.head ?_; k_mem) | (refine' PairIn.tail ?_; k_mem) | fail)
  (k_with "k_ne" => first | (refine' ne_d1 ?zH ?zP; (case zH => assumption); (case zP => k_mem)) | (refine' ne_d2 ?zH ?zP; (case zH => assumption); (case zP => k_mem)) | exact Nat.ne_of_gt (by (try dsimp only); k_extra "k_cj") | exact Nat.ne_of_lt (by (try dsimp only); k_extra "k_cj") | (refine neN ?_; (try dsimp only); omega) | fail)
  (k_with "k_updF" => first | (refine' updF_at ?zA ?zH ?ze ?zm; (case zA => k_mem); (case zH => assumption); (case ze => rfl); (case zm => k_mem)) | (refine' UpdF.head ?za; (case za => k_all)) | (refine' UpdF.tail ?za ?zb; (case za => k_ne); (case zb => k_updF)) | fail)
  (k_with "k_inst" => first | (refine' instH ?zF ?zI; (case zF => k_asm); (case zI => assumption)) | fail)
  (k_with "k_room" => first | (show _ < 1000; k_extra "k_dp") | fail)
  (k_with "is_list" => first | (refine' listH ?zF ?zI; (case zF => k_asm); (case zI => assumption)) | fail)
  (k_with "call ref" => (k_here; (with_reducible show wpAny _ _ (call (Value.ref _) [] []) _ _ _); k_dflt (refine' clock_in ?zF ?zX ?zN ?zT ?zr ?zC ?_; (case zF => k_asm); (case zC => assumption); (case zX => k_asm); (case zN => k_asm); (case zT => k_asm); (case zr => k_room)); intro _ _ _ _ _ _))
  (k_with "getMethod ref" => (k_here; (with_reducible show wpAny _ _ (getMethod (Value.ref _) (Str.ofString "get") _) _ _ _); k_dflt (refine' dsd_method PySem.F.slot_dict_get PySem.F.type_dict_get ?zN ?zm ?zD ?_; (case zN => k_asm); (case zm => k_mem); (case zD => k_asm))))
  (k_with "getMethod ref" => (k_here; (with_reducible show wpAny _ _ (getMethod (Value.ref _) (Str.ofString "pop") _) _ _ _); k_dflt (refine' dsd_method PySem.F.slot_dict_pop PySem.F.type_dict_pop ?zN ?zm ?zD ?_; (case zN => k_asm); (case zm => k_mem); (case zD => k_asm))))
  (k_with "getMethod ref" => (k_here; (with_reducible show wpAny _ _ (getMethod (Value.ref _) (Str.ofString "setdefault") _) _ _ _); k_dflt (refine' dsd_method PySem.F.slot_dict_setdefault PySem.F.type_dict_setdefault ?zN ?zm ?zD ?_; (case zN => k_asm); (case zm => k_mem); (case zD => k_asm))))
  (k_with "getMethod ref" => (k_here; (with_reducible show wpAny _ _ (getMethod (Value.ref _) (Str.ofString "clear") _) _ _ _); k_dflt (refine' dsd_method PySem.F.slot_dict_clear PySem.F.type_dict_clear ?zN ?zm ?zD ?_; (case zN => k_asm); (case zm => k_mem); (case zD => k_asm))))
  (k_with "getMethod ref" => (k_here; (with_reducible show wpAny _ _ (getMethod (Value.ref _) (Str.ofString "clock") _) _ _ _); k_dflt (refine' kmu_own ?zk1 ?zk2 ?zk3 ?zk4 ?zk5 ?_; (case zk1 => k_asm); (case zk2 => k_asm); (case zk3 => k_inst); (case zk4 => k_is); (case zk5 => k_is); k_whole)))
  (k_with "getAttr ref" => (k_here; k_dflt (refine' get_own ?zk1 ?zk2 ?zk3 ?zk4 ?zk5 ?zk6 ?zk7 ?zk8 ?zk9 ?_; (case zk1 => k_asm); (case zk2 => k_asm); (case zk3 => k_inst); (case zk4 => k_is); (case zk5 => k_is); (case zk6 => k_is); (case zk7 => k_is); (case zk8 => k_get); (case zk9 => k_handed); k_whole)))
  (k_with "call builtin:dict.get" => (k_here; k_dflt (refine' dsd_get ?zN ?zm ?zD ?zlo ?_; (case zN => k_asm); (case zm => k_mem); (case zD => k_asm); (case zlo => k_asm)); intro _ _))
  (k_with "call builtin:dict.get" => (k_here; (with_reducible show wpAny _ _ (call (Value.builtin _) [Value.ref _, Value.str _ _, Value.int _ _]) _ _ _); k_dflt (refine' isd_get ?zN ?zm ?zD ?zlo ?_; (case zN => k_asm); (case zm => k_mem); (case zD => k_asm); (case zlo => k_asm)); intro _))
  (k_with "call builtin:dict.pop" => (k_here; k_dflt (refine' dsd_pop ?zF ?zN ?zU ?zD ?zlo ?_; (case zF => k_asm); (case zN => k_asm); (case zU => k_updF); (case zD => k_asm); (case zlo => k_asm)); intro _ _ _ _ _ _ _))
  (k_with "call builtin:dict.clear" => (k_here; k_dflt (refine' dsd_clear ?zF ?zN ?zU ?zD ?_; (case zF => k_asm); (case zN => k_asm); (case zU => k_updF); (case zD => k_asm)); intro _ _ _ _ _))
  (k_with "call builtin:len" => (k_here; (with_reducible show wpAny _ _ (call (Value.builtin "len") [Value.ref _]) _ _ _); k_dflt (refine' dsd_len_call ?zN ?zm ?zD ?zlo ?_; (case zN => k_asm); (case zm => k_mem); (case zD => k_asm); (case zlo => k_asm)); intro _ _))
  (k_with "callWith ref" => (k_here; (with_reducible show wpAny _ _ (callWith _ _ _ (backTo _ (starEach [] _)) []) _ _ _); k_dflt (refine' callWith_F0 ?zk1 ?_; (case zk1 => exact fnClock (by k_asm) (by assumption)); k_whole); (try dsimp only [List.nil_append, List.cons_append])))
  (k_with "setItem ref str" => (k_here; k_dflt (refine' dsd_set ?zF ?zN ?zU ?zD ?zk ?zx ?_; (case zF => k_asm); (case zN => k_asm); (case zU => k_updF); (case zD => k_asm); (case zk => k_asm); (case zx => first | exact ⟨_, rfl⟩ | exact rfl)); intro _ _ _ _ _))
  (k_with "subscriptTail" => (k_here; (with_reducible show wpAny _ _ (subscriptTail _ _ (Value.ref _) (Value.str _ _)) _ _ _); k_dflt (refine' isd_item ?zN ?zm ?zD ?zx ?_; (case zN => k_asm); (case zm => k_mem); (case zD => k_asm); (case zx => first | exact upd_self _ _ _ | assumption)); intro _))
  (k_with "eval Name" => (k_here; k_dflt (refine' nameX_L ?zF ?zv ?_ ?za ?zb; (case za => rfl); (case zb => rfl); (case zF => k_asm); (case zv => first | rfl | assumption); k_whole)))
  (k_with "call builtin:len" => (k_here; (with_reducible show wpAny _ _ (call (Value.builtin "len") [Value.ref _]) _ _ _); k_dflt (refine' len_lst ?zl ?zn ?zb ?_; (case zl => is_list); (case zn => assumption); (case zb => omega); k_whole); intro _))
  (k_with "exec While Compare cons nil" => (k_here; refine stopW ?_))
  (k_with "subscriptTail" => (k_here; (with_reducible show wpAny _ _ (subscriptTail _ _ (Value.ref _) (Value.str _ _)) _ _ _); k_dflt (refine' asd_item ?zN ?zm ?zD ?zx ?_; (case zN => k_asm); (case zm => k_mem); (case zD => k_asm); (case zx => first | exact upd_self _ _ _ | assumption))))
  (k_with "call ref" => (k_here; (with_reducible show wpAny _ _ (call (Value.ref 117) [Value.ref _, Value.str _ _] []) _ _ _); k_dflt (refine' get_in ?zB ?zF ?zX ?zN ?zT ?zA ?zhh ?zf ?zk ?zr ?zG ?zU1 ?zU2 ?zDS ?zDE ?_; (case zF => k_asm); (case zG => exact Geo.all (by assumption) (Fr.keep (by k_asm))); (case zB => k_asm); (case zX => k_asm); (case zN => k_asm); (case zT => k_asm); (case zA => exact rfl); (case zhh => exact rfl); (case zf => exact rfl); (case zk => exact rfl); (case zr => (show _ ≤ 900; k_extra "k_dp")); (case zU1 => k_updF); (case zU2 => (intro _; (try dsimp only); k_updF)); (case zDS => k_asm); (case zDE => k_asm)); intro _ _ _ _ _ _ _ _ _ _))
  (k_with "callWith ref" => (k_here; k_dflt (refine' callWith_F ?zk1 ?_; (case zk1 => exact NegAt.fn (NegAt.keeps (by assumption) (Fr.keep (by k_asm)))); k_whole)))
  (k_with "call ref" => (k_here; (with_reducible show wpAny _ _ (call (Value.ref 52) _ _) _ _ _); refine stopW ?_))
  (k_with "call builtin:dict.setdefault" => (k_here; refine stopW ?_))
  (k_with "eval Lambda" => (k_here; k_dflt (refine' lam_in ?zF ?zN ?zT ?zC ?zcd ?zU ?zhps ?zhsub ?zcl ?zdf ?_; (case zF => k_asm); (case zN => k_asm); (case zT => k_asm); (case zcd => exact rfl); (case zC => kn_code); (case zU => k_updF); (case zhps => assumption); (case zhsub => (intro _ hq; first | (exact absurd hq List.not_mem_nil) | (repeat (first | exact hq | refine List.Mem.tail _ ?_)))); (case zcl => exact rfl); (case zdf => exact rfl); k_whole); intro fl cl ct psl lsl hpl tkl Fl Nl hfl hrl hnt ltl; (simp only [List.cons_append, List.nil_append] at Nl)))
  (k_with "call ref" => (k_here; (with_reducible show wpAny _ _ (call (Value.ref 69) _ _) _ _ _); k_dflt (refine' entry_in ?zF ?zX ?zN ?zT ?zr ?_; (case zF => k_asm); (case zX => k_asm); (case zN => k_asm); (case zT => k_asm); (case zr => (show _ ≤ 890; k_extra "k_dp"))); intro r9 d9 _ _ _ _ _ _ _ _ l1 l2; (try k_lt l1); (replace l2 : @LT.lt Nat instLTNat d9 r9 := l2)))
  (k_with "binaryOp Mult ref int" => (k_here; (with_reducible show wpAny _ _ (binaryOp Operator.Mult (Value.ref _) (Value.int _ _)) _ _ _); k_dflt (refine' KMa.mul ?zF ?zN ?zl ?zlo ?zhi ?z ?ze ?_; (case zF => k_asm); (case zN => k_asm); (case zl => is_list); (case zlo => omega); (case zhi => omega); (case z => (simp only [List.length_cons, List.length_nil]; omega)); (case ze => exact flat1 _ _)); intro _ _ _ _ l1; (try k_lt l1)))
  (k_with "binaryOp Add ref ref" => (k_here; (with_reducible show wpAny _ _ (binaryOp _ (Value.ref _) (Value.ref _)) _ _ _); k_dflt (refine' kmk_add_lit ?zF ?zN ?za ?zb ?ze ?_ ?z; (case zF => k_asm); (case zN => k_asm); (case za => first | kmk_list | is_list); (case zb => first | kmk_list | is_list); (case ze => exact rfl); (case z => (simp only [sizeLine, List.toList_toArray, List.length_replicate, List.length_nil, List.length_cons]; omega))); intro _ _ _ _ l1; (try k_lt l1)))
  (k_with "getMethod ref" => (k_here; (with_reducible show wpAny _ _ (getMethod (Value.ref _) (Str.ofString "keys") _) _ _ _); k_dflt (refine' dsd_method PySem.F.slot_dict_keys PySem.F.type_dict_keys ?zN ?zm ?zD ?_; (case zN => k_asm); (case zm => k_mem); (case zD => k_asm))))
  (k_with "call builtin:dict.keys" => (k_here; (with_reducible show wpAny _ _ (call (Value.builtin "dict.keys") [Value.ref _]) _ _ _); k_dflt (refine' dsd_keys ?zF ?zN ?zm ?zD ?zlo ?_; (case zF => k_asm); (case zN => k_asm); (case zm => k_mem); (case zD => k_asm); (case zlo => k_asm)); intro _ _ _ _ l1; (try k_lt l1)))
  (k_with "call type:list" => (k_here; (with_reducible show wpAny _ _ (call (Value.type "list") [Value.ref _]) _ _ _); k_dflt (refine' dsd_list ?zh ?zF ?zN ?zv ?zm ?zD ?_; (case zh => exact rfl); (case zF => k_asm); (case zN => k_asm); (case zv => exact List.Mem.head _); (case zm => k_mem); (case zD => k_asm)); intro _ _ _ _ _ _ _ _ _ l1; (try k_lt l1)))
  (k_with "exec For Name Call cons nil" => (k_here; refine stopW ?_))
  (k_with "eval Name" => (k_here; (with_reducible show wpAny _ _ (eval (Expr.Name _ _) (envOfC _ _ _ _ _)) _ _ _); k_dflt (refine' nameX_L ?zF ?zv ?_ ?za ?zb; (case za => rfl); (case zb => rfl); (case zF => k_asm); (case zv => first | rfl | assumption))))
  (k_with "k_ne" => first | (refine' ne_list_dsd ?zN ?zm1 ?zm2 ?zc ?zX; (case zN => k_asm); (case zm1 => k_mem); (case zm2 => k_mem); (case zc => exact rfl); (case zX => k_asm)) | (refine' ne_cls ?zN ?zm1 ?zm2 ?zc; (case zN => k_asm); (case zm1 => k_mem); (case zm2 => k_mem); (case zc => simp [tabObj])) | fail)
  (k_with "call builtin:len" => (k_here; (with_reducible show wpAny _ _ (call (Value.builtin "len") [Value.ref _]) _ _ _); k_dflt (refine' len_ints ?zl ?zi ?zb ?_; (case zl => kmk_list); (case zi => k_asm); (case zb => exact len_filter_le (n := 1000000) (by omega)); k_whole); intro _))
  (k_with "truthy ref" => (k_here; (with_reducible show wpAny _ _ (truthy (Value.ref _)) _ _ _); k_dflt (refine' truthy_ints ?zl ?zi ?zb ?_ ?_; (case zl => kmk_list); (case zi => k_asm); (case zb => exact len_filter_le (n := 1000000) (by omega)); k_whole); intro _))
  (k_with "call ref" => (k_here; (with_reducible show wpAny _ _ (call (Value.ref 139) [Value.ref _, Value.str _ _] []) _ _ _); k_dflt (refine' get_expiry_in ?zB ?zF ?zX ?zN ?zT ?zA ?zhh ?zf ?zk ?zr ?zG ?zm ?zDE ?_; (case zF => k_asm); (case zG => exact Geo.all (by assumption) (Fr.keep (by k_asm))); (case zB => k_asm); (case zX => k_asm); (case zN => k_asm); (case zT => k_asm); (case zA => exact rfl); (case zhh => exact rfl); (case zf => exact rfl); (case zk => exact rfl); (case zr => (show _ ≤ 890; k_extra "k_dp")); (case zm => k_mem); (case zDE => k_asm)); intro _ _ _ _ _ _))
  (k_with "call ref" => (k_here; (with_reducible show wpAny _ _ (call (Value.ref 146) _ _) _ _ _); k_dflt (refine' moving_in ?zB ?zF ?zX ?zN ?zT ?zA ?zhh ?zf ?zk ?zr ?zG ?zlo ?zCH ?zm ?zU ?zDV ?zhT ?zhE ?zhl ?zhs ?_; (case zF => k_asm); (case zG => exact Geo.all (by assumption) (Fr.keep (by k_asm))); (case zB => k_asm); (case zX => k_asm); (case zN => k_asm); (case zT => k_asm); (case zA => exact rfl); (case zhh => exact rfl); (case zf => exact rfl); (case zk => exact rfl); (case zr => (show _ ≤ 880; k_extra "k_dp")); (case zlo => k_asm); (case zCH => k_asm); (case zDV => k_asm); (case zm => k_mem); (case zU => k_updF); (case zhT => exact TabSt.all (by assumption) (Fr.keep (by k_asm))); (case zhE => exact ev_all (by assumption) (Fr.keep (by k_asm))); (case zhl => k_asm); (case zhs => k_asm)); intro _ _ psm Rm stm nm _ _ lsm _ Nm hRm hTm hfm hnm hltm hst0 hst1; (simp only [List.cons_append, List.nil_append] at Nm)))
  trivial
theorem words_ls : True := by
  (k_with "subscriptTail" => (k_here; (with_reducible show wpAny _ _ (subscriptTail _ _ (Value.ref _) (Value.int 0 _)) _ _ _); k_dflt (refine' item_list_intsR ?zl ?zi ?z0 ?zx ?zb ?_; (case zl => is_list); (case zi => assumption); (case z0 => decide); (case zx => exact Int.natCast_pos.mpr (List.length_pos_iff.mpr (by assumption))); (case zb => decide)); intro _))
  (k_with "exec If" => (with_reducible show wpAny _ _ (exec (Stmt.If (Expr.BoolOp _ _ _) _ _ _) _) _ _ _); refine stopW ?_)
  (k_with "execs cons" => (with_reducible show wpAny _ _ (execs (Stmt.If _ _ _ { line := 124, col := _, endLine := _, endCol := _ } :: _) _) _ _ _); (fail_if_success (with_reducible show wpAny _ _ _ (CutQ _) _ _)); refine stopW ?_)
  (k_with "call builtin:min" => (k_here; (with_reducible show wpAny _ _ (call (Value.builtin _) [Value.ref _]) _ _ _); k_dflt (refine' kso_min ?zF ?zN ?zl ?zi ?zp ?zh ?_; (case zF => k_asm); (case zN => k_asm); (case zl => kmk_list); (case zi => k_asm); (case zp => exact List.length_pos_iff.mpr (by assumption)); (case zh => with_unfolding_all rfl); k_whole); intro _ M9 _ _ _ _ hM1 hM2))
  trivial
def KeepR {α : Type} (h₀ : Heap) (L : Addr) (m : PySem.Str → Option Value) (news : List (Addr × Obj)) (s : Shared) (P : α → Prop) (v : α) (s' : Shared) : Prop := P v ∧ ∃ h' tk', s' = { s with heap := h', toks := tk' } ∧ Fr h₀ L h' m ∧ News h₀ L h' news
theorem cut_keep {α : Type} {M : Model} {t : Sem α} {Q : α → Shared → Prop} (P : α → Prop) (F : Fr h₀ L s.heap m) (N : News h₀ L s.heap news) (h1 : wpAny M A t (CutQ (KeepR h₀ L m news s P)) (fun _ _ => False) s)
    (h2 : ∀ v h' tk', P v → Fr h₀ L h' m → News h₀ L h' news → Q v { s with heap := h', toks := tk' }) : wpAny M A t Q E s :=
  wpAny_mono h1 (fun v s' hq => by obtain ⟨hp, h', tk', rfl, F', N'⟩ := hq; exact h2 v h' tk' hp F' N') fun _ _ e => e.elim
theorem off4 {a b c d e : Nat} (h1 : a ≠ b) (h2 : a ≠ c) (h3 : a ≠ d) (h4 : a ≠ e) : (a : Addr) ∉ [(b : Addr), c, d, e] := by
  intro h
  simp only [List.mem_cons, List.not_mem_nil, or_false] at h
  rcases h with h | h | h | h
  · exact h1 h
  · exact h2 h
  · exact h3 h
  · exact h4 h
set_option maxHeartbeats 4000000 in
theorem law_store_in {lo x fk dS dE dV aT aU : Nat} {oS oE oV : Obj} {ps : Array Value} {kt tw tn : Tok} {t wd : Int} {k : PySem.Str} {gS gE : PySem.Str → Option Int} {gV : PySem.Str → Option Addr} {l : List (Int × Int)} {vt vu : List Value} {toks uns : List Int}
    {g1 : Obj → List (Addr × Obj)} {g2 : Obj → Obj → List (Addr × Obj)} {g3 : Obj → Obj → Obj → List (Addr × Obj)} {Q : Value → Shared → Prop}
    (B : Below A₀ base outer h₀) (F : Fr h₀ L s.heap m) (X₀ : (hd.heap_39 w.params).In h₀) (N : News h₀ L s.heap news) (T : Top p loose mean mg mb h₀)
    (hA : A.frames = some (env :: outer)) (hh : A.handled = none) (hf : env.frame = some L) (hke : env.scope.kind = .function) (hroom : A.depth ≤ 870)
    (G : Geo w s.heap lo x fk dS dE dV t) (hlo : 201 ≤ lo) (CH : CodeHd base 145 141)
    (U1 : UpdF dS oS news g1) (U2 : ∀ o, UpdF dE oE (g1 o) (g2 o)) (U3 : ∀ o o', UpdF 141 (tabObj ps) (g2 o o') (g3 o o')) (mV : (dV, oV) ∈ news)
    (DS : ISD prog w oS gS) (DE : ISD prog w oE gE) (DV : ASD prog w oV gV) (hT : TabSt s.heap dV 90 68 qMov ps)
    (hEv : match gV k with | none => l = [] | some a => EvAt w s.heap dV a l) (hl : l.length ≤ 1000) (hs : ∀ (i j : Nat) q r, i < j → l[i]? = some q → l[j]? = some r → r.1 ≤ q.1)
    (hTk : s.heap.IsList aT vt.toArray) (iT : IntsAre vt toks) (lT : toks.length ≤ 100) (hUn : s.heap.IsList aU vu.toArray) (iU : IntsAre vu uns) (lU : uns.length ≤ 200)
    (nT : (aT : Addr) ∉ [(dV : Addr), dS, dE, 141]) (nU : (aU : Addr) ∉ [(dV : Addr), dS, dE, 141])
    (hC : svOf gS gE k t = ((List.map (fun a => a) (toks.filter fun a => decide (t < a))).length : Nat)) (hE : ∀ e r, toks.filter (fun a => decide (t < a)) = e :: r → gE k = some e ∧ t < e)
    (hM : ∀ (n : Nat) st, n ≤ l.length → (∀ (i : Nat) q, l[i]? = some q → (i < n ↔ t - q.1 < wd)) → (l = [] → st = t) → (∀ q, 0 < n → l[n - 1]? = some q → st = q.1) →
      n = (uns.filter fun a => decide (t - a < wd)).length ∧ (∀ a r, (uns.filter fun a => decide (t - a < wd)) = a :: r → st = a ∧ ∀ b ∈ r, a ≤ b) ∧ (uns.filter (fun a => decide (t - a < wd)) = [] → uns = [] → st = t))
    (h : ∀ h' tk' oS' oE' ps' ls, Fr h₀ L h' m → News h₀ L h' (g3 oS' oE' (tabObj ps') ++ ls) → ISD prog w oS' (if (gE k).getD 0 ≤ t then upd gS k none else gS) → ISD prog w oE' (if (gE k).getD 0 ≤ t then upd gE k none else gE) → NewTab 90 68 qMov ls ps ps' →
      (∀ q ∈ ls, s.heap.get? q.1 = none ∧ dV < q.1) → Q (.bool true) { s with heap := h', toks := tk' }) :
    wpAny (model prog w) A (call (.ref 199) [.ref x, .str k kt, .int wd tw, .ref aT, .ref aU, .int t tn]) Q E s := by
  have N₃ := three_of N U1 U2 U3
  have N₀ : News h₀ L s.heap [(dV, oV), (dS, oS), (dE, oE), (141, tabObj ps)] := fun q hq => by
    rcases List.mem_cons.mp hq with rfl | hq
    · exact N _ mV
    · exact N₃ q hq
  clear N₃
  obtain ⟨hd9, dp, fr, gs, un⟩ := A
  dsimp only at hA hh hroom
  subst hA
  subst hh
  refine wpAny_call ?_
  refine' def_inC B F X₀ N₀ T rfl hf hke ?k6 ?k7 ?k8 ?k9 ?kB ?kD ?_ ?c2 ?c3 ?c4
  case k6 => k_is
  case k7 => k_is
  case k8 => exact Nat.lt_of_le_of_lt hroom (by decide)
  case k9 => first | exact BindsTo.of_eq rfl | exact binds_K (by k_in) rfl (by k_is) rfl rfl rfl
  case kB => rfl
  case kD => decide
  case c2 => exact rfl
  case c3 => exact rfl
  case c4 => exact rfl
  intro g' L' h' tk0 cells m1 hm1 FG' F' N' Y' B' X' T' hkept hlt
  k_lt hlt
  k_cells Y'
  (try simp only [List.cons_append, List.nil_append] at N')
  (try dsimp only)
  (try k_fold)
  have a_store : m1 (PySem.Str.ofString "store") = some (.ref x) := (hm1 _).trans rfl
  have a_key : m1 (PySem.Str.ofString "key") = some (.str k kt) := (hm1 _).trans rfl
  have a_tokens : m1 (PySem.Str.ofString "tokens") = some (.ref aT) := (hm1 _).trans rfl
  have a_units : m1 (PySem.Str.ofString "units") = some (.ref aU) := (hm1 _).trans rfl
  clear hm1
  rename_i oN oW dN dW
  replace dN : oN.data = .cell (some (.int t tn)) := dN
  replace dW : oW.data = .cell (some (.int wd tw)) := dW
  have olo : lo < x := G.low
  have ox : x < dS := G.hx
  have oSE : dS < dE := G.hS
  have oEV : dE < dV := G.hE
  have loS := G.loS
  have loE := G.loE
  have loV := G.loV
  have oXE : x < dE := Nat.lt_trans ox oSE
  have oXV : x < dV := Nat.lt_trans oXE oEV
  have oSV : dS < dV := Nat.lt_trans oSE oEV
  have hbV : 201 ≤ dV := Nat.le_trans hlo (Nat.le_of_lt (Nat.lt_trans olo oXV))
  have xS : 141 < dS := Nat.lt_of_lt_of_le (by decide) (Nat.le_trans hlo (Nat.le_of_lt (Nat.lt_trans olo ox)))
  have xE : 141 < dE := Nat.lt_trans xS oSE
  have xV : 141 < dV := Nat.lt_trans xE oEV
  have G' := G.keeps hkept (by k_extra "k_offs")
  obtain ⟨dx, t1, t2, t3, t4, I'⟩ := G'.inst
  have C' := G'.clock
  have hT' : TabSt g' dV 90 68 qMov ps := hT.keeps hkept (by k_extra "k_offs")
  have hEv' : match gV k with | none => l = [] | some a => EvAt w g' dV a l := by
    cases e : gV k with
    | none => rw [e] at hEv; exact hEv
    | some a => rw [e] at hEv; exact hEv.keeps hkept (by k_extra "k_offs")
  have hTk' : g'.IsList aT vt.toArray := by obtain ⟨o, h3, h4⟩ := hTk; exact ⟨o, hkept _ _ nT h3, h4⟩
  have hUn' : g'.IsList aU vu.toArray := by obtain ⟨o, h3, h4⟩ := hUn; exact ⟨o, hkept _ _ nU h3, h4⟩
  clear hT hEv hTk hUn G
  k_steps
  all_goals (try (first | exact PySem.Str.ofString "" | exact Value.none | exact (0 : Nat)))
  · exact absurd hC (by assumption)
  show wpAny _ _ _ _ _ _
  refine wpAny_If (cut_keep (fun b => b = false) (by k_asm) (by k_asm) ?_ ?_)
  · k_steps
    · rename_i hne _ _ _ _ _ _ _ hx
      exfalso
      rw [List.map_id'] at hne hx
      obtain ⟨e9, r9, h9⟩ := List.exists_cons_of_ne_nil hne
      have := hE _ _ h9
      rw [h9] at hx
      rw [this.1, if_neg (show ¬ (some e9).getD 0 ≤ t from Int.not_le.mpr this.2), this.1] at hx
      exact hx rfl
    · exact ⟨rfl, _, _, rfl, by assumption, by assumption⟩
    · exact ⟨rfl, _, _, rfl, by assumption, by assumption⟩
  intro b h8 tk8 hb F8 N8
  subst hb
  show wpAny _ _ _ _ _ _
  k_steps
  all_goals (try (first | exact PySem.Str.ofString "" | exact Value.none | exact (0 : Nat)))
  show wpAny _ _ _ _ _ _
  obtain ⟨hn9, hm9, hz9⟩ := hM nm stm hnm hltm hst0 hst1
  refine cut_keep (fun fl => fl = Flow.ret (.bool true)) (by k_asm) (by k_asm) ?_ ?_
  · k_steps
    · rename_i hx
      rw [List.map_id', hn9] at hx
      exact absurd rfl hx
    · refine ⟨?_, _, _, rfl, by assumption, by assumption⟩
      rename_i hne _ _ _ _ _
      rw [List.map_id'] at hne hM1 hM2
      obtain ⟨e9, r9, h9⟩ := List.exists_cons_of_ne_nil hne
      obtain ⟨rfl, hr9⟩ := hm9 _ _ h9
      rw [h9] at hM1 hM2
      have h1 := hM2 stm (.head _)
      have : stm = M9 := by
        rcases List.mem_cons.mp hM1 with q | q
        · exact q.symm
        · have := hr9 _ q; omega
      subst this
      simp
    · refine ⟨?_, _, _, rfl, by assumption, by assumption⟩
      rw [decide_eq_true (by assumption)]
    · refine ⟨?_, _, _, rfl, by assumption, by assumption⟩
      have hy : List.map (fun a => a) (uns.filter fun a => decide (t - a < wd)) = [] := by assumption
      rw [List.map_id'] at hy
      show Flow.ret (Value.bool (stm == t)) = _
      rw [hz9 hy (List.eq_nil_of_length_eq_zero (by omega)), beq_self_eq_true]
  intro b h8 tk8 hb F8 N8
  subst hb
  show LeaveK _ _ _ _ _ _ _
  clear hn9 hm9 hz9 hM hE hC hst0 hst1 hltm hnm
  k_steps
  rename News h₀ L _ _ => kN
  rename Fr g' L' _ _ => kF'
  have hK := kept_less (N _ mV).1 hkept kF' (kN (dV, oV) (by k_mem)).1
  rename News g' L' _ _ => kN'
  have up := fun q (hq : q ∈ lsm) => up_new F hkept kN' (q := q) (by repeat (first | exact hq | refine List.Mem.tail _ ?_)) (off4 (Nat.ne_of_gt (hfm q hq).2) (Nat.ne_of_gt (Nat.lt_trans (Nat.lt_trans oSE oEV) (hfm q hq).2)) (Nat.ne_of_gt (Nat.lt_trans oEV (hfm q hq).2)) (Nat.ne_of_gt (Nat.lt_of_le_of_lt (Nat.le_trans (by decide) hbV : 141 ≤ dV) (hfm q hq).2)))
  refine h _ _ _ _ psm lsm (by assumption) (fun q hq => (List.mem_append.mp hq).elim (fun hq => news_three N U1 U2 U3 hK (fun q hq => kN q ?_) q hq) fun hq => (up q hq).1) (by assumption) (by assumption) hTm fun q hq => ⟨(up q hq).2, (hfm q hq).2⟩
  simp only [List.mem_cons, List.not_mem_nil, or_false] at hq
  rcases hq with rfl | rfl | rfl <;> k_mem

end LawStore
section LawDefs
variable {prog : Program} {w : World} {A₀ A : Around} {base h₀ : Heap} {outer : List Env} {env : Env} {L : Addr} {m mg mb : PySem.Str → Option Value}
  {p : Program} {loose : List PySem.Str} {mean : ExcName → Option Value} {s : Shared} {news : List (Addr × Obj)} {E : Value → Shared → Prop}
theorem words_LawDefs : True := by
  k_with_none
  w_top off
  (k_with "k_steps" => repeat' (first | (k_unfold; (try dsimp only)) | (k_end; wrow_close) | (dsimp only; walk1) | walk1 | (leave1; walk_say "STEP leave1"; try dsimp only) | fail "no step"))
  (k_with "k_lt" => first | (intro hlt9; (with_reducible rename NodT _ _ => hNdZ); have hNd2 := nod_new hNdZ hlt9 rfl; replace hlt9 := allLt_of hlt9; simp only [AllLt, and_true] at hlt9; revert hNd2 hlt9; intro _) | (intro hlt9; replace hlt9 := allLt_of hlt9; simp only [AllLt, and_true] at hlt9; revert hlt9) | fail)
  (k_with "k_off1" => first | exact Or.inl (by assumption) | exact Nat.le_refl _ | exact Nat.le_of_lt (by assumption) | exact Or.inr (Nat.le_trans (m := 201) (by decide) (by assumption)) | exact Nat.le_trans (m := 201) (by decide) (by assumption) | omega | fail)
  (k_with "k_offs" => first | (refine List.forall_mem_cons.mpr ⟨?_, ?_⟩; (try dsimp only); (k_extra "k_off1"); (k_extra "k_offs")) | exact (fun _ h => absurd h List.not_mem_nil) | fail)
  (k_with "k_cj" => with_reducible first | assumption | exact And.left (by assumption) | exact And.left (And.right (by assumption)) | exact And.left (And.right (And.right (by assumption))) | exact And.left (And.right (And.right (And.right (by assumption)))) | exact And.left (And.right (And.right (And.right (And.right (by assumption))))) | exact And.left (And.right (And.right (And.right (And.right (And.right (by assumption)))))) | exact And.right (by assumption) | exact And.right (And.right (by assumption)) | exact And.right (And.right (And.right (by assumption))) | exact And.right (And.right (And.right (And.right (by assumption)))) | exact And.right (And.right (And.right (And.right (And.right (by assumption))))) | fail)
  (k_with "k_dp" => first | exact Nat.le_trans (by assumption) (by decide) | exact Nat.le_trans (Nat.succ_le_succ (by assumption)) (by decide) | exact Nat.lt_of_le_of_lt (by assumption) (by decide) | exact Nat.lt_of_le_of_lt (Nat.succ_le_succ (by assumption)) (by decide) | exact Nat.le_trans (Nat.succ_le_succ (Nat.succ_le_succ (by assumption))) (by decide) | exact Nat.lt_of_le_of_lt (Nat.succ_le_succ (Nat.succ_le_succ (by assumption))) (by decide) | (simp only [depth_mark, depth_under_make, depth_under_kw, depth_in1, depth_deeper]; omega) | fail)
  (k_with "k_mem" => first | exact AtU.head | (apply AtU.tail; k_mem) | (refine' PairIn.head ?_; k_mem) | (refine' PairIn.tail ?_; k_mem) | fail)
  (k_with "k_ne" => first | (refine' ne_d1 ?zH ?zP; (case zH => assumption); (case zP => k_mem)) | (refine' ne_d2 ?zH ?zP; (case zH => assumption); (case zP => k_mem)) | exact Nat.ne_of_gt (by (try dsimp only); k_extra "k_cj") | exact Nat.ne_of_lt (by (try dsimp only); k_extra "k_cj") | (refine neN ?_; (try dsimp only); omega) | fail)
  (k_with "k_updF" => first | (refine' updF_at ?zA ?zH ?ze ?zm; (case zA => k_mem); (case zH => assumption); (case ze => rfl); (case zm => k_mem)) | (refine' UpdF.head ?za; (case za => k_all)) | (refine' UpdF.tail ?za ?zb; (case za => k_ne); (case zb => k_updF)) | fail)
  (k_with "k_inst" => first | (refine' instH ?zF ?zI; (case zF => k_asm); (case zI => assumption)) | fail)
  (k_with "k_room" => first | (show _ < 1000; k_extra "k_dp") | fail)
  (k_with "is_list" => first | (refine' listH ?zF ?zI; (case zF => k_asm); (case zI => assumption)) | fail)
  (k_with "call ref" => (k_here; (with_reducible show wpAny _ _ (call (Value.ref _) [] []) _ _ _); k_dflt (refine' clock_in ?zF ?zX ?zN ?zT ?zr ?zC ?_; (case zF => k_asm); (case zC => assumption); (case zX => k_asm); (case zN => k_asm); (case zT => k_asm); (case zr => k_room)); intro _ _ _ _ _ _))
  (k_with "getMethod ref" => (k_here; (with_reducible show wpAny _ _ (getMethod (Value.ref _) (Str.ofString "get") _) _ _ _); k_dflt (refine' dsd_method PySem.F.slot_dict_get PySem.F.type_dict_get ?zN ?zm ?zD ?_; (case zN => k_asm); (case zm => k_mem); (case zD => k_asm))))
  (k_with "getMethod ref" => (k_here; (with_reducible show wpAny _ _ (getMethod (Value.ref _) (Str.ofString "pop") _) _ _ _); k_dflt (refine' dsd_method PySem.F.slot_dict_pop PySem.F.type_dict_pop ?zN ?zm ?zD ?_; (case zN => k_asm); (case zm => k_mem); (case zD => k_asm))))
  (k_with "getMethod ref" => (k_here; (with_reducible show wpAny _ _ (getMethod (Value.ref _) (Str.ofString "setdefault") _) _ _ _); k_dflt (refine' dsd_method PySem.F.slot_dict_setdefault PySem.F.type_dict_setdefault ?zN ?zm ?zD ?_; (case zN => k_asm); (case zm => k_mem); (case zD => k_asm))))
  (k_with "getMethod ref" => (k_here; (with_reducible show wpAny _ _ (getMethod (Value.ref _) (Str.ofString "clear") _) _ _ _); k_dflt (refine' dsd_method PySem.F.slot_dict_clear PySem.F.type_dict_clear ?zN ?zm ?zD ?_; (case zN => k_asm); (case zm => k_mem); (case zD => k_asm))))
  (k_with "getMethod ref" => (k_here; (with_reducible show wpAny _ _ (getMethod (Value.ref _) (Str.ofString "clock") _) _ _ _); k_dflt (refine' kmu_own ?zk1 ?zk2 ?zk3 ?zk4 ?zk5 ?_; (case zk1 => k_asm); (case zk2 => k_asm); (case zk3 => k_inst); (case zk4 => k_is); (case zk5 => k_is); k_whole)))
  (k_with "getAttr ref" => (k_here; k_dflt (refine' get_own ?zk1 ?zk2 ?zk3 ?zk4 ?zk5 ?zk6 ?zk7 ?zk8 ?zk9 ?_; (case zk1 => k_asm); (case zk2 => k_asm); (case zk3 => k_inst); (case zk4 => k_is); (case zk5 => k_is); (case zk6 => k_is); (case zk7 => k_is); (case zk8 => k_get); (case zk9 => k_handed); k_whole)))
  (k_with "call builtin:dict.get" => (k_here; k_dflt (refine' dsd_get ?zN ?zm ?zD ?zlo ?_; (case zN => k_asm); (case zm => k_mem); (case zD => k_asm); (case zlo => k_asm)); intro _ _))
  (k_with "call builtin:dict.get" => (k_here; (with_reducible show wpAny _ _ (call (Value.builtin _) [Value.ref _, Value.str _ _, Value.int _ _]) _ _ _); k_dflt (refine' isd_get ?zN ?zm ?zD ?zlo ?_; (case zN => k_asm); (case zm => k_mem); (case zD => k_asm); (case zlo => k_asm)); intro _))
  (k_with "call builtin:dict.pop" => (k_here; k_dflt (refine' dsd_pop ?zF ?zN ?zU ?zD ?zlo ?_; (case zF => k_asm); (case zN => k_asm); (case zU => k_updF); (case zD => k_asm); (case zlo => k_asm)); intro _ _ _ _ _ _ _))
  (k_with "call builtin:dict.clear" => (k_here; k_dflt (refine' dsd_clear ?zF ?zN ?zU ?zD ?_; (case zF => k_asm); (case zN => k_asm); (case zU => k_updF); (case zD => k_asm)); intro _ _ _ _ _))
  (k_with "call builtin:len" => (k_here; (with_reducible show wpAny _ _ (call (Value.builtin "len") [Value.ref _]) _ _ _); k_dflt (refine' dsd_len_call ?zN ?zm ?zD ?zlo ?_; (case zN => k_asm); (case zm => k_mem); (case zD => k_asm); (case zlo => k_asm)); intro _ _))
  (k_with "callWith ref" => (k_here; (with_reducible show wpAny _ _ (callWith _ _ _ (backTo _ (starEach [] _)) []) _ _ _); k_dflt (refine' callWith_F0 ?zk1 ?_; (case zk1 => exact fnClock (by k_asm) (by assumption)); k_whole); (try dsimp only [List.nil_append, List.cons_append])))
  (k_with "setItem ref str" => (k_here; k_dflt (refine' dsd_set ?zF ?zN ?zU ?zD ?zk ?zx ?_; (case zF => k_asm); (case zN => k_asm); (case zU => k_updF); (case zD => k_asm); (case zk => k_asm); (case zx => first | exact ⟨_, rfl⟩ | exact rfl)); intro _ _ _ _ _))
  (k_with "subscriptTail" => (k_here; (with_reducible show wpAny _ _ (subscriptTail _ _ (Value.ref _) (Value.str _ _)) _ _ _); k_dflt (refine' isd_item ?zN ?zm ?zD ?zx ?_; (case zN => k_asm); (case zm => k_mem); (case zD => k_asm); (case zx => first | exact upd_self _ _ _ | assumption)); intro _))
  (k_with "eval Name" => (k_here; k_dflt (refine' nameX_L ?zF ?zv ?_ ?za ?zb; (case za => rfl); (case zb => rfl); (case zF => k_asm); (case zv => first | rfl | assumption); k_whole)))
  (k_with "call builtin:len" => (k_here; (with_reducible show wpAny _ _ (call (Value.builtin "len") [Value.ref _]) _ _ _); k_dflt (refine' len_lst ?zl ?zn ?zb ?_; (case zl => is_list); (case zn => assumption); (case zb => omega); k_whole); intro _))
  (k_with "exec While Compare cons nil" => (k_here; refine stopW ?_))
  (k_with "subscriptTail" => (k_here; (with_reducible show wpAny _ _ (subscriptTail _ _ (Value.ref _) (Value.str _ _)) _ _ _); k_dflt (refine' asd_item ?zN ?zm ?zD ?zx ?_; (case zN => k_asm); (case zm => k_mem); (case zD => k_asm); (case zx => first | exact upd_self _ _ _ | assumption))))
  (k_with "call ref" => (k_here; (with_reducible show wpAny _ _ (call (Value.ref 117) [Value.ref _, Value.str _ _] []) _ _ _); k_dflt (refine' get_in ?zB ?zF ?zX ?zN ?zT ?zA ?zhh ?zf ?zk ?zr ?zG ?zU1 ?zU2 ?zDS ?zDE ?_; (case zF => k_asm); (case zG => exact Geo.all (by assumption) (Fr.keep (by k_asm))); (case zB => k_asm); (case zX => k_asm); (case zN => k_asm); (case zT => k_asm); (case zA => exact rfl); (case zhh => exact rfl); (case zf => exact rfl); (case zk => exact rfl); (case zr => (show _ ≤ 900; k_extra "k_dp")); (case zU1 => k_updF); (case zU2 => (intro _; (try dsimp only); k_updF)); (case zDS => k_asm); (case zDE => k_asm)); intro _ _ _ _ _ _ _ _ _ _))
  (k_with "callWith ref" => (k_here; k_dflt (refine' callWith_F ?zk1 ?_; (case zk1 => exact NegAt.fn (NegAt.keeps (by assumption) (Fr.keep (by k_asm)))); k_whole)))
  (k_with "call ref" => (k_here; (with_reducible show wpAny _ _ (call (Value.ref 52) _ _) _ _ _); refine stopW ?_))
  (k_with "call builtin:dict.setdefault" => (k_here; refine stopW ?_))
  (k_with "eval Lambda" => (k_here; k_dflt (refine' lam_in ?zF ?zN ?zT ?zC ?zcd ?zU ?zhps ?zhsub ?zcl ?zdf ?_; (case zF => k_asm); (case zN => k_asm); (case zT => k_asm); (case zcd => exact rfl); (case zC => kn_code); (case zU => k_updF); (case zhps => assumption); (case zhsub => (intro _ hq; first | (exact absurd hq List.not_mem_nil) | (repeat (first | exact hq | refine List.Mem.tail _ ?_)))); (case zcl => exact rfl); (case zdf => exact rfl); k_whole); intro fl cl ct psl lsl hpl tkl Fl Nl hfl hrl hnt ltl; (simp only [List.cons_append, List.nil_append] at Nl)))
  (k_with "call ref" => (k_here; (with_reducible show wpAny _ _ (call (Value.ref 69) _ _) _ _ _); k_dflt (refine' entry_in ?zF ?zX ?zN ?zT ?zr ?_; (case zF => k_asm); (case zX => k_asm); (case zN => k_asm); (case zT => k_asm); (case zr => (show _ ≤ 890; k_extra "k_dp"))); intro r9 d9 _ _ _ _ _ _ _ _ l1 l2; (try k_lt l1); (replace l2 : @LT.lt Nat instLTNat d9 r9 := l2)))
  (k_with "binaryOp Mult ref int" => (k_here; (with_reducible show wpAny _ _ (binaryOp Operator.Mult (Value.ref _) (Value.int _ _)) _ _ _); k_dflt (refine' KMa.mul ?zF ?zN ?zl ?zlo ?zhi ?z ?ze ?_; (case zF => k_asm); (case zN => k_asm); (case zl => is_list); (case zlo => omega); (case zhi => omega); (case z => (simp only [List.length_cons, List.length_nil]; omega)); (case ze => exact flat1 _ _)); intro _ _ _ _ l1; (try k_lt l1)))
  (k_with "binaryOp Add ref ref" => (k_here; (with_reducible show wpAny _ _ (binaryOp _ (Value.ref _) (Value.ref _)) _ _ _); k_dflt (refine' kmk_add_lit ?zF ?zN ?za ?zb ?ze ?_ ?z; (case zF => k_asm); (case zN => k_asm); (case za => first | kmk_list | is_list); (case zb => first | kmk_list | is_list); (case ze => exact rfl); (case z => (simp only [sizeLine, List.toList_toArray, List.length_replicate, List.length_nil, List.length_cons]; omega))); intro _ _ _ _ l1; (try k_lt l1)))
  (k_with "getMethod ref" => (k_here; (with_reducible show wpAny _ _ (getMethod (Value.ref _) (Str.ofString "keys") _) _ _ _); k_dflt (refine' dsd_method PySem.F.slot_dict_keys PySem.F.type_dict_keys ?zN ?zm ?zD ?_; (case zN => k_asm); (case zm => k_mem); (case zD => k_asm))))
  (k_with "call builtin:dict.keys" => (k_here; (with_reducible show wpAny _ _ (call (Value.builtin "dict.keys") [Value.ref _]) _ _ _); k_dflt (refine' dsd_keys ?zF ?zN ?zm ?zD ?zlo ?_; (case zF => k_asm); (case zN => k_asm); (case zm => k_mem); (case zD => k_asm); (case zlo => k_asm)); intro _ _ _ _ l1; (try k_lt l1)))
  (k_with "call type:list" => (k_here; (with_reducible show wpAny _ _ (call (Value.type "list") [Value.ref _]) _ _ _); k_dflt (refine' dsd_list ?zh ?zF ?zN ?zv ?zm ?zD ?_; (case zh => exact rfl); (case zF => k_asm); (case zN => k_asm); (case zv => exact List.Mem.head _); (case zm => k_mem); (case zD => k_asm)); intro _ _ _ _ _ _ _ _ _ l1; (try k_lt l1)))
  (k_with "exec For Name Call cons nil" => (k_here; refine stopW ?_))
  (k_with "eval Name" => (k_here; (with_reducible show wpAny _ _ (eval (Expr.Name _ _) (envOfC _ _ _ _ _)) _ _ _); k_dflt (refine' nameX_L ?zF ?zv ?_ ?za ?zb; (case za => rfl); (case zb => rfl); (case zF => k_asm); (case zv => first | rfl | assumption))))
  (k_with "k_ne" => first | (refine' ne_list_dsd ?zN ?zm1 ?zm2 ?zc ?zX; (case zN => k_asm); (case zm1 => k_mem); (case zm2 => k_mem); (case zc => exact rfl); (case zX => k_asm)) | (refine' ne_cls ?zN ?zm1 ?zm2 ?zc; (case zN => k_asm); (case zm1 => k_mem); (case zm2 => k_mem); (case zc => simp [tabObj])) | fail)
  (k_with "call builtin:len" => (k_here; (with_reducible show wpAny _ _ (call (Value.builtin "len") [Value.ref _]) _ _ _); k_dflt (refine' len_ints ?zl ?zi ?zb ?_; (case zl => kmk_list); (case zi => k_asm); (case zb => exact len_filter_le (n := 1000000) (by omega)); k_whole); intro _))
  (k_with "truthy ref" => (k_here; (with_reducible show wpAny _ _ (truthy (Value.ref _)) _ _ _); k_dflt (refine' truthy_ints ?zl ?zi ?zb ?_ ?_; (case zl => kmk_list); (case zi => k_asm); (case zb => exact len_filter_le (n := 1000000) (by omega)); k_whole); intro _))
  (k_with "call ref" => (k_here; (with_reducible show wpAny _ _ (call (Value.ref 139) [Value.ref _, Value.str _ _] []) _ _ _); k_dflt (refine' get_expiry_in ?zB ?zF ?zX ?zN ?zT ?zA ?zhh ?zf ?zk ?zr ?zG ?zm ?zDE ?_; (case zF => k_asm); (case zG => exact Geo.all (by assumption) (Fr.keep (by k_asm))); (case zB => k_asm); (case zX => k_asm); (case zN => k_asm); (case zT => k_asm); (case zA => exact rfl); (case zhh => exact rfl); (case zf => exact rfl); (case zk => exact rfl); (case zr => (show _ ≤ 890; k_extra "k_dp")); (case zm => k_mem); (case zDE => k_asm)); intro _ _ _ _ _ _))
  (k_with "call ref" => (k_here; (with_reducible show wpAny _ _ (call (Value.ref 146) _ _) _ _ _); k_dflt (refine' moving_in ?zB ?zF ?zX ?zN ?zT ?zA ?zhh ?zf ?zk ?zr ?zG ?zlo ?zCH ?zm ?zU ?zDV ?zhT ?zhE ?zhl ?zhs ?_; (case zF => k_asm); (case zG => exact Geo.all (by assumption) (Fr.keep (by k_asm))); (case zB => k_asm); (case zX => k_asm); (case zN => k_asm); (case zT => k_asm); (case zA => exact rfl); (case zhh => exact rfl); (case zf => exact rfl); (case zk => exact rfl); (case zr => (show _ ≤ 880; k_extra "k_dp")); (case zlo => k_asm); (case zCH => k_asm); (case zDV => k_asm); (case zm => k_mem); (case zU => k_updF); (case zhT => exact TabSt.all (by assumption) (Fr.keep (by k_asm))); (case zhE => exact ev_all (by assumption) (Fr.keep (by k_asm))); (case zhl => k_asm); (case zhs => k_asm)); intro _ _ psm Rm stm nm _ _ lsm _ Nm hRm hTm hfm hnm hltm hst0 hst1; (simp only [List.cons_append, List.nil_append] at Nm)))
  trivial
/-- the law's text, named piece by piece -/
noncomputable def lawStmt : Stmt := PySem.Challenge.pw_ji0054_01.main.body.getD 9 (.Pass ⟨0, 0, 0, 0⟩)
noncomputable def lawBody : List Stmt := match lawStmt with | .FunctionDef _ _ b _ _ _ _ _ _ _ => b | _ => []
noncomputable def lawScope : Scope := match lawStmt with | .FunctionDef _ _ _ _ _ _ s _ _ _ => s | _ => { kind := .function, names := [], isGenerator := false, isCoroutine := false }
noncomputable def turnBody : List Stmt := match lawBody.getD 7 (.Pass ⟨0, 0, 0, 0⟩) with | .For _ _ b _ _ => b | _ => []
noncomputable def turnPre : List Stmt := turnBody.take 8
noncomputable def lawEnv (L fa : Addr) : Env := envOfC (PySem.Str.ofString "law") lawScope L fa (.ref 203)
def keyOf (i : Nat) : PySem.Str := if i = 0 then PySem.Str.ofString "a" else if i = 1 then PySem.Str.ofString "a/b" else PySem.Str.ofString ""
def winOf (i : Nat) : Int := if i = 0 then 3 else if i = 1 then 6 else 40
abbrev tupO (vs : List Value) (c : Nat) : Obj := { cls := .type "tuple", data := .seq vs.toArray c }
def ListIn (tl : List (Addr × Obj)) (a : Nat) (ns : List Int) : Prop := ∃ (vs : List Value) (c : Nat), (a, W.listOf vs.toArray c) ∈ tl ∧ IntsAre vs ns
theorem three_at {f : Nat → Addr} {i : Nat} (h : i < 3) : ([Value.ref (f 0), .ref (f 1), .ref (f 2)] : List Value)[i]? = some (.ref (f i)) := by
  match i, h with
  | 0, _ => rfl
  | 1, _ => rfl
  | 2, _ => rfl
theorem seq_nat {i n : Nat} (h : i < n) : seqIndex? (i : Int) n = some i := by
  have h1 : ¬ ((i : Int) < 0) := by omega
  have h2 : (decide (0 ≤ (i : Int)) && decide ((i : Int) < (n : Int))) = true := by simp; omega
  unfold seqIndex?
  simp only [h1, if_false, h2, if_true, Int.toNat_natCast]
theorem small_ix {i : Nat} (h : i < 3) : (i : Int) < 2 ^ 63 := Int.lt_trans (Int.ofNat_lt.mpr h) (by decide)
theorem tup_nat {a : Addr} {vs : List Value} {c i : Nat} {v : Value} {u : Tok} {value slice : PySem.Expr} {Q : Value → Shared → Prop} (N : News h₀ L s.heap news) (hm : (a, tupO vs c) ∈ news) (hx : vs[i]? = some v) (hi : i < 3) (h : Q v s)
    (hs : subscripted slice false (.ref a) (.int i u) = operate [.ref a, .int i u] (getItem (.ref a) (.int i u)) := by with_unfolding_all rfl) :
    wpAny (model prog w) A (subscriptTail value slice (.ref a) (.int i u)) Q E s :=
  item_tupleT (News.isTup N hm) (Int.le_trans (by decide) (Int.natCast_nonneg i)) (small_ix hi) (seq_nat (List.getElem?_eq_some_iff.mp hx).1) hx h hs
def menuOk (hi : Nat) (vs : List Value) : Bool := vs.all fun v => match v with | .int x _ => decide (0 ≤ x) && decide (x < (hi : Int)) | _ => false
/-- an item of a written tuple of small numbers, at a remainder -/
theorem menu {D : Addr} {vs : List Value} {c hi : Nat} {k n : Int} {u : Tok} {tl : List (Addr × Obj)} {value slice : PySem.Expr} {Q : Value → Shared → Prop} (N : News h₀ L s.heap ((D, tupO vs c) :: tl)) (hv : menuOk hi vs = true) (hn : (vs.length : Int) = n) (h0 : 0 < n) (h63 : n ≤ 63)
    (h : ∀ (i : Nat) (u : Tok), i < hi → Q (.int i u) s)
    (hs : subscripted slice false (.ref D) (.int (k.fmod n) u) = operate [.ref D, .int (k.fmod n) u] (getItem (.ref D) (.int (k.fmod n) u)) := by with_unfolding_all rfl) :
    wpAny (model prog w) A (subscriptTail value slice (.ref D) (.int (k.fmod n) u)) Q E s := by
  have e : k.fmod n = k % n := Int.fmod_eq_emod_of_nonneg _ (Int.le_of_lt h0)
  have b1 := Int.emod_nonneg k (Int.ne_of_gt h0)
  have b2 := Int.emod_lt_of_pos k h0
  have hj : (k % n).toNat < vs.length := (Int.toNat_lt b1).mpr (hn ▸ b2)
  have hx := List.getElem?_eq_getElem hj
  have hm := List.all_eq_true.mp hv _ (List.getElem_mem hj)
  revert hx hm
  generalize vs[(k % n).toNat] = v
  intro hx hm
  split at hm
  · rename_i x u'
    simp only [Bool.and_eq_true, decide_eq_true_eq] at hm
    have ex : x = (x.toNat : Int) := (Int.toNat_of_nonneg hm.1).symm
    refine item_tupleT (News.isTup N (.head _)) (by rw [e]; exact Int.le_trans (by decide) b1) (by rw [e]; exact Int.lt_of_lt_of_le b2 (Int.le_trans h63 (by decide))) (j := (k % n).toNat) ?_ hx ?_ hs
    · rw [e, ← Int.toNat_of_nonneg b1, Int.toNat_natCast]
      exact seq_nat hj
    · rw [ex]
      exact h _ _ ((Int.toNat_lt hm.1).mpr hm.2)
  · cases hm
/-- xs[i] = v on a list of the ledger -/
theorem lst_set {D : Addr} {vs : List Value} {n i : Nat} {v : Value} {u : Tok} {g : Obj → List (Addr × Obj)} {Q : Unit → Shared → Prop} (F : Fr h₀ L s.heap m) (N : News h₀ L s.heap news) (U : UpdF D (W.listOf vs.toArray n) news g) (hi : i < vs.length) (h3 : i < 3)
    (h : ∀ h', Fr h₀ L h' m → News h₀ L h' (g (W.listOf (vs.set i v).toArray n)) → Q () { s with heap := h' }) : wpAny (model prog w) A (setItem (.ref D) (.int i u) v) Q E s := by
  obtain ⟨pre, post, rfl, hg, a, b⟩ := U.split
  have z := N (D, W.listOf vs.toArray n) (List.mem_append.mpr (.inr (.head _)))
  refine ki_setAt z.1 (Int.natCast_nonneg i) (small_ix h3) (by simp; omega) (h _ (F.change (Heap.SameBut.update ..) z.2.1 z.2.2) (hg _ ▸ ki_turn _ N a b ?_ ?_))
  · show vs.toArray.setIfInBounds (Int.toNat i) v = (vs.set i v).toArray
    apply Array.toList_inj.mp
    simp
  · simp
def UpdR {α : Type} (h₀ : Heap) (L : Addr) (m : PySem.Str → Option Value) (g : Obj → List (Addr × Obj)) (s : Shared) (P : α → Obj → Prop) (v : α) (s' : Shared) : Prop := ∃ o' h' tk', P v o' ∧ s' = { s with heap := h', toks := tk' } ∧ Fr h₀ L h' m ∧ News h₀ L h' (g o')
/-- a cut behind which one object of the ledger may be another one -/
theorem cut_upd {α : Type} {M : Model} {t : Sem α} {D : Addr} {o : Obj} {g : Obj → List (Addr × Obj)} {Q : α → Shared → Prop} (P : α → Obj → Prop) (F : Fr h₀ L s.heap m) (N : News h₀ L s.heap news) (_U : UpdF D o news g) (h1 : wpAny M A t (CutQ (UpdR h₀ L m g s P)) (fun _ _ => False) s)
    (h2 : ∀ v o' h' tk', P v o' → Fr h₀ L h' m → News h₀ L h' (g o') → Q v { s with heap := h', toks := tk' }) : wpAny M A t Q E s :=
  wpAny_mono h1 (fun v s' hq => by obtain ⟨o', h', tk', hp, rfl, F', N'⟩ := hq; exact h2 v o' h' tk' hp F' N') fun _ _ e => e.elim
theorem lst_nat {a : Addr} {vs : List Value} {c i : Nat} {v : Value} {u : Tok} {value slice : PySem.Expr} {Q : Value → Shared → Prop} (N : News h₀ L s.heap news) (hm : (a, W.listOf vs.toArray c) ∈ news) (hx : vs[i]? = some v) (hi : i < 3) (h : Q v s)
    (hs : subscripted slice false (.ref a) (.int i u) = operate [.ref a, .int i u] (getItem (.ref a) (.int i u)) := by with_unfolding_all rfl) (hg : ∀ r, letTemporaryGo value (.ref a) r = pure () := by intro _; with_unfolding_all rfl) :
    wpAny (model prog w) A (subscriptTail value slice (.ref a) (.int i u)) Q E s :=
  item_list (x := v) (PySem.IsL.isList (n := c) (N _ hm).1) (Int.natCast_nonneg i) (small_ix hi) (by simpa using hx) h hs hg
theorem nod_plain {D : Addr} {ads : List Addr} {tl : List (Addr × Obj)} (h : NodT ads tl) (hn : ∀ p ∈ news, p.1 ≠ D) (e : ∀ a ∈ ads ++ tl.map (·.1), a ∈ news.map (·.1)) : NodT (D :: ads) tl := by
  have key : ∀ a ∈ ads ++ tl.map (·.1), a ≠ D := fun a ha => by
    obtain ⟨p, hp, rfl⟩ := List.mem_map.mp (e a ha)
    exact hn p hp
  refine ⟨List.nodup_cons.mpr ⟨fun hm => key D (List.mem_append_left _ hm) rfl, h.1⟩, fun p hp a ha => ?_⟩
  rcases List.mem_cons.mp ha with rfl | ha
  · exact key p.1 (List.mem_append_right _ (List.mem_map_of_mem hp))
  · exact h.2 p hp a ha
/-- a comprehension's new list, laid into the ledger -/
theorem plain_in {h : Heap} {D : Addr} {vs : List Value} {ads : List Addr} {tl : List (Addr × Obj)} (F : Fr h₀ L h m) (x : NewPlain h news D vs.toArray) (hD : h₀.get? D = none) (hN : NodT ads tl) (e : ∀ a ∈ ads ++ tl.map (·.1), a ∈ news.map (·.1)) :
    ∃ c, (h.get? D = some (W.listOf vs.toArray c) ∧ D ≠ L ∧ h₀.get? D = none) ∧ NodT (D :: ads) tl := by
  obtain ⟨n, hn⟩ := x.1
  exact ⟨n, ⟨hn, x.ne_locals F, hD⟩, nod_plain hN x.2 e⟩
noncomputable def ifBody : Stmt → List Stmt | .If _ b _ _ => b | _ => []
noncomputable def ifElse : Stmt → List Stmt | .If _ _ o _ => o | _ => []
noncomputable def elifAt : Nat → Stmt
  | 0 => turnBody.getD 8 (.Pass ⟨0, 0, 0, 0⟩)
  | k + 1 => (ifElse (elifAt k)).getD 0 (.Pass ⟨0, 0, 0, 0⟩)
noncomputable def br (k : Nat) : List Stmt := ifBody (elifAt k)
theorem ints_rep {x : Int} {u : Tok} : ∀ n : Nat, IntsAre (List.replicate n [Value.int x u]).flatten (List.replicate n x)
  | 0 => .nil
  | n + 1 => by
    rw [List.replicate_succ, List.flatten_cons, List.replicate_succ]
    exact .cons x u (ints_rep n)
/-- [x] * n -/
theorem mul_in {l : Addr} {x am : Int} {u ut : Tok} {c : Nat} {Q : Value → Shared → Prop} (F : Fr h₀ L s.heap m) (N : News h₀ L s.heap news) (hm : (l, W.listOf #[.int x u] c) ∈ news) (h0 : 0 ≤ am) (h1 : am ≤ 100)
    (h : ∀ D (vs : List Value) h', Fr h₀ L h' m → News h₀ L h' ((D, W.listOf vs.toArray 0) :: news) → (∀ p ∈ news, p.1 < D) → IntsAre vs (List.replicate am.toNat x) → Q (.ref D) { s with heap := h' }) :
    wpAny (model prog w) A (binaryOp .Mult (.ref l) (.int am ut)) Q E s :=
  KMa.mul (vs := [.int x u]) F N (PySem.IsL.isList (n := c) (N _ hm).1) (by omega) (by omega) (by simp; omega) rfl fun D h' F' N' l1 => h D _ h' F' N' l1 (ints_rep _)
/-- two lists of ints joined -/
theorem add_in {a b : Addr} {vs ws : List Value} {ns ms : List Int} {Q : Value → Shared → Prop} (F : Fr h₀ L s.heap m) (N : News h₀ L s.heap news) (ha : s.heap.IsList a vs.toArray) (hb : s.heap.IsList b ws.toArray) (ia : IntsAre vs ns) (ib : IntsAre ws ms) (la : ns.length ≤ 1000) (lb : ms.length ≤ 1000)
    (h : ∀ D (zs : List Value) h', Fr h₀ L h' m → News h₀ L h' ((D, W.listOf zs.toArray 0) :: news) → (∀ p ∈ news, p.1 < D) → IntsAre zs (ns ++ ms) → Q (.ref D) { s with heap := h' }) :
    wpAny (model prog w) A (binaryOp .Add (.ref a) (.ref b)) Q E s :=
  kmk_add_lit F N ha hb rfl (fun D h' F' N' l1 => h D _ h' F' N' l1 (ia.append ib)) (by have := ia.length; have := ib.length; rw [sizeLine_eq]; simp only [List.toList_toArray]; omega)
def setAt (f : Nat → Addr) (i : Nat) (a : Addr) (j : Nat) : Addr := if j = i then a else f j
theorem three_set {f : Nat → Addr} {i : Nat} {a : Addr} (h : i < 3) : ([Value.ref (f 0), .ref (f 1), .ref (f 2)] : List Value).set i (.ref a) = [.ref (setAt f i a 0), .ref (setAt f i a 1), .ref (setAt f i a 2)] := by
  match i, h with
  | 0, _ => rfl
  | 1, _ => rfl
  | 2, _ => rfl
/-- tokens[who] = live -/
theorem set3 {D a : Addr} {f : Nat → Addr} {n i : Nat} {u : Tok} {g : Obj → List (Addr × Obj)} {Q : Unit → Shared → Prop} (F : Fr h₀ L s.heap m) (N : News h₀ L s.heap news) (U : UpdF D (W.listOf #[.ref (f 0), .ref (f 1), .ref (f 2)] n) news g) (h3 : i < 3)
    (h : ∀ h', Fr h₀ L h' m → News h₀ L h' (g (W.listOf #[.ref (setAt f i a 0), .ref (setAt f i a 1), .ref (setAt f i a 2)] n)) → Q () { s with heap := h' }) : wpAny (model prog w) A (setItem (.ref D) (.int i u) (.ref a)) Q E s :=
  lst_set (vs := [.ref (f 0), .ref (f 1), .ref (f 2)]) F N U h3 h3 fun h' F' N' => h h' F' (by rw [three_set h3] at N'; exact N')
/-- a frame with one name set, whether the set ran or not -/
theorem fr_again {h : Heap} {k : PySem.Str} {a b : Option Value} (F : Fr h₀ L h fun y => if y = k then a else if y = k then b else m y) : Fr h₀ L h fun y => if y = k then a else m y := by
  have e : (fun y => if y = k then a else if y = k then b else m y) = fun y => if y = k then a else m y := by
    funext y
    split
    · rfl
    · rfl
  rw [← e]; exact F
def NameR (h₀ : Heap) (L : Addr) (m : PySem.Str → Option Value) (k : PySem.Str) (news : List (Addr × Obj)) (s : Shared) (P : Int → Prop) (fl : Flow) (s' : Shared) : Prop :=
  fl = .next ∧ ∃ x u h' tk', P x ∧ s' = { s with heap := h', toks := tk' } ∧ Fr h₀ L h' (fun y => if y = k then some (.int x u) else m y) ∧ News h₀ L h' news
/-- a cut behind which one name may hold another int -/
theorem cut_name {M : Model} {t : Sem Flow} {k : PySem.Str} {o : Option Value} {Q : Flow → Shared → Prop} (P : Int → Prop) (F : Fr h₀ L s.heap fun y => if y = k then o else m y) (N : News h₀ L s.heap news)
    (h1 : wpAny M A t (CutQ (NameR h₀ L m k news s P)) (fun _ _ => False) s)
    (h2 : ∀ x u h' tk', P x → Fr h₀ L h' (fun y => if y = k then some (.int x u) else m y) → News h₀ L h' news → Q .next { s with heap := h', toks := tk' }) : wpAny M A t Q E s :=
  wpAny_mono h1 (fun v s' hq => by obtain ⟨rfl, x, u, h', tk', hp, rfl, F', N'⟩ := hq; exact h2 x u h' tk' hp F' N') fun _ _ e => e.elim
theorem nod_drop {a b : Addr} {r : List Addr} {tl : List (Addr × Obj)} (h : NodT (a :: b :: r) tl) : NodT (a :: r) tl := by
  have h1 := List.nodup_cons.mp h.1
  have h2 := List.nodup_cons.mp h1.2
  refine ⟨List.nodup_cons.mpr ⟨fun q => h1.1 (.tail _ q), h2.2⟩, fun p hp c hc => h.2 p hp c ?_⟩
  rcases List.mem_cons.mp hc with rfl | hc
  · exact .head _
  · exact .tail _ (.tail _ hc)
abbrev kept8 : List PySem.Str := ["script", "numbers", "store", "keys", "windows", "tokens", "units", "number"].map PySem.Str.ofString
theorem keep8 {P : PySem.Str → Prop} (h1 : P (PySem.Str.ofString "script")) (h2 : P (PySem.Str.ofString "numbers")) (h3 : P (PySem.Str.ofString "store")) (h4 : P (PySem.Str.ofString "keys")) (h5 : P (PySem.Str.ofString "windows")) (h6 : P (PySem.Str.ofString "tokens")) (h7 : P (PySem.Str.ofString "units")) (h8 : P (PySem.Str.ofString "number")) : ∀ y, y ∈ kept8 → P y :=
  List.forall_mem_cons.mpr ⟨h1, List.forall_mem_cons.mpr ⟨h2, List.forall_mem_cons.mpr ⟨h3, List.forall_mem_cons.mpr ⟨h4, List.forall_mem_cons.mpr ⟨h5, List.forall_mem_cons.mpr ⟨h6, List.forall_mem_cons.mpr ⟨h7, List.forall_mem_cons.mpr ⟨h8, fun _ h => absurd h List.not_mem_nil⟩⟩⟩⟩⟩⟩⟩⟩
theorem keep6 {P : PySem.Str → Prop} (h1 : P (PySem.Str.ofString "script")) (h2 : P (PySem.Str.ofString "numbers")) (h3 : P (PySem.Str.ofString "store")) (h4 : P (PySem.Str.ofString "keys")) (h5 : P (PySem.Str.ofString "windows")) (h8 : P (PySem.Str.ofString "number")) : ∀ y, y ∈ ["script", "numbers", "store", "keys", "windows", "number"].map PySem.Str.ofString → P y :=
  List.forall_mem_cons.mpr ⟨h1, List.forall_mem_cons.mpr ⟨h2, List.forall_mem_cons.mpr ⟨h3, List.forall_mem_cons.mpr ⟨h4, List.forall_mem_cons.mpr ⟨h5, List.forall_mem_cons.mpr ⟨h8, fun _ h => absurd h List.not_mem_nil⟩⟩⟩⟩⟩⟩
theorem item0 {a : Addr} {vs : List Value} {ns : List Int} {c : Nat} {u : Tok} {value slice : PySem.Expr} {Q : Value → Shared → Prop} (N : News h₀ L s.heap news) (hm : (a, W.listOf vs.toArray c) ∈ news) (hi : IntsAre vs ns) (hne : ns ≠ [])
    (h : ∀ x u', (∀ d, ns.headD d = x) → Q (.int x u') s)
    (hs : subscripted slice false (.ref a) (.int 0 u) = operate [.ref a, .int 0 u] (getItem (.ref a) (.int 0 u)) := by with_unfolding_all rfl) (hg : ∀ r, letTemporaryGo value (.ref a) r = pure () := by intro _; with_unfolding_all rfl) :
    wpAny (model prog w) A (subscriptTail value slice (.ref a) (.int 0 u)) Q E s := by
  cases hi with
  | nil => exact absurd rfl hne
  | cons x t r => exact item_list (x := .int x t) (PySem.IsL.isList (n := c) (N _ hm).1) (by decide) (by decide) rfl (h x t fun _ => rfl) hs hg
theorem news_drop {h : Heap} {a b : Addr × Obj} {r : List (Addr × Obj)} (N : News h₀ L h (a :: b :: r)) : News h₀ L h (a :: r) := fun q hq => by
  rcases List.mem_cons.mp hq with rfl | hq
  · exact N _ (.head _)
  · exact N q (.tail _ (.tail _ hq))
theorem item_one {a : Addr} {x : Int} {t : Tok} {c : Nat} {u : Tok} {value slice : PySem.Expr} {Q : Value → Shared → Prop} (N : News h₀ L s.heap news) (hm : (a, W.listOf #[.int x t] c) ∈ news) (h : Q (.int x t) s)
    (hs : subscripted slice false (.ref a) (.int 0 u) = operate [.ref a, .int 0 u] (getItem (.ref a) (.int 0 u)) := by with_unfolding_all rfl) (hg : ∀ r, letTemporaryGo value (.ref a) r = pure () := by intro _; with_unfolding_all rfl) :
    wpAny (model prog w) A (subscriptTail value slice (.ref a) (.int 0 u)) Q E s :=
  item_list (x := .int x t) (PySem.IsL.isList (n := c) (N _ hm).1) (by decide) (by decide) rfl h hs hg
theorem len_comp {D : Addr} {vs : List Value} {ns : List Int} {Q : Value → Shared → Prop} (hl : s.heap.IsList D vs.toArray) (hc : CarriedAll vs (ns.map PyData.int)) (hb : ns.length ≤ 1000000) (h : ∀ tv, Q (.int (ns.length : Nat) tv) { s with toks := s.toks + 1 + 1 }) :
    wpAny (model prog w) A (call (.builtin "len") [.ref D]) Q E s :=
  len_ints hl (by have := CarriedAll.intsOf (f := fun a => a) hc; rwa [List.map_id'] at this) hb h
theorem isl_of {h : Heap} {a : Addr} {vs : List Value} {c : Nat} (N : News h₀ L h news) (hm : (a, W.listOf vs.toArray c) ∈ news) : h.IsList a vs.toArray := PySem.IsL.isList (n := c) (N _ hm).1
theorem bx1 {P : Prop} [Decidable P] (h : (false != decide P) = true) : P := by simpa using h
theorem bx2 {P : Prop} [Decidable P] (h : (true != decide P) = true) : ¬ P := by simpa using h
theorem bx3 {P R : Prop} [Decidable P] [Decidable R] (h : (decide P == decide R) = true) : P ↔ R := by simpa using h
theorem nod_cons {D : Addr} {ads : List Addr} {tl : List (Addr × Obj)} (h : NodT ads tl) (h1 : ∀ a ∈ ads, a ≠ D) (h2 : ∀ p ∈ tl, p.1 ≠ D) : NodT (D :: ads) tl :=
  ⟨List.nodup_cons.mpr ⟨fun hm => h1 D hm rfl, h.1⟩, fun p hp a ha => (List.mem_cons.mp ha).elim (fun e => e ▸ h2 p hp) fun ha => h.2 p hp a ha⟩
theorem nod_fresh3 {h : Heap} {a r d : Addr} {ads : List Addr} {tl : List (Addr × Obj)} (hN : NodT ads tl) (N : News h₀ L h news) (e : ∀ b ∈ ads ++ tl.map (·.1), b ∈ news.map (·.1)) (n1 : h.get? a = none) (n2 : h.get? r = none) (n3 : h.get? d = none) (x1 : a ≠ r) (x2 : a ≠ d) (x3 : r ≠ d) : NodT (a :: r :: d :: ads) tl := by
  have key : ∀ D, h.get? D = none → (∀ b ∈ ads, b ≠ D) ∧ ∀ p ∈ tl, p.1 ≠ D := fun D hD => by
    have k0 : ∀ b ∈ ads ++ tl.map (·.1), b ≠ D := fun b hb q => by
      obtain ⟨p, hp, rfl⟩ := List.mem_map.mp (e b hb)
      have := (N p hp).1
      rw [q, hD] at this; cases this
    exact ⟨fun b hb => k0 b (List.mem_append_left _ hb), fun p hp => k0 _ (List.mem_append_right _ (List.mem_map_of_mem hp))⟩
  refine nod_cons (nod_cons (nod_cons hN (key d n3).1 (key d n3).2) ?_ (key r n2).2) ?_ (key a n1).2
  · intro b hb
    rcases List.mem_cons.mp hb with rfl | hb
    · exact x3.symm
    · exact (key r n2).1 b hb
  · intro b hb
    rcases List.mem_cons.mp hb with rfl | hb
    · exact x1.symm
    · rcases List.mem_cons.mp hb with rfl | hb
      · exact x2.symm
      · exact (key a n1).1 b hb
/-- a name set to an int: behind it the int is any one that is equal -/
theorem store_int {M : Model} {a : Addr} {cn y : PySem.Str} {cs : Scope} {ccd : Value} {cl : List (PySem.Str × Addr)} {v : Int} {u : Tok} {Q : Unit → Shared → Prop} (F : Fr h₀ L s.heap m) (N : News h₀ L s.heap news)
    (h : ∀ h' tk' i u', i = v → Fr h₀ L h' (fun z => if z = y then some (.int i u') else m z) → News h₀ L h' news → Q () { s with heap := h', toks := tk' })
    (hk : cs.kind = .function := by rfl) (hx : (envX cn cs L a ccd cl).kindOf y = some .local := by rfl) : wpAny M A (storeName (envX cn cs L a ccd cl) y (.int v u)) Q E s :=
  storeX_L F N (fun h' F' N' => h h' _ v u rfl F' N') hk hx
theorem store_any {M : Model} {a : Addr} {cn y : PySem.Str} {cs : Scope} {ccd v : Value} {cl : List (PySem.Str × Addr)} {Q : Unit → Shared → Prop} (F : Fr h₀ L s.heap m) (N : News h₀ L s.heap news)
    (h : ∀ h' tk', Fr h₀ L h' (fun z => if z = y then some v else m z) → News h₀ L h' news → Q () { s with heap := h', toks := tk' })
    (hk : cs.kind = .function := by rfl) (hx : (envX cn cs L a ccd cl).kindOf y = some .local := by rfl) : wpAny M A (storeName (envX cn cs L a ccd cl) y v) Q E s :=
  storeX_L F N (fun h' F' N' => h h' _ F' N') hk hx
theorem fm_in {cd k : Int} (h : 0 < k) : 0 ≤ cd.fmod k ∧ cd.fmod k < k := by
  rw [Int.fmod_eq_emod_of_nonneg _ (Int.le_of_lt h)]
  exact ⟨Int.emod_nonneg _ (Int.ne_of_gt h), Int.emod_lt_of_pos _ h⟩
theorem amt3 {i a : Int} (e : i = 1 + a) (h : 0 ≤ a ∧ a < 3) : 0 ≤ i ∧ i ≤ 100 := by subst e; exact ⟨Int.add_nonneg (by decide) h.1, Int.le_trans (Int.add_le_add_left (Int.le_of_lt h.2) 1) (by decide)⟩
theorem max_len {n : Nat} {a : Int} (h : 0 ≤ a) : max ((n : Int) - a) 0 = ((n - a.toNat : Nat) : Int) := by
  obtain ⟨k, rfl⟩ := Int.eq_ofNat_of_zero_le h
  rw [Int.toNat_natCast]
  rcases Nat.le_total k n with q | q
  · rw [Int.ofNat_sub q]; exact Int.max_eq_left (Int.sub_nonneg_of_le (Int.ofNat_le.mpr q))
  · rw [Nat.sub_eq_zero_of_le q]; exact Int.max_eq_right (Int.sub_nonpos_of_le (Int.ofNat_le.mpr q))
theorem pos_am {x k i : Int} (h : i = 1 + x.fmod k) (hk : 0 < k) : 0 < i := by
  have := (fm_in (cd := x) hk).1
  omega
set_option maxHeartbeats 4000000 in
/-- y = [[], [], []] -/
theorem lists3 {fa : Nat} {y : PySem.Str} {p1 p2 p3 p4 p5 p6 : Pos} {rest : List Stmt} {Q : Flow → Shared → Prop} (F : Fr h₀ L s.heap m) (N : News h₀ L s.heap news) (hy : (lawEnv L fa).kindOf y = some .local)
    (h : ∀ h' tk' (D k0 k1 k2 : Nat) c, Fr h₀ L h' (fun z => if z = y then some (.ref D) else m z) → News h₀ L h' ((D, W.listOf #[.ref k0, .ref k1, .ref k2] c) :: (k2, W.listOf #[] 0) :: (k1, W.listOf #[] 0) :: (k0, W.listOf #[] 0) :: news) → (∀ {ads tl}, NodT ads tl → news.map (·.1) = ads ++ tl.map (·.1) → NodT (D :: k2 :: k1 :: k0 :: ads) tl) →
      wpAny (model prog w) A (execs rest (lawEnv L fa)) Q E { s with heap := h', toks := tk' }) :
    wpAny (model prog w) A (execs (Stmt.Assign [.Name y p1] (.List [.List [] p2, .List [] p3, .List [] p4] p5) p6 :: rest) (lawEnv L fa)) Q E s := by
  k_steps
  rename_i h1 _ N1 h2 _ N2 h3 _ N3 h4 F4 N4
  unfold lawEnv at hy ⊢
  refine store_any F4 N4 (fun h9 tk9 F9 N9 => ?_) rfl hy
  exact h h9 tk9 _ _ _ _ _ F9 N9 fun hn e => nod_new (nod_new (nod_new (nod_new hn (fun p hp => Heap.lt_size (N p hp).1) e) (fun p hp => Heap.lt_size (N1 p hp).1) (congrArg (List.cons _) e)) (fun p hp => Heap.lt_size (N2 p hp).1) (congrArg (fun l => _ :: _ :: l) e)) (fun p hp => Heap.lt_size (N3 p hp).1) (congrArg (fun l => _ :: _ :: _ :: l) e)

end LawDefs
section Pre
variable {prog : Program} {w : World} {A₀ A : Around} {base h₀ : Heap} {outer : List Env} {env : Env} {L : Addr} {m mg mb : PySem.Str → Option Value}
  {p : Program} {loose : List PySem.Str} {mean : ExcName → Option Value} {s : Shared} {news : List (Addr × Obj)} {E : Value → Shared → Prop}
theorem words_Pre : True := by
  k_with_none
  w_top off
  (k_with "k_steps" => repeat' (first | (k_unfold; (try dsimp only)) | (k_end; wrow_close) | (dsimp only; walk1) | walk1 | (leave1; walk_say "STEP leave1"; try dsimp only) | fail "no step"))
  (k_with "k_lt" => first | (intro hlt9; (with_reducible rename NodT _ _ => hNdZ); have hNd2 := nod_new hNdZ hlt9 rfl; replace hlt9 := allLt_of hlt9; simp only [AllLt, and_true] at hlt9; revert hNd2 hlt9; intro _) | (intro hlt9; replace hlt9 := allLt_of hlt9; simp only [AllLt, and_true] at hlt9; revert hlt9) | fail)
  (k_with "k_off1" => first | exact Or.inl (by assumption) | exact Nat.le_refl _ | exact Nat.le_of_lt (by assumption) | exact Or.inr (Nat.le_trans (m := 201) (by decide) (by assumption)) | exact Nat.le_trans (m := 201) (by decide) (by assumption) | omega | fail)
  (k_with "k_offs" => first | (refine List.forall_mem_cons.mpr ⟨?_, ?_⟩; (try dsimp only); (k_extra "k_off1"); (k_extra "k_offs")) | exact (fun _ h => absurd h List.not_mem_nil) | fail)
  (k_with "k_cj" => with_reducible first | assumption | exact And.left (by assumption) | exact And.left (And.right (by assumption)) | exact And.left (And.right (And.right (by assumption))) | exact And.left (And.right (And.right (And.right (by assumption)))) | exact And.left (And.right (And.right (And.right (And.right (by assumption))))) | exact And.left (And.right (And.right (And.right (And.right (And.right (by assumption)))))) | exact And.right (by assumption) | exact And.right (And.right (by assumption)) | exact And.right (And.right (And.right (by assumption))) | exact And.right (And.right (And.right (And.right (by assumption)))) | exact And.right (And.right (And.right (And.right (And.right (by assumption))))) | fail)
  (k_with "k_dp" => first | exact Nat.le_trans (by assumption) (by decide) | exact Nat.le_trans (Nat.succ_le_succ (by assumption)) (by decide) | exact Nat.lt_of_le_of_lt (by assumption) (by decide) | exact Nat.lt_of_le_of_lt (Nat.succ_le_succ (by assumption)) (by decide) | exact Nat.le_trans (Nat.succ_le_succ (Nat.succ_le_succ (by assumption))) (by decide) | exact Nat.lt_of_le_of_lt (Nat.succ_le_succ (Nat.succ_le_succ (by assumption))) (by decide) | (simp only [depth_mark, depth_under_make, depth_under_kw, depth_in1, depth_deeper]; omega) | fail)
  (k_with "k_mem" => first | exact AtU.head | (apply AtU.tail; k_mem) | (refine' PairIn.head ?_; k_mem) | (refine' PairIn.tail ?_; k_mem) | fail)
  (k_with "k_ne" => first | (refine' ne_d1 ?zH ?zP; (case zH => assumption); (case zP => k_mem)) | (refine' ne_d2 ?zH ?zP; (case zH => assumption); (case zP => k_mem)) | exact Nat.ne_of_gt (by (try dsimp only); k_extra "k_cj") | exact Nat.ne_of_lt (by (try dsimp only); k_extra "k_cj") | (refine neN ?_; (try dsimp only); omega) | fail)
  (k_with "k_updF" => first | (refine' updF_at ?zA ?zH ?ze ?zm; (case zA => k_mem); (case zH => assumption); (case ze => rfl); (case zm => k_mem)) | (refine' UpdF.head ?za; (case za => k_all)) | (refine' UpdF.tail ?za ?zb; (case za => k_ne); (case zb => k_updF)) | fail)
  (k_with "k_inst" => first | (refine' instH ?zF ?zI; (case zF => k_asm); (case zI => assumption)) | fail)
  (k_with "k_room" => first | (show _ < 1000; k_extra "k_dp") | fail)
  (k_with "is_list" => first | (refine' listH ?zF ?zI; (case zF => k_asm); (case zI => assumption)) | fail)
  (k_with "call ref" => (k_here; (with_reducible show wpAny _ _ (call (Value.ref _) [] []) _ _ _); k_dflt (refine' clock_in ?zF ?zX ?zN ?zT ?zr ?zC ?_; (case zF => k_asm); (case zC => assumption); (case zX => k_asm); (case zN => k_asm); (case zT => k_asm); (case zr => k_room)); intro _ _ _ _ _ _))
  (k_with "getMethod ref" => (k_here; (with_reducible show wpAny _ _ (getMethod (Value.ref _) (Str.ofString "get") _) _ _ _); k_dflt (refine' dsd_method PySem.F.slot_dict_get PySem.F.type_dict_get ?zN ?zm ?zD ?_; (case zN => k_asm); (case zm => k_mem); (case zD => k_asm))))
  (k_with "getMethod ref" => (k_here; (with_reducible show wpAny _ _ (getMethod (Value.ref _) (Str.ofString "pop") _) _ _ _); k_dflt (refine' dsd_method PySem.F.slot_dict_pop PySem.F.type_dict_pop ?zN ?zm ?zD ?_; (case zN => k_asm); (case zm => k_mem); (case zD => k_asm))))
  (k_with "getMethod ref" => (k_here; (with_reducible show wpAny _ _ (getMethod (Value.ref _) (Str.ofString "setdefault") _) _ _ _); k_dflt (refine' dsd_method PySem.F.slot_dict_setdefault PySem.F.type_dict_setdefault ?zN ?zm ?zD ?_; (case zN => k_asm); (case zm => k_mem); (case zD => k_asm))))
  (k_with "getMethod ref" => (k_here; (with_reducible show wpAny _ _ (getMethod (Value.ref _) (Str.ofString "clear") _) _ _ _); k_dflt (refine' dsd_method PySem.F.slot_dict_clear PySem.F.type_dict_clear ?zN ?zm ?zD ?_; (case zN => k_asm); (case zm => k_mem); (case zD => k_asm))))
  (k_with "getMethod ref" => (k_here; (with_reducible show wpAny _ _ (getMethod (Value.ref _) (Str.ofString "clock") _) _ _ _); k_dflt (refine' kmu_own ?zk1 ?zk2 ?zk3 ?zk4 ?zk5 ?_; (case zk1 => k_asm); (case zk2 => k_asm); (case zk3 => k_inst); (case zk4 => k_is); (case zk5 => k_is); k_whole)))
  (k_with "getAttr ref" => (k_here; k_dflt (refine' get_own ?zk1 ?zk2 ?zk3 ?zk4 ?zk5 ?zk6 ?zk7 ?zk8 ?zk9 ?_; (case zk1 => k_asm); (case zk2 => k_asm); (case zk3 => k_inst); (case zk4 => k_is); (case zk5 => k_is); (case zk6 => k_is); (case zk7 => k_is); (case zk8 => k_get); (case zk9 => k_handed); k_whole)))
  (k_with "call builtin:dict.get" => (k_here; k_dflt (refine' dsd_get ?zN ?zm ?zD ?zlo ?_; (case zN => k_asm); (case zm => k_mem); (case zD => k_asm); (case zlo => k_asm)); intro _ _))
  (k_with "call builtin:dict.get" => (k_here; (with_reducible show wpAny _ _ (call (Value.builtin _) [Value.ref _, Value.str _ _, Value.int _ _]) _ _ _); k_dflt (refine' isd_get ?zN ?zm ?zD ?zlo ?_; (case zN => k_asm); (case zm => k_mem); (case zD => k_asm); (case zlo => k_asm)); intro _))
  (k_with "call builtin:dict.pop" => (k_here; k_dflt (refine' dsd_pop ?zF ?zN ?zU ?zD ?zlo ?_; (case zF => k_asm); (case zN => k_asm); (case zU => k_updF); (case zD => k_asm); (case zlo => k_asm)); intro _ _ _ _ _ _ _))
  (k_with "call builtin:dict.clear" => (k_here; k_dflt (refine' dsd_clear ?zF ?zN ?zU ?zD ?_; (case zF => k_asm); (case zN => k_asm); (case zU => k_updF); (case zD => k_asm)); intro _ _ _ _ _))
  (k_with "call builtin:len" => (k_here; (with_reducible show wpAny _ _ (call (Value.builtin "len") [Value.ref _]) _ _ _); k_dflt (refine' dsd_len_call ?zN ?zm ?zD ?zlo ?_; (case zN => k_asm); (case zm => k_mem); (case zD => k_asm); (case zlo => k_asm)); intro _ _))
  (k_with "callWith ref" => (k_here; (with_reducible show wpAny _ _ (callWith _ _ _ (backTo _ (starEach [] _)) []) _ _ _); k_dflt (refine' callWith_F0 ?zk1 ?_; (case zk1 => exact fnClock (by k_asm) (by assumption)); k_whole); (try dsimp only [List.nil_append, List.cons_append])))
  (k_with "setItem ref str" => (k_here; k_dflt (refine' dsd_set ?zF ?zN ?zU ?zD ?zk ?zx ?_; (case zF => k_asm); (case zN => k_asm); (case zU => k_updF); (case zD => k_asm); (case zk => k_asm); (case zx => first | exact ⟨_, rfl⟩ | exact rfl)); intro _ _ _ _ _))
  (k_with "subscriptTail" => (k_here; (with_reducible show wpAny _ _ (subscriptTail _ _ (Value.ref _) (Value.str _ _)) _ _ _); k_dflt (refine' isd_item ?zN ?zm ?zD ?zx ?_; (case zN => k_asm); (case zm => k_mem); (case zD => k_asm); (case zx => first | exact upd_self _ _ _ | assumption)); intro _))
  (k_with "eval Name" => (k_here; k_dflt (refine' nameX_L ?zF ?zv ?_ ?za ?zb; (case za => rfl); (case zb => rfl); (case zF => k_asm); (case zv => first | rfl | assumption); k_whole)))
  (k_with "call builtin:len" => (k_here; (with_reducible show wpAny _ _ (call (Value.builtin "len") [Value.ref _]) _ _ _); k_dflt (refine' len_lst ?zl ?zn ?zb ?_; (case zl => is_list); (case zn => assumption); (case zb => omega); k_whole); intro _))
  (k_with "exec While Compare cons nil" => (k_here; refine stopW ?_))
  (k_with "subscriptTail" => (k_here; (with_reducible show wpAny _ _ (subscriptTail _ _ (Value.ref _) (Value.str _ _)) _ _ _); k_dflt (refine' asd_item ?zN ?zm ?zD ?zx ?_; (case zN => k_asm); (case zm => k_mem); (case zD => k_asm); (case zx => first | exact upd_self _ _ _ | assumption))))
  (k_with "call ref" => (k_here; (with_reducible show wpAny _ _ (call (Value.ref 117) [Value.ref _, Value.str _ _] []) _ _ _); k_dflt (refine' get_in ?zB ?zF ?zX ?zN ?zT ?zA ?zhh ?zf ?zk ?zr ?zG ?zU1 ?zU2 ?zDS ?zDE ?_; (case zF => k_asm); (case zG => exact Geo.all (by assumption) (Fr.keep (by k_asm))); (case zB => k_asm); (case zX => k_asm); (case zN => k_asm); (case zT => k_asm); (case zA => exact rfl); (case zhh => exact rfl); (case zf => exact rfl); (case zk => exact rfl); (case zr => (show _ ≤ 900; k_extra "k_dp")); (case zU1 => k_updF); (case zU2 => (intro _; (try dsimp only); k_updF)); (case zDS => k_asm); (case zDE => k_asm)); intro _ _ _ _ _ _ _ _ _ _))
  (k_with "callWith ref" => (k_here; k_dflt (refine' callWith_F ?zk1 ?_; (case zk1 => exact NegAt.fn (NegAt.keeps (by assumption) (Fr.keep (by k_asm)))); k_whole)))
  (k_with "call ref" => (k_here; (with_reducible show wpAny _ _ (call (Value.ref 52) _ _) _ _ _); refine stopW ?_))
  (k_with "call builtin:dict.setdefault" => (k_here; refine stopW ?_))
  (k_with "eval Lambda" => (k_here; k_dflt (refine' lam_in ?zF ?zN ?zT ?zC ?zcd ?zU ?zhps ?zhsub ?zcl ?zdf ?_; (case zF => k_asm); (case zN => k_asm); (case zT => k_asm); (case zcd => exact rfl); (case zC => kn_code); (case zU => k_updF); (case zhps => assumption); (case zhsub => (intro _ hq; first | (exact absurd hq List.not_mem_nil) | (repeat (first | exact hq | refine List.Mem.tail _ ?_)))); (case zcl => exact rfl); (case zdf => exact rfl); k_whole); intro fl cl ct psl lsl hpl tkl Fl Nl hfl hrl hnt ltl; (simp only [List.cons_append, List.nil_append] at Nl)))
  (k_with "call ref" => (k_here; (with_reducible show wpAny _ _ (call (Value.ref 69) _ _) _ _ _); k_dflt (refine' entry_in ?zF ?zX ?zN ?zT ?zr ?_; (case zF => k_asm); (case zX => k_asm); (case zN => k_asm); (case zT => k_asm); (case zr => (show _ ≤ 890; k_extra "k_dp"))); intro r9 d9 _ _ _ _ _ _ _ _ l1 l2; (try k_lt l1); (replace l2 : @LT.lt Nat instLTNat d9 r9 := l2)))
  (k_with "binaryOp Mult ref int" => (k_here; (with_reducible show wpAny _ _ (binaryOp Operator.Mult (Value.ref _) (Value.int _ _)) _ _ _); k_dflt (refine' KMa.mul ?zF ?zN ?zl ?zlo ?zhi ?z ?ze ?_; (case zF => k_asm); (case zN => k_asm); (case zl => is_list); (case zlo => omega); (case zhi => omega); (case z => (simp only [List.length_cons, List.length_nil]; omega)); (case ze => exact flat1 _ _)); intro _ _ _ _ l1; (try k_lt l1)))
  (k_with "binaryOp Add ref ref" => (k_here; (with_reducible show wpAny _ _ (binaryOp _ (Value.ref _) (Value.ref _)) _ _ _); k_dflt (refine' kmk_add_lit ?zF ?zN ?za ?zb ?ze ?_ ?z; (case zF => k_asm); (case zN => k_asm); (case za => first | kmk_list | is_list); (case zb => first | kmk_list | is_list); (case ze => exact rfl); (case z => (simp only [sizeLine, List.toList_toArray, List.length_replicate, List.length_nil, List.length_cons]; omega))); intro _ _ _ _ l1; (try k_lt l1)))
  (k_with "getMethod ref" => (k_here; (with_reducible show wpAny _ _ (getMethod (Value.ref _) (Str.ofString "keys") _) _ _ _); k_dflt (refine' dsd_method PySem.F.slot_dict_keys PySem.F.type_dict_keys ?zN ?zm ?zD ?_; (case zN => k_asm); (case zm => k_mem); (case zD => k_asm))))
  (k_with "call builtin:dict.keys" => (k_here; (with_reducible show wpAny _ _ (call (Value.builtin "dict.keys") [Value.ref _]) _ _ _); k_dflt (refine' dsd_keys ?zF ?zN ?zm ?zD ?zlo ?_; (case zF => k_asm); (case zN => k_asm); (case zm => k_mem); (case zD => k_asm); (case zlo => k_asm)); intro _ _ _ _ l1; (try k_lt l1)))
  (k_with "call type:list" => (k_here; (with_reducible show wpAny _ _ (call (Value.type "list") [Value.ref _]) _ _ _); k_dflt (refine' dsd_list ?zh ?zF ?zN ?zv ?zm ?zD ?_; (case zh => exact rfl); (case zF => k_asm); (case zN => k_asm); (case zv => exact List.Mem.head _); (case zm => k_mem); (case zD => k_asm)); intro _ _ _ _ _ _ _ _ _ l1; (try k_lt l1)))
  (k_with "exec For Name Call cons nil" => (k_here; refine stopW ?_))
  (k_with "eval Name" => (k_here; (with_reducible show wpAny _ _ (eval (Expr.Name _ _) (envOfC _ _ _ _ _)) _ _ _); k_dflt (refine' nameX_L ?zF ?zv ?_ ?za ?zb; (case za => rfl); (case zb => rfl); (case zF => k_asm); (case zv => first | rfl | assumption))))
  (k_with "k_ne" => first | (refine' ne_list_dsd ?zN ?zm1 ?zm2 ?zc ?zX; (case zN => k_asm); (case zm1 => k_mem); (case zm2 => k_mem); (case zc => exact rfl); (case zX => k_asm)) | (refine' ne_cls ?zN ?zm1 ?zm2 ?zc; (case zN => k_asm); (case zm1 => k_mem); (case zm2 => k_mem); (case zc => simp [tabObj])) | fail)
  (k_with "call builtin:len" => (k_here; (with_reducible show wpAny _ _ (call (Value.builtin "len") [Value.ref _]) _ _ _); k_dflt (refine' len_ints ?zl ?zi ?zb ?_; (case zl => kmk_list); (case zi => k_asm); (case zb => exact len_filter_le (n := 1000000) (by omega)); k_whole); intro _))
  (k_with "truthy ref" => (k_here; (with_reducible show wpAny _ _ (truthy (Value.ref _)) _ _ _); k_dflt (refine' truthy_ints ?zl ?zi ?zb ?_ ?_; (case zl => kmk_list); (case zi => k_asm); (case zb => exact len_filter_le (n := 1000000) (by omega)); k_whole); intro _))
  (k_with "call ref" => (k_here; (with_reducible show wpAny _ _ (call (Value.ref 139) [Value.ref _, Value.str _ _] []) _ _ _); k_dflt (refine' get_expiry_in ?zB ?zF ?zX ?zN ?zT ?zA ?zhh ?zf ?zk ?zr ?zG ?zm ?zDE ?_; (case zF => k_asm); (case zG => exact Geo.all (by assumption) (Fr.keep (by k_asm))); (case zB => k_asm); (case zX => k_asm); (case zN => k_asm); (case zT => k_asm); (case zA => exact rfl); (case zhh => exact rfl); (case zf => exact rfl); (case zk => exact rfl); (case zr => (show _ ≤ 890; k_extra "k_dp")); (case zm => k_mem); (case zDE => k_asm)); intro _ _ _ _ _ _))
  (k_with "call ref" => (k_here; (with_reducible show wpAny _ _ (call (Value.ref 146) _ _) _ _ _); k_dflt (refine' moving_in ?zB ?zF ?zX ?zN ?zT ?zA ?zhh ?zf ?zk ?zr ?zG ?zlo ?zCH ?zm ?zU ?zDV ?zhT ?zhE ?zhl ?zhs ?_; (case zF => k_asm); (case zG => exact Geo.all (by assumption) (Fr.keep (by k_asm))); (case zB => k_asm); (case zX => k_asm); (case zN => k_asm); (case zT => k_asm); (case zA => exact rfl); (case zhh => exact rfl); (case zf => exact rfl); (case zk => exact rfl); (case zr => (show _ ≤ 880; k_extra "k_dp")); (case zlo => k_asm); (case zCH => k_asm); (case zDV => k_asm); (case zm => k_mem); (case zU => k_updF); (case zhT => exact TabSt.all (by assumption) (Fr.keep (by k_asm))); (case zhE => exact ev_all (by assumption) (Fr.keep (by k_asm))); (case zhl => k_asm); (case zhs => k_asm)); intro _ _ psm Rm stm nm _ _ lsm _ Nm hRm hTm hfm hnm hltm hst0 hst1; (simp only [List.cons_append, List.nil_append] at Nm)))
  trivial
theorem words_pre : True := by
  (k_with "k_mem" => first | assumption | fail)
  (k_with "subscriptTail" => (k_here; (with_reducible show wpAny _ _ (subscriptTail _ _ (Value.ref _) (Value.int (Nat.cast (_ : Nat)) _)) _ _ _); k_dflt (refine' tup_nat ?zN ?zm ?zx ?zi ?_; (case zN => k_asm); (case zm => k_mem); (case zx => first | exact hK _ (by assumption) | exact hW _ (by assumption)); (case zi => assumption); k_whole)))
  (k_with "subscriptTail" => (k_here; (with_reducible show wpAny _ _ (subscriptTail (Expr.Tuple _ _ _) _ (Value.ref _) (Value.int _ _)) _ _ _); k_dflt (first | (refine' menu (hi := 3) ?zN ?zv ?zn ?z0 ?z6 ?_; (case zN => k_asm); (case zv => exact rfl); (case zn => exact rfl); (case z0 => decide); (case z6 => decide)) | (refine' menu (hi := 41) ?zN ?zv ?zn ?z0 ?z6 ?_; (case zN => k_asm); (case zv => exact rfl); (case zn => exact rfl); (case z0 => decide); (case z6 => decide))); intro wh _ hwh))
  (k_with "setItem ref int" => (k_here; (with_reducible show wpAny _ _ (setItem (Value.ref _) (Value.int _ _) (Value.int _ _)) _ _ _); k_dflt (refine' lst_set (i := 0) (vs := [_]) ?zF ?zN ?zU ?zi ?z3 ?_; (case zF => k_asm); (case zN => k_asm); (case zU => k_updF); (case zi => exact Nat.zero_lt_one); (case z3 => decide)); intro _ _ _))
  (k_with "exec If" => (with_reducible show wpAny _ _ (exec (Stmt.If _ _ _ { line := 140, col := _, endLine := _, endCol := _ }) _) _ _ _); (fail_if_success (with_reducible show wpAny _ _ _ (CutQ _) _ _)); refine stopW ?_)
  (k_with "subscriptTail" => (k_here; (with_reducible show wpAny _ _ (subscriptTail _ _ (Value.ref _) (Value.int (Nat.cast (_ : Nat)) _)) _ _ _); k_dflt (refine' lst_nat ?zN ?zm ?zx ?zi ?_; (case zN => k_asm); (case zm => k_mem); (case zx => exact three_at (by assumption)); (case zi => assumption))))
  (k_with "exec Assign cons ListComp" => (fail_if_success (have := iTw)); refine stopW ?_)
  trivial
set_option maxHeartbeats 4000000 in
theorem pre_in {fa nw aK aW T : Nat} {t num : Int} {tk tnum tpl : Tok} {c cK cW cT pl : Nat} {oW oC : Obj} {ov : Option Value} {vsK vsW : List Value} {aT : Nat → Addr} {uK uW : Nat → Tok} {toks : Nat → List Int} {tl : List (Addr × Obj)} {rest : List Stmt} {Q : Flow → Shared → Prop}
    (B : Below A₀ base outer h₀) (F : Fr h₀ L s.heap m) (X₀ : (hd.heap_39 w.params).In h₀) (T₀ : Top p loose mean mg mb h₀)
    (N : News h₀ L s.heap ((nw, W.listOf #[.int t tk] c) :: (L + 1, oW) :: tl)) (hNd : NodT [nw, L + 1] tl)
    (hA : A.frames = some (lawEnv L fa :: outer)) (hh : A.handled = none) (hroom : A.depth ≤ 400)
    (dW : oW.data = .cell ov) (mC : (L + 1 + 1, oC) ∈ tl) (dC : oC.data = .cell (some (.ref nw)))
    (mK : (aK, tupO vsK cK) ∈ tl) (hK : ∀ i, i < 3 → vsK[i]? = some (.str (keyOf i) (uK i))) (mW : (aW, tupO vsW cW) ∈ tl) (hW : ∀ i, i < 3 → vsW[i]? = some (.int (winOf i) (uW i)))
    (mT : (T, W.listOf #[.ref (aT 0), .ref (aT 1), .ref (aT 2)] cT) ∈ tl) (hTk : ∀ i, i < 3 → ListIn tl (aT i) (toks i) ∧ (toks i).length ≤ 100)
    (a1 : m (PySem.Str.ofString "number") = some (.int num tnum)) (a2 : m (PySem.Str.ofString "place") = some (.int pl tpl)) (a3 : m (PySem.Str.ofString "keys") = some (.ref aK)) (a4 : m (PySem.Str.ofString "windows") = some (.ref aW)) (a5 : m (PySem.Str.ofString "tokens") = some (.ref T))
    (hpl : pl ≤ 63)
    (hQ : ∀ h' tk' m' t' u' (wh D c' : Nat) vsL oW' u1 u2 u3 u4, t ≤ t' → wh < 3 → Fr h₀ L h' m' → News h₀ L h' ((D, W.listOf vsL.toArray c') :: (nw, W.listOf #[.int t' u'] c) :: (L + 1, oW') :: tl) → NodT [D, nw, L + 1] tl → oW'.data = .cell (some (.int (winOf wh) (uW wh))) →
      IntsAre vsL ((toks wh).filter fun e => decide (t' < e)) → m' (PySem.Str.ofString "code") = some (.int (num + 7 * pl) u1) → m' (PySem.Str.ofString "who") = some (.int wh u2) → m' (PySem.Str.ofString "key") = some (.str (keyOf wh) u3) → m' (PySem.Str.ofString "what") = some (.int ((num + 7 * pl).fmod 13) u4) → m' (PySem.Str.ofString "live") = some (.ref D) →
      (∀ y, y ∈ ["script", "numbers", "store", "keys", "windows", "tokens", "units", "number"].map PySem.Str.ofString → m' y = m y) → wpAny (model prog w) A (execs rest (lawEnv L fa)) Q E { s with heap := h', toks := tk' }) : wpAny (model prog w) A (execs (turnPre ++ rest) (lawEnv L fa)) Q E s := by
  have N₀ := N
  obtain ⟨hd9, dp, fr, gs, un⟩ := A
  dsimp only at hA hh hroom
  subst hA
  subst hh
  unfold lawEnv
  show wpAny _ _ (execs (_ :: _ :: _ :: _ :: _ :: _ :: _ :: _ :: rest) _) _ _ _
  k_steps
  show wpAny _ _ _ _ _ _
  refine cut_upd (D := nw) (o := W.listOf #[.int (t + wh) _] c) (fun fl o' => fl = Flow.next ∧ ∃ t' u', t ≤ t' ∧ o' = W.listOf #[.int t' u'] c) (by k_asm) (by k_asm) (by k_updF) ?_ ?_
  · have e0 : [t].getD (Int.toNat 0) 0 = t := rfl
    have e9 : (0 : Int) ≤ 10 ^ Int.toNat 9 := by decide
    k_steps
    · refine ⟨_, _, _, ⟨rfl, _, _, ?_, rfl⟩, rfl, by assumption, by assumption⟩
      omega
    · refine ⟨_, _, _, ⟨rfl, _, _, ?_, rfl⟩, rfl, by assumption, by assumption⟩
      omega
  intro fl o' h8 tk8 hP F8 N8
  obtain ⟨rfl, t', u', hle, rfl⟩ := hP
  have N9 : News h₀ L h8 ((nw, W.listOf #[.int t' u'] c) :: (L + 1, oW) :: tl) := fun q hq => N8 q (.tail _ hq)
  (with_reducible rename NodT _ _ => hNdx)
  clear hNdx N8
  show wpAny _ _ _ _ _ _
  k_steps
  show wpAny _ _ _ _ _ _
  obtain ⟨⟨vsT, cTT, mTT, iTw⟩, lTw⟩ := hTk wh (by assumption)
  rename News h₀ L _ _ => N7
  have hIs := PySem.IsL.isList (n := cTT) (N7 _ (by k_mem : (aT wh, W.listOf vsT.toArray cTT) ∈ _)).1
  k_steps
  all_goals (try (first | exact PySem.Str.ofString "" | exact Value.none | exact (0 : Nat)))
  rename NewPlain _ _ _ _ => hP9
  rename CarriedAll _ _ => hI9
  rename _ = none => hD9
  rename Fr _ _ _ _ => F9
  rename News _ _ _ _ => N9
  rename NodT [_, _] _ => hN0
  obtain ⟨c9, hD8, hN8⟩ := plain_in F9 hP9 hD9 hN0 (fun _ ha => .tail _ ha)
  refine hQ _ _ _ t' u' wh _ c9 _ _ _ _ _ _ hle (by assumption) F9 (news_cons hD8 fun q hq => N9 q (.tail _ hq)) hN8 (by assumption) ?_ rfl rfl rfl rfl rfl ?_
  · have := CarriedAll.intsOf (f := fun a => a) hI9
    rw [List.map_id'] at this
    exact this
  · exact keep8 rfl rfl rfl rfl rfl rfl rfl rfl

end Pre
section BrIncr
variable {prog : Program} {w : World} {A₀ A : Around} {base h₀ : Heap} {outer : List Env} {env : Env} {L : Addr} {m mg mb : PySem.Str → Option Value}
  {p : Program} {loose : List PySem.Str} {mean : ExcName → Option Value} {s : Shared} {news : List (Addr × Obj)} {E : Value → Shared → Prop}
theorem words_BrIncr : True := by
  k_with_none
  w_top off
  (k_with "k_steps" => repeat' (first | (k_unfold; (try dsimp only)) | (k_end; wrow_close) | (dsimp only; walk1) | walk1 | (leave1; walk_say "STEP leave1"; try dsimp only) | fail "no step"))
  (k_with "k_lt" => first | (intro hlt9; (with_reducible rename NodT _ _ => hNdZ); have hNd2 := nod_new hNdZ hlt9 rfl; replace hlt9 := allLt_of hlt9; simp only [AllLt, and_true] at hlt9; revert hNd2 hlt9; intro _) | (intro hlt9; replace hlt9 := allLt_of hlt9; simp only [AllLt, and_true] at hlt9; revert hlt9) | fail)
  (k_with "k_off1" => first | exact Or.inl (by assumption) | exact Nat.le_refl _ | exact Nat.le_of_lt (by assumption) | exact Or.inr (Nat.le_trans (m := 201) (by decide) (by assumption)) | exact Nat.le_trans (m := 201) (by decide) (by assumption) | omega | fail)
  (k_with "k_offs" => first | (refine List.forall_mem_cons.mpr ⟨?_, ?_⟩; (try dsimp only); (k_extra "k_off1"); (k_extra "k_offs")) | exact (fun _ h => absurd h List.not_mem_nil) | fail)
  (k_with "k_cj" => with_reducible first | assumption | exact And.left (by assumption) | exact And.left (And.right (by assumption)) | exact And.left (And.right (And.right (by assumption))) | exact And.left (And.right (And.right (And.right (by assumption)))) | exact And.left (And.right (And.right (And.right (And.right (by assumption))))) | exact And.left (And.right (And.right (And.right (And.right (And.right (by assumption)))))) | exact And.right (by assumption) | exact And.right (And.right (by assumption)) | exact And.right (And.right (And.right (by assumption))) | exact And.right (And.right (And.right (And.right (by assumption)))) | exact And.right (And.right (And.right (And.right (And.right (by assumption))))) | fail)
  (k_with "k_dp" => first | exact Nat.le_trans (by assumption) (by decide) | exact Nat.le_trans (Nat.succ_le_succ (by assumption)) (by decide) | exact Nat.lt_of_le_of_lt (by assumption) (by decide) | exact Nat.lt_of_le_of_lt (Nat.succ_le_succ (by assumption)) (by decide) | exact Nat.le_trans (Nat.succ_le_succ (Nat.succ_le_succ (by assumption))) (by decide) | exact Nat.lt_of_le_of_lt (Nat.succ_le_succ (Nat.succ_le_succ (by assumption))) (by decide) | (simp only [depth_mark, depth_under_make, depth_under_kw, depth_in1, depth_deeper]; omega) | fail)
  (k_with "k_mem" => first | exact AtU.head | (apply AtU.tail; k_mem) | (refine' PairIn.head ?_; k_mem) | (refine' PairIn.tail ?_; k_mem) | fail)
  (k_with "k_ne" => first | (refine' ne_d1 ?zH ?zP; (case zH => assumption); (case zP => k_mem)) | (refine' ne_d2 ?zH ?zP; (case zH => assumption); (case zP => k_mem)) | exact Nat.ne_of_gt (by (try dsimp only); k_extra "k_cj") | exact Nat.ne_of_lt (by (try dsimp only); k_extra "k_cj") | (refine neN ?_; (try dsimp only); omega) | fail)
  (k_with "k_updF" => first | (refine' updF_at ?zA ?zH ?ze ?zm; (case zA => k_mem); (case zH => assumption); (case ze => rfl); (case zm => k_mem)) | (refine' UpdF.head ?za; (case za => k_all)) | (refine' UpdF.tail ?za ?zb; (case za => k_ne); (case zb => k_updF)) | fail)
  (k_with "k_inst" => first | (refine' instH ?zF ?zI; (case zF => k_asm); (case zI => assumption)) | fail)
  (k_with "k_room" => first | (show _ < 1000; k_extra "k_dp") | fail)
  (k_with "is_list" => first | (refine' listH ?zF ?zI; (case zF => k_asm); (case zI => assumption)) | fail)
  (k_with "call ref" => (k_here; (with_reducible show wpAny _ _ (call (Value.ref _) [] []) _ _ _); k_dflt (refine' clock_in ?zF ?zX ?zN ?zT ?zr ?zC ?_; (case zF => k_asm); (case zC => assumption); (case zX => k_asm); (case zN => k_asm); (case zT => k_asm); (case zr => k_room)); intro _ _ _ _ _ _))
  (k_with "getMethod ref" => (k_here; (with_reducible show wpAny _ _ (getMethod (Value.ref _) (Str.ofString "get") _) _ _ _); k_dflt (refine' dsd_method PySem.F.slot_dict_get PySem.F.type_dict_get ?zN ?zm ?zD ?_; (case zN => k_asm); (case zm => k_mem); (case zD => k_asm))))
  (k_with "getMethod ref" => (k_here; (with_reducible show wpAny _ _ (getMethod (Value.ref _) (Str.ofString "pop") _) _ _ _); k_dflt (refine' dsd_method PySem.F.slot_dict_pop PySem.F.type_dict_pop ?zN ?zm ?zD ?_; (case zN => k_asm); (case zm => k_mem); (case zD => k_asm))))
  (k_with "getMethod ref" => (k_here; (with_reducible show wpAny _ _ (getMethod (Value.ref _) (Str.ofString "setdefault") _) _ _ _); k_dflt (refine' dsd_method PySem.F.slot_dict_setdefault PySem.F.type_dict_setdefault ?zN ?zm ?zD ?_; (case zN => k_asm); (case zm => k_mem); (case zD => k_asm))))
  (k_with "getMethod ref" => (k_here; (with_reducible show wpAny _ _ (getMethod (Value.ref _) (Str.ofString "clear") _) _ _ _); k_dflt (refine' dsd_method PySem.F.slot_dict_clear PySem.F.type_dict_clear ?zN ?zm ?zD ?_; (case zN => k_asm); (case zm => k_mem); (case zD => k_asm))))
  (k_with "getMethod ref" => (k_here; (with_reducible show wpAny _ _ (getMethod (Value.ref _) (Str.ofString "clock") _) _ _ _); k_dflt (refine' kmu_own ?zk1 ?zk2 ?zk3 ?zk4 ?zk5 ?_; (case zk1 => k_asm); (case zk2 => k_asm); (case zk3 => k_inst); (case zk4 => k_is); (case zk5 => k_is); k_whole)))
  (k_with "getAttr ref" => (k_here; k_dflt (refine' get_own ?zk1 ?zk2 ?zk3 ?zk4 ?zk5 ?zk6 ?zk7 ?zk8 ?zk9 ?_; (case zk1 => k_asm); (case zk2 => k_asm); (case zk3 => k_inst); (case zk4 => k_is); (case zk5 => k_is); (case zk6 => k_is); (case zk7 => k_is); (case zk8 => k_get); (case zk9 => k_handed); k_whole)))
  (k_with "call builtin:dict.get" => (k_here; k_dflt (refine' dsd_get ?zN ?zm ?zD ?zlo ?_; (case zN => k_asm); (case zm => k_mem); (case zD => k_asm); (case zlo => k_asm)); intro _ _))
  (k_with "call builtin:dict.get" => (k_here; (with_reducible show wpAny _ _ (call (Value.builtin _) [Value.ref _, Value.str _ _, Value.int _ _]) _ _ _); k_dflt (refine' isd_get ?zN ?zm ?zD ?zlo ?_; (case zN => k_asm); (case zm => k_mem); (case zD => k_asm); (case zlo => k_asm)); intro _))
  (k_with "call builtin:dict.pop" => (k_here; k_dflt (refine' dsd_pop ?zF ?zN ?zU ?zD ?zlo ?_; (case zF => k_asm); (case zN => k_asm); (case zU => k_updF); (case zD => k_asm); (case zlo => k_asm)); intro _ _ _ _ _ _ _))
  (k_with "call builtin:dict.clear" => (k_here; k_dflt (refine' dsd_clear ?zF ?zN ?zU ?zD ?_; (case zF => k_asm); (case zN => k_asm); (case zU => k_updF); (case zD => k_asm)); intro _ _ _ _ _))
  (k_with "call builtin:len" => (k_here; (with_reducible show wpAny _ _ (call (Value.builtin "len") [Value.ref _]) _ _ _); k_dflt (refine' dsd_len_call ?zN ?zm ?zD ?zlo ?_; (case zN => k_asm); (case zm => k_mem); (case zD => k_asm); (case zlo => k_asm)); intro _ _))
  (k_with "callWith ref" => (k_here; (with_reducible show wpAny _ _ (callWith _ _ _ (backTo _ (starEach [] _)) []) _ _ _); k_dflt (refine' callWith_F0 ?zk1 ?_; (case zk1 => exact fnClock (by k_asm) (by assumption)); k_whole); (try dsimp only [List.nil_append, List.cons_append])))
  (k_with "setItem ref str" => (k_here; k_dflt (refine' dsd_set ?zF ?zN ?zU ?zD ?zk ?zx ?_; (case zF => k_asm); (case zN => k_asm); (case zU => k_updF); (case zD => k_asm); (case zk => k_asm); (case zx => first | exact ⟨_, rfl⟩ | exact rfl)); intro _ _ _ _ _))
  (k_with "subscriptTail" => (k_here; (with_reducible show wpAny _ _ (subscriptTail _ _ (Value.ref _) (Value.str _ _)) _ _ _); k_dflt (refine' isd_item ?zN ?zm ?zD ?zx ?_; (case zN => k_asm); (case zm => k_mem); (case zD => k_asm); (case zx => first | exact upd_self _ _ _ | assumption)); intro _))
  (k_with "eval Name" => (k_here; k_dflt (refine' nameX_L ?zF ?zv ?_ ?za ?zb; (case za => rfl); (case zb => rfl); (case zF => k_asm); (case zv => first | rfl | assumption); k_whole)))
  (k_with "call builtin:len" => (k_here; (with_reducible show wpAny _ _ (call (Value.builtin "len") [Value.ref _]) _ _ _); k_dflt (refine' len_lst ?zl ?zn ?zb ?_; (case zl => is_list); (case zn => assumption); (case zb => omega); k_whole); intro _))
  (k_with "exec While Compare cons nil" => (k_here; refine stopW ?_))
  (k_with "subscriptTail" => (k_here; (with_reducible show wpAny _ _ (subscriptTail _ _ (Value.ref _) (Value.str _ _)) _ _ _); k_dflt (refine' asd_item ?zN ?zm ?zD ?zx ?_; (case zN => k_asm); (case zm => k_mem); (case zD => k_asm); (case zx => first | exact upd_self _ _ _ | assumption))))
  (k_with "call ref" => (k_here; (with_reducible show wpAny _ _ (call (Value.ref 117) [Value.ref _, Value.str _ _] []) _ _ _); k_dflt (refine' get_in ?zB ?zF ?zX ?zN ?zT ?zA ?zhh ?zf ?zk ?zr ?zG ?zU1 ?zU2 ?zDS ?zDE ?_; (case zF => k_asm); (case zG => exact Geo.all (by assumption) (Fr.keep (by k_asm))); (case zB => k_asm); (case zX => k_asm); (case zN => k_asm); (case zT => k_asm); (case zA => exact rfl); (case zhh => exact rfl); (case zf => exact rfl); (case zk => exact rfl); (case zr => (show _ ≤ 900; k_extra "k_dp")); (case zU1 => k_updF); (case zU2 => (intro _; (try dsimp only); k_updF)); (case zDS => k_asm); (case zDE => k_asm)); intro _ _ _ _ _ _ _ _ _ _))
  (k_with "callWith ref" => (k_here; k_dflt (refine' callWith_F ?zk1 ?_; (case zk1 => exact NegAt.fn (NegAt.keeps (by assumption) (Fr.keep (by k_asm)))); k_whole)))
  (k_with "call ref" => (k_here; (with_reducible show wpAny _ _ (call (Value.ref 52) _ _) _ _ _); refine stopW ?_))
  (k_with "call builtin:dict.setdefault" => (k_here; refine stopW ?_))
  (k_with "eval Lambda" => (k_here; k_dflt (refine' lam_in ?zF ?zN ?zT ?zC ?zcd ?zU ?zhps ?zhsub ?zcl ?zdf ?_; (case zF => k_asm); (case zN => k_asm); (case zT => k_asm); (case zcd => exact rfl); (case zC => kn_code); (case zU => k_updF); (case zhps => assumption); (case zhsub => (intro _ hq; first | (exact absurd hq List.not_mem_nil) | (repeat (first | exact hq | refine List.Mem.tail _ ?_)))); (case zcl => exact rfl); (case zdf => exact rfl); k_whole); intro fl cl ct psl lsl hpl tkl Fl Nl hfl hrl hnt ltl; (simp only [List.cons_append, List.nil_append] at Nl)))
  (k_with "call ref" => (k_here; (with_reducible show wpAny _ _ (call (Value.ref 69) _ _) _ _ _); k_dflt (refine' entry_in ?zF ?zX ?zN ?zT ?zr ?_; (case zF => k_asm); (case zX => k_asm); (case zN => k_asm); (case zT => k_asm); (case zr => (show _ ≤ 890; k_extra "k_dp"))); intro r9 d9 _ _ _ _ _ _ _ _ l1 l2; (try k_lt l1); (replace l2 : @LT.lt Nat instLTNat d9 r9 := l2)))
  (k_with "binaryOp Mult ref int" => (k_here; (with_reducible show wpAny _ _ (binaryOp Operator.Mult (Value.ref _) (Value.int _ _)) _ _ _); k_dflt (refine' KMa.mul ?zF ?zN ?zl ?zlo ?zhi ?z ?ze ?_; (case zF => k_asm); (case zN => k_asm); (case zl => is_list); (case zlo => omega); (case zhi => omega); (case z => (simp only [List.length_cons, List.length_nil]; omega)); (case ze => exact flat1 _ _)); intro _ _ _ _ l1; (try k_lt l1)))
  (k_with "binaryOp Add ref ref" => (k_here; (with_reducible show wpAny _ _ (binaryOp _ (Value.ref _) (Value.ref _)) _ _ _); k_dflt (refine' kmk_add_lit ?zF ?zN ?za ?zb ?ze ?_ ?z; (case zF => k_asm); (case zN => k_asm); (case za => first | kmk_list | is_list); (case zb => first | kmk_list | is_list); (case ze => exact rfl); (case z => (simp only [sizeLine, List.toList_toArray, List.length_replicate, List.length_nil, List.length_cons]; omega))); intro _ _ _ _ l1; (try k_lt l1)))
  (k_with "getMethod ref" => (k_here; (with_reducible show wpAny _ _ (getMethod (Value.ref _) (Str.ofString "keys") _) _ _ _); k_dflt (refine' dsd_method PySem.F.slot_dict_keys PySem.F.type_dict_keys ?zN ?zm ?zD ?_; (case zN => k_asm); (case zm => k_mem); (case zD => k_asm))))
  (k_with "call builtin:dict.keys" => (k_here; (with_reducible show wpAny _ _ (call (Value.builtin "dict.keys") [Value.ref _]) _ _ _); k_dflt (refine' dsd_keys ?zF ?zN ?zm ?zD ?zlo ?_; (case zF => k_asm); (case zN => k_asm); (case zm => k_mem); (case zD => k_asm); (case zlo => k_asm)); intro _ _ _ _ l1; (try k_lt l1)))
  (k_with "call type:list" => (k_here; (with_reducible show wpAny _ _ (call (Value.type "list") [Value.ref _]) _ _ _); k_dflt (refine' dsd_list ?zh ?zF ?zN ?zv ?zm ?zD ?_; (case zh => exact rfl); (case zF => k_asm); (case zN => k_asm); (case zv => exact List.Mem.head _); (case zm => k_mem); (case zD => k_asm)); intro _ _ _ _ _ _ _ _ _ l1; (try k_lt l1)))
  (k_with "exec For Name Call cons nil" => (k_here; refine stopW ?_))
  (k_with "eval Name" => (k_here; (with_reducible show wpAny _ _ (eval (Expr.Name _ _) (envOfC _ _ _ _ _)) _ _ _); k_dflt (refine' nameX_L ?zF ?zv ?_ ?za ?zb; (case za => rfl); (case zb => rfl); (case zF => k_asm); (case zv => first | rfl | assumption))))
  (k_with "k_ne" => first | (refine' ne_list_dsd ?zN ?zm1 ?zm2 ?zc ?zX; (case zN => k_asm); (case zm1 => k_mem); (case zm2 => k_mem); (case zc => exact rfl); (case zX => k_asm)) | (refine' ne_cls ?zN ?zm1 ?zm2 ?zc; (case zN => k_asm); (case zm1 => k_mem); (case zm2 => k_mem); (case zc => simp [tabObj])) | fail)
  (k_with "call builtin:len" => (k_here; (with_reducible show wpAny _ _ (call (Value.builtin "len") [Value.ref _]) _ _ _); k_dflt (refine' len_ints ?zl ?zi ?zb ?_; (case zl => kmk_list); (case zi => k_asm); (case zb => exact len_filter_le (n := 1000000) (by omega)); k_whole); intro _))
  (k_with "truthy ref" => (k_here; (with_reducible show wpAny _ _ (truthy (Value.ref _)) _ _ _); k_dflt (refine' truthy_ints ?zl ?zi ?zb ?_ ?_; (case zl => kmk_list); (case zi => k_asm); (case zb => exact len_filter_le (n := 1000000) (by omega)); k_whole); intro _))
  (k_with "call ref" => (k_here; (with_reducible show wpAny _ _ (call (Value.ref 139) [Value.ref _, Value.str _ _] []) _ _ _); k_dflt (refine' get_expiry_in ?zB ?zF ?zX ?zN ?zT ?zA ?zhh ?zf ?zk ?zr ?zG ?zm ?zDE ?_; (case zF => k_asm); (case zG => exact Geo.all (by assumption) (Fr.keep (by k_asm))); (case zB => k_asm); (case zX => k_asm); (case zN => k_asm); (case zT => k_asm); (case zA => exact rfl); (case zhh => exact rfl); (case zf => exact rfl); (case zk => exact rfl); (case zr => (show _ ≤ 890; k_extra "k_dp")); (case zm => k_mem); (case zDE => k_asm)); intro _ _ _ _ _ _))
  (k_with "call ref" => (k_here; (with_reducible show wpAny _ _ (call (Value.ref 146) _ _) _ _ _); k_dflt (refine' moving_in ?zB ?zF ?zX ?zN ?zT ?zA ?zhh ?zf ?zk ?zr ?zG ?zlo ?zCH ?zm ?zU ?zDV ?zhT ?zhE ?zhl ?zhs ?_; (case zF => k_asm); (case zG => exact Geo.all (by assumption) (Fr.keep (by k_asm))); (case zB => k_asm); (case zX => k_asm); (case zN => k_asm); (case zT => k_asm); (case zA => exact rfl); (case zhh => exact rfl); (case zf => exact rfl); (case zk => exact rfl); (case zr => (show _ ≤ 880; k_extra "k_dp")); (case zlo => k_asm); (case zCH => k_asm); (case zDV => k_asm); (case zm => k_mem); (case zU => k_updF); (case zhT => exact TabSt.all (by assumption) (Fr.keep (by k_asm))); (case zhE => exact ev_all (by assumption) (Fr.keep (by k_asm))); (case zhl => k_asm); (case zhs => k_asm)); intro _ _ psm Rm stm nm _ _ lsm _ Nm hRm hTm hfm hnm hltm hst0 hst1; (simp only [List.cons_append, List.nil_append] at Nm)))
  (k_with "k_mem" => first | assumption | fail)
  (k_with "subscriptTail" => (k_here; (with_reducible show wpAny _ _ (subscriptTail _ _ (Value.ref _) (Value.int (Nat.cast (_ : Nat)) _)) _ _ _); k_dflt (refine' lst_nat ?zN ?zm ?zx ?zi ?_; (case zN => k_asm); (case zm => k_mem); (case zx => exact three_at (by assumption)); (case zi => assumption))))
  (k_with "binaryOp Mult ref int" => (k_here; (with_reducible show wpAny _ _ (binaryOp Operator.Mult (Value.ref _) (Value.int _ _)) _ _ _); k_dflt (refine' mul_in ?zF ?zN ?zm ?z0 ?z1 ?_; (case zF => k_asm); (case zN => k_asm); (case zm => k_mem); (case z0 => first | assumption | exact (amt3 (by first | exact rfl | assumption) (by assumption)).1 | omega); (case z1 => first | assumption | exact (amt3 (by first | exact rfl | assumption) (by assumption)).2 | omega)); intro _ vsr _ _ _ l1 irep; (try k_lt l1)))
  (k_with "binaryOp Add ref ref" => (k_here; (with_reducible show wpAny _ _ (binaryOp _ (Value.ref _) (Value.ref _)) _ _ _); k_dflt (refine' add_in ?zF ?zN ?za ?zb ?zi ?zj ?zk ?zl ?_; (case zF => k_asm); (case zN => k_asm); (case za => first | kmk_list | is_list); (case zb => first | kmk_list | is_list); (case zi => k_asm); (case zj => k_asm); (case zk => first | exact Nat.le_trans (by assumption) (by decide) | omega); (case zl => (simp only [List.length_replicate]; first | exact Int.toNat_le.mpr (Int.le_trans (by assumption) (by decide)) | exact Int.toNat_le.mpr (Int.le_trans (amt3 (by first | exact rfl | assumption) (by assumption)).2 (by decide)) | omega))); intro _ zsr _ _ _ l1 iadd; (try k_lt l1)))
  (k_with "setItem ref int" => (k_here; (with_reducible show wpAny _ _ (setItem (Value.ref _) (Value.int _ _) (Value.ref _)) _ _ _); k_dflt (refine' set3 ?zF ?zN ?zU ?z3 ?_; (case zF => k_asm); (case zN => k_asm); (case zU => k_updF); (case z3 => assumption)); intro _ _ _))
  (k_with "call builtin:len" => (k_here; (with_reducible show wpAny _ _ (call (Value.builtin "len") [Value.ref _]) _ _ _); k_dflt (refine' len_ints ?zl ?zi ?zb ?_; (case zl => kmk_list); (case zi => k_asm); (case zb => (simp only [List.length_append, List.length_replicate]; first | exact Nat.le_trans (Nat.add_le_add (by assumption) (Int.toNat_le.mpr (amt3 (by first | exact rfl | assumption) (by assumption)).2)) (by decide) | omega)); k_whole); intro _))
  (k_with "subscriptTail" => (k_here; (with_reducible show wpAny _ _ (subscriptTail _ _ (Value.ref _) (Value.int 0 _)) _ _ _); k_dflt (refine' item0 ?zN ?zm ?zi ?ze ?_; (case zN => k_asm); (case zm => k_mem); (case zi => first | assumption | exact .cons _ _ .nil); (case ze => first | assumption | exact List.cons_ne_nil _ _)); intro x0 _ hx0))
  trivial
theorem words_bi : True := by
  (k_with "exec If" => (with_reducible show wpAny _ _ (exec (Stmt.If _ _ _ { line := 150, col := _, endLine := _, endCol := _ }) _) _ _ _); (fail_if_success (with_reducible show wpAny _ _ _ (CutQ _) _ _)); refine stopW ?_)
  (k_with "eval IfExp" => (fail_if_success (with_reducible show wpAny _ _ _ (CutQ _) _ _)); refine stopW ?_)
  (k_with "call ref" => (k_here; (with_reducible show wpAny _ _ (call (Value.ref 102) _ []) _ _ _); k_dflt (refine' incr_in ?zB ?zF ?zX ?zN ?zT ?zA ?zhh ?zf ?zk ?zr ?zG ?zU1 ?zU2 ?zDS ?zDE ?zK ?_; (case zF => k_asm); (case zG => (rename News _ _ _ _ => NG; exact G _ (fun q hq => NG q (by repeat (first | exact hq | refine List.Mem.tail _ ?_))))); (case zB => k_asm); (case zX => k_asm); (case zN => k_asm); (case zT => k_asm); (case zA => exact rfl); (case zhh => exact rfl); (case zf => exact rfl); (case zk => exact rfl); (case zr => (show dp ≤ 890; omega)); (case zU1 => k_updF); (case zU2 => (intro _; (try dsimp only); k_updF)); (case zDS => k_asm); (case zDE => k_asm); (case zK => assumption)); intro _ _ _ _ _ _ _ _ _ _))
  (k_with "truthy ref" => (k_here; (with_reducible show wpAny _ _ (truthy (Value.ref _)) _ _ _); k_dflt (refine' truthy_ints ?zl ?zi ?zb ?_ ?_; (case zl => kmk_list); (case zi => k_asm); (case zb => omega); k_whole); intro hne))
  trivial
set_option maxHeartbeats 4000000 in
theorem incr_br {lo x fk dS dE dV fa nw T D : Nat} {t num cd : Int} {tk tnum tcd twh tkey : Tok} {c cT cD wh : Nat} {oS oE oC : Obj} {vsL : List Value} {lv : List Int} {aT : Nat → Addr} {gS gE : PySem.Str → Option Int} {dx : Nat} {t1 t2 t3 t4 : Tok} {tl : List (Addr × Obj)} {Q : Flow → Shared → Prop}
    (B : Below A₀ base outer h₀) (F : Fr h₀ L s.heap m) (X₀ : (hd.heap_39 w.params).In h₀) (T₀ : Top p loose mean mg mb h₀)
    (N : News h₀ L s.heap ((dS, oS) :: (dE, oE) :: (T, W.listOf #[.ref (aT 0), .ref (aT 1), .ref (aT 2)] cT) :: tl)) (hNd : NodT [dS, dE, T] tl)
    (hA : A.frames = some (lawEnv L fa :: outer)) (hh : A.handled = none) (hroom : A.depth ≤ 400)
    (mX : (x, instObj 192 dx) ∈ tl) (mXd : (dx, dictOf (storeEs w fk dS dE dV t1 t2 t3 t4) 4) ∈ tl)
    (G : ∀ h', News h₀ L h' tl → Geo w h' lo x fk dS dE dV t) (DS : ISD prog w oS gS) (DE : ISD prog w oE gE) (hwh : wh < 3) (hk : keyOf wh ∈ KL)
    (mN : (nw, W.listOf #[.int t tk] c) ∈ tl) (mC : (L + 1 + 1, oC) ∈ tl) (dC : oC.data = .cell (some (.ref nw))) (mD : (D, W.listOf vsL.toArray cD) ∈ tl) (iL : IntsAre vsL lv) (lL : lv.length ≤ 100)
    (hC : svOf gS gE (keyOf wh) t = lv.length)
    (a1 : m (PySem.Str.ofString "number") = some (.int num tnum)) (a2 : m (PySem.Str.ofString "code") = some (.int cd tcd)) (a3 : m (PySem.Str.ofString "who") = some (.int wh twh)) (a4 : m (PySem.Str.ofString "key") = some (.str (keyOf wh) tkey)) (a5 : m (PySem.Str.ofString "live") = some (.ref D)) (a6 : m (PySem.Str.ofString "store") = some (.ref x)) (a7 : m (PySem.Str.ofString "tokens") = some (.ref T))
    (hQ : ∀ h' tk' m' oS' oE' (D3 : Nat) (vs3 : List Value) e, Fr h₀ L h' m' → News h₀ L h' ((D3, W.listOf vs3.toArray 0) :: (dS, oS') :: (dE, oE') :: (T, W.listOf #[.ref (setAt aT wh D3 0), .ref (setAt aT wh D3 1), .ref (setAt aT wh D3 2)] cT) :: tl) → NodT [D3, dS, dE, T] tl →
      ISD prog w oS' (upd gS (keyOf wh) (some (lv.length + (1 + cd.fmod 3)))) → ISD prog w oE' (if (lv.length : Int) = 0 then upd gE (keyOf wh) (some (t + e)) else if (gE (keyOf wh)).getD 0 ≤ t then upd gE (keyOf wh) none else gE) →
      IntsAre vs3 (lv ++ List.replicate (1 + cd.fmod 3).toNat (lv.headD (t + e))) → (∀ y, y ∈ kept8 → m' y = m y) → Q .next { s with heap := h', toks := tk' }) : wpAny (model prog w) A (execs (br 0) (lawEnv L fa)) Q E s := by
  obtain ⟨hd9, dp, fr, gs, un⟩ := A
  dsimp only at hA hh hroom
  subst hA
  subst hh
  unfold lawEnv
  conv =>
    pattern (br _)
    whnf
  k_steps
  show wpAny _ _ _ _ _ _
  have b3 : 0 ≤ cd.fmod 3 ∧ cd.fmod 3 < 3 := fm_in (by decide)
  refine cut_name (k := PySem.Str.ofString "expiry") (fun _ => True) (by k_asm) (by k_asm) ?_ ?_
  · k_steps
    · exact ⟨rfl, _, _, _, _, trivial, rfl, fr_again (by assumption), by assumption⟩
    · exact ⟨rfl, _, _, _, _, trivial, rfl, by assumption, by assumption⟩
  intro e ue h8 tk8 _ F8 N8
  show wpAny _ _ _ _ _ _
  k_steps
  show wpAny _ _ _ _ _ _
  refine cut_keep (fun v => ∃ u, v = Value.int (lv.headD (t + e)) u) (by k_asm) (by k_asm) ?_ ?_
  · k_steps
    · refine ⟨?_, _, _, rfl, by assumption, by assumption⟩
      rw [hx0]
      exact ⟨_, rfl⟩
    · refine ⟨?_, _, _, rfl, by assumption, by assumption⟩
      have hne : lv = [] := by assumption
      subst hne
      have := hx0 0
      subst this
      exact ⟨_, rfl⟩
  intro v h9 tk9 hv F9 N9
  obtain ⟨u9, rfl⟩ := hv
  show wpAny _ _ _ _ _ _
  k_steps
  · rename_i hx
    exact absurd (by rw [hC, List.length_append, List.length_replicate]; first | rw [Int.natCast_add, Int.toNat_of_nonneg (amt3 rfl b3).1] | omega) hx
  · rw [hC] at *
    rename NodT _ _ => hNd9
    rename News _ _ _ _ => N9
    refine hQ _ _ _ _ _ _ _ e (by assumption) (news_drop (news_drop N9)) (nod_drop (nod_drop hNd9)) (by assumption) (by assumption) iadd ?_
    exact keep8 rfl rfl rfl rfl rfl rfl rfl rfl

end BrIncr
section BrDecr
variable {prog : Program} {w : World} {A₀ A : Around} {base h₀ : Heap} {outer : List Env} {env : Env} {L : Addr} {m mg mb : PySem.Str → Option Value}
  {p : Program} {loose : List PySem.Str} {mean : ExcName → Option Value} {s : Shared} {news : List (Addr × Obj)} {E : Value → Shared → Prop}
theorem words_BrDecr : True := by
  k_with_none
  w_top off
  (k_with "k_steps" => repeat' (first | (k_unfold; (try dsimp only)) | (k_end; wrow_close) | (dsimp only; walk1) | walk1 | (leave1; walk_say "STEP leave1"; try dsimp only) | fail "no step"))
  (k_with "k_lt" => first | (intro hlt9; (with_reducible rename NodT _ _ => hNdZ); have hNd2 := nod_new hNdZ hlt9 rfl; replace hlt9 := allLt_of hlt9; simp only [AllLt, and_true] at hlt9; revert hNd2 hlt9; intro _) | (intro hlt9; replace hlt9 := allLt_of hlt9; simp only [AllLt, and_true] at hlt9; revert hlt9) | fail)
  (k_with "k_off1" => first | exact Or.inl (by assumption) | exact Nat.le_refl _ | exact Nat.le_of_lt (by assumption) | exact Or.inr (Nat.le_trans (m := 201) (by decide) (by assumption)) | exact Nat.le_trans (m := 201) (by decide) (by assumption) | omega | fail)
  (k_with "k_offs" => first | (refine List.forall_mem_cons.mpr ⟨?_, ?_⟩; (try dsimp only); (k_extra "k_off1"); (k_extra "k_offs")) | exact (fun _ h => absurd h List.not_mem_nil) | fail)
  (k_with "k_cj" => with_reducible first | assumption | exact And.left (by assumption) | exact And.left (And.right (by assumption)) | exact And.left (And.right (And.right (by assumption))) | exact And.left (And.right (And.right (And.right (by assumption)))) | exact And.left (And.right (And.right (And.right (And.right (by assumption))))) | exact And.left (And.right (And.right (And.right (And.right (And.right (by assumption)))))) | exact And.right (by assumption) | exact And.right (And.right (by assumption)) | exact And.right (And.right (And.right (by assumption))) | exact And.right (And.right (And.right (And.right (by assumption)))) | exact And.right (And.right (And.right (And.right (And.right (by assumption))))) | fail)
  (k_with "k_dp" => first | exact Nat.le_trans (by assumption) (by decide) | exact Nat.le_trans (Nat.succ_le_succ (by assumption)) (by decide) | exact Nat.lt_of_le_of_lt (by assumption) (by decide) | exact Nat.lt_of_le_of_lt (Nat.succ_le_succ (by assumption)) (by decide) | exact Nat.le_trans (Nat.succ_le_succ (Nat.succ_le_succ (by assumption))) (by decide) | exact Nat.lt_of_le_of_lt (Nat.succ_le_succ (Nat.succ_le_succ (by assumption))) (by decide) | (simp only [depth_mark, depth_under_make, depth_under_kw, depth_in1, depth_deeper]; omega) | fail)
  (k_with "k_mem" => first | exact AtU.head | (apply AtU.tail; k_mem) | (refine' PairIn.head ?_; k_mem) | (refine' PairIn.tail ?_; k_mem) | fail)
  (k_with "k_ne" => first | (refine' ne_d1 ?zH ?zP; (case zH => assumption); (case zP => k_mem)) | (refine' ne_d2 ?zH ?zP; (case zH => assumption); (case zP => k_mem)) | exact Nat.ne_of_gt (by (try dsimp only); k_extra "k_cj") | exact Nat.ne_of_lt (by (try dsimp only); k_extra "k_cj") | (refine neN ?_; (try dsimp only); omega) | fail)
  (k_with "k_updF" => first | (refine' updF_at ?zA ?zH ?ze ?zm; (case zA => k_mem); (case zH => assumption); (case ze => rfl); (case zm => k_mem)) | (refine' UpdF.head ?za; (case za => k_all)) | (refine' UpdF.tail ?za ?zb; (case za => k_ne); (case zb => k_updF)) | fail)
  (k_with "k_inst" => first | (refine' instH ?zF ?zI; (case zF => k_asm); (case zI => assumption)) | fail)
  (k_with "k_room" => first | (show _ < 1000; k_extra "k_dp") | fail)
  (k_with "is_list" => first | (refine' listH ?zF ?zI; (case zF => k_asm); (case zI => assumption)) | fail)
  (k_with "call ref" => (k_here; (with_reducible show wpAny _ _ (call (Value.ref _) [] []) _ _ _); k_dflt (refine' clock_in ?zF ?zX ?zN ?zT ?zr ?zC ?_; (case zF => k_asm); (case zC => assumption); (case zX => k_asm); (case zN => k_asm); (case zT => k_asm); (case zr => k_room)); intro _ _ _ _ _ _))
  (k_with "getMethod ref" => (k_here; (with_reducible show wpAny _ _ (getMethod (Value.ref _) (Str.ofString "get") _) _ _ _); k_dflt (refine' dsd_method PySem.F.slot_dict_get PySem.F.type_dict_get ?zN ?zm ?zD ?_; (case zN => k_asm); (case zm => k_mem); (case zD => k_asm))))
  (k_with "getMethod ref" => (k_here; (with_reducible show wpAny _ _ (getMethod (Value.ref _) (Str.ofString "pop") _) _ _ _); k_dflt (refine' dsd_method PySem.F.slot_dict_pop PySem.F.type_dict_pop ?zN ?zm ?zD ?_; (case zN => k_asm); (case zm => k_mem); (case zD => k_asm))))
  (k_with "getMethod ref" => (k_here; (with_reducible show wpAny _ _ (getMethod (Value.ref _) (Str.ofString "setdefault") _) _ _ _); k_dflt (refine' dsd_method PySem.F.slot_dict_setdefault PySem.F.type_dict_setdefault ?zN ?zm ?zD ?_; (case zN => k_asm); (case zm => k_mem); (case zD => k_asm))))
  (k_with "getMethod ref" => (k_here; (with_reducible show wpAny _ _ (getMethod (Value.ref _) (Str.ofString "clear") _) _ _ _); k_dflt (refine' dsd_method PySem.F.slot_dict_clear PySem.F.type_dict_clear ?zN ?zm ?zD ?_; (case zN => k_asm); (case zm => k_mem); (case zD => k_asm))))
  (k_with "getMethod ref" => (k_here; (with_reducible show wpAny _ _ (getMethod (Value.ref _) (Str.ofString "clock") _) _ _ _); k_dflt (refine' kmu_own ?zk1 ?zk2 ?zk3 ?zk4 ?zk5 ?_; (case zk1 => k_asm); (case zk2 => k_asm); (case zk3 => k_inst); (case zk4 => k_is); (case zk5 => k_is); k_whole)))
  (k_with "getAttr ref" => (k_here; k_dflt (refine' get_own ?zk1 ?zk2 ?zk3 ?zk4 ?zk5 ?zk6 ?zk7 ?zk8 ?zk9 ?_; (case zk1 => k_asm); (case zk2 => k_asm); (case zk3 => k_inst); (case zk4 => k_is); (case zk5 => k_is); (case zk6 => k_is); (case zk7 => k_is); (case zk8 => k_get); (case zk9 => k_handed); k_whole)))
  (k_with "call builtin:dict.get" => (k_here; k_dflt (refine' dsd_get ?zN ?zm ?zD ?zlo ?_; (case zN => k_asm); (case zm => k_mem); (case zD => k_asm); (case zlo => k_asm)); intro _ _))
  (k_with "call builtin:dict.get" => (k_here; (with_reducible show wpAny _ _ (call (Value.builtin _) [Value.ref _, Value.str _ _, Value.int _ _]) _ _ _); k_dflt (refine' isd_get ?zN ?zm ?zD ?zlo ?_; (case zN => k_asm); (case zm => k_mem); (case zD => k_asm); (case zlo => k_asm)); intro _))
  (k_with "call builtin:dict.pop" => (k_here; k_dflt (refine' dsd_pop ?zF ?zN ?zU ?zD ?zlo ?_; (case zF => k_asm); (case zN => k_asm); (case zU => k_updF); (case zD => k_asm); (case zlo => k_asm)); intro _ _ _ _ _ _ _))
  (k_with "call builtin:dict.clear" => (k_here; k_dflt (refine' dsd_clear ?zF ?zN ?zU ?zD ?_; (case zF => k_asm); (case zN => k_asm); (case zU => k_updF); (case zD => k_asm)); intro _ _ _ _ _))
  (k_with "call builtin:len" => (k_here; (with_reducible show wpAny _ _ (call (Value.builtin "len") [Value.ref _]) _ _ _); k_dflt (refine' dsd_len_call ?zN ?zm ?zD ?zlo ?_; (case zN => k_asm); (case zm => k_mem); (case zD => k_asm); (case zlo => k_asm)); intro _ _))
  (k_with "callWith ref" => (k_here; (with_reducible show wpAny _ _ (callWith _ _ _ (backTo _ (starEach [] _)) []) _ _ _); k_dflt (refine' callWith_F0 ?zk1 ?_; (case zk1 => exact fnClock (by k_asm) (by assumption)); k_whole); (try dsimp only [List.nil_append, List.cons_append])))
  (k_with "setItem ref str" => (k_here; k_dflt (refine' dsd_set ?zF ?zN ?zU ?zD ?zk ?zx ?_; (case zF => k_asm); (case zN => k_asm); (case zU => k_updF); (case zD => k_asm); (case zk => k_asm); (case zx => first | exact ⟨_, rfl⟩ | exact rfl)); intro _ _ _ _ _))
  (k_with "subscriptTail" => (k_here; (with_reducible show wpAny _ _ (subscriptTail _ _ (Value.ref _) (Value.str _ _)) _ _ _); k_dflt (refine' isd_item ?zN ?zm ?zD ?zx ?_; (case zN => k_asm); (case zm => k_mem); (case zD => k_asm); (case zx => first | exact upd_self _ _ _ | assumption)); intro _))
  (k_with "eval Name" => (k_here; k_dflt (refine' nameX_L ?zF ?zv ?_ ?za ?zb; (case za => rfl); (case zb => rfl); (case zF => k_asm); (case zv => first | rfl | assumption); k_whole)))
  (k_with "call builtin:len" => (k_here; (with_reducible show wpAny _ _ (call (Value.builtin "len") [Value.ref _]) _ _ _); k_dflt (refine' len_lst ?zl ?zn ?zb ?_; (case zl => is_list); (case zn => assumption); (case zb => omega); k_whole); intro _))
  (k_with "exec While Compare cons nil" => (k_here; refine stopW ?_))
  (k_with "subscriptTail" => (k_here; (with_reducible show wpAny _ _ (subscriptTail _ _ (Value.ref _) (Value.str _ _)) _ _ _); k_dflt (refine' asd_item ?zN ?zm ?zD ?zx ?_; (case zN => k_asm); (case zm => k_mem); (case zD => k_asm); (case zx => first | exact upd_self _ _ _ | assumption))))
  (k_with "call ref" => (k_here; (with_reducible show wpAny _ _ (call (Value.ref 117) [Value.ref _, Value.str _ _] []) _ _ _); k_dflt (refine' get_in ?zB ?zF ?zX ?zN ?zT ?zA ?zhh ?zf ?zk ?zr ?zG ?zU1 ?zU2 ?zDS ?zDE ?_; (case zF => k_asm); (case zG => exact Geo.all (by assumption) (Fr.keep (by k_asm))); (case zB => k_asm); (case zX => k_asm); (case zN => k_asm); (case zT => k_asm); (case zA => exact rfl); (case zhh => exact rfl); (case zf => exact rfl); (case zk => exact rfl); (case zr => (show _ ≤ 900; k_extra "k_dp")); (case zU1 => k_updF); (case zU2 => (intro _; (try dsimp only); k_updF)); (case zDS => k_asm); (case zDE => k_asm)); intro _ _ _ _ _ _ _ _ _ _))
  (k_with "callWith ref" => (k_here; k_dflt (refine' callWith_F ?zk1 ?_; (case zk1 => exact NegAt.fn (NegAt.keeps (by assumption) (Fr.keep (by k_asm)))); k_whole)))
  (k_with "call ref" => (k_here; (with_reducible show wpAny _ _ (call (Value.ref 52) _ _) _ _ _); refine stopW ?_))
  (k_with "call builtin:dict.setdefault" => (k_here; refine stopW ?_))
  (k_with "eval Lambda" => (k_here; k_dflt (refine' lam_in ?zF ?zN ?zT ?zC ?zcd ?zU ?zhps ?zhsub ?zcl ?zdf ?_; (case zF => k_asm); (case zN => k_asm); (case zT => k_asm); (case zcd => exact rfl); (case zC => kn_code); (case zU => k_updF); (case zhps => assumption); (case zhsub => (intro _ hq; first | (exact absurd hq List.not_mem_nil) | (repeat (first | exact hq | refine List.Mem.tail _ ?_)))); (case zcl => exact rfl); (case zdf => exact rfl); k_whole); intro fl cl ct psl lsl hpl tkl Fl Nl hfl hrl hnt ltl; (simp only [List.cons_append, List.nil_append] at Nl)))
  (k_with "call ref" => (k_here; (with_reducible show wpAny _ _ (call (Value.ref 69) _ _) _ _ _); k_dflt (refine' entry_in ?zF ?zX ?zN ?zT ?zr ?_; (case zF => k_asm); (case zX => k_asm); (case zN => k_asm); (case zT => k_asm); (case zr => (show _ ≤ 890; k_extra "k_dp"))); intro r9 d9 _ _ _ _ _ _ _ _ l1 l2; (try k_lt l1); (replace l2 : @LT.lt Nat instLTNat d9 r9 := l2)))
  (k_with "binaryOp Mult ref int" => (k_here; (with_reducible show wpAny _ _ (binaryOp Operator.Mult (Value.ref _) (Value.int _ _)) _ _ _); k_dflt (refine' KMa.mul ?zF ?zN ?zl ?zlo ?zhi ?z ?ze ?_; (case zF => k_asm); (case zN => k_asm); (case zl => is_list); (case zlo => omega); (case zhi => omega); (case z => (simp only [List.length_cons, List.length_nil]; omega)); (case ze => exact flat1 _ _)); intro _ _ _ _ l1; (try k_lt l1)))
  (k_with "binaryOp Add ref ref" => (k_here; (with_reducible show wpAny _ _ (binaryOp _ (Value.ref _) (Value.ref _)) _ _ _); k_dflt (refine' kmk_add_lit ?zF ?zN ?za ?zb ?ze ?_ ?z; (case zF => k_asm); (case zN => k_asm); (case za => first | kmk_list | is_list); (case zb => first | kmk_list | is_list); (case ze => exact rfl); (case z => (simp only [sizeLine, List.toList_toArray, List.length_replicate, List.length_nil, List.length_cons]; omega))); intro _ _ _ _ l1; (try k_lt l1)))
  (k_with "getMethod ref" => (k_here; (with_reducible show wpAny _ _ (getMethod (Value.ref _) (Str.ofString "keys") _) _ _ _); k_dflt (refine' dsd_method PySem.F.slot_dict_keys PySem.F.type_dict_keys ?zN ?zm ?zD ?_; (case zN => k_asm); (case zm => k_mem); (case zD => k_asm))))
  (k_with "call builtin:dict.keys" => (k_here; (with_reducible show wpAny _ _ (call (Value.builtin "dict.keys") [Value.ref _]) _ _ _); k_dflt (refine' dsd_keys ?zF ?zN ?zm ?zD ?zlo ?_; (case zF => k_asm); (case zN => k_asm); (case zm => k_mem); (case zD => k_asm); (case zlo => k_asm)); intro _ _ _ _ l1; (try k_lt l1)))
  (k_with "call type:list" => (k_here; (with_reducible show wpAny _ _ (call (Value.type "list") [Value.ref _]) _ _ _); k_dflt (refine' dsd_list ?zh ?zF ?zN ?zv ?zm ?zD ?_; (case zh => exact rfl); (case zF => k_asm); (case zN => k_asm); (case zv => exact List.Mem.head _); (case zm => k_mem); (case zD => k_asm)); intro _ _ _ _ _ _ _ _ _ l1; (try k_lt l1)))
  (k_with "exec For Name Call cons nil" => (k_here; refine stopW ?_))
  (k_with "eval Name" => (k_here; (with_reducible show wpAny _ _ (eval (Expr.Name _ _) (envOfC _ _ _ _ _)) _ _ _); k_dflt (refine' nameX_L ?zF ?zv ?_ ?za ?zb; (case za => rfl); (case zb => rfl); (case zF => k_asm); (case zv => first | rfl | assumption))))
  (k_with "k_ne" => first | (refine' ne_list_dsd ?zN ?zm1 ?zm2 ?zc ?zX; (case zN => k_asm); (case zm1 => k_mem); (case zm2 => k_mem); (case zc => exact rfl); (case zX => k_asm)) | (refine' ne_cls ?zN ?zm1 ?zm2 ?zc; (case zN => k_asm); (case zm1 => k_mem); (case zm2 => k_mem); (case zc => simp [tabObj])) | fail)
  (k_with "call builtin:len" => (k_here; (with_reducible show wpAny _ _ (call (Value.builtin "len") [Value.ref _]) _ _ _); k_dflt (refine' len_ints ?zl ?zi ?zb ?_; (case zl => kmk_list); (case zi => k_asm); (case zb => exact len_filter_le (n := 1000000) (by omega)); k_whole); intro _))
  (k_with "truthy ref" => (k_here; (with_reducible show wpAny _ _ (truthy (Value.ref _)) _ _ _); k_dflt (refine' truthy_ints ?zl ?zi ?zb ?_ ?_; (case zl => kmk_list); (case zi => k_asm); (case zb => exact len_filter_le (n := 1000000) (by omega)); k_whole); intro _))
  (k_with "call ref" => (k_here; (with_reducible show wpAny _ _ (call (Value.ref 139) [Value.ref _, Value.str _ _] []) _ _ _); k_dflt (refine' get_expiry_in ?zB ?zF ?zX ?zN ?zT ?zA ?zhh ?zf ?zk ?zr ?zG ?zm ?zDE ?_; (case zF => k_asm); (case zG => exact Geo.all (by assumption) (Fr.keep (by k_asm))); (case zB => k_asm); (case zX => k_asm); (case zN => k_asm); (case zT => k_asm); (case zA => exact rfl); (case zhh => exact rfl); (case zf => exact rfl); (case zk => exact rfl); (case zr => (show _ ≤ 890; k_extra "k_dp")); (case zm => k_mem); (case zDE => k_asm)); intro _ _ _ _ _ _))
  (k_with "call ref" => (k_here; (with_reducible show wpAny _ _ (call (Value.ref 146) _ _) _ _ _); k_dflt (refine' moving_in ?zB ?zF ?zX ?zN ?zT ?zA ?zhh ?zf ?zk ?zr ?zG ?zlo ?zCH ?zm ?zU ?zDV ?zhT ?zhE ?zhl ?zhs ?_; (case zF => k_asm); (case zG => exact Geo.all (by assumption) (Fr.keep (by k_asm))); (case zB => k_asm); (case zX => k_asm); (case zN => k_asm); (case zT => k_asm); (case zA => exact rfl); (case zhh => exact rfl); (case zf => exact rfl); (case zk => exact rfl); (case zr => (show _ ≤ 880; k_extra "k_dp")); (case zlo => k_asm); (case zCH => k_asm); (case zDV => k_asm); (case zm => k_mem); (case zU => k_updF); (case zhT => exact TabSt.all (by assumption) (Fr.keep (by k_asm))); (case zhE => exact ev_all (by assumption) (Fr.keep (by k_asm))); (case zhl => k_asm); (case zhs => k_asm)); intro _ _ psm Rm stm nm _ _ lsm _ Nm hRm hTm hfm hnm hltm hst0 hst1; (simp only [List.cons_append, List.nil_append] at Nm)))
  (k_with "k_mem" => first | assumption | fail)
  (k_with "subscriptTail" => (k_here; (with_reducible show wpAny _ _ (subscriptTail _ _ (Value.ref _) (Value.int (Nat.cast (_ : Nat)) _)) _ _ _); k_dflt (refine' lst_nat ?zN ?zm ?zx ?zi ?_; (case zN => k_asm); (case zm => k_mem); (case zx => exact three_at (by assumption)); (case zi => assumption))))
  (k_with "binaryOp Mult ref int" => (k_here; (with_reducible show wpAny _ _ (binaryOp Operator.Mult (Value.ref _) (Value.int _ _)) _ _ _); k_dflt (refine' mul_in ?zF ?zN ?zm ?z0 ?z1 ?_; (case zF => k_asm); (case zN => k_asm); (case zm => k_mem); (case z0 => first | assumption | exact (amt3 (by first | exact rfl | assumption) (by assumption)).1 | omega); (case z1 => first | assumption | exact (amt3 (by first | exact rfl | assumption) (by assumption)).2 | omega)); intro _ vsr _ _ _ l1 irep; (try k_lt l1)))
  (k_with "binaryOp Add ref ref" => (k_here; (with_reducible show wpAny _ _ (binaryOp _ (Value.ref _) (Value.ref _)) _ _ _); k_dflt (refine' add_in ?zF ?zN ?za ?zb ?zi ?zj ?zk ?zl ?_; (case zF => k_asm); (case zN => k_asm); (case za => first | kmk_list | is_list); (case zb => first | kmk_list | is_list); (case zi => k_asm); (case zj => k_asm); (case zk => first | exact Nat.le_trans (by assumption) (by decide) | omega); (case zl => (simp only [List.length_replicate]; first | exact Int.toNat_le.mpr (Int.le_trans (by assumption) (by decide)) | exact Int.toNat_le.mpr (Int.le_trans (amt3 (by first | exact rfl | assumption) (by assumption)).2 (by decide)) | omega))); intro _ zsr _ _ _ l1 iadd; (try k_lt l1)))
  (k_with "setItem ref int" => (k_here; (with_reducible show wpAny _ _ (setItem (Value.ref _) (Value.int _ _) (Value.ref _)) _ _ _); k_dflt (refine' set3 ?zF ?zN ?zU ?z3 ?_; (case zF => k_asm); (case zN => k_asm); (case zU => k_updF); (case z3 => assumption)); intro _ _ _))
  (k_with "call builtin:len" => (k_here; (with_reducible show wpAny _ _ (call (Value.builtin "len") [Value.ref _]) _ _ _); k_dflt (refine' len_ints ?zl ?zi ?zb ?_; (case zl => kmk_list); (case zi => k_asm); (case zb => (simp only [List.length_append, List.length_replicate]; first | exact Nat.le_trans (Nat.add_le_add (by assumption) (Int.toNat_le.mpr (amt3 (by first | exact rfl | assumption) (by assumption)).2)) (by decide) | omega)); k_whole); intro _))
  (k_with "subscriptTail" => (k_here; (with_reducible show wpAny _ _ (subscriptTail _ _ (Value.ref _) (Value.int 0 _)) _ _ _); k_dflt (refine' item0 ?zN ?zm ?zi ?ze ?_; (case zN => k_asm); (case zm => k_mem); (case zi => first | assumption | exact .cons _ _ .nil); (case ze => first | assumption | exact List.cons_ne_nil _ _)); intro x0 _ hx0))
  trivial
theorem words_bd : True := by
  (k_with "call ref" => (k_here; (with_reducible show wpAny _ _ (call (Value.ref 110) _ []) _ _ _); k_dflt (refine' decr_in ?zB ?zF ?zX ?zN ?zT ?zA ?zhh ?zf ?zk ?zr ?zG ?zU1 ?zU2 ?zDS ?zDE ?zK ?_; (case zF => k_asm); (case zG => (rename News _ _ _ _ => NG; exact G _ (fun q hq => NG q (by repeat (first | exact hq | refine List.Mem.tail _ ?_))))); (case zB => k_asm); (case zX => k_asm); (case zN => k_asm); (case zT => k_asm); (case zA => exact rfl); (case zhh => exact rfl); (case zf => exact rfl); (case zk => exact rfl); (case zr => (show dp ≤ 890; omega)); (case zU1 => k_updF); (case zU2 => (intro _; (try dsimp only); k_updF)); (case zDS => k_asm); (case zDE => k_asm); (case zK => assumption)); intro _ _ _ _ _ _ _ _ _ _))
  trivial
set_option maxHeartbeats 4000000 in
theorem decr_br {lo x fk dS dE dV fa nw T D : Nat} {t cd : Int} {tk tcd twh tkey : Tok} {c cT cD wh : Nat} {oS oE oC : Obj} {vsL : List Value} {lv : List Int} {aT : Nat → Addr} {gS gE : PySem.Str → Option Int} {dx : Nat} {t1 t2 t3 t4 : Tok} {tl : List (Addr × Obj)} {Q : Flow → Shared → Prop}
    (B : Below A₀ base outer h₀) (F : Fr h₀ L s.heap m) (X₀ : (hd.heap_39 w.params).In h₀) (T₀ : Top p loose mean mg mb h₀)
    (N : News h₀ L s.heap ((dS, oS) :: (dE, oE) :: (T, W.listOf #[.ref (aT 0), .ref (aT 1), .ref (aT 2)] cT) :: tl)) (hNd : NodT [dS, dE, T] tl)
    (hA : A.frames = some (lawEnv L fa :: outer)) (hh : A.handled = none) (hroom : A.depth ≤ 400)
    (mX : (x, instObj 192 dx) ∈ tl) (mXd : (dx, dictOf (storeEs w fk dS dE dV t1 t2 t3 t4) 4) ∈ tl)
    (G : ∀ h', News h₀ L h' tl → Geo w h' lo x fk dS dE dV t) (DS : ISD prog w oS gS) (DE : ISD prog w oE gE) (hwh : wh < 3) (hk : keyOf wh ∈ KL)
    (mN : (nw, W.listOf #[.int t tk] c) ∈ tl) (mC : (L + 1 + 1, oC) ∈ tl) (dC : oC.data = .cell (some (.ref nw))) (mD : (D, W.listOf vsL.toArray cD) ∈ tl) (iL : IntsAre vsL lv) (lL : lv.length ≤ 100)
    (hC : svOf gS gE (keyOf wh) t = lv.length)
    (a2 : m (PySem.Str.ofString "code") = some (.int cd tcd)) (a3 : m (PySem.Str.ofString "who") = some (.int wh twh)) (a4 : m (PySem.Str.ofString "key") = some (.str (keyOf wh) tkey)) (a5 : m (PySem.Str.ofString "live") = some (.ref D)) (a6 : m (PySem.Str.ofString "store") = some (.ref x)) (a7 : m (PySem.Str.ofString "tokens") = some (.ref T))
    (hQ : ∀ h' tk' m' oS' oE' (D3 : Nat) (vs3 : List Value), Fr h₀ L h' m' → News h₀ L h' ((D3, W.listOf vs3.toArray 0) :: (dS, oS') :: (dE, oE') :: (T, W.listOf #[.ref (setAt aT wh D3 0), .ref (setAt aT wh D3 1), .ref (setAt aT wh D3 2)] cT) :: tl) → NodT [D3, dS, dE, T] tl →
      ISD prog w oS' (upd gS (keyOf wh) (some (max (lv.length - cd.fmod 4) 0))) → ISD prog w oE' (if (gE (keyOf wh)).getD 0 ≤ t then upd gE (keyOf wh) none else gE) →
      IntsAre vs3 (lv.drop (cd.fmod 4).toNat) → (∀ y, y ∈ kept8 → m' y = m y) → Q .next { s with heap := h', toks := tk' }) : wpAny (model prog w) A (execs (br 1) (lawEnv L fa)) Q E s := by
  obtain ⟨hd9, dp, fr, gs, un⟩ := A
  dsimp only at hA hh hroom
  subst hA
  subst hh
  unfold lawEnv
  conv =>
    pattern (br _)
    whnf
  have b4 : 0 ≤ cd.fmod 4 ∧ cd.fmod 4 < 4 := fm_in (by decide)
  have b40 := b4.1
  k_steps
  · exact absurd (show max (svOf gS gE (keyOf wh) t - cd.fmod 4) 0 = ((lv.drop (cd.fmod 4).toNat).length : Nat) by rw [hC, List.length_drop]; exact max_len b4.1) (by assumption)
  · rw [hC] at *
    rename NodT _ _ => hNd9
    rename News _ _ _ _ => N9
    refine hQ _ _ _ _ _ _ _ (by assumption) N9 hNd9 (by assumption) (by assumption) (by assumption) ?_
    exact keep8 rfl rfl rfl rfl rfl rfl rfl rfl

end BrDecr
section BrClear
variable {prog : Program} {w : World} {A₀ A : Around} {base h₀ : Heap} {outer : List Env} {env : Env} {L : Addr} {m mg mb : PySem.Str → Option Value}
  {p : Program} {loose : List PySem.Str} {mean : ExcName → Option Value} {s : Shared} {news : List (Addr × Obj)} {E : Value → Shared → Prop}
theorem words_BrClear : True := by
  k_with_none
  w_top off
  (k_with "k_steps" => repeat' (first | (k_unfold; (try dsimp only)) | (k_end; wrow_close) | (dsimp only; walk1) | walk1 | (leave1; walk_say "STEP leave1"; try dsimp only) | fail "no step"))
  (k_with "k_lt" => first | (intro hlt9; (with_reducible rename NodT _ _ => hNdZ); have hNd2 := nod_new hNdZ hlt9 rfl; replace hlt9 := allLt_of hlt9; simp only [AllLt, and_true] at hlt9; revert hNd2 hlt9; intro _) | (intro hlt9; replace hlt9 := allLt_of hlt9; simp only [AllLt, and_true] at hlt9; revert hlt9) | fail)
  (k_with "k_off1" => first | exact Or.inl (by assumption) | exact Nat.le_refl _ | exact Nat.le_of_lt (by assumption) | exact Or.inr (Nat.le_trans (m := 201) (by decide) (by assumption)) | exact Nat.le_trans (m := 201) (by decide) (by assumption) | omega | fail)
  (k_with "k_offs" => first | (refine List.forall_mem_cons.mpr ⟨?_, ?_⟩; (try dsimp only); (k_extra "k_off1"); (k_extra "k_offs")) | exact (fun _ h => absurd h List.not_mem_nil) | fail)
  (k_with "k_cj" => with_reducible first | assumption | exact And.left (by assumption) | exact And.left (And.right (by assumption)) | exact And.left (And.right (And.right (by assumption))) | exact And.left (And.right (And.right (And.right (by assumption)))) | exact And.left (And.right (And.right (And.right (And.right (by assumption))))) | exact And.left (And.right (And.right (And.right (And.right (And.right (by assumption)))))) | exact And.right (by assumption) | exact And.right (And.right (by assumption)) | exact And.right (And.right (And.right (by assumption))) | exact And.right (And.right (And.right (And.right (by assumption)))) | exact And.right (And.right (And.right (And.right (And.right (by assumption))))) | fail)
  (k_with "k_dp" => first | exact Nat.le_trans (by assumption) (by decide) | exact Nat.le_trans (Nat.succ_le_succ (by assumption)) (by decide) | exact Nat.lt_of_le_of_lt (by assumption) (by decide) | exact Nat.lt_of_le_of_lt (Nat.succ_le_succ (by assumption)) (by decide) | exact Nat.le_trans (Nat.succ_le_succ (Nat.succ_le_succ (by assumption))) (by decide) | exact Nat.lt_of_le_of_lt (Nat.succ_le_succ (Nat.succ_le_succ (by assumption))) (by decide) | (simp only [depth_mark, depth_under_make, depth_under_kw, depth_in1, depth_deeper]; omega) | fail)
  (k_with "k_mem" => first | exact AtU.head | (apply AtU.tail; k_mem) | (refine' PairIn.head ?_; k_mem) | (refine' PairIn.tail ?_; k_mem) | fail)
  (k_with "k_ne" => first | (refine' ne_d1 ?zH ?zP; (case zH => assumption); (case zP => k_mem)) | (refine' ne_d2 ?zH ?zP; (case zH => assumption); (case zP => k_mem)) | exact Nat.ne_of_gt (by (try dsimp only); k_extra "k_cj") | exact Nat.ne_of_lt (by (try dsimp only); k_extra "k_cj") | (refine neN ?_; (try dsimp only); omega) | fail)
  (k_with "k_updF" => first | (refine' updF_at ?zA ?zH ?ze ?zm; (case zA => k_mem); (case zH => assumption); (case ze => rfl); (case zm => k_mem)) | (refine' UpdF.head ?za; (case za => k_all)) | (refine' UpdF.tail ?za ?zb; (case za => k_ne); (case zb => k_updF)) | fail)
  (k_with "k_inst" => first | (refine' instH ?zF ?zI; (case zF => k_asm); (case zI => assumption)) | fail)
  (k_with "k_room" => first | (show _ < 1000; k_extra "k_dp") | fail)
  (k_with "is_list" => first | (refine' listH ?zF ?zI; (case zF => k_asm); (case zI => assumption)) | fail)
  (k_with "call ref" => (k_here; (with_reducible show wpAny _ _ (call (Value.ref _) [] []) _ _ _); k_dflt (refine' clock_in ?zF ?zX ?zN ?zT ?zr ?zC ?_; (case zF => k_asm); (case zC => assumption); (case zX => k_asm); (case zN => k_asm); (case zT => k_asm); (case zr => k_room)); intro _ _ _ _ _ _))
  (k_with "getMethod ref" => (k_here; (with_reducible show wpAny _ _ (getMethod (Value.ref _) (Str.ofString "get") _) _ _ _); k_dflt (refine' dsd_method PySem.F.slot_dict_get PySem.F.type_dict_get ?zN ?zm ?zD ?_; (case zN => k_asm); (case zm => k_mem); (case zD => k_asm))))
  (k_with "getMethod ref" => (k_here; (with_reducible show wpAny _ _ (getMethod (Value.ref _) (Str.ofString "pop") _) _ _ _); k_dflt (refine' dsd_method PySem.F.slot_dict_pop PySem.F.type_dict_pop ?zN ?zm ?zD ?_; (case zN => k_asm); (case zm => k_mem); (case zD => k_asm))))
  (k_with "getMethod ref" => (k_here; (with_reducible show wpAny _ _ (getMethod (Value.ref _) (Str.ofString "setdefault") _) _ _ _); k_dflt (refine' dsd_method PySem.F.slot_dict_setdefault PySem.F.type_dict_setdefault ?zN ?zm ?zD ?_; (case zN => k_asm); (case zm => k_mem); (case zD => k_asm))))
  (k_with "getMethod ref" => (k_here; (with_reducible show wpAny _ _ (getMethod (Value.ref _) (Str.ofString "clear") _) _ _ _); k_dflt (refine' dsd_method PySem.F.slot_dict_clear PySem.F.type_dict_clear ?zN ?zm ?zD ?_; (case zN => k_asm); (case zm => k_mem); (case zD => k_asm))))
  (k_with "getMethod ref" => (k_here; (with_reducible show wpAny _ _ (getMethod (Value.ref _) (Str.ofString "clock") _) _ _ _); k_dflt (refine' kmu_own ?zk1 ?zk2 ?zk3 ?zk4 ?zk5 ?_; (case zk1 => k_asm); (case zk2 => k_asm); (case zk3 => k_inst); (case zk4 => k_is); (case zk5 => k_is); k_whole)))
  (k_with "getAttr ref" => (k_here; k_dflt (refine' get_own ?zk1 ?zk2 ?zk3 ?zk4 ?zk5 ?zk6 ?zk7 ?zk8 ?zk9 ?_; (case zk1 => k_asm); (case zk2 => k_asm); (case zk3 => k_inst); (case zk4 => k_is); (case zk5 => k_is); (case zk6 => k_is); (case zk7 => k_is); (case zk8 => k_get); (case zk9 => k_handed); k_whole)))
  (k_with "call builtin:dict.get" => (k_here; k_dflt (refine' dsd_get ?zN ?zm ?zD ?zlo ?_; (case zN => k_asm); (case zm => k_mem); (case zD => k_asm); (case zlo => k_asm)); intro _ _))
  (k_with "call builtin:dict.get" => (k_here; (with_reducible show wpAny _ _ (call (Value.builtin _) [Value.ref _, Value.str _ _, Value.int _ _]) _ _ _); k_dflt (refine' isd_get ?zN ?zm ?zD ?zlo ?_; (case zN => k_asm); (case zm => k_mem); (case zD => k_asm); (case zlo => k_asm)); intro _))
  (k_with "call builtin:dict.pop" => (k_here; k_dflt (refine' dsd_pop ?zF ?zN ?zU ?zD ?zlo ?_; (case zF => k_asm); (case zN => k_asm); (case zU => k_updF); (case zD => k_asm); (case zlo => k_asm)); intro _ _ _ _ _ _ _))
  (k_with "call builtin:dict.clear" => (k_here; k_dflt (refine' dsd_clear ?zF ?zN ?zU ?zD ?_; (case zF => k_asm); (case zN => k_asm); (case zU => k_updF); (case zD => k_asm)); intro _ _ _ _ _))
  (k_with "call builtin:len" => (k_here; (with_reducible show wpAny _ _ (call (Value.builtin "len") [Value.ref _]) _ _ _); k_dflt (refine' dsd_len_call ?zN ?zm ?zD ?zlo ?_; (case zN => k_asm); (case zm => k_mem); (case zD => k_asm); (case zlo => k_asm)); intro _ _))
  (k_with "callWith ref" => (k_here; (with_reducible show wpAny _ _ (callWith _ _ _ (backTo _ (starEach [] _)) []) _ _ _); k_dflt (refine' callWith_F0 ?zk1 ?_; (case zk1 => exact fnClock (by k_asm) (by assumption)); k_whole); (try dsimp only [List.nil_append, List.cons_append])))
  (k_with "setItem ref str" => (k_here; k_dflt (refine' dsd_set ?zF ?zN ?zU ?zD ?zk ?zx ?_; (case zF => k_asm); (case zN => k_asm); (case zU => k_updF); (case zD => k_asm); (case zk => k_asm); (case zx => first | exact ⟨_, rfl⟩ | exact rfl)); intro _ _ _ _ _))
  (k_with "subscriptTail" => (k_here; (with_reducible show wpAny _ _ (subscriptTail _ _ (Value.ref _) (Value.str _ _)) _ _ _); k_dflt (refine' isd_item ?zN ?zm ?zD ?zx ?_; (case zN => k_asm); (case zm => k_mem); (case zD => k_asm); (case zx => first | exact upd_self _ _ _ | assumption)); intro _))
  (k_with "eval Name" => (k_here; k_dflt (refine' nameX_L ?zF ?zv ?_ ?za ?zb; (case za => rfl); (case zb => rfl); (case zF => k_asm); (case zv => first | rfl | assumption); k_whole)))
  (k_with "call builtin:len" => (k_here; (with_reducible show wpAny _ _ (call (Value.builtin "len") [Value.ref _]) _ _ _); k_dflt (refine' len_lst ?zl ?zn ?zb ?_; (case zl => is_list); (case zn => assumption); (case zb => omega); k_whole); intro _))
  (k_with "exec While Compare cons nil" => (k_here; refine stopW ?_))
  (k_with "subscriptTail" => (k_here; (with_reducible show wpAny _ _ (subscriptTail _ _ (Value.ref _) (Value.str _ _)) _ _ _); k_dflt (refine' asd_item ?zN ?zm ?zD ?zx ?_; (case zN => k_asm); (case zm => k_mem); (case zD => k_asm); (case zx => first | exact upd_self _ _ _ | assumption))))
  (k_with "call ref" => (k_here; (with_reducible show wpAny _ _ (call (Value.ref 117) [Value.ref _, Value.str _ _] []) _ _ _); k_dflt (refine' get_in ?zB ?zF ?zX ?zN ?zT ?zA ?zhh ?zf ?zk ?zr ?zG ?zU1 ?zU2 ?zDS ?zDE ?_; (case zF => k_asm); (case zG => exact Geo.all (by assumption) (Fr.keep (by k_asm))); (case zB => k_asm); (case zX => k_asm); (case zN => k_asm); (case zT => k_asm); (case zA => exact rfl); (case zhh => exact rfl); (case zf => exact rfl); (case zk => exact rfl); (case zr => (show _ ≤ 900; k_extra "k_dp")); (case zU1 => k_updF); (case zU2 => (intro _; (try dsimp only); k_updF)); (case zDS => k_asm); (case zDE => k_asm)); intro _ _ _ _ _ _ _ _ _ _))
  (k_with "callWith ref" => (k_here; k_dflt (refine' callWith_F ?zk1 ?_; (case zk1 => exact NegAt.fn (NegAt.keeps (by assumption) (Fr.keep (by k_asm)))); k_whole)))
  (k_with "call ref" => (k_here; (with_reducible show wpAny _ _ (call (Value.ref 52) _ _) _ _ _); refine stopW ?_))
  (k_with "call builtin:dict.setdefault" => (k_here; refine stopW ?_))
  (k_with "eval Lambda" => (k_here; k_dflt (refine' lam_in ?zF ?zN ?zT ?zC ?zcd ?zU ?zhps ?zhsub ?zcl ?zdf ?_; (case zF => k_asm); (case zN => k_asm); (case zT => k_asm); (case zcd => exact rfl); (case zC => kn_code); (case zU => k_updF); (case zhps => assumption); (case zhsub => (intro _ hq; first | (exact absurd hq List.not_mem_nil) | (repeat (first | exact hq | refine List.Mem.tail _ ?_)))); (case zcl => exact rfl); (case zdf => exact rfl); k_whole); intro fl cl ct psl lsl hpl tkl Fl Nl hfl hrl hnt ltl; (simp only [List.cons_append, List.nil_append] at Nl)))
  (k_with "call ref" => (k_here; (with_reducible show wpAny _ _ (call (Value.ref 69) _ _) _ _ _); k_dflt (refine' entry_in ?zF ?zX ?zN ?zT ?zr ?_; (case zF => k_asm); (case zX => k_asm); (case zN => k_asm); (case zT => k_asm); (case zr => (show _ ≤ 890; k_extra "k_dp"))); intro r9 d9 _ _ _ _ _ _ _ _ l1 l2; (try k_lt l1); (replace l2 : @LT.lt Nat instLTNat d9 r9 := l2)))
  (k_with "binaryOp Mult ref int" => (k_here; (with_reducible show wpAny _ _ (binaryOp Operator.Mult (Value.ref _) (Value.int _ _)) _ _ _); k_dflt (refine' KMa.mul ?zF ?zN ?zl ?zlo ?zhi ?z ?ze ?_; (case zF => k_asm); (case zN => k_asm); (case zl => is_list); (case zlo => omega); (case zhi => omega); (case z => (simp only [List.length_cons, List.length_nil]; omega)); (case ze => exact flat1 _ _)); intro _ _ _ _ l1; (try k_lt l1)))
  (k_with "binaryOp Add ref ref" => (k_here; (with_reducible show wpAny _ _ (binaryOp _ (Value.ref _) (Value.ref _)) _ _ _); k_dflt (refine' kmk_add_lit ?zF ?zN ?za ?zb ?ze ?_ ?z; (case zF => k_asm); (case zN => k_asm); (case za => first | kmk_list | is_list); (case zb => first | kmk_list | is_list); (case ze => exact rfl); (case z => (simp only [sizeLine, List.toList_toArray, List.length_replicate, List.length_nil, List.length_cons]; omega))); intro _ _ _ _ l1; (try k_lt l1)))
  (k_with "getMethod ref" => (k_here; (with_reducible show wpAny _ _ (getMethod (Value.ref _) (Str.ofString "keys") _) _ _ _); k_dflt (refine' dsd_method PySem.F.slot_dict_keys PySem.F.type_dict_keys ?zN ?zm ?zD ?_; (case zN => k_asm); (case zm => k_mem); (case zD => k_asm))))
  (k_with "call builtin:dict.keys" => (k_here; (with_reducible show wpAny _ _ (call (Value.builtin "dict.keys") [Value.ref _]) _ _ _); k_dflt (refine' dsd_keys ?zF ?zN ?zm ?zD ?zlo ?_; (case zF => k_asm); (case zN => k_asm); (case zm => k_mem); (case zD => k_asm); (case zlo => k_asm)); intro _ _ _ _ l1; (try k_lt l1)))
  (k_with "call type:list" => (k_here; (with_reducible show wpAny _ _ (call (Value.type "list") [Value.ref _]) _ _ _); k_dflt (refine' dsd_list ?zh ?zF ?zN ?zv ?zm ?zD ?_; (case zh => exact rfl); (case zF => k_asm); (case zN => k_asm); (case zv => exact List.Mem.head _); (case zm => k_mem); (case zD => k_asm)); intro _ _ _ _ _ _ _ _ _ l1; (try k_lt l1)))
  (k_with "exec For Name Call cons nil" => (k_here; refine stopW ?_))
  (k_with "eval Name" => (k_here; (with_reducible show wpAny _ _ (eval (Expr.Name _ _) (envOfC _ _ _ _ _)) _ _ _); k_dflt (refine' nameX_L ?zF ?zv ?_ ?za ?zb; (case za => rfl); (case zb => rfl); (case zF => k_asm); (case zv => first | rfl | assumption))))
  (k_with "k_ne" => first | (refine' ne_list_dsd ?zN ?zm1 ?zm2 ?zc ?zX; (case zN => k_asm); (case zm1 => k_mem); (case zm2 => k_mem); (case zc => exact rfl); (case zX => k_asm)) | (refine' ne_cls ?zN ?zm1 ?zm2 ?zc; (case zN => k_asm); (case zm1 => k_mem); (case zm2 => k_mem); (case zc => simp [tabObj])) | fail)
  (k_with "call builtin:len" => (k_here; (with_reducible show wpAny _ _ (call (Value.builtin "len") [Value.ref _]) _ _ _); k_dflt (refine' len_ints ?zl ?zi ?zb ?_; (case zl => kmk_list); (case zi => k_asm); (case zb => exact len_filter_le (n := 1000000) (by omega)); k_whole); intro _))
  (k_with "truthy ref" => (k_here; (with_reducible show wpAny _ _ (truthy (Value.ref _)) _ _ _); k_dflt (refine' truthy_ints ?zl ?zi ?zb ?_ ?_; (case zl => kmk_list); (case zi => k_asm); (case zb => exact len_filter_le (n := 1000000) (by omega)); k_whole); intro _))
  (k_with "call ref" => (k_here; (with_reducible show wpAny _ _ (call (Value.ref 139) [Value.ref _, Value.str _ _] []) _ _ _); k_dflt (refine' get_expiry_in ?zB ?zF ?zX ?zN ?zT ?zA ?zhh ?zf ?zk ?zr ?zG ?zm ?zDE ?_; (case zF => k_asm); (case zG => exact Geo.all (by assumption) (Fr.keep (by k_asm))); (case zB => k_asm); (case zX => k_asm); (case zN => k_asm); (case zT => k_asm); (case zA => exact rfl); (case zhh => exact rfl); (case zf => exact rfl); (case zk => exact rfl); (case zr => (show _ ≤ 890; k_extra "k_dp")); (case zm => k_mem); (case zDE => k_asm)); intro _ _ _ _ _ _))
  (k_with "call ref" => (k_here; (with_reducible show wpAny _ _ (call (Value.ref 146) _ _) _ _ _); k_dflt (refine' moving_in ?zB ?zF ?zX ?zN ?zT ?zA ?zhh ?zf ?zk ?zr ?zG ?zlo ?zCH ?zm ?zU ?zDV ?zhT ?zhE ?zhl ?zhs ?_; (case zF => k_asm); (case zG => exact Geo.all (by assumption) (Fr.keep (by k_asm))); (case zB => k_asm); (case zX => k_asm); (case zN => k_asm); (case zT => k_asm); (case zA => exact rfl); (case zhh => exact rfl); (case zf => exact rfl); (case zk => exact rfl); (case zr => (show _ ≤ 880; k_extra "k_dp")); (case zlo => k_asm); (case zCH => k_asm); (case zDV => k_asm); (case zm => k_mem); (case zU => k_updF); (case zhT => exact TabSt.all (by assumption) (Fr.keep (by k_asm))); (case zhE => exact ev_all (by assumption) (Fr.keep (by k_asm))); (case zhl => k_asm); (case zhs => k_asm)); intro _ _ psm Rm stm nm _ _ lsm _ Nm hRm hTm hfm hnm hltm hst0 hst1; (simp only [List.cons_append, List.nil_append] at Nm)))
  (k_with "k_mem" => first | assumption | fail)
  (k_with "subscriptTail" => (k_here; (with_reducible show wpAny _ _ (subscriptTail _ _ (Value.ref _) (Value.int (Nat.cast (_ : Nat)) _)) _ _ _); k_dflt (refine' lst_nat ?zN ?zm ?zx ?zi ?_; (case zN => k_asm); (case zm => k_mem); (case zx => exact three_at (by assumption)); (case zi => assumption))))
  (k_with "binaryOp Mult ref int" => (k_here; (with_reducible show wpAny _ _ (binaryOp Operator.Mult (Value.ref _) (Value.int _ _)) _ _ _); k_dflt (refine' mul_in ?zF ?zN ?zm ?z0 ?z1 ?_; (case zF => k_asm); (case zN => k_asm); (case zm => k_mem); (case z0 => first | assumption | exact (amt3 (by first | exact rfl | assumption) (by assumption)).1 | omega); (case z1 => first | assumption | exact (amt3 (by first | exact rfl | assumption) (by assumption)).2 | omega)); intro _ vsr _ _ _ l1 irep; (try k_lt l1)))
  (k_with "binaryOp Add ref ref" => (k_here; (with_reducible show wpAny _ _ (binaryOp _ (Value.ref _) (Value.ref _)) _ _ _); k_dflt (refine' add_in ?zF ?zN ?za ?zb ?zi ?zj ?zk ?zl ?_; (case zF => k_asm); (case zN => k_asm); (case za => first | kmk_list | is_list); (case zb => first | kmk_list | is_list); (case zi => k_asm); (case zj => k_asm); (case zk => first | exact Nat.le_trans (by assumption) (by decide) | omega); (case zl => (simp only [List.length_replicate]; first | exact Int.toNat_le.mpr (Int.le_trans (by assumption) (by decide)) | exact Int.toNat_le.mpr (Int.le_trans (amt3 (by first | exact rfl | assumption) (by assumption)).2 (by decide)) | omega))); intro _ zsr _ _ _ l1 iadd; (try k_lt l1)))
  (k_with "setItem ref int" => (k_here; (with_reducible show wpAny _ _ (setItem (Value.ref _) (Value.int _ _) (Value.ref _)) _ _ _); k_dflt (refine' set3 ?zF ?zN ?zU ?z3 ?_; (case zF => k_asm); (case zN => k_asm); (case zU => k_updF); (case z3 => assumption)); intro _ _ _))
  (k_with "call builtin:len" => (k_here; (with_reducible show wpAny _ _ (call (Value.builtin "len") [Value.ref _]) _ _ _); k_dflt (refine' len_ints ?zl ?zi ?zb ?_; (case zl => kmk_list); (case zi => k_asm); (case zb => (simp only [List.length_append, List.length_replicate]; first | exact Nat.le_trans (Nat.add_le_add (by assumption) (Int.toNat_le.mpr (amt3 (by first | exact rfl | assumption) (by assumption)).2)) (by decide) | omega)); k_whole); intro _))
  (k_with "subscriptTail" => (k_here; (with_reducible show wpAny _ _ (subscriptTail _ _ (Value.ref _) (Value.int 0 _)) _ _ _); k_dflt (refine' item0 ?zN ?zm ?zi ?ze ?_; (case zN => k_asm); (case zm => k_mem); (case zi => first | assumption | exact .cons _ _ .nil); (case ze => first | assumption | exact List.cons_ne_nil _ _)); intro x0 _ hx0))
  trivial
theorem words_bc : True := by
  (k_with "call ref" => (k_here; (with_reducible show wpAny _ _ (call (Value.ref 124) _ []) _ _ _); k_dflt (refine' clear_in ?zB ?zF ?zX ?zN ?zT ?zA ?zhh ?zf ?zk ?zr ?zG ?zU1 ?zU2 ?zU3 ?zDS ?zDE ?zDV ?_; (case zF => k_asm); (case zG => (rename News _ _ _ _ => NG; exact G _ (fun q hq => NG q (by repeat (first | exact hq | refine List.Mem.tail _ ?_))))); (case zB => k_asm); (case zX => k_asm); (case zN => k_asm); (case zT => k_asm); (case zA => exact rfl); (case zhh => exact rfl); (case zf => exact rfl); (case zk => exact rfl); (case zr => (show dp ≤ 890; omega)); (case zU1 => k_updF); (case zU2 => (intro _; (try dsimp only); k_updF)); (case zU3 => (intro _ _; (try dsimp only); k_updF)); (case zDS => k_asm); (case zDE => k_asm); (case zDV => k_asm)); intro _ _ _ _ _ _ _ _ _ _ _))
  (k_with "call ref" => (k_here; (with_reducible show wpAny _ _ (call (Value.ref 189) _ []) _ _ _); k_dflt (refine' reset_in ?zB ?zF ?zX ?zN ?zT ?zA ?zhh ?zf ?zk ?zr ?zG ?zU1 ?zU2 ?zU3 ?zDS ?zDE ?zDV ?_; (case zF => k_asm); (case zG => (rename News _ _ _ _ => NG; exact G _ (fun q hq => NG q (by repeat (first | exact hq | refine List.Mem.tail _ ?_))))); (case zB => k_asm); (case zX => k_asm); (case zN => k_asm); (case zT => k_asm); (case zA => exact rfl); (case zhh => exact rfl); (case zf => exact rfl); (case zk => exact rfl); (case zr => (show dp ≤ 890; omega)); (case zU1 => k_updF); (case zU2 => (intro _; (try dsimp only); k_updF)); (case zU3 => (intro _ _; (try dsimp only); k_updF)); (case zDS => k_asm); (case zDE => k_asm); (case zDV => k_asm)); intro _ _ _ _ _ _ _ _ _ _ _ _ _))
  trivial
set_option maxHeartbeats 4000000 in
theorem clear_br {lo x fk dS dE dV fa T U : Nat} {t : Int} {twh tkey : Tok} {cT cU wh : Nat} {oS oE oV : Obj} {aT aU : Nat → Addr} {gS gE : PySem.Str → Option Int} {gV : PySem.Str → Option Addr} {dx : Nat} {t1 t2 t3 t4 : Tok} {tl : List (Addr × Obj)} {Q : Flow → Shared → Prop}
    (B : Below A₀ base outer h₀) (F : Fr h₀ L s.heap m) (X₀ : (hd.heap_39 w.params).In h₀) (T₀ : Top p loose mean mg mb h₀)
    (N : News h₀ L s.heap ((dS, oS) :: (dE, oE) :: (dV, oV) :: (T, W.listOf #[.ref (aT 0), .ref (aT 1), .ref (aT 2)] cT) :: (U, W.listOf #[.ref (aU 0), .ref (aU 1), .ref (aU 2)] cU) :: tl)) (hNd : NodT [dS, dE, dV, T, U] tl)
    (hA : A.frames = some (lawEnv L fa :: outer)) (hh : A.handled = none) (hroom : A.depth ≤ 400)
    (mX : (x, instObj 192 dx) ∈ tl) (mXd : (dx, dictOf (storeEs w fk dS dE dV t1 t2 t3 t4) 4) ∈ tl)
    (G : ∀ h', News h₀ L h' tl → Geo w h' lo x fk dS dE dV t) (DS : ISD prog w oS gS) (DE : ISD prog w oE gE) (DV : ASD prog w oV gV) (hwh : wh < 3)
    (a3 : m (PySem.Str.ofString "who") = some (.int wh twh)) (a4 : m (PySem.Str.ofString "key") = some (.str (keyOf wh) tkey)) (a6 : m (PySem.Str.ofString "store") = some (.ref x)) (a7 : m (PySem.Str.ofString "tokens") = some (.ref T)) (a8 : m (PySem.Str.ofString "units") = some (.ref U))
    (hQ : ∀ h' tk' m' oS' oE' oV' (D1 D2 : Nat), Fr h₀ L h' m' → News h₀ L h' ((D2, W.listOf #[] 0) :: (D1, W.listOf #[] 0) :: (dS, oS') :: (dE, oE') :: (dV, oV') :: (T, W.listOf #[.ref (setAt aT wh D1 0), .ref (setAt aT wh D1 1), .ref (setAt aT wh D1 2)] cT) :: (U, W.listOf #[.ref (setAt aU wh D2 0), .ref (setAt aU wh D2 1), .ref (setAt aU wh D2 2)] cU) :: tl) → NodT [D2, D1, dS, dE, dV, T, U] tl →
      ISD prog w oS' (upd gS (keyOf wh) none) → ISD prog w oE' (upd gE (keyOf wh) none) → ASD prog w oV' (upd gV (keyOf wh) none) → (∀ y, y ∈ kept8 → m' y = m y) → Q .next { s with heap := h', toks := tk' }) : wpAny (model prog w) A (execs (br 3) (lawEnv L fa)) Q E s := by
  obtain ⟨hd9, dp, fr, gs, un⟩ := A
  dsimp only at hA hh hroom
  subst hA
  subst hh
  unfold lawEnv
  conv =>
    pattern (br _)
    whnf
  k_steps
  rename NodT _ _ => hNd9
  rename News _ _ _ _ => N9
  exact hQ _ _ _ _ _ _ _ _ (by assumption) N9 hNd9 (by assumption) (by assumption) (by assumption) fun _ _ => rfl
theorem words_rs : True := by
  (k_with "execs cons" => (with_reducible show wpAny _ _ (execs (Stmt.Assign [Expr.Name (PySem.Str.ofString "tokens") _] _ _ :: _) _) _ _ _); refine stopW ?_)
  trivial
set_option maxHeartbeats 4000000 in
theorem reset_br {lo x fk dS dE dV fa : Nat} {t : Int} {oS oE oV : Obj} {gS gE : PySem.Str → Option Int} {gV : PySem.Str → Option Addr} {dx : Nat} {t1 t2 t3 t4 : Tok} {tl : List (Addr × Obj)} {Q : Flow → Shared → Prop}
    (B : Below A₀ base outer h₀) (F : Fr h₀ L s.heap m) (X₀ : (hd.heap_39 w.params).In h₀) (T₀ : Top p loose mean mg mb h₀)
    (N : News h₀ L s.heap ((dS, oS) :: (dE, oE) :: (dV, oV) :: tl)) (hNd : NodT [dS, dE, dV] tl)
    (hA : A.frames = some (lawEnv L fa :: outer)) (hh : A.handled = none) (hroom : A.depth ≤ 400)
    (mX : (x, instObj 192 dx) ∈ tl) (mXd : (dx, dictOf (storeEs w fk dS dE dV t1 t2 t3 t4) 4) ∈ tl)
    (G : ∀ h', News h₀ L h' tl → Geo w h' lo x fk dS dE dV t) (DS : ISD prog w oS gS) (DE : ISD prog w oE gE) (DV : ASD prog w oV gV)
    (a6 : m (PySem.Str.ofString "store") = some (.ref x))
    (hQ : ∀ h' tk' m' oS' oE' oV' (T U k0 k1 k2 u0 u1 u2 : Nat) cT cU, Fr h₀ L h' m' → News h₀ L h' ((U, W.listOf #[.ref u0, .ref u1, .ref u2] cU) :: (u2, W.listOf #[] 0) :: (u1, W.listOf #[] 0) :: (u0, W.listOf #[] 0) :: (T, W.listOf #[.ref k0, .ref k1, .ref k2] cT) :: (k2, W.listOf #[] 0) :: (k1, W.listOf #[] 0) :: (k0, W.listOf #[] 0) :: (dS, oS') :: (dE, oE') :: (dV, oV') :: tl) →
      NodT [U, u2, u1, u0, T, k2, k1, k0, dS, dE, dV] tl →
      ISD prog w oS' (fun _ => none) → ISD prog w oE' (fun _ => none) → ASD prog w oV' (fun _ => none) → m' (PySem.Str.ofString "tokens") = some (.ref T) → m' (PySem.Str.ofString "units") = some (.ref U) → (∀ y, y ∈ ["script", "numbers", "store", "keys", "windows", "number"].map PySem.Str.ofString → m' y = m y) → Q .next { s with heap := h', toks := tk' }) : wpAny (model prog w) A (execs (br 5) (lawEnv L fa)) Q E s := by
  obtain ⟨hd9, dp, fr, gs, un⟩ := A
  dsimp only at hA hh hroom
  subst hA
  subst hh
  unfold lawEnv
  conv =>
    pattern (br _)
    whnf
  k_steps
  show wpAny _ _ (execs _ (lawEnv L fa)) _ _ _
  rename News _ _ _ _ => N9
  refine lists3 (by assumption) N9 rfl ?_
  intro h2 tk2 T k0 k1 k2 cT F2 N2 nd2
  refine lists3 F2 N2 rfl ?_
  intro h3 tk3 V u0 u1 u2 cU F3 N3 nd3
  k_steps
  refine hQ _ _ _ _ _ _ T V k0 k1 k2 u0 u1 u2 cT cU F3 N3 (nd3 (nd2 hNd rfl) rfl) (by assumption) (by assumption) (by assumption) rfl rfl ?_
  exact keep6 rfl rfl rfl rfl rfl rfl

end BrClear
section BrSweep
variable {prog : Program} {w : World} {A₀ A : Around} {base h₀ : Heap} {outer : List Env} {env : Env} {L : Addr} {m mg mb : PySem.Str → Option Value}
  {p : Program} {loose : List PySem.Str} {mean : ExcName → Option Value} {s : Shared} {news : List (Addr × Obj)} {E : Value → Shared → Prop}
theorem words_BrSweep : True := by
  k_with_none
  w_top off
  (k_with "k_steps" => repeat' (first | (k_unfold; (try dsimp only)) | (k_end; wrow_close) | (dsimp only; walk1) | walk1 | (leave1; walk_say "STEP leave1"; try dsimp only) | fail "no step"))
  (k_with "k_lt" => first | (intro hlt9; (with_reducible rename NodT _ _ => hNdZ); have hNd2 := nod_new hNdZ hlt9 rfl; replace hlt9 := allLt_of hlt9; simp only [AllLt, and_true] at hlt9; revert hNd2 hlt9; intro _) | (intro hlt9; replace hlt9 := allLt_of hlt9; simp only [AllLt, and_true] at hlt9; revert hlt9) | fail)
  (k_with "k_off1" => first | exact Or.inl (by assumption) | exact Nat.le_refl _ | exact Nat.le_of_lt (by assumption) | exact Or.inr (Nat.le_trans (m := 201) (by decide) (by assumption)) | exact Nat.le_trans (m := 201) (by decide) (by assumption) | omega | fail)
  (k_with "k_offs" => first | (refine List.forall_mem_cons.mpr ⟨?_, ?_⟩; (try dsimp only); (k_extra "k_off1"); (k_extra "k_offs")) | exact (fun _ h => absurd h List.not_mem_nil) | fail)
  (k_with "k_cj" => with_reducible first | assumption | exact And.left (by assumption) | exact And.left (And.right (by assumption)) | exact And.left (And.right (And.right (by assumption))) | exact And.left (And.right (And.right (And.right (by assumption)))) | exact And.left (And.right (And.right (And.right (And.right (by assumption))))) | exact And.left (And.right (And.right (And.right (And.right (And.right (by assumption)))))) | exact And.right (by assumption) | exact And.right (And.right (by assumption)) | exact And.right (And.right (And.right (by assumption))) | exact And.right (And.right (And.right (And.right (by assumption)))) | exact And.right (And.right (And.right (And.right (And.right (by assumption))))) | fail)
  (k_with "k_dp" => first | exact Nat.le_trans (by assumption) (by decide) | exact Nat.le_trans (Nat.succ_le_succ (by assumption)) (by decide) | exact Nat.lt_of_le_of_lt (by assumption) (by decide) | exact Nat.lt_of_le_of_lt (Nat.succ_le_succ (by assumption)) (by decide) | exact Nat.le_trans (Nat.succ_le_succ (Nat.succ_le_succ (by assumption))) (by decide) | exact Nat.lt_of_le_of_lt (Nat.succ_le_succ (Nat.succ_le_succ (by assumption))) (by decide) | (simp only [depth_mark, depth_under_make, depth_under_kw, depth_in1, depth_deeper]; omega) | fail)
  (k_with "k_mem" => first | exact AtU.head | (apply AtU.tail; k_mem) | (refine' PairIn.head ?_; k_mem) | (refine' PairIn.tail ?_; k_mem) | fail)
  (k_with "k_ne" => first | (refine' ne_d1 ?zH ?zP; (case zH => assumption); (case zP => k_mem)) | (refine' ne_d2 ?zH ?zP; (case zH => assumption); (case zP => k_mem)) | exact Nat.ne_of_gt (by (try dsimp only); k_extra "k_cj") | exact Nat.ne_of_lt (by (try dsimp only); k_extra "k_cj") | (refine neN ?_; (try dsimp only); omega) | fail)
  (k_with "k_updF" => first | (refine' updF_at ?zA ?zH ?ze ?zm; (case zA => k_mem); (case zH => assumption); (case ze => rfl); (case zm => k_mem)) | (refine' UpdF.head ?za; (case za => k_all)) | (refine' UpdF.tail ?za ?zb; (case za => k_ne); (case zb => k_updF)) | fail)
  (k_with "k_inst" => first | (refine' instH ?zF ?zI; (case zF => k_asm); (case zI => assumption)) | fail)
  (k_with "k_room" => first | (show _ < 1000; k_extra "k_dp") | fail)
  (k_with "is_list" => first | (refine' listH ?zF ?zI; (case zF => k_asm); (case zI => assumption)) | fail)
  (k_with "call ref" => (k_here; (with_reducible show wpAny _ _ (call (Value.ref _) [] []) _ _ _); k_dflt (refine' clock_in ?zF ?zX ?zN ?zT ?zr ?zC ?_; (case zF => k_asm); (case zC => assumption); (case zX => k_asm); (case zN => k_asm); (case zT => k_asm); (case zr => k_room)); intro _ _ _ _ _ _))
  (k_with "getMethod ref" => (k_here; (with_reducible show wpAny _ _ (getMethod (Value.ref _) (Str.ofString "get") _) _ _ _); k_dflt (refine' dsd_method PySem.F.slot_dict_get PySem.F.type_dict_get ?zN ?zm ?zD ?_; (case zN => k_asm); (case zm => k_mem); (case zD => k_asm))))
  (k_with "getMethod ref" => (k_here; (with_reducible show wpAny _ _ (getMethod (Value.ref _) (Str.ofString "pop") _) _ _ _); k_dflt (refine' dsd_method PySem.F.slot_dict_pop PySem.F.type_dict_pop ?zN ?zm ?zD ?_; (case zN => k_asm); (case zm => k_mem); (case zD => k_asm))))
  (k_with "getMethod ref" => (k_here; (with_reducible show wpAny _ _ (getMethod (Value.ref _) (Str.ofString "setdefault") _) _ _ _); k_dflt (refine' dsd_method PySem.F.slot_dict_setdefault PySem.F.type_dict_setdefault ?zN ?zm ?zD ?_; (case zN => k_asm); (case zm => k_mem); (case zD => k_asm))))
  (k_with "getMethod ref" => (k_here; (with_reducible show wpAny _ _ (getMethod (Value.ref _) (Str.ofString "clear") _) _ _ _); k_dflt (refine' dsd_method PySem.F.slot_dict_clear PySem.F.type_dict_clear ?zN ?zm ?zD ?_; (case zN => k_asm); (case zm => k_mem); (case zD => k_asm))))
  (k_with "getMethod ref" => (k_here; (with_reducible show wpAny _ _ (getMethod (Value.ref _) (Str.ofString "clock") _) _ _ _); k_dflt (refine' kmu_own ?zk1 ?zk2 ?zk3 ?zk4 ?zk5 ?_; (case zk1 => k_asm); (case zk2 => k_asm); (case zk3 => k_inst); (case zk4 => k_is); (case zk5 => k_is); k_whole)))
  (k_with "getAttr ref" => (k_here; k_dflt (refine' get_own ?zk1 ?zk2 ?zk3 ?zk4 ?zk5 ?zk6 ?zk7 ?zk8 ?zk9 ?_; (case zk1 => k_asm); (case zk2 => k_asm); (case zk3 => k_inst); (case zk4 => k_is); (case zk5 => k_is); (case zk6 => k_is); (case zk7 => k_is); (case zk8 => k_get); (case zk9 => k_handed); k_whole)))
  (k_with "call builtin:dict.get" => (k_here; k_dflt (refine' dsd_get ?zN ?zm ?zD ?zlo ?_; (case zN => k_asm); (case zm => k_mem); (case zD => k_asm); (case zlo => k_asm)); intro _ _))
  (k_with "call builtin:dict.get" => (k_here; (with_reducible show wpAny _ _ (call (Value.builtin _) [Value.ref _, Value.str _ _, Value.int _ _]) _ _ _); k_dflt (refine' isd_get ?zN ?zm ?zD ?zlo ?_; (case zN => k_asm); (case zm => k_mem); (case zD => k_asm); (case zlo => k_asm)); intro _))
  (k_with "call builtin:dict.pop" => (k_here; k_dflt (refine' dsd_pop ?zF ?zN ?zU ?zD ?zlo ?_; (case zF => k_asm); (case zN => k_asm); (case zU => k_updF); (case zD => k_asm); (case zlo => k_asm)); intro _ _ _ _ _ _ _))
  (k_with "call builtin:dict.clear" => (k_here; k_dflt (refine' dsd_clear ?zF ?zN ?zU ?zD ?_; (case zF => k_asm); (case zN => k_asm); (case zU => k_updF); (case zD => k_asm)); intro _ _ _ _ _))
  (k_with "call builtin:len" => (k_here; (with_reducible show wpAny _ _ (call (Value.builtin "len") [Value.ref _]) _ _ _); k_dflt (refine' dsd_len_call ?zN ?zm ?zD ?zlo ?_; (case zN => k_asm); (case zm => k_mem); (case zD => k_asm); (case zlo => k_asm)); intro _ _))
  (k_with "callWith ref" => (k_here; (with_reducible show wpAny _ _ (callWith _ _ _ (backTo _ (starEach [] _)) []) _ _ _); k_dflt (refine' callWith_F0 ?zk1 ?_; (case zk1 => exact fnClock (by k_asm) (by assumption)); k_whole); (try dsimp only [List.nil_append, List.cons_append])))
  (k_with "setItem ref str" => (k_here; k_dflt (refine' dsd_set ?zF ?zN ?zU ?zD ?zk ?zx ?_; (case zF => k_asm); (case zN => k_asm); (case zU => k_updF); (case zD => k_asm); (case zk => k_asm); (case zx => first | exact ⟨_, rfl⟩ | exact rfl)); intro _ _ _ _ _))
  (k_with "subscriptTail" => (k_here; (with_reducible show wpAny _ _ (subscriptTail _ _ (Value.ref _) (Value.str _ _)) _ _ _); k_dflt (refine' isd_item ?zN ?zm ?zD ?zx ?_; (case zN => k_asm); (case zm => k_mem); (case zD => k_asm); (case zx => first | exact upd_self _ _ _ | assumption)); intro _))
  (k_with "eval Name" => (k_here; k_dflt (refine' nameX_L ?zF ?zv ?_ ?za ?zb; (case za => rfl); (case zb => rfl); (case zF => k_asm); (case zv => first | rfl | assumption); k_whole)))
  (k_with "call builtin:len" => (k_here; (with_reducible show wpAny _ _ (call (Value.builtin "len") [Value.ref _]) _ _ _); k_dflt (refine' len_lst ?zl ?zn ?zb ?_; (case zl => is_list); (case zn => assumption); (case zb => omega); k_whole); intro _))
  (k_with "exec While Compare cons nil" => (k_here; refine stopW ?_))
  (k_with "subscriptTail" => (k_here; (with_reducible show wpAny _ _ (subscriptTail _ _ (Value.ref _) (Value.str _ _)) _ _ _); k_dflt (refine' asd_item ?zN ?zm ?zD ?zx ?_; (case zN => k_asm); (case zm => k_mem); (case zD => k_asm); (case zx => first | exact upd_self _ _ _ | assumption))))
  (k_with "call ref" => (k_here; (with_reducible show wpAny _ _ (call (Value.ref 117) [Value.ref _, Value.str _ _] []) _ _ _); k_dflt (refine' get_in ?zB ?zF ?zX ?zN ?zT ?zA ?zhh ?zf ?zk ?zr ?zG ?zU1 ?zU2 ?zDS ?zDE ?_; (case zF => k_asm); (case zG => exact Geo.all (by assumption) (Fr.keep (by k_asm))); (case zB => k_asm); (case zX => k_asm); (case zN => k_asm); (case zT => k_asm); (case zA => exact rfl); (case zhh => exact rfl); (case zf => exact rfl); (case zk => exact rfl); (case zr => (show _ ≤ 900; k_extra "k_dp")); (case zU1 => k_updF); (case zU2 => (intro _; (try dsimp only); k_updF)); (case zDS => k_asm); (case zDE => k_asm)); intro _ _ _ _ _ _ _ _ _ _))
  (k_with "callWith ref" => (k_here; k_dflt (refine' callWith_F ?zk1 ?_; (case zk1 => exact NegAt.fn (NegAt.keeps (by assumption) (Fr.keep (by k_asm)))); k_whole)))
  (k_with "call ref" => (k_here; (with_reducible show wpAny _ _ (call (Value.ref 52) _ _) _ _ _); refine stopW ?_))
  (k_with "call builtin:dict.setdefault" => (k_here; refine stopW ?_))
  (k_with "eval Lambda" => (k_here; k_dflt (refine' lam_in ?zF ?zN ?zT ?zC ?zcd ?zU ?zhps ?zhsub ?zcl ?zdf ?_; (case zF => k_asm); (case zN => k_asm); (case zT => k_asm); (case zcd => exact rfl); (case zC => kn_code); (case zU => k_updF); (case zhps => assumption); (case zhsub => (intro _ hq; first | (exact absurd hq List.not_mem_nil) | (repeat (first | exact hq | refine List.Mem.tail _ ?_)))); (case zcl => exact rfl); (case zdf => exact rfl); k_whole); intro fl cl ct psl lsl hpl tkl Fl Nl hfl hrl hnt ltl; (simp only [List.cons_append, List.nil_append] at Nl)))
  (k_with "call ref" => (k_here; (with_reducible show wpAny _ _ (call (Value.ref 69) _ _) _ _ _); k_dflt (refine' entry_in ?zF ?zX ?zN ?zT ?zr ?_; (case zF => k_asm); (case zX => k_asm); (case zN => k_asm); (case zT => k_asm); (case zr => (show _ ≤ 890; k_extra "k_dp"))); intro r9 d9 _ _ _ _ _ _ _ _ l1 l2; (try k_lt l1); (replace l2 : @LT.lt Nat instLTNat d9 r9 := l2)))
  (k_with "binaryOp Mult ref int" => (k_here; (with_reducible show wpAny _ _ (binaryOp Operator.Mult (Value.ref _) (Value.int _ _)) _ _ _); k_dflt (refine' KMa.mul ?zF ?zN ?zl ?zlo ?zhi ?z ?ze ?_; (case zF => k_asm); (case zN => k_asm); (case zl => is_list); (case zlo => omega); (case zhi => omega); (case z => (simp only [List.length_cons, List.length_nil]; omega)); (case ze => exact flat1 _ _)); intro _ _ _ _ l1; (try k_lt l1)))
  (k_with "binaryOp Add ref ref" => (k_here; (with_reducible show wpAny _ _ (binaryOp _ (Value.ref _) (Value.ref _)) _ _ _); k_dflt (refine' kmk_add_lit ?zF ?zN ?za ?zb ?ze ?_ ?z; (case zF => k_asm); (case zN => k_asm); (case za => first | kmk_list | is_list); (case zb => first | kmk_list | is_list); (case ze => exact rfl); (case z => (simp only [sizeLine, List.toList_toArray, List.length_replicate, List.length_nil, List.length_cons]; omega))); intro _ _ _ _ l1; (try k_lt l1)))
  (k_with "getMethod ref" => (k_here; (with_reducible show wpAny _ _ (getMethod (Value.ref _) (Str.ofString "keys") _) _ _ _); k_dflt (refine' dsd_method PySem.F.slot_dict_keys PySem.F.type_dict_keys ?zN ?zm ?zD ?_; (case zN => k_asm); (case zm => k_mem); (case zD => k_asm))))
  (k_with "call builtin:dict.keys" => (k_here; (with_reducible show wpAny _ _ (call (Value.builtin "dict.keys") [Value.ref _]) _ _ _); k_dflt (refine' dsd_keys ?zF ?zN ?zm ?zD ?zlo ?_; (case zF => k_asm); (case zN => k_asm); (case zm => k_mem); (case zD => k_asm); (case zlo => k_asm)); intro _ _ _ _ l1; (try k_lt l1)))
  (k_with "call type:list" => (k_here; (with_reducible show wpAny _ _ (call (Value.type "list") [Value.ref _]) _ _ _); k_dflt (refine' dsd_list ?zh ?zF ?zN ?zv ?zm ?zD ?_; (case zh => exact rfl); (case zF => k_asm); (case zN => k_asm); (case zv => exact List.Mem.head _); (case zm => k_mem); (case zD => k_asm)); intro _ _ _ _ _ _ _ _ _ l1; (try k_lt l1)))
  (k_with "exec For Name Call cons nil" => (k_here; refine stopW ?_))
  (k_with "eval Name" => (k_here; (with_reducible show wpAny _ _ (eval (Expr.Name _ _) (envOfC _ _ _ _ _)) _ _ _); k_dflt (refine' nameX_L ?zF ?zv ?_ ?za ?zb; (case za => rfl); (case zb => rfl); (case zF => k_asm); (case zv => first | rfl | assumption))))
  (k_with "k_ne" => first | (refine' ne_list_dsd ?zN ?zm1 ?zm2 ?zc ?zX; (case zN => k_asm); (case zm1 => k_mem); (case zm2 => k_mem); (case zc => exact rfl); (case zX => k_asm)) | (refine' ne_cls ?zN ?zm1 ?zm2 ?zc; (case zN => k_asm); (case zm1 => k_mem); (case zm2 => k_mem); (case zc => simp [tabObj])) | fail)
  (k_with "call builtin:len" => (k_here; (with_reducible show wpAny _ _ (call (Value.builtin "len") [Value.ref _]) _ _ _); k_dflt (refine' len_ints ?zl ?zi ?zb ?_; (case zl => kmk_list); (case zi => k_asm); (case zb => exact len_filter_le (n := 1000000) (by omega)); k_whole); intro _))
  (k_with "truthy ref" => (k_here; (with_reducible show wpAny _ _ (truthy (Value.ref _)) _ _ _); k_dflt (refine' truthy_ints ?zl ?zi ?zb ?_ ?_; (case zl => kmk_list); (case zi => k_asm); (case zb => exact len_filter_le (n := 1000000) (by omega)); k_whole); intro _))
  (k_with "call ref" => (k_here; (with_reducible show wpAny _ _ (call (Value.ref 139) [Value.ref _, Value.str _ _] []) _ _ _); k_dflt (refine' get_expiry_in ?zB ?zF ?zX ?zN ?zT ?zA ?zhh ?zf ?zk ?zr ?zG ?zm ?zDE ?_; (case zF => k_asm); (case zG => exact Geo.all (by assumption) (Fr.keep (by k_asm))); (case zB => k_asm); (case zX => k_asm); (case zN => k_asm); (case zT => k_asm); (case zA => exact rfl); (case zhh => exact rfl); (case zf => exact rfl); (case zk => exact rfl); (case zr => (show _ ≤ 890; k_extra "k_dp")); (case zm => k_mem); (case zDE => k_asm)); intro _ _ _ _ _ _))
  (k_with "call ref" => (k_here; (with_reducible show wpAny _ _ (call (Value.ref 146) _ _) _ _ _); k_dflt (refine' moving_in ?zB ?zF ?zX ?zN ?zT ?zA ?zhh ?zf ?zk ?zr ?zG ?zlo ?zCH ?zm ?zU ?zDV ?zhT ?zhE ?zhl ?zhs ?_; (case zF => k_asm); (case zG => exact Geo.all (by assumption) (Fr.keep (by k_asm))); (case zB => k_asm); (case zX => k_asm); (case zN => k_asm); (case zT => k_asm); (case zA => exact rfl); (case zhh => exact rfl); (case zf => exact rfl); (case zk => exact rfl); (case zr => (show _ ≤ 880; k_extra "k_dp")); (case zlo => k_asm); (case zCH => k_asm); (case zDV => k_asm); (case zm => k_mem); (case zU => k_updF); (case zhT => exact TabSt.all (by assumption) (Fr.keep (by k_asm))); (case zhE => exact ev_all (by assumption) (Fr.keep (by k_asm))); (case zhl => k_asm); (case zhs => k_asm)); intro _ _ psm Rm stm nm _ _ lsm _ Nm hRm hTm hfm hnm hltm hst0 hst1; (simp only [List.cons_append, List.nil_append] at Nm)))
  (k_with "k_mem" => first | assumption | fail)
  (k_with "subscriptTail" => (k_here; (with_reducible show wpAny _ _ (subscriptTail _ _ (Value.ref _) (Value.int (Nat.cast (_ : Nat)) _)) _ _ _); k_dflt (refine' lst_nat ?zN ?zm ?zx ?zi ?_; (case zN => k_asm); (case zm => k_mem); (case zx => exact three_at (by assumption)); (case zi => assumption))))
  (k_with "binaryOp Mult ref int" => (k_here; (with_reducible show wpAny _ _ (binaryOp Operator.Mult (Value.ref _) (Value.int _ _)) _ _ _); k_dflt (refine' mul_in ?zF ?zN ?zm ?z0 ?z1 ?_; (case zF => k_asm); (case zN => k_asm); (case zm => k_mem); (case z0 => first | assumption | exact (amt3 (by first | exact rfl | assumption) (by assumption)).1 | omega); (case z1 => first | assumption | exact (amt3 (by first | exact rfl | assumption) (by assumption)).2 | omega)); intro _ vsr _ _ _ l1 irep; (try k_lt l1)))
  (k_with "binaryOp Add ref ref" => (k_here; (with_reducible show wpAny _ _ (binaryOp _ (Value.ref _) (Value.ref _)) _ _ _); k_dflt (refine' add_in ?zF ?zN ?za ?zb ?zi ?zj ?zk ?zl ?_; (case zF => k_asm); (case zN => k_asm); (case za => first | kmk_list | is_list); (case zb => first | kmk_list | is_list); (case zi => k_asm); (case zj => k_asm); (case zk => first | exact Nat.le_trans (by assumption) (by decide) | omega); (case zl => (simp only [List.length_replicate]; first | exact Int.toNat_le.mpr (Int.le_trans (by assumption) (by decide)) | exact Int.toNat_le.mpr (Int.le_trans (amt3 (by first | exact rfl | assumption) (by assumption)).2 (by decide)) | omega))); intro _ zsr _ _ _ l1 iadd; (try k_lt l1)))
  (k_with "setItem ref int" => (k_here; (with_reducible show wpAny _ _ (setItem (Value.ref _) (Value.int _ _) (Value.ref _)) _ _ _); k_dflt (refine' set3 ?zF ?zN ?zU ?z3 ?_; (case zF => k_asm); (case zN => k_asm); (case zU => k_updF); (case z3 => assumption)); intro _ _ _))
  (k_with "call builtin:len" => (k_here; (with_reducible show wpAny _ _ (call (Value.builtin "len") [Value.ref _]) _ _ _); k_dflt (refine' len_ints ?zl ?zi ?zb ?_; (case zl => kmk_list); (case zi => k_asm); (case zb => (simp only [List.length_append, List.length_replicate]; first | exact Nat.le_trans (Nat.add_le_add (by assumption) (Int.toNat_le.mpr (amt3 (by first | exact rfl | assumption) (by assumption)).2)) (by decide) | omega)); k_whole); intro _))
  (k_with "subscriptTail" => (k_here; (with_reducible show wpAny _ _ (subscriptTail _ _ (Value.ref _) (Value.int 0 _)) _ _ _); k_dflt (refine' item0 ?zN ?zm ?zi ?ze ?_; (case zN => k_asm); (case zm => k_mem); (case zi => first | assumption | exact .cons _ _ .nil); (case ze => first | assumption | exact List.cons_ne_nil _ _)); intro x0 _ hx0))
  trivial
theorem words_bs : True := by
  (k_with "call ref" => ((with_reducible show wpAny _ _ (call (Value.ref 94) _ []) _ _ _); refine stopW ?_))
  trivial
set_option maxHeartbeats 4000000 in
theorem sweep_br {lo x fk dS dE dV fa : Nat} {t : Int} {oS oE oV : Obj} {ps : Array Value} {gS gE : PySem.Str → Option Int} {gV : PySem.Str → Option Addr} {l : PySem.Str → List (Int × Int)} {dx : Nat} {t1 t2 t3 t4 : Tok} {tl : List (Addr × Obj)} {Q : Flow → Shared → Prop}
    (B : Below A₀ base outer h₀) (F : Fr h₀ L s.heap m) (X₀ : (hd.heap_39 w.params).In h₀) (T₀ : Top p loose mean mg mb h₀)
    (N : News h₀ L s.heap ((dS, oS) :: (dE, oE) :: (dV, oV) :: (89, tabObj ps) :: tl)) (hNd : NodT [dS, dE, dV, 89] tl)
    (hA : A.frames = some (lawEnv L fa :: outer)) (hh : A.handled = none) (hroom : A.depth ≤ 400)
    (mX : (x, instObj 192 dx) ∈ tl) (mXd : (dx, dictOf (storeEs w fk dS dE dV t1 t2 t3 t4) 4) ∈ tl)
    (G : ∀ h', News h₀ L h' tl → Geo w h' lo x fk dS dE dV t) (hlo : 201 ≤ lo) (CH : CodeHd base 93 89) (DS : ISD prog w oS gS) (DE : ISD prog w oE gE) (DV : ASD prog w oV gV)
    (hT : ∀ h', News h₀ L h' tl → TabSt h' dV 38 64 qExp ps) (hEv : ∀ h', News h₀ L h' tl → ∀ k a, gV k = some a → EvAt w h' dV a (l k)) (hl : ∀ k, (l k).length ≤ 1000) (hs : ∀ k (i j : Nat) q r, i < j → (l k)[i]? = some q → (l k)[j]? = some r → r.2 ≤ q.2)
    (a6 : m (PySem.Str.ofString "store") = some (.ref x))
    (hQ : ∀ h' tk' oS' oE' oV' ps' tl' gV', Fr h₀ L h' m → News h₀ L h' (tl' ++ (dS, oS') :: (dE, oE') :: (dV, oV') :: (89, tabObj ps') :: tl) → ExpTab ps ps' tl' → (∀ q ∈ tl', s.heap.get? q.1 = none ∧ @LT.lt Nat instLTNat dV q.1) →
      ISD prog w oS' (fun k => if (gE k).getD (t + 1) ≤ t then none else gS k) → ISD prog w oE' (fun k => if (gE k).getD (t + 1) ≤ t then none else gE k) → ASD prog w oV' gV' → (∀ k, Trimmed s.heap t (l k) tl' (gV k) (gV' k)) → Q .next { s with heap := h', toks := tk' }) : wpAny (model prog w) A (execs (br 4) (lawEnv L fa)) Q E s := by
  obtain ⟨hd9, dp, fr, gs, un⟩ := A
  dsimp only at hA hh hroom
  subst hA
  subst hh
  unfold lawEnv
  conv =>
    pattern (br _)
    whnf
  k_steps
  show wpAny _ _ _ _ _ _
  have Nt : News h₀ L s.heap tl := fun q hq => N q (.tail _ (.tail _ (.tail _ (.tail _ hq))))
  refine expire_in B F X₀ N T₀ rfl rfl rfl rfl (Nat.le_trans hroom (by decide)) (G _ Nt) hlo CH (by k_updF) (fun _ => by k_updF) (fun _ _ => by k_updF) (fun _ _ _ => by k_updF) DS DE DV (hT _ Nt) (hEv _ Nt) hl hs ?_
  intro h' tk' oS' oE' oV' ps' tl' gV' F' N' e1 e2 D1 D2 D3 e3
  k_steps
  exact hQ _ _ _ _ _ _ _ _ (by assumption) N' e1 e2 D1 D2 D3 e3

end BrSweep
section BrAcq
variable {prog : Program} {w : World} {A₀ A : Around} {base h₀ : Heap} {outer : List Env} {env : Env} {L : Addr} {m mg mb : PySem.Str → Option Value}
  {p : Program} {loose : List PySem.Str} {mean : ExcName → Option Value} {s : Shared} {news : List (Addr × Obj)} {E : Value → Shared → Prop}
theorem words_BrAcq : True := by
  k_with_none
  w_top off
  (k_with "k_steps" => repeat' (first | (k_unfold; (try dsimp only)) | (k_end; wrow_close) | (dsimp only; walk1) | walk1 | (leave1; walk_say "STEP leave1"; try dsimp only) | fail "no step"))
  (k_with "k_lt" => first | (intro hlt9; (with_reducible rename NodT _ _ => hNdZ); have hNd2 := nod_new hNdZ hlt9 rfl; replace hlt9 := allLt_of hlt9; simp only [AllLt, and_true] at hlt9; revert hNd2 hlt9; intro _) | (intro hlt9; replace hlt9 := allLt_of hlt9; simp only [AllLt, and_true] at hlt9; revert hlt9) | fail)
  (k_with "k_off1" => first | exact Or.inl (by assumption) | exact Nat.le_refl _ | exact Nat.le_of_lt (by assumption) | exact Or.inr (Nat.le_trans (m := 201) (by decide) (by assumption)) | exact Nat.le_trans (m := 201) (by decide) (by assumption) | omega | fail)
  (k_with "k_offs" => first | (refine List.forall_mem_cons.mpr ⟨?_, ?_⟩; (try dsimp only); (k_extra "k_off1"); (k_extra "k_offs")) | exact (fun _ h => absurd h List.not_mem_nil) | fail)
  (k_with "k_cj" => with_reducible first | assumption | exact And.left (by assumption) | exact And.left (And.right (by assumption)) | exact And.left (And.right (And.right (by assumption))) | exact And.left (And.right (And.right (And.right (by assumption)))) | exact And.left (And.right (And.right (And.right (And.right (by assumption))))) | exact And.left (And.right (And.right (And.right (And.right (And.right (by assumption)))))) | exact And.right (by assumption) | exact And.right (And.right (by assumption)) | exact And.right (And.right (And.right (by assumption))) | exact And.right (And.right (And.right (And.right (by assumption)))) | exact And.right (And.right (And.right (And.right (And.right (by assumption))))) | fail)
  (k_with "k_dp" => first | exact Nat.le_trans (by assumption) (by decide) | exact Nat.le_trans (Nat.succ_le_succ (by assumption)) (by decide) | exact Nat.lt_of_le_of_lt (by assumption) (by decide) | exact Nat.lt_of_le_of_lt (Nat.succ_le_succ (by assumption)) (by decide) | exact Nat.le_trans (Nat.succ_le_succ (Nat.succ_le_succ (by assumption))) (by decide) | exact Nat.lt_of_le_of_lt (Nat.succ_le_succ (Nat.succ_le_succ (by assumption))) (by decide) | (simp only [depth_mark, depth_under_make, depth_under_kw, depth_in1, depth_deeper]; omega) | fail)
  (k_with "k_mem" => first | exact AtU.head | (apply AtU.tail; k_mem) | (refine' PairIn.head ?_; k_mem) | (refine' PairIn.tail ?_; k_mem) | fail)
  (k_with "k_ne" => first | (refine' ne_d1 ?zH ?zP; (case zH => assumption); (case zP => k_mem)) | (refine' ne_d2 ?zH ?zP; (case zH => assumption); (case zP => k_mem)) | exact Nat.ne_of_gt (by (try dsimp only); k_extra "k_cj") | exact Nat.ne_of_lt (by (try dsimp only); k_extra "k_cj") | (refine neN ?_; (try dsimp only); omega) | fail)
  (k_with "k_updF" => first | (refine' updF_at ?zA ?zH ?ze ?zm; (case zA => k_mem); (case zH => assumption); (case ze => rfl); (case zm => k_mem)) | (refine' UpdF.head ?za; (case za => k_all)) | (refine' UpdF.tail ?za ?zb; (case za => k_ne); (case zb => k_updF)) | fail)
  (k_with "k_inst" => first | (refine' instH ?zF ?zI; (case zF => k_asm); (case zI => assumption)) | fail)
  (k_with "k_room" => first | (show _ < 1000; k_extra "k_dp") | fail)
  (k_with "is_list" => first | (refine' listH ?zF ?zI; (case zF => k_asm); (case zI => assumption)) | fail)
  (k_with "call ref" => (k_here; (with_reducible show wpAny _ _ (call (Value.ref _) [] []) _ _ _); k_dflt (refine' clock_in ?zF ?zX ?zN ?zT ?zr ?zC ?_; (case zF => k_asm); (case zC => assumption); (case zX => k_asm); (case zN => k_asm); (case zT => k_asm); (case zr => k_room)); intro _ _ _ _ _ _))
  (k_with "getMethod ref" => (k_here; (with_reducible show wpAny _ _ (getMethod (Value.ref _) (Str.ofString "get") _) _ _ _); k_dflt (refine' dsd_method PySem.F.slot_dict_get PySem.F.type_dict_get ?zN ?zm ?zD ?_; (case zN => k_asm); (case zm => k_mem); (case zD => k_asm))))
  (k_with "getMethod ref" => (k_here; (with_reducible show wpAny _ _ (getMethod (Value.ref _) (Str.ofString "pop") _) _ _ _); k_dflt (refine' dsd_method PySem.F.slot_dict_pop PySem.F.type_dict_pop ?zN ?zm ?zD ?_; (case zN => k_asm); (case zm => k_mem); (case zD => k_asm))))
  (k_with "getMethod ref" => (k_here; (with_reducible show wpAny _ _ (getMethod (Value.ref _) (Str.ofString "setdefault") _) _ _ _); k_dflt (refine' dsd_method PySem.F.slot_dict_setdefault PySem.F.type_dict_setdefault ?zN ?zm ?zD ?_; (case zN => k_asm); (case zm => k_mem); (case zD => k_asm))))
  (k_with "getMethod ref" => (k_here; (with_reducible show wpAny _ _ (getMethod (Value.ref _) (Str.ofString "clear") _) _ _ _); k_dflt (refine' dsd_method PySem.F.slot_dict_clear PySem.F.type_dict_clear ?zN ?zm ?zD ?_; (case zN => k_asm); (case zm => k_mem); (case zD => k_asm))))
  (k_with "getMethod ref" => (k_here; (with_reducible show wpAny _ _ (getMethod (Value.ref _) (Str.ofString "clock") _) _ _ _); k_dflt (refine' kmu_own ?zk1 ?zk2 ?zk3 ?zk4 ?zk5 ?_; (case zk1 => k_asm); (case zk2 => k_asm); (case zk3 => k_inst); (case zk4 => k_is); (case zk5 => k_is); k_whole)))
  (k_with "getAttr ref" => (k_here; k_dflt (refine' get_own ?zk1 ?zk2 ?zk3 ?zk4 ?zk5 ?zk6 ?zk7 ?zk8 ?zk9 ?_; (case zk1 => k_asm); (case zk2 => k_asm); (case zk3 => k_inst); (case zk4 => k_is); (case zk5 => k_is); (case zk6 => k_is); (case zk7 => k_is); (case zk8 => k_get); (case zk9 => k_handed); k_whole)))
  (k_with "call builtin:dict.get" => (k_here; k_dflt (refine' dsd_get ?zN ?zm ?zD ?zlo ?_; (case zN => k_asm); (case zm => k_mem); (case zD => k_asm); (case zlo => k_asm)); intro _ _))
  (k_with "call builtin:dict.get" => (k_here; (with_reducible show wpAny _ _ (call (Value.builtin _) [Value.ref _, Value.str _ _, Value.int _ _]) _ _ _); k_dflt (refine' isd_get ?zN ?zm ?zD ?zlo ?_; (case zN => k_asm); (case zm => k_mem); (case zD => k_asm); (case zlo => k_asm)); intro _))
  (k_with "call builtin:dict.pop" => (k_here; k_dflt (refine' dsd_pop ?zF ?zN ?zU ?zD ?zlo ?_; (case zF => k_asm); (case zN => k_asm); (case zU => k_updF); (case zD => k_asm); (case zlo => k_asm)); intro _ _ _ _ _ _ _))
  (k_with "call builtin:dict.clear" => (k_here; k_dflt (refine' dsd_clear ?zF ?zN ?zU ?zD ?_; (case zF => k_asm); (case zN => k_asm); (case zU => k_updF); (case zD => k_asm)); intro _ _ _ _ _))
  (k_with "call builtin:len" => (k_here; (with_reducible show wpAny _ _ (call (Value.builtin "len") [Value.ref _]) _ _ _); k_dflt (refine' dsd_len_call ?zN ?zm ?zD ?zlo ?_; (case zN => k_asm); (case zm => k_mem); (case zD => k_asm); (case zlo => k_asm)); intro _ _))
  (k_with "callWith ref" => (k_here; (with_reducible show wpAny _ _ (callWith _ _ _ (backTo _ (starEach [] _)) []) _ _ _); k_dflt (refine' callWith_F0 ?zk1 ?_; (case zk1 => exact fnClock (by k_asm) (by assumption)); k_whole); (try dsimp only [List.nil_append, List.cons_append])))
  (k_with "setItem ref str" => (k_here; k_dflt (refine' dsd_set ?zF ?zN ?zU ?zD ?zk ?zx ?_; (case zF => k_asm); (case zN => k_asm); (case zU => k_updF); (case zD => k_asm); (case zk => k_asm); (case zx => first | exact ⟨_, rfl⟩ | exact rfl)); intro _ _ _ _ _))
  (k_with "subscriptTail" => (k_here; (with_reducible show wpAny _ _ (subscriptTail _ _ (Value.ref _) (Value.str _ _)) _ _ _); k_dflt (refine' isd_item ?zN ?zm ?zD ?zx ?_; (case zN => k_asm); (case zm => k_mem); (case zD => k_asm); (case zx => first | exact upd_self _ _ _ | assumption)); intro _))
  (k_with "eval Name" => (k_here; k_dflt (refine' nameX_L ?zF ?zv ?_ ?za ?zb; (case za => rfl); (case zb => rfl); (case zF => k_asm); (case zv => first | rfl | assumption); k_whole)))
  (k_with "call builtin:len" => (k_here; (with_reducible show wpAny _ _ (call (Value.builtin "len") [Value.ref _]) _ _ _); k_dflt (refine' len_lst ?zl ?zn ?zb ?_; (case zl => is_list); (case zn => assumption); (case zb => omega); k_whole); intro _))
  (k_with "exec While Compare cons nil" => (k_here; refine stopW ?_))
  (k_with "subscriptTail" => (k_here; (with_reducible show wpAny _ _ (subscriptTail _ _ (Value.ref _) (Value.str _ _)) _ _ _); k_dflt (refine' asd_item ?zN ?zm ?zD ?zx ?_; (case zN => k_asm); (case zm => k_mem); (case zD => k_asm); (case zx => first | exact upd_self _ _ _ | assumption))))
  (k_with "call ref" => (k_here; (with_reducible show wpAny _ _ (call (Value.ref 117) [Value.ref _, Value.str _ _] []) _ _ _); k_dflt (refine' get_in ?zB ?zF ?zX ?zN ?zT ?zA ?zhh ?zf ?zk ?zr ?zG ?zU1 ?zU2 ?zDS ?zDE ?_; (case zF => k_asm); (case zG => exact Geo.all (by assumption) (Fr.keep (by k_asm))); (case zB => k_asm); (case zX => k_asm); (case zN => k_asm); (case zT => k_asm); (case zA => exact rfl); (case zhh => exact rfl); (case zf => exact rfl); (case zk => exact rfl); (case zr => (show _ ≤ 900; k_extra "k_dp")); (case zU1 => k_updF); (case zU2 => (intro _; (try dsimp only); k_updF)); (case zDS => k_asm); (case zDE => k_asm)); intro _ _ _ _ _ _ _ _ _ _))
  (k_with "callWith ref" => (k_here; k_dflt (refine' callWith_F ?zk1 ?_; (case zk1 => exact NegAt.fn (NegAt.keeps (by assumption) (Fr.keep (by k_asm)))); k_whole)))
  (k_with "call ref" => (k_here; (with_reducible show wpAny _ _ (call (Value.ref 52) _ _) _ _ _); refine stopW ?_))
  (k_with "call builtin:dict.setdefault" => (k_here; refine stopW ?_))
  (k_with "eval Lambda" => (k_here; k_dflt (refine' lam_in ?zF ?zN ?zT ?zC ?zcd ?zU ?zhps ?zhsub ?zcl ?zdf ?_; (case zF => k_asm); (case zN => k_asm); (case zT => k_asm); (case zcd => exact rfl); (case zC => kn_code); (case zU => k_updF); (case zhps => assumption); (case zhsub => (intro _ hq; first | (exact absurd hq List.not_mem_nil) | (repeat (first | exact hq | refine List.Mem.tail _ ?_)))); (case zcl => exact rfl); (case zdf => exact rfl); k_whole); intro fl cl ct psl lsl hpl tkl Fl Nl hfl hrl hnt ltl; (simp only [List.cons_append, List.nil_append] at Nl)))
  (k_with "call ref" => (k_here; (with_reducible show wpAny _ _ (call (Value.ref 69) _ _) _ _ _); k_dflt (refine' entry_in ?zF ?zX ?zN ?zT ?zr ?_; (case zF => k_asm); (case zX => k_asm); (case zN => k_asm); (case zT => k_asm); (case zr => (show _ ≤ 890; k_extra "k_dp"))); intro r9 d9 _ _ _ _ _ _ _ _ l1 l2; (try k_lt l1); (replace l2 : @LT.lt Nat instLTNat d9 r9 := l2)))
  (k_with "binaryOp Mult ref int" => (k_here; (with_reducible show wpAny _ _ (binaryOp Operator.Mult (Value.ref _) (Value.int _ _)) _ _ _); k_dflt (refine' KMa.mul ?zF ?zN ?zl ?zlo ?zhi ?z ?ze ?_; (case zF => k_asm); (case zN => k_asm); (case zl => is_list); (case zlo => omega); (case zhi => omega); (case z => (simp only [List.length_cons, List.length_nil]; omega)); (case ze => exact flat1 _ _)); intro _ _ _ _ l1; (try k_lt l1)))
  (k_with "binaryOp Add ref ref" => (k_here; (with_reducible show wpAny _ _ (binaryOp _ (Value.ref _) (Value.ref _)) _ _ _); k_dflt (refine' kmk_add_lit ?zF ?zN ?za ?zb ?ze ?_ ?z; (case zF => k_asm); (case zN => k_asm); (case za => first | kmk_list | is_list); (case zb => first | kmk_list | is_list); (case ze => exact rfl); (case z => (simp only [sizeLine, List.toList_toArray, List.length_replicate, List.length_nil, List.length_cons]; omega))); intro _ _ _ _ l1; (try k_lt l1)))
  (k_with "getMethod ref" => (k_here; (with_reducible show wpAny _ _ (getMethod (Value.ref _) (Str.ofString "keys") _) _ _ _); k_dflt (refine' dsd_method PySem.F.slot_dict_keys PySem.F.type_dict_keys ?zN ?zm ?zD ?_; (case zN => k_asm); (case zm => k_mem); (case zD => k_asm))))
  (k_with "call builtin:dict.keys" => (k_here; (with_reducible show wpAny _ _ (call (Value.builtin "dict.keys") [Value.ref _]) _ _ _); k_dflt (refine' dsd_keys ?zF ?zN ?zm ?zD ?zlo ?_; (case zF => k_asm); (case zN => k_asm); (case zm => k_mem); (case zD => k_asm); (case zlo => k_asm)); intro _ _ _ _ l1; (try k_lt l1)))
  (k_with "call type:list" => (k_here; (with_reducible show wpAny _ _ (call (Value.type "list") [Value.ref _]) _ _ _); k_dflt (refine' dsd_list ?zh ?zF ?zN ?zv ?zm ?zD ?_; (case zh => exact rfl); (case zF => k_asm); (case zN => k_asm); (case zv => exact List.Mem.head _); (case zm => k_mem); (case zD => k_asm)); intro _ _ _ _ _ _ _ _ _ l1; (try k_lt l1)))
  (k_with "exec For Name Call cons nil" => (k_here; refine stopW ?_))
  (k_with "eval Name" => (k_here; (with_reducible show wpAny _ _ (eval (Expr.Name _ _) (envOfC _ _ _ _ _)) _ _ _); k_dflt (refine' nameX_L ?zF ?zv ?_ ?za ?zb; (case za => rfl); (case zb => rfl); (case zF => k_asm); (case zv => first | rfl | assumption))))
  (k_with "k_ne" => first | (refine' ne_list_dsd ?zN ?zm1 ?zm2 ?zc ?zX; (case zN => k_asm); (case zm1 => k_mem); (case zm2 => k_mem); (case zc => exact rfl); (case zX => k_asm)) | (refine' ne_cls ?zN ?zm1 ?zm2 ?zc; (case zN => k_asm); (case zm1 => k_mem); (case zm2 => k_mem); (case zc => simp [tabObj])) | fail)
  (k_with "call builtin:len" => (k_here; (with_reducible show wpAny _ _ (call (Value.builtin "len") [Value.ref _]) _ _ _); k_dflt (refine' len_ints ?zl ?zi ?zb ?_; (case zl => kmk_list); (case zi => k_asm); (case zb => exact len_filter_le (n := 1000000) (by omega)); k_whole); intro _))
  (k_with "truthy ref" => (k_here; (with_reducible show wpAny _ _ (truthy (Value.ref _)) _ _ _); k_dflt (refine' truthy_ints ?zl ?zi ?zb ?_ ?_; (case zl => kmk_list); (case zi => k_asm); (case zb => exact len_filter_le (n := 1000000) (by omega)); k_whole); intro _))
  (k_with "call ref" => (k_here; (with_reducible show wpAny _ _ (call (Value.ref 139) [Value.ref _, Value.str _ _] []) _ _ _); k_dflt (refine' get_expiry_in ?zB ?zF ?zX ?zN ?zT ?zA ?zhh ?zf ?zk ?zr ?zG ?zm ?zDE ?_; (case zF => k_asm); (case zG => exact Geo.all (by assumption) (Fr.keep (by k_asm))); (case zB => k_asm); (case zX => k_asm); (case zN => k_asm); (case zT => k_asm); (case zA => exact rfl); (case zhh => exact rfl); (case zf => exact rfl); (case zk => exact rfl); (case zr => (show _ ≤ 890; k_extra "k_dp")); (case zm => k_mem); (case zDE => k_asm)); intro _ _ _ _ _ _))
  (k_with "call ref" => (k_here; (with_reducible show wpAny _ _ (call (Value.ref 146) _ _) _ _ _); k_dflt (refine' moving_in ?zB ?zF ?zX ?zN ?zT ?zA ?zhh ?zf ?zk ?zr ?zG ?zlo ?zCH ?zm ?zU ?zDV ?zhT ?zhE ?zhl ?zhs ?_; (case zF => k_asm); (case zG => exact Geo.all (by assumption) (Fr.keep (by k_asm))); (case zB => k_asm); (case zX => k_asm); (case zN => k_asm); (case zT => k_asm); (case zA => exact rfl); (case zhh => exact rfl); (case zf => exact rfl); (case zk => exact rfl); (case zr => (show _ ≤ 880; k_extra "k_dp")); (case zlo => k_asm); (case zCH => k_asm); (case zDV => k_asm); (case zm => k_mem); (case zU => k_updF); (case zhT => exact TabSt.all (by assumption) (Fr.keep (by k_asm))); (case zhE => exact ev_all (by assumption) (Fr.keep (by k_asm))); (case zhl => k_asm); (case zhs => k_asm)); intro _ _ psm Rm stm nm _ _ lsm _ Nm hRm hTm hfm hnm hltm hst0 hst1; (simp only [List.cons_append, List.nil_append] at Nm)))
  (k_with "k_mem" => first | assumption | fail)
  (k_with "subscriptTail" => (k_here; (with_reducible show wpAny _ _ (subscriptTail _ _ (Value.ref _) (Value.int (Nat.cast (_ : Nat)) _)) _ _ _); k_dflt (refine' lst_nat ?zN ?zm ?zx ?zi ?_; (case zN => k_asm); (case zm => k_mem); (case zx => exact three_at (by assumption)); (case zi => assumption))))
  (k_with "binaryOp Mult ref int" => (k_here; (with_reducible show wpAny _ _ (binaryOp Operator.Mult (Value.ref _) (Value.int _ _)) _ _ _); k_dflt (refine' mul_in ?zF ?zN ?zm ?z0 ?z1 ?_; (case zF => k_asm); (case zN => k_asm); (case zm => k_mem); (case z0 => first | assumption | exact (amt3 (by first | exact rfl | assumption) (by assumption)).1 | omega); (case z1 => first | assumption | exact (amt3 (by first | exact rfl | assumption) (by assumption)).2 | omega)); intro _ vsr _ _ _ l1 irep; (try k_lt l1)))
  (k_with "binaryOp Add ref ref" => (k_here; (with_reducible show wpAny _ _ (binaryOp _ (Value.ref _) (Value.ref _)) _ _ _); k_dflt (refine' add_in ?zF ?zN ?za ?zb ?zi ?zj ?zk ?zl ?_; (case zF => k_asm); (case zN => k_asm); (case za => first | kmk_list | is_list); (case zb => first | kmk_list | is_list); (case zi => k_asm); (case zj => k_asm); (case zk => first | exact Nat.le_trans (by assumption) (by decide) | omega); (case zl => (simp only [List.length_replicate]; first | exact Int.toNat_le.mpr (Int.le_trans (by assumption) (by decide)) | exact Int.toNat_le.mpr (Int.le_trans (amt3 (by first | exact rfl | assumption) (by assumption)).2 (by decide)) | omega))); intro _ zsr _ _ _ l1 iadd; (try k_lt l1)))
  (k_with "setItem ref int" => (k_here; (with_reducible show wpAny _ _ (setItem (Value.ref _) (Value.int _ _) (Value.ref _)) _ _ _); k_dflt (refine' set3 ?zF ?zN ?zU ?z3 ?_; (case zF => k_asm); (case zN => k_asm); (case zU => k_updF); (case z3 => assumption)); intro _ _ _))
  (k_with "call builtin:len" => (k_here; (with_reducible show wpAny _ _ (call (Value.builtin "len") [Value.ref _]) _ _ _); k_dflt (refine' len_ints ?zl ?zi ?zb ?_; (case zl => kmk_list); (case zi => k_asm); (case zb => (simp only [List.length_append, List.length_replicate]; first | exact Nat.le_trans (Nat.add_le_add (by assumption) (Int.toNat_le.mpr (amt3 (by first | exact rfl | assumption) (by assumption)).2)) (by decide) | omega)); k_whole); intro _))
  (k_with "subscriptTail" => (k_here; (with_reducible show wpAny _ _ (subscriptTail _ _ (Value.ref _) (Value.int 0 _)) _ _ _); k_dflt (refine' item0 ?zN ?zm ?zi ?ze ?_; (case zN => k_asm); (case zm => k_mem); (case zi => first | assumption | exact .cons _ _ .nil); (case ze => first | assumption | exact List.cons_ne_nil _ _)); intro x0 _ hx0))
  (k_with "subscriptTail" => (k_here; (with_reducible show wpAny _ _ (subscriptTail _ _ (Value.ref _) (Value.int 0 _)) _ _ _); k_dflt (refine' item_one ?zN ?zm ?_; (case zN => k_asm); (case zm => k_mem))))
  (k_with "storeName" => (k_here; (with_reducible show wpAny _ _ (storeName (envOfC _ _ _ _ _) _ _) _ _ _); k_dflt (first | (refine' store_int ?zF ?zN ?_ ?za ?zb; (case za => rfl); (case zb => rfl); (case zF => k_asm); (case zN => k_asm); intro _ _ _ _ hve _ _) | (refine' store_any ?zF ?zN ?_ ?za ?zb; (case za => rfl); (case zb => rfl); (case zF => k_asm); (case zN => k_asm); intro _ _ _ _))))
  trivial
theorem words_ba : True := by
  (k_with "call ref" => ((with_reducible show wpAny _ _ (call (Value.ref 132) _ []) _ _ _); refine stopW ?_))
  (k_with "exec If" => (with_reducible show wpAny _ _ (exec (Stmt.If _ _ _ { line := 165, col := _, endLine := _, endCol := _ }) _) _ _ _); (fail_if_success (with_reducible show wpAny _ _ _ (CutQ _) _ _)); refine stopW ?_)
  (k_with "call builtin:len" => (k_here; (with_reducible show wpAny _ _ (call (Value.builtin "len") [Value.ref _]) _ _ _); k_dflt (refine' len_comp ?zl ?zc ?zb ?_; (case zl => assumption); (case zc => assumption); (case zb => exact Nat.le_trans (List.length_filter_le _ _) (by omega)); k_whole); intro _))
  (k_with "execs cons" => (with_reducible show wpAny _ _ (execs (Stmt.Assign _ _ { line := 168, col := _, endLine := _, endCol := _ } :: _) _) _ _ _); (fail_if_success (have := hGo)); refine stopW ?_)
  trivial
theorem lim6 {i a : Int} (e : i = 1 + a) (h : 0 ≤ a ∧ a < 6) : i ≤ 6 ∧ 0 < i + 1 := by omega
theorem fit_no {c : Nat} {am lim : Int} (h : am > lim) (h2 : (c : Int) + am ≤ lim) : False := Int.not_le.mpr h (Int.le_trans (Int.le_add_of_nonneg_left (Int.natCast_nonneg c)) h2)
theorem fit_a {i1 i3 am : Int} {c : Nat} (e : i1 = c) (hgt : am > i3) (h : i1 + am ≤ i3) : False := by subst e; exact fit_no hgt h
theorem fit_b {i1 i2 i3 am : Int} {c d : Nat} (e : i1 = c) (e2 : i2 = d) (h1 : i1 + am ≤ i3 ↔ i1 + i2 + am ≤ i3) (h2 : i3 < c + d + am) : ¬ (i1 + am ≤ i3) := by
  subst e e2
  exact fun q => Int.not_le.mpr h2 (h1.mp q)
theorem fit_c {i1 i3 am : Int} {c : Nat} (e : i1 = c) (h : ¬ (i1 + am ≤ i3)) (h2 : (c : Int) + am ≤ i3) : False := by subst e; exact h h2
set_option maxHeartbeats 8000000 in
theorem acquire_br {lo x fk dS dE dV fa nw U : Nat} {t num cd : Int} {tk tnum tcd twh tkey tw : Tok} {c cU wh : Nat} {oV oC oW : Obj} {aU : Nat → Addr} {vsU : List Value} {cUU : Nat} {uns : List Int} {gV : PySem.Str → Option Addr} {l : List (Int × Int)} {dx : Nat} {t1 t2 t3 t4 : Tok} {tl : List (Addr × Obj)} {Q : Flow → Shared → Prop}
    (F : Fr h₀ L s.heap m) (X₀ : (hd.heap_39 w.params).In h₀) (T₀ : Top p loose mean mg mb h₀)
    (N : News h₀ L s.heap ((dV, oV) :: (U, W.listOf #[.ref (aU 0), .ref (aU 1), .ref (aU 2)] cU) :: tl)) (hNd : NodT [dV, U] tl)
    (hA : A.frames = some [lawEnv L fa]) (hh : A.handled = none) (hroom : A.depth ≤ 400)
    (ti2 : PySem.Str.ofString "IndexError" ∉ loose) (ti3 : PySem.Str.ofString "IndexError" ∉ (recsOf p).map (·.name)) (ti4 : PySem.Str.ofString "IndexError" ∉ (litsOf p).map (·.1)) (ti5 : PySem.Str.ofString "IndexError" ∉ (clssOf p loose).map (·.name))
    (mX : (x, instObj 192 dx) ∈ tl) (mXd : (dx, dictOf (storeEs w fk dS dE dV t1 t2 t3 t4) 4) ∈ tl)
    (G : ∀ h', News h₀ L h' tl → Geo w h' lo x fk dS dE dV t) (hlo : (L : Nat) ≤ lo) (DV : ASD prog w oV gV) (hwh : wh < 3) (hk : keyOf wh ∈ KL)
    (hEv : ∀ h', News h₀ L h' tl → match gV (keyOf wh) with | none => l = [] | some a => EvAt w h' dV a l) (hl : l.length ≤ 1000)
    (mN : (nw, W.listOf #[.int t tk] c) ∈ tl) (mC : (L + 1 + 1, oC) ∈ tl) (dC : oC.data = .cell (some (.ref nw))) (mW : (L + 1, oW) ∈ tl) (dW : oW.data = .cell (some (.int (winOf wh) tw))) (mU : (aU wh, W.listOf vsU.toArray cUU) ∈ tl) (iU : IntsAre vsU uns) (lU : uns.length ≤ 200)
    (hM1 : ∀ (am lim : Int) (q : Int × Int), 0 < am → am ≤ lim → l[(lim - am).toNat]? = some q → t - winOf wh ≤ q.1 → lim < (uns.filter fun u => decide (t - u < winOf wh)).length + (uns.filter fun u => t - u == winOf wh).length + am)
    (hM2 : ∀ (am lim : Int), 0 < am → am ≤ lim → (∀ q : Int × Int, l[(lim - am).toNat]? = some q → q.1 < t - winOf wh) → (uns.filter fun u => decide (t - u < winOf wh)).length + am ≤ lim)
    (a1 : m (PySem.Str.ofString "number") = some (.int num tnum)) (a2 : m (PySem.Str.ofString "code") = some (.int cd tcd)) (a3 : m (PySem.Str.ofString "who") = some (.int wh twh)) (a4 : m (PySem.Str.ofString "key") = some (.str (keyOf wh) tkey)) (a6 : m (PySem.Str.ofString "store") = some (.ref x)) (a8 : m (PySem.Str.ofString "units") = some (.ref U))
    (hQ0 : ∀ h' tk' m' oV', Fr h₀ L h' m' → News h₀ L h' ((dV, oV') :: (U, W.listOf #[.ref (aU 0), .ref (aU 1), .ref (aU 2)] cU) :: tl) → ASD prog w oV' gV → (∀ y, y ∈ kept8 → m' y = m y) → Q .next { s with heap := h', toks := tk' })
    (hQ1 : ∀ h' tk' m' oV' (a' r d D3 : Nat) vs zs n (am : Int) u1 u2 u3 u4 h9, 0 < am → am ≤ 6 → Fr h₀ L h' m' → News h₀ L h' ((D3, W.listOf zs.toArray 0) :: (a', W.listOf (List.replicate am.toNat (.ref r) ++ vs).toArray n) :: (r, instObj 69 d) :: (d, dictOf (entryEs w t (t + winOf wh) u1 u2 u3 u4) 2) :: (dV, oV') :: (U, W.listOf #[.ref (setAt aU wh D3 0), .ref (setAt aU wh D3 1), .ref (setAt aU wh D3 2)] cU) :: tl) →
      NodT [D3, a', r, d, dV, U] tl → ASD prog w oV' (upd gV (keyOf wh) (some a')) → dV < a' → dV < r → dV < d → IntsAre zs (uns ++ List.replicate am.toNat t) → News h₀ L h9 tl → (match gV (keyOf wh) with | none => vs = [] | some a => h9.IsList a vs.toArray) → (∀ y, y ∈ kept8 → m' y = m y) → Q .next { s with heap := h', toks := tk' }) : wpAny (model prog w) A (execs (br 2) (lawEnv L fa)) Q E s := by
  obtain ⟨hd9, dp, fr, gs, un⟩ := A
  dsimp only at hA hh hroom
  subst hA
  subst hh
  unfold lawEnv
  conv =>
    pattern (br _)
    whnf
  have b6 : 0 ≤ cd.fmod 6 ∧ cd.fmod 6 < 6 := fm_in (by decide)
  have e9 : (0 : Int) < 10 ^ Int.toNat 9 := by decide
  k_steps
  show wpAny _ _ _ _ _ _
  refine cut_name (k := PySem.Str.ofString "amount") (fun am => 0 < am) (by k_asm) (by k_asm) ?_ ?_
  · k_steps
    · refine ⟨rfl, _, _, _, _, ?_, rfl, fr_again (by assumption), by assumption⟩
      show 0 < _
      omega
    · refine ⟨rfl, _, _, _, _, ?_, rfl, by assumption, by assumption⟩
      exact pos_am (by assumption) (by first | exact (lim6 (by assumption) b6).2 | omega)
  intro am uam h8 tk8 ham F8 N8
  have hIs := isl_of N8 (by k_mem : (aU wh, W.listOf vsU.toArray cUU) ∈ _)
  show wpAny _ _ _ _ _ _
  k_steps
  all_goals (try (first | exact PySem.Str.ofString "" | exact Value.none | exact (0 : Nat)))
  show wpAny _ _ _ _ _ _
  rename News _ _ _ _ => N9
  have hIs9 := isl_of N9 (by k_mem : (aU wh, W.listOf vsU.toArray cUU) ∈ _)
  have hGo := trivial
  rename NewPlain _ _ _ _ => hNP
  rename CarriedAll _ _ => hCA
  clear hNP hCA
  k_steps
  all_goals (try (first | exact PySem.Str.ofString "" | exact Value.none | exact (0 : Nat)))
  · show wpAny _ _ _ _ _ _
    rename Fr _ _ _ _ => F9
    rename News _ _ _ _ => N9
    have Nt : News h₀ L _ tl := fun q hq => N9 q (.tail _ (.tail _ hq))
    have Nt0 := And.intro Nt trivial
    rename (_ == _) = true => hfit
    refine acquire_in F9 X₀ N9 T₀ rfl rfl rfl rfl (Nat.le_trans hroom (by decide)) ti2 ti3 ti4 ti5 (G _ Nt) hlo (by k_updF) hk DV ham (lim6 (by assumption) b6).1 (hEv _ Nt) hl ?_ ?_ ?_
    · intro hgt h' tk' F' N'
      k_steps
      · rename (false != _) = true => hx
        exact (fit_a (by assumption) hgt (bx1 hx)).elim
      · refine hQ0 _ _ _ _ (by assumption) (by assumption) DV ?_
        exact keep8 rfl rfl rfl rfl rfl rfl rfl rfl
    · intro q hle hq hge h' tk' oV' F' N' D'
      have hnf := fit_b (by assumption) (by assumption) (bx3 hfit) (hM1 _ _ q ham hle hq hge)
      k_steps
      · rename (false != _) = true => hx
        exact (hnf (bx1 hx)).elim
      · refine hQ0 _ _ _ _ (by assumption) (by assumption) D' ?_
        exact keep8 rfl rfl rfl rfl rfl rfl rfl rfl
    · intro hle hq h' tk' oV' a' r d vs n u1 u2 u3 u4 F' N' D' q1 q2 q3 n1 n2 n3 hvs
      have hm2 := hM2 _ _ ham hle hq
      have ham0 := Int.le_of_lt ham
      have ham1 : am ≤ 100 := Int.le_trans hle (Int.le_trans (lim6 (by assumption) b6).1 (by decide))
      have hNn := nod_fresh3 hNd N9 (fun _ h => h) n1 n2 n3 (ne_cls N' (.head _) (.tail _ (.head _)) (by simp)) (ne_cls N' (.head _) (.tail _ (.tail _ (.head _))) (by simp)) (ne_cls N' (.tail _ (.head _)) (.tail _ (.tail _ (.head _))) (by simp))
      k_steps
      · rename (true != _) = true => hx
        exact (fit_c (by assumption) (bx2 hx) hm2).elim
      · rename NodT _ _ => hNd9
        rename News _ _ _ _ => N7
        refine hQ1 _ _ _ _ _ _ _ _ _ _ _ am _ _ _ _ _ ham (Int.le_trans hle (lim6 (by assumption) b6).1) (by assumption) (news_drop (news_drop N7)) (nod_drop (nod_drop hNd9)) D' q1 q2 q3 iadd Nt0.1 hvs ?_
        exact keep8 rfl rfl rfl rfl rfl rfl rfl rfl
  · refine hQ0 _ _ _ _ (by assumption) (by assumption) DV ?_
    exact keep8 rfl rfl rfl rfl rfl rfl rfl rfl

end BrAcq
section PlainC
variable {prog : Program} {w : World} {A₀ A : Around} {base h₀ : Heap} {outer : List Env} {env : Env} {L : Addr} {m mg mb : PySem.Str → Option Value}
  {p : Program} {loose : List PySem.Str} {mean : ExcName → Option Value} {s : Shared} {news : List (Addr × Obj)} {E : Value → Shared → Prop}
theorem words_PlainC : True := by
  k_with_none
  w_top off
  (k_with "k_steps" => repeat' (first | (k_unfold; (try dsimp only)) | (k_end; wrow_close) | (dsimp only; walk1) | walk1 | (leave1; walk_say "STEP leave1"; try dsimp only) | fail "no step"))
  (k_with "k_lt" => first | (intro hlt9; (with_reducible rename NodT _ _ => hNdZ); have hNd2 := nod_new hNdZ hlt9 rfl; replace hlt9 := allLt_of hlt9; simp only [AllLt, and_true] at hlt9; revert hNd2 hlt9; intro _) | (intro hlt9; replace hlt9 := allLt_of hlt9; simp only [AllLt, and_true] at hlt9; revert hlt9) | fail)
  (k_with "k_off1" => first | exact Or.inl (by assumption) | exact Nat.le_refl _ | exact Nat.le_of_lt (by assumption) | exact Or.inr (Nat.le_trans (m := 201) (by decide) (by assumption)) | exact Nat.le_trans (m := 201) (by decide) (by assumption) | omega | fail)
  (k_with "k_offs" => first | (refine List.forall_mem_cons.mpr ⟨?_, ?_⟩; (try dsimp only); (k_extra "k_off1"); (k_extra "k_offs")) | exact (fun _ h => absurd h List.not_mem_nil) | fail)
  (k_with "k_cj" => with_reducible first | assumption | exact And.left (by assumption) | exact And.left (And.right (by assumption)) | exact And.left (And.right (And.right (by assumption))) | exact And.left (And.right (And.right (And.right (by assumption)))) | exact And.left (And.right (And.right (And.right (And.right (by assumption))))) | exact And.left (And.right (And.right (And.right (And.right (And.right (by assumption)))))) | exact And.right (by assumption) | exact And.right (And.right (by assumption)) | exact And.right (And.right (And.right (by assumption))) | exact And.right (And.right (And.right (And.right (by assumption)))) | exact And.right (And.right (And.right (And.right (And.right (by assumption))))) | fail)
  (k_with "k_dp" => first | exact Nat.le_trans (by assumption) (by decide) | exact Nat.le_trans (Nat.succ_le_succ (by assumption)) (by decide) | exact Nat.lt_of_le_of_lt (by assumption) (by decide) | exact Nat.lt_of_le_of_lt (Nat.succ_le_succ (by assumption)) (by decide) | exact Nat.le_trans (Nat.succ_le_succ (Nat.succ_le_succ (by assumption))) (by decide) | exact Nat.lt_of_le_of_lt (Nat.succ_le_succ (Nat.succ_le_succ (by assumption))) (by decide) | (simp only [depth_mark, depth_under_make, depth_under_kw, depth_in1, depth_deeper]; omega) | fail)
  (k_with "k_mem" => first | exact AtU.head | (apply AtU.tail; k_mem) | (refine' PairIn.head ?_; k_mem) | (refine' PairIn.tail ?_; k_mem) | fail)
  (k_with "k_ne" => first | (refine' ne_d1 ?zH ?zP; (case zH => assumption); (case zP => k_mem)) | (refine' ne_d2 ?zH ?zP; (case zH => assumption); (case zP => k_mem)) | exact Nat.ne_of_gt (by (try dsimp only); k_extra "k_cj") | exact Nat.ne_of_lt (by (try dsimp only); k_extra "k_cj") | (refine neN ?_; (try dsimp only); omega) | fail)
  (k_with "k_updF" => first | (refine' updF_at ?zA ?zH ?ze ?zm; (case zA => k_mem); (case zH => assumption); (case ze => rfl); (case zm => k_mem)) | (refine' UpdF.head ?za; (case za => k_all)) | (refine' UpdF.tail ?za ?zb; (case za => k_ne); (case zb => k_updF)) | fail)
  trivial
/-- the counter of one key and the bag of its tokens -/
def CInv (gS gE : PySem.Str → Option Int) (k : PySem.Str) (toks : List Int) (t : Int) : Prop :=
  (∃ (n : Nat) (e : Int), 0 < n ∧ toks = List.replicate n e ∧ gS k = some (n : Int) ∧ gE k = some e) ∨ (∀ a ∈ toks, a ≤ t) ∧ ((gS k).getD 0 = 0 ∨ ∃ e, gE k = some e ∧ e ≤ t)
variable {gS gE : PySem.Str → Option Int} {k k0 : PySem.Str} {toks : List Int} {t t' : Int}
theorem filter_rep {n : Nat} {e : Int} : (List.replicate n e).filter (fun a => decide (t < a)) = if t < e then List.replicate n e else [] := by
  split
  · rename_i h; rw [List.filter_replicate]; simp [h]
  · rename_i h; rw [List.filter_replicate]; simp [h]
theorem filter_old (h : ∀ a ∈ toks, a ≤ t) : toks.filter (fun a => decide (t < a)) = [] := List.filter_eq_nil_iff.mpr fun a ha => by have := h a ha; simp; omega
theorem CInv.count (c : CInv gS gE k toks t) : svOf gS gE k t = ((toks.filter fun a => decide (t < a)).length : Nat) := by
  unfold svOf
  rcases c with ⟨n, e, hn, rfl, hS, hE⟩ | ⟨ho, h⟩
  · rw [hS, hE, filter_rep]
    show (if e ≤ t then 0 else (n : Int)) = _
    by_cases h : t < e
    · rw [if_neg (by omega), if_pos h, List.length_replicate]
    · rw [if_pos (by omega), if_neg h]; rfl
  · rw [filter_old ho]
    rcases h with h | ⟨e, hE, he⟩
    · rw [h]; split <;> rfl
    · rw [hE, if_pos (show (some e).getD 0 ≤ t from he)]; rfl
theorem CInv.head (c : CInv gS gE k toks t) {e : Int} {r : List Int} (h : toks.filter (fun a => decide (t < a)) = e :: r) : gE k = some e ∧ t < e := by
  rcases c with ⟨n, e', hn, rfl, hS, hE⟩ | ⟨ho, _⟩
  · rw [filter_rep] at h
    by_cases h2 : t < e'
    · rw [if_pos h2] at h
      cases n with
      | zero => cases h
      | succ n => rw [List.replicate_succ] at h; cases h; exact ⟨hE, h2⟩
    · rw [if_neg h2] at h; cases h
  · rw [filter_old ho] at h; cases h
theorem CInv.time (c : CInv gS gE k toks t) (h : t ≤ t') : CInv gS gE k toks t' := by
  rcases c with c | ⟨ho, c⟩
  · exact .inl c
  · exact .inr ⟨fun a ha => Int.le_trans (ho a ha) h, c.imp id fun ⟨e, hE, he⟩ => ⟨e, hE, Int.le_trans he h⟩⟩
/-- the same counter, told by other dicts that agree at the key -/
theorem CInv.at {gS' gE' : PySem.Str → Option Int} (c : CInv gS gE k toks t) (h1 : gS' k = gS k) (h2 : gE' k = gE k) : CInv gS' gE' k toks t := by
  unfold CInv at c ⊢
  rw [h1, h2]; exact c
theorem CInv.dead {gS' gE' : PySem.Str → Option Int} (c : CInv gS gE k toks t) (h : (gE k).getD 0 ≤ t) (h1 : gS' k = none) : CInv gS' gE' k toks t := by
  refine .inr ⟨?_, .inl (by rw [h1]; rfl)⟩
  rcases c with ⟨n, e, hn, rfl, hS, hE⟩ | ⟨ho, _⟩
  · rw [hE] at h
    intro a ha
    rw [List.eq_of_mem_replicate ha]; exact h
  · exact ho
theorem CInv.get (c : CInv gS gE k toks t) : CInv (if (gE k0).getD 0 ≤ t then upd gS k0 none else gS) (if (gE k0).getD 0 ≤ t then upd gE k0 none else gE) k toks t := by
  split
  · rename_i h
    by_cases e : k = k0
    · subst e; exact c.dead h (upd_self _ _ _)
    · exact c.at (upd_ne _ _ e) (upd_ne _ _ e)
  · exact c
theorem CInv.sweep (c : CInv gS gE k toks t) : CInv (fun k => if (gE k).getD (t + 1) ≤ t then none else gS k) (fun k => if (gE k).getD (t + 1) ≤ t then none else gE k) k toks t := by
  by_cases h : (gE k).getD (t + 1) ≤ t
  · have h' : (gE k).getD 0 ≤ t := by
      cases e : gE k with
      | none => rw [e] at h; simp at h; omega
      | some a => rw [e] at h; exact h
    exact c.dead h' (by simp only [if_pos h])
  · exact c.at (by simp only [if_neg h]) (by simp only [if_neg h])
theorem CInv.none' {gS' gE' : PySem.Str → Option Int} (h : gS' k = none) : CInv gS' gE' k [] t := .inr ⟨(fun _ q => nomatch q), .inl (by rw [h]; rfl)⟩
theorem CInv.incr {a : Int} {e0 : Int} (c : CInv gS gE k toks t) (ha : 0 < a) :
    CInv (upd gS k (some ((toks.filter fun a => decide (t < a)).length + a))) (if ((toks.filter fun a => decide (t < a)).length : Int) = 0 then upd gE k (some (t + e0)) else if (gE k).getD 0 ≤ t then upd gE k none else gE) k
      ((toks.filter fun a => decide (t < a)) ++ List.replicate a.toNat ((toks.filter fun a => decide (t < a)).headD (t + e0))) t := by
  have fresh : toks.filter (fun a => decide (t < a)) = [] → CInv (upd gS k (some ((toks.filter fun a => decide (t < a)).length + a))) (if ((toks.filter fun a => decide (t < a)).length : Int) = 0 then upd gE k (some (t + e0)) else if (gE k).getD 0 ≤ t then upd gE k none else gE) k
      ((toks.filter fun a => decide (t < a)) ++ List.replicate a.toNat ((toks.filter fun a => decide (t < a)).headD (t + e0))) t := fun h => by
    rw [h]
    refine .inl ⟨a.toNat, t + e0, (Int.lt_toNat).mpr ha, rfl, ?_, ?_⟩
    · rw [upd_self]; exact congrArg some ((Int.zero_add a).trans (Int.toNat_of_nonneg (Int.le_of_lt ha)).symm)
    · rw [if_pos (show ((List.length ([] : List Int) : Nat) : Int) = 0 from rfl), upd_self]
  rcases c with ⟨n, e, hn, rfl, hS, hE⟩ | ⟨ho, _⟩
  · by_cases h : t < e
    · rw [filter_rep, if_pos h]
      refine .inl ⟨n + a.toNat, e, Nat.lt_of_lt_of_le hn (Nat.le_add_right _ _), ?_, ?_, ?_⟩
      · have : (List.replicate n e).headD (t + e0) = e := by
          cases n with
          | zero => exact absurd hn (Nat.lt_irrefl 0)
          | succ n => rfl
        rw [this, List.replicate_append_replicate]
      · rw [upd_self, List.length_replicate]; exact congrArg some (by rw [Int.natCast_add, Int.toNat_of_nonneg (Int.le_of_lt ha)])
      · rw [List.length_replicate, if_neg (fun q => Nat.ne_of_gt hn (Int.ofNat_eq_zero.mp q)), hE, if_neg (show ¬ (some e).getD 0 ≤ t from Int.not_le.mpr h), hE]
    · exact fresh (by rw [filter_rep, if_neg h])
  · exact fresh (filter_old ho)
theorem max_none {n : Nat} {a : Int} (h0 : 0 ≤ a) (h : n ≤ a.toNat) : max ((n : Int) - a) 0 = 0 := (max_len h0).trans (by rw [Nat.sub_eq_zero_of_le h]; rfl)
theorem max_drop {n : Nat} {a : Int} (h : 0 ≤ a) (h2 : ¬ n ≤ a.toNat) : max ((n : Int) - a) 0 = ((n - a.toNat : Nat) : Int) := max_len h
theorem CInv.decr {c0 : Int} (c : CInv gS gE k toks t) (h0 : 0 ≤ c0) :
    CInv (upd gS k (some (max ((toks.filter fun a => decide (t < a)).length - c0) 0))) (if (gE k).getD 0 ≤ t then upd gE k none else gE) k ((toks.filter fun a => decide (t < a)).drop c0.toNat) t := by
  have fresh : (toks.filter fun a => decide (t < a)).length ≤ c0.toNat → CInv (upd gS k (some (max ((toks.filter fun a => decide (t < a)).length - c0) 0))) (if (gE k).getD 0 ≤ t then upd gE k none else gE) k ((toks.filter fun a => decide (t < a)).drop c0.toNat) t := fun h => by
    rw [List.drop_eq_nil_of_le h]
    refine .inr ⟨(fun _ h => nomatch h), .inl ?_⟩
    rw [upd_self]
    exact max_none h0 h
  rcases c with ⟨n, e, hn, rfl, hS, hE⟩ | ⟨ho, _⟩
  · by_cases h : t < e
    · by_cases h2 : n ≤ c0.toNat
      · exact fresh (by rw [filter_rep, if_pos h, List.length_replicate]; exact h2)
      · rw [filter_rep, if_pos h]
        refine .inl ⟨n - c0.toNat, e, Nat.sub_pos_of_lt (Nat.lt_of_not_le h2), by rw [List.drop_replicate], ?_, ?_⟩
        · rw [upd_self, List.length_replicate]; exact congrArg some (max_drop h0 h2)
        · rw [hE, if_neg (show ¬ (some e).getD 0 ≤ t from Int.not_le.mpr h), hE]
    · exact fresh (by rw [filter_rep, if_neg h]; simp)
  · exact fresh (by rw [filter_old ho]; simp)

end PlainC
section PlainM
variable {prog : Program} {w : World} {A₀ A : Around} {base h₀ : Heap} {outer : List Env} {env : Env} {L : Addr} {m mg mb : PySem.Str → Option Value}
  {p : Program} {loose : List PySem.Str} {mean : ExcName → Option Value} {s : Shared} {news : List (Addr × Obj)} {E : Value → Shared → Prop}
theorem words_PlainM : True := by
  k_with_none
  w_top off
  (k_with "k_steps" => repeat' (first | (k_unfold; (try dsimp only)) | (k_end; wrow_close) | (dsimp only; walk1) | walk1 | (leave1; walk_say "STEP leave1"; try dsimp only) | fail "no step"))
  (k_with "k_lt" => first | (intro hlt9; (with_reducible rename NodT _ _ => hNdZ); have hNd2 := nod_new hNdZ hlt9 rfl; replace hlt9 := allLt_of hlt9; simp only [AllLt, and_true] at hlt9; revert hNd2 hlt9; intro _) | (intro hlt9; replace hlt9 := allLt_of hlt9; simp only [AllLt, and_true] at hlt9; revert hlt9) | fail)
  (k_with "k_off1" => first | exact Or.inl (by assumption) | exact Nat.le_refl _ | exact Nat.le_of_lt (by assumption) | exact Or.inr (Nat.le_trans (m := 201) (by decide) (by assumption)) | exact Nat.le_trans (m := 201) (by decide) (by assumption) | omega | fail)
  (k_with "k_offs" => first | (refine List.forall_mem_cons.mpr ⟨?_, ?_⟩; (try dsimp only); (k_extra "k_off1"); (k_extra "k_offs")) | exact (fun _ h => absurd h List.not_mem_nil) | fail)
  (k_with "k_cj" => with_reducible first | assumption | exact And.left (by assumption) | exact And.left (And.right (by assumption)) | exact And.left (And.right (And.right (by assumption))) | exact And.left (And.right (And.right (And.right (by assumption)))) | exact And.left (And.right (And.right (And.right (And.right (by assumption))))) | exact And.left (And.right (And.right (And.right (And.right (And.right (by assumption)))))) | exact And.right (by assumption) | exact And.right (And.right (by assumption)) | exact And.right (And.right (And.right (by assumption))) | exact And.right (And.right (And.right (And.right (by assumption)))) | exact And.right (And.right (And.right (And.right (And.right (by assumption))))) | fail)
  (k_with "k_dp" => first | exact Nat.le_trans (by assumption) (by decide) | exact Nat.le_trans (Nat.succ_le_succ (by assumption)) (by decide) | exact Nat.lt_of_le_of_lt (by assumption) (by decide) | exact Nat.lt_of_le_of_lt (Nat.succ_le_succ (by assumption)) (by decide) | exact Nat.le_trans (Nat.succ_le_succ (Nat.succ_le_succ (by assumption))) (by decide) | exact Nat.lt_of_le_of_lt (Nat.succ_le_succ (Nat.succ_le_succ (by assumption))) (by decide) | (simp only [depth_mark, depth_under_make, depth_under_kw, depth_in1, depth_deeper]; omega) | fail)
  (k_with "k_mem" => first | exact AtU.head | (apply AtU.tail; k_mem) | (refine' PairIn.head ?_; k_mem) | (refine' PairIn.tail ?_; k_mem) | fail)
  (k_with "k_ne" => first | (refine' ne_d1 ?zH ?zP; (case zH => assumption); (case zP => k_mem)) | (refine' ne_d2 ?zH ?zP; (case zH => assumption); (case zP => k_mem)) | exact Nat.ne_of_gt (by (try dsimp only); k_extra "k_cj") | exact Nat.ne_of_lt (by (try dsimp only); k_extra "k_cj") | (refine neN ?_; (try dsimp only); omega) | fail)
  (k_with "k_updF" => first | (refine' updF_at ?zA ?zH ?ze ?zm; (case zA => k_mem); (case zH => assumption); (case ze => rfl); (case zm => k_mem)) | (refine' UpdF.head ?za; (case za => k_all)) | (refine' UpdF.tail ?za ?zb; (case za => k_ne); (case zb => k_updF)) | fail)
  trivial
/-- the moments of one key and the store's list of its events, newest first -/
def MInv (l : List (Int × Int)) (uns : List Int) (t W : Int) : Prop :=
  ∃ old new : List Int, uns = old ++ new ∧ l = new.reverse.map (fun a => (a, a + W)) ∧ (∀ a ∈ old, a + W ≤ t) ∧ uns.Pairwise (· ≤ ·) ∧ ∀ a ∈ uns, a ≤ t
variable {l : List (Int × Int)} {uns : List Int} {t t' W : Int}
theorem MInv.nil : MInv [] [] t W := ⟨[], [], rfl, rfl, (fun _ h => nomatch h), .nil, (fun _ h => nomatch h)⟩
theorem MInv.time (x : MInv l uns t W) (h : t ≤ t') : MInv l uns t' W := by
  obtain ⟨old, new, e1, e2, ho, hp, ht⟩ := x
  exact ⟨old, new, e1, e2, fun a ha => Int.le_trans (ho a ha) h, hp, fun a ha => Int.le_trans (ht a ha) h⟩
theorem MInv.len (x : MInv l uns t W) : l.length ≤ uns.length := by
  obtain ⟨old, new, rfl, rfl, _⟩ := x
  simp
theorem MInv.at {i : Nat} {q : Int × Int} (x : MInv l uns t W) (h : l[i]? = some q) : q.2 = q.1 + W := by
  obtain ⟨old, new, rfl, rfl, _⟩ := x
  rw [List.getElem?_map] at h
  obtain ⟨a, _, rfl⟩ := Option.map_eq_some_iff.mp h
  rfl
theorem MInv.desc (x : MInv l uns t W) (i j : Nat) (q r : Int × Int) (hij : i < j) (hi : l[i]? = some q) (hj : l[j]? = some r) : r.1 ≤ q.1 := by
  obtain ⟨old, new, rfl, rfl, _, hp, _⟩ := x
  have hr : new.reverse.Pairwise (fun a b => b ≤ a) := List.pairwise_reverse.mpr (List.pairwise_append.mp hp).2.1
  rw [List.getElem?_map] at hi hj
  obtain ⟨a, ha, rfl⟩ := Option.map_eq_some_iff.mp hi
  obtain ⟨b, hb, rfl⟩ := Option.map_eq_some_iff.mp hj
  obtain ⟨h1, rfl⟩ := List.getElem?_eq_some_iff.mp ha
  obtain ⟨h2, rfl⟩ := List.getElem?_eq_some_iff.mp hb
  exact List.pairwise_iff_getElem.mp hr i j h1 h2 hij
theorem desc_count {c : Int} : ∀ {ns : List Int}, ns.Pairwise (fun a b => b ≤ a) → ∀ (j : Nat) a, ns[j]? = some a → (c ≤ a ↔ j < (ns.filter fun a => decide (c ≤ a)).length)
  | [], _, j, a, h => by simp at h
  | x :: r, hp, j, a, h => by
    obtain ⟨hx, hr⟩ := List.pairwise_cons.mp hp
    by_cases hc : c ≤ x
    · rw [List.filter_cons_of_pos (by simpa using hc), List.length_cons]
      cases j with
      | zero => simp only [List.getElem?_cons_zero, Option.some.injEq] at h; subst h; exact ⟨fun _ => Nat.succ_pos _, fun _ => hc⟩
      | succ j => rw [List.getElem?_cons_succ] at h; rw [desc_count hr j a h]; exact Nat.succ_lt_succ_iff.symm
    · have hn : (r.filter fun a => decide (c ≤ a)) = [] := List.filter_eq_nil_iff.mpr fun b hb => by have := hx b hb; simp; omega
      rw [List.filter_cons_of_neg (by simpa using hc), hn]
      have : a ≤ x := by
        cases j with
        | zero => simp only [List.getElem?_cons_zero, Option.some.injEq] at h; subst h; exact Int.le_refl _
        | succ j => rw [List.getElem?_cons_succ] at h; exact hx a (List.mem_of_getElem? h)
      simp; omega
theorem desc_take {c : Int} : ∀ {ns : List Int}, ns.Pairwise (fun a b => b ≤ a) → (ns.filter fun a => decide (c ≤ a)) = ns.take (ns.filter fun a => decide (c ≤ a)).length
  | [], _ => rfl
  | x :: r, hp => by
    obtain ⟨hx, hr⟩ := List.pairwise_cons.mp hp
    by_cases hc : c ≤ x
    · rw [List.filter_cons_of_pos (by simpa using hc), List.length_cons, List.take_succ_cons, ← desc_take hr]
    · have hn : (r.filter fun a => decide (c ≤ a)) = [] := List.filter_eq_nil_iff.mpr fun b hb => by have := hx b hb; simp; omega
      rw [List.filter_cons_of_neg (by simpa using hc), hn]
      rfl
theorem filter_cut {p : Int → Bool} {old new : List Int} (h : ∀ a ∈ old, p a = false) : (old ++ new).filter p = new.filter p := by
  rw [List.filter_append, List.filter_eq_nil_iff.mpr (fun a ha => by rw [h a ha]; simp), List.nil_append]
theorem filter_rev_len (p : Int → Bool) (new : List Int) : (new.reverse.filter p).length = (new.filter p).length := by rw [List.filter_reverse, List.length_reverse]
theorem young_iff {t a W : Int} : t - a < W ↔ t - W + 1 ≤ a := sub_swap.symm
theorem young_eq : (fun a : Int => decide (t - a < W)) = fun a => decide (t - W + 1 ≤ a) := by
  funext a
  exact decide_eq_decide.mpr young_iff
theorem MInv.moving (x : MInv l uns t W) (n : Nat) (st : Int) (hn : n ≤ l.length) (hlt : ∀ (i : Nat) q, l[i]? = some q → (i < n ↔ t - q.1 < W)) (h0 : l = [] → st = t) (h1 : ∀ q, 0 < n → l[n - 1]? = some q → st = q.1) :
    n = (uns.filter fun a => decide (t - a < W)).length ∧ (∀ a r, (uns.filter fun a => decide (t - a < W)) = a :: r → st = a ∧ ∀ b ∈ r, a ≤ b) ∧ (uns.filter (fun a => decide (t - a < W)) = [] → uns = [] → st = t) := by
  obtain ⟨old, new, rfl, rfl, ho, hp, _⟩ := x
  have hnew := (List.pairwise_append.mp hp).2.1
  have hr : new.reverse.Pairwise (fun a b => b ≤ a) := List.pairwise_reverse.mpr hnew
  rw [filter_cut (fun a ha => by have := ho a ha; simp; omega)]
  have hcnt : n = (new.filter fun a => decide (t - a < W)).length := by
    rw [young_eq, ← filter_rev_len]
    have hle : (new.reverse.filter fun a => decide (t - W + 1 ≤ a)).length ≤ new.reverse.length := List.length_filter_le _ _
    rw [List.length_map] at hn
    have key : ∀ j, j < new.reverse.length → (j < n ↔ j < (new.reverse.filter fun a => decide (t - W + 1 ≤ a)).length) := fun j hj => by
      have e := List.getElem?_eq_getElem hj
      rw [← desc_count hr j _ e, hlt j (new.reverse[j], new.reverse[j] + W) (by rw [List.getElem?_map, e]; rfl)]
      exact young_iff
    rcases Nat.lt_trichotomy n (new.reverse.filter fun a => decide (t - W + 1 ≤ a)).length with h | h | h
    · exact absurd ((key n (Nat.lt_of_lt_of_le h hle)).mpr h) (Nat.lt_irrefl n)
    · exact h
    · exact absurd ((key _ (Nat.lt_of_lt_of_le h hn)).mp h) (Nat.lt_irrefl _)
  refine ⟨hcnt, fun a r hf => ?_, fun _ hu => h0 ?_⟩
  · have hs : (a :: r).Pairwise (· ≤ ·) := hf ▸ hnew.sublist List.filter_sublist
    refine ⟨?_, (List.pairwise_cons.mp hs).1⟩
    have hfr : new.reverse.filter (fun a => decide (t - a < W)) = (a :: r).reverse := by rw [List.filter_reverse, hf]
    have ht := desc_take (c := t - W + 1) hr
    rw [← young_eq, hfr, List.length_reverse, List.length_cons] at ht
    rw [hf, List.length_cons] at hcnt
    have e : new.reverse[n - 1]? = some a := by
      have e1 : (new.reverse.take (r.length + 1))[r.length]? = some a := by rw [← ht, List.reverse_cons, List.getElem?_append_right (by simp)]; simp
      rw [List.getElem?_take_of_lt (by omega)] at e1
      rw [hcnt]; exact e1
    exact h1 (a, a + W) (by omega) (by rw [List.getElem?_map, e]; rfl)
  · have : new = [] := (List.append_eq_nil_iff.mp hu).2
    rw [this]; rfl
theorem edge_le {t a W : Int} (h : t - a ≤ W) : t - W ≤ a := by omega
theorem edge_ge {t a W : Int} (h : t - W ≤ a) : t - a ≤ W := by omega
theorem edge_split (t W : Int) : ∀ l : List Int, (l.filter fun a => decide (t - W ≤ a)).length = (l.filter fun a => decide (t - a < W)).length + (l.filter fun a => t - a == W).length
  | [] => rfl
  | x :: r => by
    have ih := edge_split t W r
    simp only [List.filter_cons, decide_eq_true_eq, beq_iff_eq]
    rcases Int.lt_trichotomy (t - x) W with h | h | h
    · rw [if_pos (edge_le (Int.le_of_lt h)), if_pos h, if_neg (Int.ne_of_lt h), List.length_cons, List.length_cons, ih, Nat.add_right_comm]
    · rw [if_pos (edge_le (Int.le_of_eq h)), if_neg (fun q => Int.ne_of_lt q h), if_pos h, List.length_cons, List.length_cons, ih]; rfl
    · rw [if_neg (fun q => Int.not_le.mpr h (edge_ge q)), if_neg (Int.not_lt.mpr (Int.le_of_lt h)), if_neg (Int.ne_of_gt h), ih]
theorem MInv.acq1 (x : MInv l uns t W) (am lim : Int) (q : Int × Int) (h0 : 0 < am) (hle : am ≤ lim) (hq : l[(lim - am).toNat]? = some q) (hge : t - W ≤ q.1) :
    lim < (uns.filter fun a => decide (t - a < W)).length + (uns.filter fun a => t - a == W).length + am := by
  obtain ⟨old, new, rfl, rfl, ho, hp, _⟩ := x
  have hr : new.reverse.Pairwise (fun a b => b ≤ a) := List.pairwise_reverse.mpr (List.pairwise_append.mp hp).2.1
  rw [List.getElem?_map] at hq
  obtain ⟨a, ha, rfl⟩ := Option.map_eq_some_iff.mp hq
  have h1 := (desc_count (c := t - W) hr _ a ha).mp hge
  rw [filter_rev_len] at h1
  have h2 := edge_split t W (old ++ new)
  rw [List.filter_append, List.length_append] at h2
  omega
theorem MInv.acq2 (x : MInv l uns t W) (am lim : Int) (h0 : 0 < am) (hle : am ≤ lim) (hq : ∀ q, l[(lim - am).toNat]? = some q → q.1 < t - W) : ((uns.filter fun a => decide (t - a < W)).length : Int) + am ≤ lim := by
  obtain ⟨old, new, rfl, rfl, ho, hp, _⟩ := x
  have hr : new.reverse.Pairwise (fun a b => b ≤ a) := List.pairwise_reverse.mpr (List.pairwise_append.mp hp).2.1
  rw [filter_cut (fun a ha => by have := ho a ha; simp; omega), young_eq, ← filter_rev_len]
  apply Int.not_lt.mp
  intro hlt
  have hj : (lim - am).toNat < (new.reverse.filter fun a => decide (t - W + 1 ≤ a)).length := by omega
  have hj2 : (lim - am).toNat < new.reverse.length := Nat.lt_of_lt_of_le hj (List.length_filter_le _ _)
  have e := List.getElem?_eq_getElem hj2
  have h1 := (desc_count hr _ _ e).mpr hj
  have h2 := hq (new.reverse[(lim - am).toNat], new.reverse[(lim - am).toNat] + W) (by rw [List.getElem?_map, e]; rfl)
  have h3 : new.reverse[(lim - am).toNat] < t - W := h2
  omega
theorem MInv.acquire (x : MInv l uns t W) (n : Nat) : MInv (List.replicate n (t, t + W) ++ l) (uns ++ List.replicate n t) t W := by
  obtain ⟨old, new, rfl, rfl, ho, hp, ht⟩ := x
  refine ⟨old, new ++ List.replicate n t, by rw [List.append_assoc], ?_, ho, ?_, fun a ha => ?_⟩
  · rw [List.reverse_append, List.map_append, List.reverse_replicate, List.map_replicate]
  · refine List.pairwise_append.mpr ⟨hp, List.pairwise_replicate.mpr (.inr (Int.le_refl t)), fun a ha b hb => ?_⟩
    rw [List.eq_of_mem_replicate hb]; exact ht a ha
  · rcases List.mem_append.mp ha with ha | ha
    · exact ht a ha
    · rw [List.eq_of_mem_replicate ha]; exact Int.le_refl t
theorem rev_ix {i n c : Nat} (h : i < min (n - c) n) : n - 1 - i < n ∧ n - 1 - (n - 1 - i) = i ∧ ¬ n - 1 - i < c := by
  have h1 : i < n - c := Nat.lt_of_lt_of_le h (Nat.min_le_left _ _)
  have h2 : i < n := Nat.lt_of_lt_of_le h (Nat.min_le_right _ _)
  have h3 : c + i ≤ n - 1 := Nat.le_sub_one_of_lt (Nat.add_comm i c ▸ Nat.add_lt_of_lt_sub h1)
  exact ⟨Nat.lt_of_le_of_lt (Nat.sub_le _ _) (Nat.sub_lt (Nat.lt_of_le_of_lt (Nat.zero_le _) h2) Nat.one_pos), Nat.sub_sub_self (Nat.le_sub_one_of_lt h2), Nat.not_lt.mpr (Nat.le_sub_of_add_le h3)⟩
theorem MInv.sweep (x : MInv l uns t W) (c : Nat) (hc : c ≤ l.length) (h : ∀ (i : Nat) q, l[i]? = some q → (i < c ↔ t < q.2)) : MInv (l.take c) uns t W := by
  obtain ⟨old, new, rfl, rfl, ho, hp, ht⟩ := x
  rw [List.length_map, List.length_reverse] at hc
  refine ⟨old ++ new.take (new.length - c), new.drop (new.length - c), by rw [List.append_assoc, List.take_append_drop], ?_, fun a ha => ?_, hp, ht⟩
  · rw [← List.map_take, List.take_reverse]
  · rcases List.mem_append.mp ha with ha | ha
    · exact ho a ha
    · obtain ⟨i, hi, rfl⟩ := List.getElem_of_mem ha
      rw [List.length_take] at hi
      have hi2 : i < new.length := Nat.lt_of_lt_of_le hi (Nat.min_le_right _ _)
      rw [List.getElem_take]
      obtain ⟨hj, hji, hjc⟩ := rev_ix hi
      have e : new.reverse[new.length - 1 - i]? = some new[i] := by
        rw [List.getElem?_reverse hj]
        rw [hji]; exact List.getElem?_eq_getElem _
      have h1 := h (new.length - 1 - i) (new[i], new[i] + W) (by rw [List.getElem?_map, e]; rfl)
      exact Int.not_lt.mp fun q => hjc (h1.mpr q)

end PlainM
section Tail
variable {prog : Program} {w : World} {A₀ A : Around} {base h₀ : Heap} {outer : List Env} {env : Env} {L : Addr} {m mg mb : PySem.Str → Option Value}
  {p : Program} {loose : List PySem.Str} {mean : ExcName → Option Value} {s : Shared} {news : List (Addr × Obj)} {E : Value → Shared → Prop}
theorem words_Tail : True := by
  k_with_none
  w_top off
  (k_with "k_steps" => repeat' (first | (k_unfold; (try dsimp only)) | (k_end; wrow_close) | (dsimp only; walk1) | walk1 | (leave1; walk_say "STEP leave1"; try dsimp only) | fail "no step"))
  (k_with "k_lt" => first | (intro hlt9; (with_reducible rename NodT _ _ => hNdZ); have hNd2 := nod_new hNdZ hlt9 rfl; replace hlt9 := allLt_of hlt9; simp only [AllLt, and_true] at hlt9; revert hNd2 hlt9; intro _) | (intro hlt9; replace hlt9 := allLt_of hlt9; simp only [AllLt, and_true] at hlt9; revert hlt9) | fail)
  (k_with "k_off1" => first | exact Or.inl (by assumption) | exact Nat.le_refl _ | exact Nat.le_of_lt (by assumption) | exact Or.inr (Nat.le_trans (m := 201) (by decide) (by assumption)) | exact Nat.le_trans (m := 201) (by decide) (by assumption) | omega | fail)
  (k_with "k_offs" => first | (refine List.forall_mem_cons.mpr ⟨?_, ?_⟩; (try dsimp only); (k_extra "k_off1"); (k_extra "k_offs")) | exact (fun _ h => absurd h List.not_mem_nil) | fail)
  (k_with "k_cj" => with_reducible first | assumption | exact And.left (by assumption) | exact And.left (And.right (by assumption)) | exact And.left (And.right (And.right (by assumption))) | exact And.left (And.right (And.right (And.right (by assumption)))) | exact And.left (And.right (And.right (And.right (And.right (by assumption))))) | exact And.left (And.right (And.right (And.right (And.right (And.right (by assumption)))))) | exact And.right (by assumption) | exact And.right (And.right (by assumption)) | exact And.right (And.right (And.right (by assumption))) | exact And.right (And.right (And.right (And.right (by assumption)))) | exact And.right (And.right (And.right (And.right (And.right (by assumption))))) | fail)
  (k_with "k_dp" => first | exact Nat.le_trans (by assumption) (by decide) | exact Nat.le_trans (Nat.succ_le_succ (by assumption)) (by decide) | exact Nat.lt_of_le_of_lt (by assumption) (by decide) | exact Nat.lt_of_le_of_lt (Nat.succ_le_succ (by assumption)) (by decide) | exact Nat.le_trans (Nat.succ_le_succ (Nat.succ_le_succ (by assumption))) (by decide) | exact Nat.lt_of_le_of_lt (Nat.succ_le_succ (Nat.succ_le_succ (by assumption))) (by decide) | (simp only [depth_mark, depth_under_make, depth_under_kw, depth_in1, depth_deeper]; omega) | fail)
  (k_with "k_mem" => first | exact AtU.head | (apply AtU.tail; k_mem) | (refine' PairIn.head ?_; k_mem) | (refine' PairIn.tail ?_; k_mem) | fail)
  (k_with "k_ne" => first | (refine' ne_d1 ?zH ?zP; (case zH => assumption); (case zP => k_mem)) | (refine' ne_d2 ?zH ?zP; (case zH => assumption); (case zP => k_mem)) | exact Nat.ne_of_gt (by (try dsimp only); k_extra "k_cj") | exact Nat.ne_of_lt (by (try dsimp only); k_extra "k_cj") | (refine neN ?_; (try dsimp only); omega) | fail)
  (k_with "k_updF" => first | (refine' updF_at ?zA ?zH ?ze ?zm; (case zA => k_mem); (case zH => assumption); (case ze => rfl); (case zm => k_mem)) | (refine' UpdF.head ?za; (case za => k_all)) | (refine' UpdF.tail ?za ?zb; (case za => k_ne); (case zb => k_updF)) | fail)
  (k_with "k_inst" => first | (refine' instH ?zF ?zI; (case zF => k_asm); (case zI => assumption)) | fail)
  (k_with "k_room" => first | (show _ < 1000; k_extra "k_dp") | fail)
  (k_with "is_list" => first | (refine' listH ?zF ?zI; (case zF => k_asm); (case zI => assumption)) | fail)
  (k_with "call ref" => (k_here; (with_reducible show wpAny _ _ (call (Value.ref _) [] []) _ _ _); k_dflt (refine' clock_in ?zF ?zX ?zN ?zT ?zr ?zC ?_; (case zF => k_asm); (case zC => assumption); (case zX => k_asm); (case zN => k_asm); (case zT => k_asm); (case zr => k_room)); intro _ _ _ _ _ _))
  (k_with "getMethod ref" => (k_here; (with_reducible show wpAny _ _ (getMethod (Value.ref _) (Str.ofString "get") _) _ _ _); k_dflt (refine' dsd_method PySem.F.slot_dict_get PySem.F.type_dict_get ?zN ?zm ?zD ?_; (case zN => k_asm); (case zm => k_mem); (case zD => k_asm))))
  (k_with "getMethod ref" => (k_here; (with_reducible show wpAny _ _ (getMethod (Value.ref _) (Str.ofString "pop") _) _ _ _); k_dflt (refine' dsd_method PySem.F.slot_dict_pop PySem.F.type_dict_pop ?zN ?zm ?zD ?_; (case zN => k_asm); (case zm => k_mem); (case zD => k_asm))))
  (k_with "getMethod ref" => (k_here; (with_reducible show wpAny _ _ (getMethod (Value.ref _) (Str.ofString "setdefault") _) _ _ _); k_dflt (refine' dsd_method PySem.F.slot_dict_setdefault PySem.F.type_dict_setdefault ?zN ?zm ?zD ?_; (case zN => k_asm); (case zm => k_mem); (case zD => k_asm))))
  (k_with "getMethod ref" => (k_here; (with_reducible show wpAny _ _ (getMethod (Value.ref _) (Str.ofString "clear") _) _ _ _); k_dflt (refine' dsd_method PySem.F.slot_dict_clear PySem.F.type_dict_clear ?zN ?zm ?zD ?_; (case zN => k_asm); (case zm => k_mem); (case zD => k_asm))))
  (k_with "getMethod ref" => (k_here; (with_reducible show wpAny _ _ (getMethod (Value.ref _) (Str.ofString "clock") _) _ _ _); k_dflt (refine' kmu_own ?zk1 ?zk2 ?zk3 ?zk4 ?zk5 ?_; (case zk1 => k_asm); (case zk2 => k_asm); (case zk3 => k_inst); (case zk4 => k_is); (case zk5 => k_is); k_whole)))
  (k_with "getAttr ref" => (k_here; k_dflt (refine' get_own ?zk1 ?zk2 ?zk3 ?zk4 ?zk5 ?zk6 ?zk7 ?zk8 ?zk9 ?_; (case zk1 => k_asm); (case zk2 => k_asm); (case zk3 => k_inst); (case zk4 => k_is); (case zk5 => k_is); (case zk6 => k_is); (case zk7 => k_is); (case zk8 => k_get); (case zk9 => k_handed); k_whole)))
  (k_with "call builtin:dict.get" => (k_here; k_dflt (refine' dsd_get ?zN ?zm ?zD ?zlo ?_; (case zN => k_asm); (case zm => k_mem); (case zD => k_asm); (case zlo => k_asm)); intro _ _))
  (k_with "call builtin:dict.get" => (k_here; (with_reducible show wpAny _ _ (call (Value.builtin _) [Value.ref _, Value.str _ _, Value.int _ _]) _ _ _); k_dflt (refine' isd_get ?zN ?zm ?zD ?zlo ?_; (case zN => k_asm); (case zm => k_mem); (case zD => k_asm); (case zlo => k_asm)); intro _))
  (k_with "call builtin:dict.pop" => (k_here; k_dflt (refine' dsd_pop ?zF ?zN ?zU ?zD ?zlo ?_; (case zF => k_asm); (case zN => k_asm); (case zU => k_updF); (case zD => k_asm); (case zlo => k_asm)); intro _ _ _ _ _ _ _))
  (k_with "call builtin:dict.clear" => (k_here; k_dflt (refine' dsd_clear ?zF ?zN ?zU ?zD ?_; (case zF => k_asm); (case zN => k_asm); (case zU => k_updF); (case zD => k_asm)); intro _ _ _ _ _))
  (k_with "call builtin:len" => (k_here; (with_reducible show wpAny _ _ (call (Value.builtin "len") [Value.ref _]) _ _ _); k_dflt (refine' dsd_len_call ?zN ?zm ?zD ?zlo ?_; (case zN => k_asm); (case zm => k_mem); (case zD => k_asm); (case zlo => k_asm)); intro _ _))
  (k_with "callWith ref" => (k_here; (with_reducible show wpAny _ _ (callWith _ _ _ (backTo _ (starEach [] _)) []) _ _ _); k_dflt (refine' callWith_F0 ?zk1 ?_; (case zk1 => exact fnClock (by k_asm) (by assumption)); k_whole); (try dsimp only [List.nil_append, List.cons_append])))
  (k_with "setItem ref str" => (k_here; k_dflt (refine' dsd_set ?zF ?zN ?zU ?zD ?zk ?zx ?_; (case zF => k_asm); (case zN => k_asm); (case zU => k_updF); (case zD => k_asm); (case zk => k_asm); (case zx => first | exact ⟨_, rfl⟩ | exact rfl)); intro _ _ _ _ _))
  (k_with "subscriptTail" => (k_here; (with_reducible show wpAny _ _ (subscriptTail _ _ (Value.ref _) (Value.str _ _)) _ _ _); k_dflt (refine' isd_item ?zN ?zm ?zD ?zx ?_; (case zN => k_asm); (case zm => k_mem); (case zD => k_asm); (case zx => first | exact upd_self _ _ _ | assumption)); intro _))
  (k_with "eval Name" => (k_here; k_dflt (refine' nameX_L ?zF ?zv ?_ ?za ?zb; (case za => rfl); (case zb => rfl); (case zF => k_asm); (case zv => first | rfl | assumption); k_whole)))
  (k_with "call builtin:len" => (k_here; (with_reducible show wpAny _ _ (call (Value.builtin "len") [Value.ref _]) _ _ _); k_dflt (refine' len_lst ?zl ?zn ?zb ?_; (case zl => is_list); (case zn => assumption); (case zb => omega); k_whole); intro _))
  (k_with "exec While Compare cons nil" => (k_here; refine stopW ?_))
  (k_with "subscriptTail" => (k_here; (with_reducible show wpAny _ _ (subscriptTail _ _ (Value.ref _) (Value.str _ _)) _ _ _); k_dflt (refine' asd_item ?zN ?zm ?zD ?zx ?_; (case zN => k_asm); (case zm => k_mem); (case zD => k_asm); (case zx => first | exact upd_self _ _ _ | assumption))))
  (k_with "call ref" => (k_here; (with_reducible show wpAny _ _ (call (Value.ref 117) [Value.ref _, Value.str _ _] []) _ _ _); k_dflt (refine' get_in ?zB ?zF ?zX ?zN ?zT ?zA ?zhh ?zf ?zk ?zr ?zG ?zU1 ?zU2 ?zDS ?zDE ?_; (case zF => k_asm); (case zG => exact Geo.all (by assumption) (Fr.keep (by k_asm))); (case zB => k_asm); (case zX => k_asm); (case zN => k_asm); (case zT => k_asm); (case zA => exact rfl); (case zhh => exact rfl); (case zf => exact rfl); (case zk => exact rfl); (case zr => (show _ ≤ 900; k_extra "k_dp")); (case zU1 => k_updF); (case zU2 => (intro _; (try dsimp only); k_updF)); (case zDS => k_asm); (case zDE => k_asm)); intro _ _ _ _ _ _ _ _ _ _))
  (k_with "callWith ref" => (k_here; k_dflt (refine' callWith_F ?zk1 ?_; (case zk1 => exact NegAt.fn (NegAt.keeps (by assumption) (Fr.keep (by k_asm)))); k_whole)))
  (k_with "call ref" => (k_here; (with_reducible show wpAny _ _ (call (Value.ref 52) _ _) _ _ _); refine stopW ?_))
  (k_with "call builtin:dict.setdefault" => (k_here; refine stopW ?_))
  (k_with "eval Lambda" => (k_here; k_dflt (refine' lam_in ?zF ?zN ?zT ?zC ?zcd ?zU ?zhps ?zhsub ?zcl ?zdf ?_; (case zF => k_asm); (case zN => k_asm); (case zT => k_asm); (case zcd => exact rfl); (case zC => kn_code); (case zU => k_updF); (case zhps => assumption); (case zhsub => (intro _ hq; first | (exact absurd hq List.not_mem_nil) | (repeat (first | exact hq | refine List.Mem.tail _ ?_)))); (case zcl => exact rfl); (case zdf => exact rfl); k_whole); intro fl cl ct psl lsl hpl tkl Fl Nl hfl hrl hnt ltl; (simp only [List.cons_append, List.nil_append] at Nl)))
  (k_with "call ref" => (k_here; (with_reducible show wpAny _ _ (call (Value.ref 69) _ _) _ _ _); k_dflt (refine' entry_in ?zF ?zX ?zN ?zT ?zr ?_; (case zF => k_asm); (case zX => k_asm); (case zN => k_asm); (case zT => k_asm); (case zr => (show _ ≤ 890; k_extra "k_dp"))); intro r9 d9 _ _ _ _ _ _ _ _ l1 l2; (try k_lt l1); (replace l2 : @LT.lt Nat instLTNat d9 r9 := l2)))
  (k_with "binaryOp Mult ref int" => (k_here; (with_reducible show wpAny _ _ (binaryOp Operator.Mult (Value.ref _) (Value.int _ _)) _ _ _); k_dflt (refine' KMa.mul ?zF ?zN ?zl ?zlo ?zhi ?z ?ze ?_; (case zF => k_asm); (case zN => k_asm); (case zl => is_list); (case zlo => omega); (case zhi => omega); (case z => (simp only [List.length_cons, List.length_nil]; omega)); (case ze => exact flat1 _ _)); intro _ _ _ _ l1; (try k_lt l1)))
  (k_with "binaryOp Add ref ref" => (k_here; (with_reducible show wpAny _ _ (binaryOp _ (Value.ref _) (Value.ref _)) _ _ _); k_dflt (refine' kmk_add_lit ?zF ?zN ?za ?zb ?ze ?_ ?z; (case zF => k_asm); (case zN => k_asm); (case za => first | kmk_list | is_list); (case zb => first | kmk_list | is_list); (case ze => exact rfl); (case z => (simp only [sizeLine, List.toList_toArray, List.length_replicate, List.length_nil, List.length_cons]; omega))); intro _ _ _ _ l1; (try k_lt l1)))
  (k_with "getMethod ref" => (k_here; (with_reducible show wpAny _ _ (getMethod (Value.ref _) (Str.ofString "keys") _) _ _ _); k_dflt (refine' dsd_method PySem.F.slot_dict_keys PySem.F.type_dict_keys ?zN ?zm ?zD ?_; (case zN => k_asm); (case zm => k_mem); (case zD => k_asm))))
  (k_with "call builtin:dict.keys" => (k_here; (with_reducible show wpAny _ _ (call (Value.builtin "dict.keys") [Value.ref _]) _ _ _); k_dflt (refine' dsd_keys ?zF ?zN ?zm ?zD ?zlo ?_; (case zF => k_asm); (case zN => k_asm); (case zm => k_mem); (case zD => k_asm); (case zlo => k_asm)); intro _ _ _ _ l1; (try k_lt l1)))
  (k_with "call type:list" => (k_here; (with_reducible show wpAny _ _ (call (Value.type "list") [Value.ref _]) _ _ _); k_dflt (refine' dsd_list ?zh ?zF ?zN ?zv ?zm ?zD ?_; (case zh => exact rfl); (case zF => k_asm); (case zN => k_asm); (case zv => exact List.Mem.head _); (case zm => k_mem); (case zD => k_asm)); intro _ _ _ _ _ _ _ _ _ l1; (try k_lt l1)))
  (k_with "exec For Name Call cons nil" => (k_here; refine stopW ?_))
  (k_with "eval Name" => (k_here; (with_reducible show wpAny _ _ (eval (Expr.Name _ _) (envOfC _ _ _ _ _)) _ _ _); k_dflt (refine' nameX_L ?zF ?zv ?_ ?za ?zb; (case za => rfl); (case zb => rfl); (case zF => k_asm); (case zv => first | rfl | assumption))))
  (k_with "k_ne" => first | (refine' ne_list_dsd ?zN ?zm1 ?zm2 ?zc ?zX; (case zN => k_asm); (case zm1 => k_mem); (case zm2 => k_mem); (case zc => exact rfl); (case zX => k_asm)) | (refine' ne_cls ?zN ?zm1 ?zm2 ?zc; (case zN => k_asm); (case zm1 => k_mem); (case zm2 => k_mem); (case zc => simp [tabObj])) | fail)
  (k_with "call builtin:len" => (k_here; (with_reducible show wpAny _ _ (call (Value.builtin "len") [Value.ref _]) _ _ _); k_dflt (refine' len_ints ?zl ?zi ?zb ?_; (case zl => kmk_list); (case zi => k_asm); (case zb => exact len_filter_le (n := 1000000) (by omega)); k_whole); intro _))
  (k_with "truthy ref" => (k_here; (with_reducible show wpAny _ _ (truthy (Value.ref _)) _ _ _); k_dflt (refine' truthy_ints ?zl ?zi ?zb ?_ ?_; (case zl => kmk_list); (case zi => k_asm); (case zb => exact len_filter_le (n := 1000000) (by omega)); k_whole); intro _))
  (k_with "call ref" => (k_here; (with_reducible show wpAny _ _ (call (Value.ref 139) [Value.ref _, Value.str _ _] []) _ _ _); k_dflt (refine' get_expiry_in ?zB ?zF ?zX ?zN ?zT ?zA ?zhh ?zf ?zk ?zr ?zG ?zm ?zDE ?_; (case zF => k_asm); (case zG => exact Geo.all (by assumption) (Fr.keep (by k_asm))); (case zB => k_asm); (case zX => k_asm); (case zN => k_asm); (case zT => k_asm); (case zA => exact rfl); (case zhh => exact rfl); (case zf => exact rfl); (case zk => exact rfl); (case zr => (show _ ≤ 890; k_extra "k_dp")); (case zm => k_mem); (case zDE => k_asm)); intro _ _ _ _ _ _))
  (k_with "call ref" => (k_here; (with_reducible show wpAny _ _ (call (Value.ref 146) _ _) _ _ _); k_dflt (refine' moving_in ?zB ?zF ?zX ?zN ?zT ?zA ?zhh ?zf ?zk ?zr ?zG ?zlo ?zCH ?zm ?zU ?zDV ?zhT ?zhE ?zhl ?zhs ?_; (case zF => k_asm); (case zG => exact Geo.all (by assumption) (Fr.keep (by k_asm))); (case zB => k_asm); (case zX => k_asm); (case zN => k_asm); (case zT => k_asm); (case zA => exact rfl); (case zhh => exact rfl); (case zf => exact rfl); (case zk => exact rfl); (case zr => (show _ ≤ 880; k_extra "k_dp")); (case zlo => k_asm); (case zCH => k_asm); (case zDV => k_asm); (case zm => k_mem); (case zU => k_updF); (case zhT => exact TabSt.all (by assumption) (Fr.keep (by k_asm))); (case zhE => exact ev_all (by assumption) (Fr.keep (by k_asm))); (case zhl => k_asm); (case zhs => k_asm)); intro _ _ psm Rm stm nm _ _ lsm _ Nm hRm hTm hfm hnm hltm hst0 hst1; (simp only [List.cons_append, List.nil_append] at Nm)))
  (k_with "k_mem" => first | assumption | fail)
  (k_with "subscriptTail" => (k_here; (with_reducible show wpAny _ _ (subscriptTail _ _ (Value.ref _) (Value.int (Nat.cast (_ : Nat)) _)) _ _ _); k_dflt (refine' lst_nat ?zN ?zm ?zx ?zi ?_; (case zN => k_asm); (case zm => k_mem); (case zx => exact three_at (by assumption)); (case zi => assumption))))
  (k_with "binaryOp Mult ref int" => (k_here; (with_reducible show wpAny _ _ (binaryOp Operator.Mult (Value.ref _) (Value.int _ _)) _ _ _); k_dflt (refine' mul_in ?zF ?zN ?zm ?z0 ?z1 ?_; (case zF => k_asm); (case zN => k_asm); (case zm => k_mem); (case z0 => first | assumption | exact (amt3 (by first | exact rfl | assumption) (by assumption)).1 | omega); (case z1 => first | assumption | exact (amt3 (by first | exact rfl | assumption) (by assumption)).2 | omega)); intro _ vsr _ _ _ l1 irep; (try k_lt l1)))
  (k_with "binaryOp Add ref ref" => (k_here; (with_reducible show wpAny _ _ (binaryOp _ (Value.ref _) (Value.ref _)) _ _ _); k_dflt (refine' add_in ?zF ?zN ?za ?zb ?zi ?zj ?zk ?zl ?_; (case zF => k_asm); (case zN => k_asm); (case za => first | kmk_list | is_list); (case zb => first | kmk_list | is_list); (case zi => k_asm); (case zj => k_asm); (case zk => first | exact Nat.le_trans (by assumption) (by decide) | omega); (case zl => (simp only [List.length_replicate]; first | exact Int.toNat_le.mpr (Int.le_trans (by assumption) (by decide)) | exact Int.toNat_le.mpr (Int.le_trans (amt3 (by first | exact rfl | assumption) (by assumption)).2 (by decide)) | omega))); intro _ zsr _ _ _ l1 iadd; (try k_lt l1)))
  (k_with "setItem ref int" => (k_here; (with_reducible show wpAny _ _ (setItem (Value.ref _) (Value.int _ _) (Value.ref _)) _ _ _); k_dflt (refine' set3 ?zF ?zN ?zU ?z3 ?_; (case zF => k_asm); (case zN => k_asm); (case zU => k_updF); (case z3 => assumption)); intro _ _ _))
  (k_with "call builtin:len" => (k_here; (with_reducible show wpAny _ _ (call (Value.builtin "len") [Value.ref _]) _ _ _); k_dflt (refine' len_ints ?zl ?zi ?zb ?_; (case zl => kmk_list); (case zi => k_asm); (case zb => (simp only [List.length_append, List.length_replicate]; first | exact Nat.le_trans (Nat.add_le_add (by assumption) (Int.toNat_le.mpr (amt3 (by first | exact rfl | assumption) (by assumption)).2)) (by decide) | omega)); k_whole); intro _))
  (k_with "subscriptTail" => (k_here; (with_reducible show wpAny _ _ (subscriptTail _ _ (Value.ref _) (Value.int 0 _)) _ _ _); k_dflt (refine' item0 ?zN ?zm ?zi ?ze ?_; (case zN => k_asm); (case zm => k_mem); (case zi => first | assumption | exact .cons _ _ .nil); (case ze => first | assumption | exact List.cons_ne_nil _ _)); intro x0 _ hx0))
  (k_with "subscriptTail" => (k_here; (with_reducible show wpAny _ _ (subscriptTail _ _ (Value.ref _) (Value.int 0 _)) _ _ _); k_dflt (refine' item_one ?zN ?zm ?_; (case zN => k_asm); (case zm => k_mem))))
  (k_with "storeName" => (k_here; (with_reducible show wpAny _ _ (storeName (envOfC _ _ _ _ _) _ _) _ _ _); k_dflt (first | (refine' store_int ?zF ?zN ?_ ?za ?zb; (case za => rfl); (case zb => rfl); (case zF => k_asm); (case zN => k_asm); intro _ _ _ _ hve _ _) | (refine' store_any ?zF ?zN ?_ ?za ?zb; (case za => rfl); (case zb => rfl); (case zF => k_asm); (case zN => k_asm); intro _ _ _ _))))
  trivial
noncomputable def tailFor : Stmt := turnBody.getD 9 (.Pass ⟨0, 0, 0, 0⟩)
/-- a code's table told by tl alone -/
def TabL (tl : List (Addr × Obj)) (bd line col : Nat) (qual : PySem.Str) (ps : Array Value) : Prop :=
  ps = #[] ∨ ∃ (c' : Nat) (co : Obj) (vs : Array Value) (t : Tok), ((c' : Addr), co) ∈ tl ∧ bd < c' ∧ ps = #[rawInt line, rawInt col, .ref (c' : Addr)] ∧ co.data = .fields vs ∧ vs[1]? = some (.str qual t)
theorem TabL.sub {tl tl' : List (Addr × Obj)} {bd line col : Nat} {qual : PySem.Str} {ps : Array Value} (x : TabL tl bd line col qual ps) (h : ∀ q ∈ tl, q ∈ tl') : TabL tl' bd line col qual ps :=
  x.imp id fun ⟨c', co, vs, t, m, r⟩ => ⟨c', co, vs, t, h _ m, r⟩
theorem TabL.st {tl : List (Addr × Obj)} {bd line col : Nat} {qual : PySem.Str} {ps : Array Value} {h : Heap} (x : TabL tl bd line col qual ps) (n : ∀ q ∈ tl, h.get? q.1 = some q.2) : TabSt h bd line col qual ps :=
  x.imp id fun ⟨c', co, vs, t, m, hb, e, d1, d2⟩ => ⟨c', hb, e, ⟨c', co, vs, t, rfl, n (c', co) m, d1, d2⟩⟩
def TailJ (prog : Program) (w : World) (dS dE dV : Nat) (toks : Nat → List Int) (t : Int) (ps0 : Array Value) (tl : List (Addr × Obj)) (m₀ : PySem.Str → Option Value) (m₁ : PySem.Str → Option Value) (n₁ : List (Addr × Obj)) : Prop :=
  ∃ oS oE ps gS gE ls, n₁ = (dS, oS) :: (dE, oE) :: (141, tabObj ps) :: (ls ++ tl) ∧ NodT [dS, dE, 141] (ls ++ tl) ∧ (∀ q ∈ ls, ∀ r ∈ tl, q.1 ≠ r.1) ∧ ISD prog w oS gS ∧ ISD prog w oE gE ∧ (∀ i, i < 3 → CInv gS gE (keyOf i) (toks i) t) ∧ (ps = ps0 ∨ TabL ls dV 90 68 qMov ps) ∧ ∀ y, y ∈ kept8 → m₁ y = m₀ y
theorem words_tail : True := by
  (k_with "k_mem" => first | assumption | fail)
  (k_with "call ref" => ((with_reducible show wpAny _ _ (call (Value.ref 199) _ _) _ _ _); refine stopW ?_))
  (k_with "subscriptTail" => (k_here; (with_reducible show wpAny _ _ (subscriptTail _ _ (Value.ref _) (Value.int (Nat.cast (_ : Nat)) _)) _ _ _); k_dflt (refine' tup_nat ?zN ?zm ?zx ?zi ?_; (case zN => k_asm); (case zm => k_mem); (case zx => first | exact hK _ (by assumption) | exact hW _ (by assumption)); (case zi => assumption); k_whole)))
  trivial
theorem range3 {i : Nat} {k : Int} (h : (rangeKs 0 3)[i]? = some k) : i < 3 ∧ k = (i : Int) := by
  have hlt : i < 3 := by
    have := (List.getElem?_eq_some_iff.mp h).1
    simpa [rangeKs] using this
  refine ⟨hlt, ?_⟩
  match i, hlt with
  | 0, _ => exact (Option.some.inj h).symm
  | 1, _ => exact (Option.some.inj h).symm
  | 2, _ => exact (Option.some.inj h).symm
set_option maxHeartbeats 4000000 in
theorem tail_in {lo x fk dS dE dV fa nw aK aW T U : Nat} {t : Int} {tk : Tok} {c cK cW cT cU : Nat} {oS oE oV oC : Obj} {ps : Array Value} {vsK vsW : List Value} {aT aU : Nat → Addr} {uK uW : Nat → Tok} {toks uns : Nat → List Int} {gS gE : PySem.Str → Option Int} {gV : PySem.Str → Option Addr} {l : Nat → List (Int × Int)} {tl : List (Addr × Obj)} {Q : Flow → Shared → Prop}
    (B : Below A₀ base outer h₀) (F : Fr h₀ L s.heap m) (X₀ : (hd.heap_39 w.params).In h₀) (T₀ : Top p loose mean mg mb h₀)
    (N : News h₀ L s.heap ((dS, oS) :: (dE, oE) :: (141, tabObj ps) :: tl)) (hNd : NodT [dS, dE, 141] tl)
    (hA : A.frames = some (lawEnv L fa :: outer)) (hh : A.handled = none) (hroom : A.depth ≤ 400)
    (G : ∀ h', News h₀ L h' tl → Geo w h' lo x fk dS dE dV t) (hlo : 201 ≤ lo) (CH : CodeHd base 145 141) (DS : ISD prog w oS gS) (DE : ISD prog w oE gE) (DV : ASD prog w oV gV) (mV : ((dV : Addr), oV) ∈ tl)
    (hTab : TabL tl dV 90 68 qMov ps) (mN : (nw, W.listOf #[.int t tk] c) ∈ tl) (mC : (L + 1 + 1, oC) ∈ tl) (dC : oC.data = .cell (some (.ref nw)))
    (mK : (aK, tupO vsK cK) ∈ tl) (hK : ∀ i, i < 3 → vsK[i]? = some (.str (keyOf i) (uK i))) (mW : (aW, tupO vsW cW) ∈ tl) (hW : ∀ i, i < 3 → vsW[i]? = some (.int (winOf i) (uW i)))
    (mT : (T, W.listOf #[.ref (aT 0), .ref (aT 1), .ref (aT 2)] cT) ∈ tl) (mU : (U, W.listOf #[.ref (aU 0), .ref (aU 1), .ref (aU 2)] cU) ∈ tl)
    (hTk : ∀ i, i < 3 → ListIn tl (aT i) (toks i) ∧ (toks i).length ≤ 100 ∧ aT i ≠ dV) (hUn : ∀ i, i < 3 → ListIn tl (aU i) (uns i) ∧ (uns i).length ≤ 200 ∧ aU i ≠ dV)
    (hEv : ∀ h', News h₀ L h' tl → ∀ i, i < 3 → match gV (keyOf i) with | none => l i = [] | some a => EvAt w h' dV a (l i)) (hM : ∀ i, i < 3 → MInv (l i) (uns i) t (winOf i)) (hC : ∀ i, i < 3 → CInv gS gE (keyOf i) (toks i) t)
    (a3 : m (PySem.Str.ofString "keys") = some (.ref aK)) (a4 : m (PySem.Str.ofString "windows") = some (.ref aW)) (a5 : m (PySem.Str.ofString "tokens") = some (.ref T)) (a6 : m (PySem.Str.ofString "units") = some (.ref U)) (a7 : m (PySem.Str.ofString "store") = some (.ref x))
    (hQ : ∀ h' tk' m' n', Fr h₀ L h' m' → News h₀ L h' n' → TailJ prog w dS dE dV toks t ps tl m m' n' → Q .next { s with heap := h', toks := tk' }) : wpAny (model prog w) A (execs [tailFor] (lawEnv L fa)) Q E s := by
  obtain ⟨hd9, dp, fr, gs, un⟩ := A
  dsimp only at hA hh hroom
  subst hA
  subst hh
  unfold lawEnv
  conv =>
    pattern tailFor
    whnf
  refine wpAny_execs_cons ?_
  refine wpAny_noRaise (For_invVF (h₀ := h₀) F rfl rfl ?_ (by intro _; rfl) PassesOwn.never)
  (k_with "pyIter ref" => refine stopW ?_)
  k_steps
  show wpAny _ _ _ _ _ _
  refine tbr_invG (n := 3) (fun _ m₁ nx => TailJ prog w dS dE dV toks t ps tl m m₁ nx) rfl (by assumption) rfl rfl (by assumption) (by assumption) ⟨oS, oE, ps, gS, gE, [], rfl, hNd, (fun _ h => nomatch h), DS, DE, hC, .inl rfl, fun _ _ => rfl⟩ ?_ ?_
  · intro i k tk1 m₁ nx h1 tk9 own hk hoff hJ F1 N1
    obtain ⟨oS1, oE1, ps1, gS1, gE1, ls, rfl, hNd1, hD1, DS1, DE1, hC1, hTb, hm1⟩ := hJ
    have hTab1 : TabL (ls ++ tl) dV 90 68 qMov ps1 := hTb.elim (fun e => e ▸ hTab.sub fun q hq => List.mem_append_right _ hq) fun x => x.sub fun q hq => List.mem_append_left _ hq
    obtain ⟨hi, rfl⟩ := range3 hk
    obtain ⟨tl2, htl2⟩ : ∃ tl2, tl2 = (ls ++ tl) ++ own := ⟨_, rfl⟩
    have N2 : News h₀ L h1 ((dS, oS1) :: (dE, oE1) :: (141, tabObj ps1) :: tl2) := by rw [htl2]; exact N1
    have s1 : ∀ q ∈ ls ++ tl, q ∈ tl2 := fun q hq => by rw [htl2]; exact List.mem_append_left _ hq
    have s0 : ∀ q ∈ tl, q ∈ tl2 := fun q hq => s1 q (List.mem_append_right _ hq)
    have so : ∀ q ∈ own, q ∈ tl2 := fun q hq => by rw [htl2]; exact List.mem_append_right _ hq
    have hNd2 : NodT [dS, dE, 141] tl2 := ⟨hNd1.1, fun q hq a ha => by
      rw [htl2] at hq
      rcases List.mem_append.mp hq with hq | hq
      · exact hNd1.2 q hq a ha
      · simp only [List.mem_cons, List.not_mem_nil, or_false] at ha
        rcases ha with rfl | rfl | rfl
        · exact hoff q hq (_, oS1) (.head _)
        · exact hoff q hq (_, oE1) (.tail _ (.head _))
        · exact hoff q hq (_, tabObj ps1) (.tail _ (.tail _ (.head _)))⟩
    clear htl2 N1
    have b3 := (hm1 _ (by decide +kernel)).trans a3
    have b4 := (hm1 _ (by decide +kernel)).trans a4
    have b5 := (hm1 _ (by decide +kernel)).trans a5
    have b6 := (hm1 _ (by decide +kernel)).trans a6
    have b7 := (hm1 _ (by decide +kernel)).trans a7
    have mK' := s0 _ mK
    have mW' := s0 _ mW
    have mT' := s0 _ mT
    have mU' := s0 _ mU
    have mN' := s0 _ mN
    have mC' := s0 _ mC
    generalize hU : TbPost h₀ _ _ own _ _ = Z
    k_steps
    show wpAny _ _ _ _ _ _
    rename News _ _ _ _ => N3
    rename Fr _ _ _ _ => F3
    obtain ⟨⟨vt, ct, mt, it⟩, lt, nt⟩ := hTk i hi
    obtain ⟨⟨vu, cu, mu, iu⟩, lu, nu⟩ := hUn i hi
    have n0 : News h₀ L _ tl := fun q hq => N3 q (.tail _ (.tail _ (.tail _ (s0 q hq))))
    have off : ∀ (a : Nat) o, ((a : Addr), o) ∈ tl → a ≠ dV → (a : Addr) ∉ [(dV : Addr), dS, dE, 141] := fun a o ha hv =>
      off4 hv (hNd.2 _ ha dS (.head _)) (hNd.2 _ ha dE (.tail _ (.head _))) (hNd.2 _ ha 141 (.tail _ (.tail _ (.head _))))
    refine law_store_in B F3 X₀ N3 T₀ rfl rfl rfl rfl (Nat.le_trans hroom (by decide)) (G _ n0) hlo CH (by k_updF) (fun _ => by k_updF) (fun _ _ => by k_updF) (.tail _ (.tail _ (.tail _ (s0 _ mV)))) DS1 DE1 DV
      (hTab1.st fun q hq => (N3 q (.tail _ (.tail _ (.tail _ (s1 q hq))))).1) (hEv _ n0 i hi) (Nat.le_trans (hM i hi).len (by omega)) (hM i hi).desc (isl_of N3 (.tail _ (.tail _ (.tail _ (s0 _ mt))))) it lt (isl_of N3 (.tail _ (.tail _ (.tail _ (s0 _ mu))))) iu lu
      (off _ _ mt nt) (off _ _ mu nu) (by rw [List.map_id']; exact (hC1 i hi).count) (fun e r h => (hC1 i hi).head h) (hM i hi).moving ?_
    intro h' tk' oS' oE' ps' ls' F' N' D1 D2 NT fr
    have fr1 : ∀ q ∈ ls', ∀ r ∈ (dS, oS1) :: (dE, oE1) :: (141, tabObj ps1) :: tl2, q.1 ≠ r.1 := fun q hq r hr e => by
      have h1 := (fr q hq).1
      rw [e, (N3 r hr).1] at h1; cases h1
    clear N3 F3 n0
    k_steps
    rw [← hU]
    refine ⟨_, _, _, (dS, oS') :: (dE, oE') :: (141, tabObj ps') :: (tl2 ++ ls'), (dS, oS') :: (dE, oE') :: (141, tabObj ps') :: ((ls' ++ ls) ++ tl), rfl, by assumption, by assumption, ?_, ?_, ?_, oS', oE', ps', _, _, ls' ++ ls, rfl, ?_, ?_, D1, D2, fun j hj => (hC1 j hj).get, ?_, ?_⟩
    · intro q hq
      rcases List.mem_cons.mp hq with rfl | hq
      · exact .head _
      rcases List.mem_cons.mp hq with rfl | hq
      · exact .tail _ (.head _)
      rcases List.mem_cons.mp hq with rfl | hq
      · exact .tail _ (.tail _ (.head _))
      refine .tail _ (.tail _ (.tail _ ?_))
      rw [List.append_assoc] at hq
      rcases List.mem_append.mp hq with hq | hq
      · exact List.mem_append_right _ hq
      · exact List.mem_append_left _ (s1 q hq)
    · exact fun q hq => .tail _ (.tail _ (.tail _ (List.mem_append_left _ (so q hq))))
    · intro q hq r hr
      rcases List.mem_cons.mp hr with rfl | hr
      · exact hoff q hq (_, oS1) (.head _)
      rcases List.mem_cons.mp hr with rfl | hr
      · exact hoff q hq (_, oE1) (.tail _ (.head _))
      rcases List.mem_cons.mp hr with rfl | hr
      · exact hoff q hq (_, tabObj ps1) (.tail _ (.tail _ (.head _)))
      rw [List.append_assoc] at hr
      rcases List.mem_append.mp hr with hr | hr
      · exact (fr1 r hr q (.tail _ (.tail _ (.tail _ (so q hq))))).symm
      · exact hoff q hq r (.tail _ (.tail _ (.tail _ hr)))
    · refine ⟨hNd1.1, fun q hq a ha => ?_⟩
      rw [List.append_assoc] at hq
      rcases List.mem_append.mp hq with hq | hq
      · simp only [List.mem_cons, List.not_mem_nil, or_false] at ha
        rcases ha with rfl | rfl | rfl
        · exact fr1 q hq (_, oS1) (.head _)
        · exact fr1 q hq (_, oE1) (.tail _ (.head _))
        · exact fr1 q hq (_, tabObj ps1) (.tail _ (.tail _ (.head _)))
      · exact hNd1.2 q hq a ha
    · intro q hq r hr
      rcases List.mem_append.mp hq with hq | hq
      · exact fr1 q hq r (.tail _ (.tail _ (.tail _ (s0 r hr))))
      · exact hD1 q hq r hr
    · rcases NT with ⟨rfl, rfl⟩ | ⟨c', co, vs, t, rfl, _, rfl, d1, d2⟩
      · exact hTb
      · exact .inr (.inr ⟨c', co, vs, t, .head _, (fr _ (.head _)).2, rfl, d1, d2⟩)
    · refine fun y hy => Eq.trans ?_ (hm1 y hy)
      revert y hy
      exact keep8 rfl rfl rfl rfl rfl rfl rfl rfl
  · intro m₁ nx h1 tk1 hJ F1 N1
    show wpAny _ _ _ _ _ _
    k_steps
    exact hQ _ _ _ _ (by assumption) (by assumption) hJ

end Tail
section Inv
variable {prog : Program} {w : World} {A₀ A : Around} {base h₀ : Heap} {outer : List Env} {env : Env} {L : Addr} {m mg mb : PySem.Str → Option Value}
  {p : Program} {loose : List PySem.Str} {mean : ExcName → Option Value} {s : Shared} {news : List (Addr × Obj)} {E : Value → Shared → Prop}
theorem words_Inv : True := by
  k_with_none
  w_top off
  (k_with "k_steps" => repeat' (first | (k_unfold; (try dsimp only)) | (k_end; wrow_close) | (dsimp only; walk1) | walk1 | (leave1; walk_say "STEP leave1"; try dsimp only) | fail "no step"))
  (k_with "k_lt" => first | (intro hlt9; (with_reducible rename NodT _ _ => hNdZ); have hNd2 := nod_new hNdZ hlt9 rfl; replace hlt9 := allLt_of hlt9; simp only [AllLt, and_true] at hlt9; revert hNd2 hlt9; intro _) | (intro hlt9; replace hlt9 := allLt_of hlt9; simp only [AllLt, and_true] at hlt9; revert hlt9) | fail)
  (k_with "k_off1" => first | exact Or.inl (by assumption) | exact Nat.le_refl _ | exact Nat.le_of_lt (by assumption) | exact Or.inr (Nat.le_trans (m := 201) (by decide) (by assumption)) | exact Nat.le_trans (m := 201) (by decide) (by assumption) | omega | fail)
  (k_with "k_offs" => first | (refine List.forall_mem_cons.mpr ⟨?_, ?_⟩; (try dsimp only); (k_extra "k_off1"); (k_extra "k_offs")) | exact (fun _ h => absurd h List.not_mem_nil) | fail)
  (k_with "k_cj" => with_reducible first | assumption | exact And.left (by assumption) | exact And.left (And.right (by assumption)) | exact And.left (And.right (And.right (by assumption))) | exact And.left (And.right (And.right (And.right (by assumption)))) | exact And.left (And.right (And.right (And.right (And.right (by assumption))))) | exact And.left (And.right (And.right (And.right (And.right (And.right (by assumption)))))) | exact And.right (by assumption) | exact And.right (And.right (by assumption)) | exact And.right (And.right (And.right (by assumption))) | exact And.right (And.right (And.right (And.right (by assumption)))) | exact And.right (And.right (And.right (And.right (And.right (by assumption))))) | fail)
  (k_with "k_dp" => first | exact Nat.le_trans (by assumption) (by decide) | exact Nat.le_trans (Nat.succ_le_succ (by assumption)) (by decide) | exact Nat.lt_of_le_of_lt (by assumption) (by decide) | exact Nat.lt_of_le_of_lt (Nat.succ_le_succ (by assumption)) (by decide) | exact Nat.le_trans (Nat.succ_le_succ (Nat.succ_le_succ (by assumption))) (by decide) | exact Nat.lt_of_le_of_lt (Nat.succ_le_succ (Nat.succ_le_succ (by assumption))) (by decide) | (simp only [depth_mark, depth_under_make, depth_under_kw, depth_in1, depth_deeper]; omega) | fail)
  (k_with "k_mem" => first | exact AtU.head | (apply AtU.tail; k_mem) | (refine' PairIn.head ?_; k_mem) | (refine' PairIn.tail ?_; k_mem) | fail)
  (k_with "k_ne" => first | (refine' ne_d1 ?zH ?zP; (case zH => assumption); (case zP => k_mem)) | (refine' ne_d2 ?zH ?zP; (case zH => assumption); (case zP => k_mem)) | exact Nat.ne_of_gt (by (try dsimp only); k_extra "k_cj") | exact Nat.ne_of_lt (by (try dsimp only); k_extra "k_cj") | (refine neN ?_; (try dsimp only); omega) | fail)
  (k_with "k_updF" => first | (refine' updF_at ?zA ?zH ?ze ?zm; (case zA => k_mem); (case zH => assumption); (case ze => rfl); (case zm => k_mem)) | (refine' UpdF.head ?za; (case za => k_all)) | (refine' UpdF.tail ?za ?zb; (case za => k_ne); (case zb => k_updF)) | fail)
  trivial
/-- the places of a ledger picked by their numbers -/
def pick (E : List (Addr × Obj)) (is : List Nat) : List (Addr × Obj) := is.map fun i => E.getD i (0, default)
theorem pick_mem {E : List (Addr × Obj)} {is : List Nat} (h : is.all (fun i => decide (i < E.length)) = true) : ∀ q ∈ pick E is, ∃ i, i ∈ is ∧ E[i]? = some q := fun q hq => by
  obtain ⟨i, hi, rfl⟩ := List.mem_map.mp hq
  have hl : i < E.length := by simpa using List.all_eq_true.mp h i hi
  exact ⟨i, hi, by rw [List.getD_eq_getElem?_getD, List.getElem?_eq_getElem hl]; rfl⟩
theorem nod_at {E : List (Addr × Obj)} {tl : List (Addr × Obj)} (h : NodT (E.map (·.1)) tl) {i j : Nat} {p q : Addr × Obj} (hi : E[i]? = some p) (hj : E[j]? = some q) (hne : i ≠ j) : p.1 ≠ q.1 := fun e => hne (by
  have h1 : (E.map (·.1))[i]? = some p.1 := by rw [List.getElem?_map, hi]; rfl
  have h2 : (E.map (·.1))[j]? = some p.1 := by rw [List.getElem?_map, hj, e]; rfl
  exact (List.getElem?_inj (List.getElem?_eq_some_iff.mp h1).1 h.1).mp (h1.trans h2.symm))
theorem nod_pick {E tl : List (Addr × Obj)} (is js : List Nat) (h : NodT (E.map (·.1)) tl) (hd : (is ++ js).Nodup) (hi : is.all (fun i => decide (i < E.length)) = true) (hj : js.all (fun i => decide (i < E.length)) = true) : NodT ((pick E is).map (·.1)) (pick E js ++ tl) := by
  have hdj := List.nodup_append.mp hd
  refine ⟨?_, fun q hq a ha => ?_⟩
  · have : ∀ l : List Nat, l.Nodup → l.all (fun i => decide (i < E.length)) = true → ((pick E l).map (·.1)).Nodup := by
      intro l hl hb
      induction l with
      | nil => exact .nil
      | cons i l ih =>
        have hl' := List.nodup_cons.mp hl
        have hb' : i < E.length ∧ l.all (fun i => decide (i < E.length)) = true := by simpa using hb
        refine List.nodup_cons.mpr ⟨fun hm => ?_, ih hl'.2 hb'.2⟩
        obtain ⟨q, hq, e⟩ := List.mem_map.mp hm
        obtain ⟨j, hjm, hje⟩ := pick_mem hb'.2 q hq
        have hie : E[i]? = some (E.getD i (0, default)) := by rw [List.getD_eq_getElem?_getD, List.getElem?_eq_getElem hb'.1]; rfl
        exact nod_at h hje hie (fun q => hl'.1 (q ▸ hjm)) e
    exact this is hdj.1 hi
  · obtain ⟨p, hp, rfl⟩ := List.mem_map.mp ha
    obtain ⟨i, him, hie⟩ := pick_mem hi p hp
    rcases List.mem_append.mp hq with hq | hq
    · obtain ⟨j, hjm, hje⟩ := pick_mem hj q hq
      exact nod_at h hje hie fun e => hdj.2.2 i him j hjm e.symm
    · exact h.2 q hq _ (List.mem_map_of_mem (List.mem_of_getElem? hie))
/-- new objects joined to the list's tail -/
theorem nod_tail {ads : List Addr} {ls tl : List (Addr × Obj)} (h : NodT ads tl) (hn : ∀ q ∈ ls, ∀ a ∈ ads, q.1 ≠ a) : NodT ads (ls ++ tl) :=
  ⟨h.1, fun q hq a ha => (List.mem_append.mp hq).elim (fun hq => hn q hq a ha) fun hq => h.2 q hq a ha⟩
/-- an entry told by tl alone -/
def EntIn (w : World) (tl : List (Addr × Obj)) (bd : Nat) (q : Int × Int) (v : Value) : Prop := ∃ r d : Nat, v = .ref r ∧ bd < r ∧ bd < d ∧ ((r : Addr), instObj 69 d) ∈ tl ∧ ∃ t1 t2 t3 t4, ((d : Addr), dictOf (entryEs w q.1 q.2 t1 t2 t3 t4) 2) ∈ tl
theorem EntIn.sub {tl tl' : List (Addr × Obj)} {bd : Nat} {q : Int × Int} {v : Value} (x : EntIn w tl bd q v) (h : ∀ q ∈ tl, q ∈ tl') : EntIn w tl' bd q v := by
  obtain ⟨r, d, e, h1, h2, m1, t1, t2, t3, t4, m2⟩ := x
  exact ⟨r, d, e, h1, h2, h _ m1, t1, t2, t3, t4, h _ m2⟩
theorem EntIn.at {h : Heap} {tl : List (Addr × Obj)} {bd : Nat} {q : Int × Int} {v : Value} (x : EntIn w tl bd q v) (n : ∀ q ∈ tl, h.get? q.1 = some q.2) : EntAt w h bd q v := by
  obtain ⟨r, d, e, h1, h2, m1, t1, t2, t3, t4, m2⟩ := x
  exact ⟨r, d, e, h1, h2, t1, t2, t3, t4, n _ m1, rfl, rfl, n _ m2⟩
/-- a list of entries told by tl alone -/
def EvIn (w : World) (tl : List (Addr × Obj)) (bd a : Nat) (l : List (Int × Int)) : Prop := bd < a ∧ ∃ (vs : List Value) (c : Nat), ((a : Addr), W.listOf vs.toArray c) ∈ tl ∧ vs.length = l.length ∧ ∀ (i : Nat) q, l[i]? = some q → ∃ v, vs[i]? = some v ∧ EntIn w tl bd q v
theorem EvIn.sub {tl tl' : List (Addr × Obj)} {bd a : Nat} {l : List (Int × Int)} (x : EvIn w tl bd a l) (h : ∀ q ∈ tl, q ∈ tl') : EvIn w tl' bd a l := by
  obtain ⟨hb, vs, c, m, hl, hv⟩ := x
  exact ⟨hb, vs, c, h _ m, hl, fun i q e => (hv i q e).imp fun _ y => ⟨y.1, y.2.sub h⟩⟩
theorem EvIn.at {h : Heap} {tl : List (Addr × Obj)} {bd a : Nat} {l : List (Int × Int)} (x : EvIn w tl bd a l) (n : ∀ q ∈ tl, h.get? q.1 = some q.2) : EvAt w h bd a l := by
  obtain ⟨hb, vs, c, m, hl, hv⟩ := x
  exact ⟨hb, vs, ⟨_, n _ m, rfl, _, rfl⟩, hl, fun i q e => (hv i q e).imp fun _ y => ⟨y.1, y.2.at n⟩⟩
theorem list_same {h : Heap} {a : Addr} {vs vs0 : List Value} {c : Nat} (x : h.IsList a vs.toArray) (y : h.get? a = some (W.listOf vs0.toArray c)) : vs = vs0 := by
  obtain ⟨o, e, _, n, d⟩ := x
  rw [y] at e
  cases e
  cases d
  rfl
theorem ev_acq {h9 : Heap} {tl tl' : List (Addr × Obj)} {bd a' r d : Nat} {l : List (Int × Int)} {gx : Option Addr} {vs : List Value} {am n : Nat} {t W : Int} {u1 u2 u3 u4 : Tok} (hE : match gx with | none => l = [] | some a => EvIn w tl bd a l) (hv : match (generalizing := false) gx with | none => vs = [] | some a => h9.IsList a vs.toArray) (n9 : ∀ q ∈ tl, h9.get? q.1 = some q.2) (hs : ∀ q ∈ tl, q ∈ tl')
    (m1 : ((a' : Addr), PySem.W.listOf (List.replicate am (Value.ref r) ++ vs).toArray n) ∈ tl') (m2 : ((r : Addr), instObj 69 d) ∈ tl') (m3 : ((d : Addr), dictOf (entryEs w t (t + W) u1 u2 u3 u4) 2) ∈ tl') (b1 : bd < a') (b2 : bd < r) (b3 : bd < d) : EvIn w tl' bd a' (List.replicate am (t, t + W) ++ l) := by
  have key : vs.length = l.length ∧ ∀ (i : Nat) q, l[i]? = some q → ∃ v, vs[i]? = some v ∧ EntIn w tl' bd q v := by
    cases gx with
    | none =>
      subst hE; subst hv
      exact ⟨rfl, fun i q e => by simp at e⟩
    | some a =>
      obtain ⟨_, vs0, c, m, hl, hq⟩ := hE
      obtain rfl := list_same hv (n9 _ m)
      exact ⟨hl, fun i q e => (hq i q e).imp fun _ y => ⟨y.1, y.2.sub hs⟩⟩
  refine ⟨b1, _, _, m1, by rw [List.length_append, List.length_append, List.length_replicate, List.length_replicate, key.1], fun i q e => ?_⟩
  by_cases hi : i < am
  · rw [List.getElem?_append_left (by simpa using hi), List.getElem?_replicate, if_pos hi] at e
    cases e
    exact ⟨.ref r, by rw [List.getElem?_append_left (by simpa using hi), List.getElem?_replicate, if_pos hi], r, d, rfl, b2, b3, m2, _, _, _, _, m3⟩
  · rw [List.getElem?_append_right (by simpa using hi), List.length_replicate] at e ⊢
    exact key.2 _ q e
theorem ev_trim {h : Heap} {tl tl' : List (Addr × Obj)} {bd : Nat} {l : List (Int × Int)} {uns : List Int} {gx y : Option Addr} {t W : Int} (hE : match gx with | none => l = [] | some a => EvIn w tl bd a l) (hT : Trimmed h t l tl' gx y) (n : ∀ q ∈ tl, h.get? q.1 = some q.2) (hb : ∀ q ∈ tl', @LT.lt Nat instLTNat bd q.1) (hM : MInv l uns t W) :
    ∃ l', MInv l' uns t W ∧ (match (generalizing := false) y with | none => l' = [] | some a => EvIn w (tl' ++ tl) bd a l') := by
  cases gx with
  | none =>
    obtain rfl : y = none := hT
    exact ⟨l, hM, hE⟩
  | some a =>
    rcases hT with ⟨rfl, rfl⟩ | ⟨vs, a', c, n', rfl, hl, hlen, hc, hlt, hm⟩
    · exact ⟨[], hM, hE.sub fun q hq => List.mem_append_right _ hq⟩
    · refine ⟨l.take c, hM.sweep c hc hlt, hb _ hm, vs.take c, n', List.mem_append_left _ hm, by rw [List.length_take, List.length_take, hlen], fun i q e => ?_⟩
      obtain ⟨_, vs0, c0, m0, _, hv⟩ := hE
      have e0 := list_same hl (n _ m0)
      subst e0
      have hi : i < c := Nat.lt_of_lt_of_le (List.getElem?_eq_some_iff.mp e).1 (List.length_take_le _ _)
      rw [List.getElem?_take_of_lt hi] at e ⊢
      exact (hv i q e).imp fun _ y => ⟨y.1, y.2.sub fun q hq => List.mem_append_right _ hq⟩
theorem nod_join {P : List Addr} {R tl : List (Addr × Obj)} (h1 : NodT P (R ++ tl)) (h2 : NodT (R.map (·.1)) tl) : NodT (P ++ R.map (·.1)) tl := by
  refine ⟨List.nodup_append.mpr ⟨h1.1, h2.1, fun a ha b hb e => ?_⟩, fun p hp a ha => ?_⟩
  · obtain ⟨q, hq, rfl⟩ := List.mem_map.mp hb
    exact h1.2 q (List.mem_append_left _ hq) a ha e.symm
  · rcases List.mem_append.mp ha with ha | ha
    · exact h1.2 p (List.mem_append_right _ hp) a ha
    · exact h2.2 p hp a ha
theorem pick_in {E : List (Addr × Obj)} {is : List Nat} (h : is.all (fun i => decide (i < E.length)) = true) : ∀ q ∈ pick E is, q ∈ E := fun q hq => by
  obtain ⟨i, _, e⟩ := pick_mem h q hq
  exact List.mem_of_getElem? e
theorem news_re {h : Heap} {E tl : List (Addr × Obj)} (is js : List Nat) (N : News h₀ L h (E ++ tl)) (hi : is.all (fun i => decide (i < E.length)) = true) (hj : js.all (fun i => decide (i < E.length)) = true) : News h₀ L h (pick E is ++ (pick E js ++ tl)) := fun q hq => by
  rcases List.mem_append.mp hq with hq | hq
  · exact N q (List.mem_append_left _ (pick_in hi q hq))
  rcases List.mem_append.mp hq with hq | hq
  · exact N q (List.mem_append_left _ (pick_in hj q hq))
  · exact N q (List.mem_append_right _ hq)
/-- a list of fixed objects grown by objects apart from the loop's own -/
structure Ext (its tl tl' : List (Addr × Obj)) : Prop where
  sub : ∀ q ∈ tl, q ∈ tl'
  off : ∀ q ∈ tl', q ∈ tl ∨ ∀ r ∈ its, q.1 ≠ r.1
theorem Ext.trans {its a b c : List (Addr × Obj)} (x : Ext its a b) (y : Ext its b c) : Ext its a c :=
  ⟨fun q hq => y.sub q (x.sub q hq), fun q hq => (y.off q hq).elim (x.off q) .inr⟩
theorem Ext.app {its ls tl : List (Addr × Obj)} (h : ∀ q ∈ ls, ∀ r ∈ its, q.1 ≠ r.1) : Ext its tl (ls ++ tl) :=
  ⟨fun _ hq => List.mem_append_right _ hq, fun q hq => (List.mem_append.mp hq).elim (fun hq => .inr (h q hq)) .inl⟩
/-- the ledger laid in its order again, what is new behind it -/
theorem led_fin {h : Heap} {E its tl : List (Addr × Obj)} (is js : List Nat) (N : News h₀ L h (E ++ (its ++ tl))) (hN : NodT (E.map (·.1)) (its ++ tl)) (hd : (is ++ js).Nodup) (hi : is.all (fun i => decide (i < E.length)) = true) (hj : js.all (fun i => decide (i < E.length)) = true) :
    News h₀ L h (pick E is ++ (its ++ (pick E js ++ tl))) ∧ NodT ((pick E is).map (·.1)) (its ++ (pick E js ++ tl)) ∧ Ext its tl (pick E js ++ tl) := by
  have sw : ∀ q, q ∈ its ++ (pick E js ++ tl) → q ∈ pick E js ++ (its ++ tl) := fun q hq => by
    rcases List.mem_append.mp hq with hq | hq
    · exact List.mem_append_right _ (List.mem_append_left _ hq)
    rcases List.mem_append.mp hq with hq | hq
    · exact List.mem_append_left _ hq
    · exact List.mem_append_right _ (List.mem_append_right _ hq)
  have N2 := news_re is js N hi hj
  have h2 := nod_pick is js hN hd hi hj
  exact ⟨fun q hq => N2 q ((List.mem_append.mp hq).elim (fun hq => List.mem_append_left _ hq) fun hq => List.mem_append_right _ (sw q hq)), ⟨h2.1, fun q hq => h2.2 q (sw q hq)⟩, Ext.app fun q hq r hr => (hN.2 r (List.mem_append_left _ hr) q.1 (List.mem_map_of_mem (pick_in hj q hq))).symm⟩

/-- objects of a walk's own laid behind the ledger -/
theorem nod_swap {h : Heap} {P R its ls tl : List (Addr × Obj)} (N : News h₀ L h (P ++ (ls ++ (R ++ (its ++ tl))))) (hP : NodT (P.map (·.1)) (ls ++ (R ++ (its ++ tl)))) (hR : NodT (R.map (·.1)) (its ++ tl)) (hf : ∀ q ∈ ls, ∀ r ∈ R ++ (its ++ tl), q.1 ≠ r.1) :
    News h₀ L h ((P ++ R) ++ (its ++ (ls ++ tl))) ∧ NodT ((P ++ R).map (·.1)) (its ++ (ls ++ tl)) ∧ Ext its tl (ls ++ tl) := by
  have sw : ∀ q, q ∈ its ++ (ls ++ tl) → q ∈ ls ∨ q ∈ its ++ tl := fun q hq => by
    rcases List.mem_append.mp hq with hq | hq
    · exact .inr (List.mem_append_left _ hq)
    rcases List.mem_append.mp hq with hq | hq
    · exact .inl hq
    · exact .inr (List.mem_append_right _ hq)
  refine ⟨fun q hq => ?_, ?_, Ext.app fun q hq r hr => hf q hq r (List.mem_append_right _ (List.mem_append_left _ hr))⟩
  · rcases List.mem_append.mp hq with hq | hq
    · rcases List.mem_append.mp hq with hq | hq
      · exact N q (List.mem_append_left _ hq)
      · exact N q (List.mem_append_right _ (List.mem_append_right _ (List.mem_append_left _ hq)))
    · rcases sw q hq with hq | hq
      · exact N q (List.mem_append_right _ (List.mem_append_left _ hq))
      · exact N q (List.mem_append_right _ (List.mem_append_right _ (List.mem_append_right _ hq)))
  · rw [List.map_append]
    refine nod_join ⟨hP.1, fun q hq a ha => ?_⟩ ⟨hR.1, fun q hq a ha => ?_⟩
    · rcases List.mem_append.mp hq with hq | hq
      · exact hP.2 q (List.mem_append_right _ (List.mem_append_left _ hq)) a ha
      · rcases sw q hq with hq | hq
        · exact hP.2 q (List.mem_append_left _ hq) a ha
        · exact hP.2 q (List.mem_append_right _ (List.mem_append_right _ hq)) a ha
    · rcases sw q hq with hq | hq
      · obtain ⟨r, hr, rfl⟩ := List.mem_map.mp ha
        exact hf q hq r (List.mem_append_left _ hr)
      · exact hR.2 q hq a ha

end Inv
section Chain
variable {prog : Program} {w : World} {A₀ A : Around} {base h₀ : Heap} {outer : List Env} {env : Env} {L : Addr} {m mg mb : PySem.Str → Option Value}
  {p : Program} {loose : List PySem.Str} {mean : ExcName → Option Value} {s : Shared} {news : List (Addr × Obj)} {E : Value → Shared → Prop}
theorem words_Chain : True := by
  k_with_none
  w_top off
  (k_with "k_steps" => repeat' (first | (k_unfold; (try dsimp only)) | (k_end; wrow_close) | (dsimp only; walk1) | walk1 | (leave1; walk_say "STEP leave1"; try dsimp only) | fail "no step"))
  (k_with "k_lt" => first | (intro hlt9; (with_reducible rename NodT _ _ => hNdZ); have hNd2 := nod_new hNdZ hlt9 rfl; replace hlt9 := allLt_of hlt9; simp only [AllLt, and_true] at hlt9; revert hNd2 hlt9; intro _) | (intro hlt9; replace hlt9 := allLt_of hlt9; simp only [AllLt, and_true] at hlt9; revert hlt9) | fail)
  (k_with "k_off1" => first | exact Or.inl (by assumption) | exact Nat.le_refl _ | exact Nat.le_of_lt (by assumption) | exact Or.inr (Nat.le_trans (m := 201) (by decide) (by assumption)) | exact Nat.le_trans (m := 201) (by decide) (by assumption) | omega | fail)
  (k_with "k_offs" => first | (refine List.forall_mem_cons.mpr ⟨?_, ?_⟩; (try dsimp only); (k_extra "k_off1"); (k_extra "k_offs")) | exact (fun _ h => absurd h List.not_mem_nil) | fail)
  (k_with "k_cj" => with_reducible first | assumption | exact And.left (by assumption) | exact And.left (And.right (by assumption)) | exact And.left (And.right (And.right (by assumption))) | exact And.left (And.right (And.right (And.right (by assumption)))) | exact And.left (And.right (And.right (And.right (And.right (by assumption))))) | exact And.left (And.right (And.right (And.right (And.right (And.right (by assumption)))))) | exact And.right (by assumption) | exact And.right (And.right (by assumption)) | exact And.right (And.right (And.right (by assumption))) | exact And.right (And.right (And.right (And.right (by assumption)))) | exact And.right (And.right (And.right (And.right (And.right (by assumption))))) | fail)
  (k_with "k_dp" => first | exact Nat.le_trans (by assumption) (by decide) | exact Nat.le_trans (Nat.succ_le_succ (by assumption)) (by decide) | exact Nat.lt_of_le_of_lt (by assumption) (by decide) | exact Nat.lt_of_le_of_lt (Nat.succ_le_succ (by assumption)) (by decide) | exact Nat.le_trans (Nat.succ_le_succ (Nat.succ_le_succ (by assumption))) (by decide) | exact Nat.lt_of_le_of_lt (Nat.succ_le_succ (Nat.succ_le_succ (by assumption))) (by decide) | (simp only [depth_mark, depth_under_make, depth_under_kw, depth_in1, depth_deeper]; omega) | fail)
  (k_with "k_mem" => first | exact AtU.head | (apply AtU.tail; k_mem) | (refine' PairIn.head ?_; k_mem) | (refine' PairIn.tail ?_; k_mem) | fail)
  (k_with "k_ne" => first | (refine' ne_d1 ?zH ?zP; (case zH => assumption); (case zP => k_mem)) | (refine' ne_d2 ?zH ?zP; (case zH => assumption); (case zP => k_mem)) | exact Nat.ne_of_gt (by (try dsimp only); k_extra "k_cj") | exact Nat.ne_of_lt (by (try dsimp only); k_extra "k_cj") | (refine neN ?_; (try dsimp only); omega) | fail)
  (k_with "k_updF" => first | (refine' updF_at ?zA ?zH ?ze ?zm; (case zA => k_mem); (case zH => assumption); (case ze => rfl); (case zm => k_mem)) | (refine' UpdF.head ?za; (case za => k_all)) | (refine' UpdF.tail ?za ?zb; (case za => k_ne); (case zb => k_updF)) | fail)
  (k_with "k_inst" => first | (refine' instH ?zF ?zI; (case zF => k_asm); (case zI => assumption)) | fail)
  (k_with "k_room" => first | (show _ < 1000; k_extra "k_dp") | fail)
  (k_with "is_list" => first | (refine' listH ?zF ?zI; (case zF => k_asm); (case zI => assumption)) | fail)
  (k_with "call ref" => (k_here; (with_reducible show wpAny _ _ (call (Value.ref _) [] []) _ _ _); k_dflt (refine' clock_in ?zF ?zX ?zN ?zT ?zr ?zC ?_; (case zF => k_asm); (case zC => assumption); (case zX => k_asm); (case zN => k_asm); (case zT => k_asm); (case zr => k_room)); intro _ _ _ _ _ _))
  (k_with "getMethod ref" => (k_here; (with_reducible show wpAny _ _ (getMethod (Value.ref _) (Str.ofString "get") _) _ _ _); k_dflt (refine' dsd_method PySem.F.slot_dict_get PySem.F.type_dict_get ?zN ?zm ?zD ?_; (case zN => k_asm); (case zm => k_mem); (case zD => k_asm))))
  (k_with "getMethod ref" => (k_here; (with_reducible show wpAny _ _ (getMethod (Value.ref _) (Str.ofString "pop") _) _ _ _); k_dflt (refine' dsd_method PySem.F.slot_dict_pop PySem.F.type_dict_pop ?zN ?zm ?zD ?_; (case zN => k_asm); (case zm => k_mem); (case zD => k_asm))))
  (k_with "getMethod ref" => (k_here; (with_reducible show wpAny _ _ (getMethod (Value.ref _) (Str.ofString "setdefault") _) _ _ _); k_dflt (refine' dsd_method PySem.F.slot_dict_setdefault PySem.F.type_dict_setdefault ?zN ?zm ?zD ?_; (case zN => k_asm); (case zm => k_mem); (case zD => k_asm))))
  (k_with "getMethod ref" => (k_here; (with_reducible show wpAny _ _ (getMethod (Value.ref _) (Str.ofString "clear") _) _ _ _); k_dflt (refine' dsd_method PySem.F.slot_dict_clear PySem.F.type_dict_clear ?zN ?zm ?zD ?_; (case zN => k_asm); (case zm => k_mem); (case zD => k_asm))))
  (k_with "getMethod ref" => (k_here; (with_reducible show wpAny _ _ (getMethod (Value.ref _) (Str.ofString "clock") _) _ _ _); k_dflt (refine' kmu_own ?zk1 ?zk2 ?zk3 ?zk4 ?zk5 ?_; (case zk1 => k_asm); (case zk2 => k_asm); (case zk3 => k_inst); (case zk4 => k_is); (case zk5 => k_is); k_whole)))
  (k_with "getAttr ref" => (k_here; k_dflt (refine' get_own ?zk1 ?zk2 ?zk3 ?zk4 ?zk5 ?zk6 ?zk7 ?zk8 ?zk9 ?_; (case zk1 => k_asm); (case zk2 => k_asm); (case zk3 => k_inst); (case zk4 => k_is); (case zk5 => k_is); (case zk6 => k_is); (case zk7 => k_is); (case zk8 => k_get); (case zk9 => k_handed); k_whole)))
  (k_with "call builtin:dict.get" => (k_here; k_dflt (refine' dsd_get ?zN ?zm ?zD ?zlo ?_; (case zN => k_asm); (case zm => k_mem); (case zD => k_asm); (case zlo => k_asm)); intro _ _))
  (k_with "call builtin:dict.get" => (k_here; (with_reducible show wpAny _ _ (call (Value.builtin _) [Value.ref _, Value.str _ _, Value.int _ _]) _ _ _); k_dflt (refine' isd_get ?zN ?zm ?zD ?zlo ?_; (case zN => k_asm); (case zm => k_mem); (case zD => k_asm); (case zlo => k_asm)); intro _))
  (k_with "call builtin:dict.pop" => (k_here; k_dflt (refine' dsd_pop ?zF ?zN ?zU ?zD ?zlo ?_; (case zF => k_asm); (case zN => k_asm); (case zU => k_updF); (case zD => k_asm); (case zlo => k_asm)); intro _ _ _ _ _ _ _))
  (k_with "call builtin:dict.clear" => (k_here; k_dflt (refine' dsd_clear ?zF ?zN ?zU ?zD ?_; (case zF => k_asm); (case zN => k_asm); (case zU => k_updF); (case zD => k_asm)); intro _ _ _ _ _))
  (k_with "call builtin:len" => (k_here; (with_reducible show wpAny _ _ (call (Value.builtin "len") [Value.ref _]) _ _ _); k_dflt (refine' dsd_len_call ?zN ?zm ?zD ?zlo ?_; (case zN => k_asm); (case zm => k_mem); (case zD => k_asm); (case zlo => k_asm)); intro _ _))
  (k_with "callWith ref" => (k_here; (with_reducible show wpAny _ _ (callWith _ _ _ (backTo _ (starEach [] _)) []) _ _ _); k_dflt (refine' callWith_F0 ?zk1 ?_; (case zk1 => exact fnClock (by k_asm) (by assumption)); k_whole); (try dsimp only [List.nil_append, List.cons_append])))
  (k_with "setItem ref str" => (k_here; k_dflt (refine' dsd_set ?zF ?zN ?zU ?zD ?zk ?zx ?_; (case zF => k_asm); (case zN => k_asm); (case zU => k_updF); (case zD => k_asm); (case zk => k_asm); (case zx => first | exact ⟨_, rfl⟩ | exact rfl)); intro _ _ _ _ _))
  (k_with "subscriptTail" => (k_here; (with_reducible show wpAny _ _ (subscriptTail _ _ (Value.ref _) (Value.str _ _)) _ _ _); k_dflt (refine' isd_item ?zN ?zm ?zD ?zx ?_; (case zN => k_asm); (case zm => k_mem); (case zD => k_asm); (case zx => first | exact upd_self _ _ _ | assumption)); intro _))
  (k_with "eval Name" => (k_here; k_dflt (refine' nameX_L ?zF ?zv ?_ ?za ?zb; (case za => rfl); (case zb => rfl); (case zF => k_asm); (case zv => first | rfl | assumption); k_whole)))
  (k_with "call builtin:len" => (k_here; (with_reducible show wpAny _ _ (call (Value.builtin "len") [Value.ref _]) _ _ _); k_dflt (refine' len_lst ?zl ?zn ?zb ?_; (case zl => is_list); (case zn => assumption); (case zb => omega); k_whole); intro _))
  (k_with "exec While Compare cons nil" => (k_here; refine stopW ?_))
  (k_with "subscriptTail" => (k_here; (with_reducible show wpAny _ _ (subscriptTail _ _ (Value.ref _) (Value.str _ _)) _ _ _); k_dflt (refine' asd_item ?zN ?zm ?zD ?zx ?_; (case zN => k_asm); (case zm => k_mem); (case zD => k_asm); (case zx => first | exact upd_self _ _ _ | assumption))))
  (k_with "call ref" => (k_here; (with_reducible show wpAny _ _ (call (Value.ref 117) [Value.ref _, Value.str _ _] []) _ _ _); k_dflt (refine' get_in ?zB ?zF ?zX ?zN ?zT ?zA ?zhh ?zf ?zk ?zr ?zG ?zU1 ?zU2 ?zDS ?zDE ?_; (case zF => k_asm); (case zG => exact Geo.all (by assumption) (Fr.keep (by k_asm))); (case zB => k_asm); (case zX => k_asm); (case zN => k_asm); (case zT => k_asm); (case zA => exact rfl); (case zhh => exact rfl); (case zf => exact rfl); (case zk => exact rfl); (case zr => (show _ ≤ 900; k_extra "k_dp")); (case zU1 => k_updF); (case zU2 => (intro _; (try dsimp only); k_updF)); (case zDS => k_asm); (case zDE => k_asm)); intro _ _ _ _ _ _ _ _ _ _))
  (k_with "callWith ref" => (k_here; k_dflt (refine' callWith_F ?zk1 ?_; (case zk1 => exact NegAt.fn (NegAt.keeps (by assumption) (Fr.keep (by k_asm)))); k_whole)))
  (k_with "call ref" => (k_here; (with_reducible show wpAny _ _ (call (Value.ref 52) _ _) _ _ _); refine stopW ?_))
  (k_with "call builtin:dict.setdefault" => (k_here; refine stopW ?_))
  (k_with "eval Lambda" => (k_here; k_dflt (refine' lam_in ?zF ?zN ?zT ?zC ?zcd ?zU ?zhps ?zhsub ?zcl ?zdf ?_; (case zF => k_asm); (case zN => k_asm); (case zT => k_asm); (case zcd => exact rfl); (case zC => kn_code); (case zU => k_updF); (case zhps => assumption); (case zhsub => (intro _ hq; first | (exact absurd hq List.not_mem_nil) | (repeat (first | exact hq | refine List.Mem.tail _ ?_)))); (case zcl => exact rfl); (case zdf => exact rfl); k_whole); intro fl cl ct psl lsl hpl tkl Fl Nl hfl hrl hnt ltl; (simp only [List.cons_append, List.nil_append] at Nl)))
  (k_with "call ref" => (k_here; (with_reducible show wpAny _ _ (call (Value.ref 69) _ _) _ _ _); k_dflt (refine' entry_in ?zF ?zX ?zN ?zT ?zr ?_; (case zF => k_asm); (case zX => k_asm); (case zN => k_asm); (case zT => k_asm); (case zr => (show _ ≤ 890; k_extra "k_dp"))); intro r9 d9 _ _ _ _ _ _ _ _ l1 l2; (try k_lt l1); (replace l2 : @LT.lt Nat instLTNat d9 r9 := l2)))
  (k_with "binaryOp Mult ref int" => (k_here; (with_reducible show wpAny _ _ (binaryOp Operator.Mult (Value.ref _) (Value.int _ _)) _ _ _); k_dflt (refine' KMa.mul ?zF ?zN ?zl ?zlo ?zhi ?z ?ze ?_; (case zF => k_asm); (case zN => k_asm); (case zl => is_list); (case zlo => omega); (case zhi => omega); (case z => (simp only [List.length_cons, List.length_nil]; omega)); (case ze => exact flat1 _ _)); intro _ _ _ _ l1; (try k_lt l1)))
  (k_with "binaryOp Add ref ref" => (k_here; (with_reducible show wpAny _ _ (binaryOp _ (Value.ref _) (Value.ref _)) _ _ _); k_dflt (refine' kmk_add_lit ?zF ?zN ?za ?zb ?ze ?_ ?z; (case zF => k_asm); (case zN => k_asm); (case za => first | kmk_list | is_list); (case zb => first | kmk_list | is_list); (case ze => exact rfl); (case z => (simp only [sizeLine, List.toList_toArray, List.length_replicate, List.length_nil, List.length_cons]; omega))); intro _ _ _ _ l1; (try k_lt l1)))
  (k_with "getMethod ref" => (k_here; (with_reducible show wpAny _ _ (getMethod (Value.ref _) (Str.ofString "keys") _) _ _ _); k_dflt (refine' dsd_method PySem.F.slot_dict_keys PySem.F.type_dict_keys ?zN ?zm ?zD ?_; (case zN => k_asm); (case zm => k_mem); (case zD => k_asm))))
  (k_with "call builtin:dict.keys" => (k_here; (with_reducible show wpAny _ _ (call (Value.builtin "dict.keys") [Value.ref _]) _ _ _); k_dflt (refine' dsd_keys ?zF ?zN ?zm ?zD ?zlo ?_; (case zF => k_asm); (case zN => k_asm); (case zm => k_mem); (case zD => k_asm); (case zlo => k_asm)); intro _ _ _ _ l1; (try k_lt l1)))
  (k_with "call type:list" => (k_here; (with_reducible show wpAny _ _ (call (Value.type "list") [Value.ref _]) _ _ _); k_dflt (refine' dsd_list ?zh ?zF ?zN ?zv ?zm ?zD ?_; (case zh => exact rfl); (case zF => k_asm); (case zN => k_asm); (case zv => exact List.Mem.head _); (case zm => k_mem); (case zD => k_asm)); intro _ _ _ _ _ _ _ _ _ l1; (try k_lt l1)))
  (k_with "exec For Name Call cons nil" => (k_here; refine stopW ?_))
  (k_with "eval Name" => (k_here; (with_reducible show wpAny _ _ (eval (Expr.Name _ _) (envOfC _ _ _ _ _)) _ _ _); k_dflt (refine' nameX_L ?zF ?zv ?_ ?za ?zb; (case za => rfl); (case zb => rfl); (case zF => k_asm); (case zv => first | rfl | assumption))))
  (k_with "k_ne" => first | (refine' ne_list_dsd ?zN ?zm1 ?zm2 ?zc ?zX; (case zN => k_asm); (case zm1 => k_mem); (case zm2 => k_mem); (case zc => exact rfl); (case zX => k_asm)) | (refine' ne_cls ?zN ?zm1 ?zm2 ?zc; (case zN => k_asm); (case zm1 => k_mem); (case zm2 => k_mem); (case zc => simp [tabObj])) | fail)
  (k_with "call builtin:len" => (k_here; (with_reducible show wpAny _ _ (call (Value.builtin "len") [Value.ref _]) _ _ _); k_dflt (refine' len_ints ?zl ?zi ?zb ?_; (case zl => kmk_list); (case zi => k_asm); (case zb => exact len_filter_le (n := 1000000) (by omega)); k_whole); intro _))
  (k_with "truthy ref" => (k_here; (with_reducible show wpAny _ _ (truthy (Value.ref _)) _ _ _); k_dflt (refine' truthy_ints ?zl ?zi ?zb ?_ ?_; (case zl => kmk_list); (case zi => k_asm); (case zb => exact len_filter_le (n := 1000000) (by omega)); k_whole); intro _))
  (k_with "call ref" => (k_here; (with_reducible show wpAny _ _ (call (Value.ref 139) [Value.ref _, Value.str _ _] []) _ _ _); k_dflt (refine' get_expiry_in ?zB ?zF ?zX ?zN ?zT ?zA ?zhh ?zf ?zk ?zr ?zG ?zm ?zDE ?_; (case zF => k_asm); (case zG => exact Geo.all (by assumption) (Fr.keep (by k_asm))); (case zB => k_asm); (case zX => k_asm); (case zN => k_asm); (case zT => k_asm); (case zA => exact rfl); (case zhh => exact rfl); (case zf => exact rfl); (case zk => exact rfl); (case zr => (show _ ≤ 890; k_extra "k_dp")); (case zm => k_mem); (case zDE => k_asm)); intro _ _ _ _ _ _))
  (k_with "call ref" => (k_here; (with_reducible show wpAny _ _ (call (Value.ref 146) _ _) _ _ _); k_dflt (refine' moving_in ?zB ?zF ?zX ?zN ?zT ?zA ?zhh ?zf ?zk ?zr ?zG ?zlo ?zCH ?zm ?zU ?zDV ?zhT ?zhE ?zhl ?zhs ?_; (case zF => k_asm); (case zG => exact Geo.all (by assumption) (Fr.keep (by k_asm))); (case zB => k_asm); (case zX => k_asm); (case zN => k_asm); (case zT => k_asm); (case zA => exact rfl); (case zhh => exact rfl); (case zf => exact rfl); (case zk => exact rfl); (case zr => (show _ ≤ 880; k_extra "k_dp")); (case zlo => k_asm); (case zCH => k_asm); (case zDV => k_asm); (case zm => k_mem); (case zU => k_updF); (case zhT => exact TabSt.all (by assumption) (Fr.keep (by k_asm))); (case zhE => exact ev_all (by assumption) (Fr.keep (by k_asm))); (case zhl => k_asm); (case zhs => k_asm)); intro _ _ psm Rm stm nm _ _ lsm _ Nm hRm hTm hfm hnm hltm hst0 hst1; (simp only [List.cons_append, List.nil_append] at Nm)))
  (k_with "k_mem" => first | assumption | fail)
  (k_with "subscriptTail" => (k_here; (with_reducible show wpAny _ _ (subscriptTail _ _ (Value.ref _) (Value.int (Nat.cast (_ : Nat)) _)) _ _ _); k_dflt (refine' lst_nat ?zN ?zm ?zx ?zi ?_; (case zN => k_asm); (case zm => k_mem); (case zx => exact three_at (by assumption)); (case zi => assumption))))
  (k_with "binaryOp Mult ref int" => (k_here; (with_reducible show wpAny _ _ (binaryOp Operator.Mult (Value.ref _) (Value.int _ _)) _ _ _); k_dflt (refine' mul_in ?zF ?zN ?zm ?z0 ?z1 ?_; (case zF => k_asm); (case zN => k_asm); (case zm => k_mem); (case z0 => first | assumption | exact (amt3 (by first | exact rfl | assumption) (by assumption)).1 | omega); (case z1 => first | assumption | exact (amt3 (by first | exact rfl | assumption) (by assumption)).2 | omega)); intro _ vsr _ _ _ l1 irep; (try k_lt l1)))
  (k_with "binaryOp Add ref ref" => (k_here; (with_reducible show wpAny _ _ (binaryOp _ (Value.ref _) (Value.ref _)) _ _ _); k_dflt (refine' add_in ?zF ?zN ?za ?zb ?zi ?zj ?zk ?zl ?_; (case zF => k_asm); (case zN => k_asm); (case za => first | kmk_list | is_list); (case zb => first | kmk_list | is_list); (case zi => k_asm); (case zj => k_asm); (case zk => first | exact Nat.le_trans (by assumption) (by decide) | omega); (case zl => (simp only [List.length_replicate]; first | exact Int.toNat_le.mpr (Int.le_trans (by assumption) (by decide)) | exact Int.toNat_le.mpr (Int.le_trans (amt3 (by first | exact rfl | assumption) (by assumption)).2 (by decide)) | omega))); intro _ zsr _ _ _ l1 iadd; (try k_lt l1)))
  (k_with "setItem ref int" => (k_here; (with_reducible show wpAny _ _ (setItem (Value.ref _) (Value.int _ _) (Value.ref _)) _ _ _); k_dflt (refine' set3 ?zF ?zN ?zU ?z3 ?_; (case zF => k_asm); (case zN => k_asm); (case zU => k_updF); (case z3 => assumption)); intro _ _ _))
  (k_with "call builtin:len" => (k_here; (with_reducible show wpAny _ _ (call (Value.builtin "len") [Value.ref _]) _ _ _); k_dflt (refine' len_ints ?zl ?zi ?zb ?_; (case zl => kmk_list); (case zi => k_asm); (case zb => (simp only [List.length_append, List.length_replicate]; first | exact Nat.le_trans (Nat.add_le_add (by assumption) (Int.toNat_le.mpr (amt3 (by first | exact rfl | assumption) (by assumption)).2)) (by decide) | omega)); k_whole); intro _))
  (k_with "subscriptTail" => (k_here; (with_reducible show wpAny _ _ (subscriptTail _ _ (Value.ref _) (Value.int 0 _)) _ _ _); k_dflt (refine' item0 ?zN ?zm ?zi ?ze ?_; (case zN => k_asm); (case zm => k_mem); (case zi => first | assumption | exact .cons _ _ .nil); (case ze => first | assumption | exact List.cons_ne_nil _ _)); intro x0 _ hx0))
  (k_with "subscriptTail" => (k_here; (with_reducible show wpAny _ _ (subscriptTail _ _ (Value.ref _) (Value.int 0 _)) _ _ _); k_dflt (refine' item_one ?zN ?zm ?_; (case zN => k_asm); (case zm => k_mem))))
  (k_with "storeName" => (k_here; (with_reducible show wpAny _ _ (storeName (envOfC _ _ _ _ _) _ _) _ _ _); k_dflt (first | (refine' store_int ?zF ?zN ?_ ?za ?zb; (case za => rfl); (case zb => rfl); (case zF => k_asm); (case zN => k_asm); intro _ _ _ _ hve _ _) | (refine' store_any ?zF ?zN ?_ ?za ?zb; (case za => rfl); (case zb => rfl); (case zF => k_asm); (case zN => k_asm); intro _ _ _ _))))
  trivial
theorem words_chain : True := by
  (k_with "execs" => (with_reducible show wpAny _ _ (execs (br _) _) _ _ _); refine stopW ?_)
  (k_with "execs cons" => (with_reducible show wpAny _ _ (execs (elifAt _ :: _) _) _ _ _); refine stopW ?_)
  trivial
theorem execs_one {M : Model} {st : Stmt} {e : Env} {Q : Flow → Shared → Prop} (h : wpAny M A (exec st e) Q E s) : wpAny M A (execs [st] e) Q E s :=
  wpAny_execs_cons (wpAny_mono h (fun f s' q => by cases f <;> first | exact wpAny_execs_nil q | exact q) fun _ _ q => q)
set_option maxHeartbeats 4000000 in
theorem chain_in {fa : Nat} {wv cd : Int} {u1 u2 : Tok} {Q : Flow → Shared → Prop} (F : Fr h₀ L s.heap m) (X₀ : (hd.heap_39 w.params).In h₀) (T₀ : Top p loose mean mg mb h₀) (N : News h₀ L s.heap news) (hA : A.frames = some [lawEnv L fa]) (hh : A.handled = none) (hroom : A.depth ≤ 400)
    (a1 : m (PySem.Str.ofString "what") = some (.int wv u1)) (a2 : m (PySem.Str.ofString "code") = some (.int cd u2))
    (hb : ∀ k h' tk', k < 6 → Fr h₀ L h' m → News h₀ L h' news → wpAny (model prog w) A (execs (br k) (lawEnv L fa)) Q E { s with heap := h', toks := tk' })
    (hn : ∀ h' tk', Fr h₀ L h' m → News h₀ L h' news → Q .next { s with heap := h', toks := tk' }) : wpAny (model prog w) A (exec (elifAt 0) (lawEnv L fa)) Q E s := by
  obtain ⟨hd9, dp, fr, gs, un⟩ := A
  dsimp only at hA hh hroom
  subst hA
  subst hh
  unfold lawEnv
  conv =>
    pattern (elifAt 0)
    whnf
  show wpAny _ _ (exec (Stmt.If _ (br 0) [elifAt 1] _) _) _ _ _
  k_steps
  · exact hb 0 _ _ (by decide) (by assumption) (by assumption)
  refine execs_one ?_
  conv =>
    pattern (elifAt 1)
    whnf
  show wpAny _ _ (exec (Stmt.If _ (br 1) [elifAt 2] _) _) _ _ _
  k_steps
  · exact hb 1 _ _ (by decide) (by assumption) (by assumption)
  refine execs_one ?_
  conv =>
    pattern (elifAt 2)
    whnf
  show wpAny _ _ (exec (Stmt.If _ (br 2) [elifAt 3] _) _) _ _ _
  k_steps
  · exact hb 2 _ _ (by decide) (by assumption) (by assumption)
  refine execs_one ?_
  conv =>
    pattern (elifAt 3)
    whnf
  show wpAny _ _ (exec (Stmt.If _ (br 3) [elifAt 4] _) _) _ _ _
  k_steps
  · exact hb 3 _ _ (by decide) (by assumption) (by assumption)
  refine execs_one ?_
  conv =>
    pattern (elifAt 4)
    whnf
  show wpAny _ _ (exec (Stmt.If _ (br 4) [elifAt 5] _) _) _ _ _
  k_steps
  · exact hb 4 _ _ (by decide) (by assumption) (by assumption)
  refine execs_one ?_
  conv =>
    pattern (elifAt 5)
    whnf
  show wpAny _ _ (exec (Stmt.If _ (br 5) [] _) _) _ _ _
  k_steps
  · exact hb 5 _ _ (by decide) (by assumption) (by assumption)
  · exact hn _ _ (by assumption) (by assumption)

end Chain
section Put
variable {prog : Program} {w : World} {A₀ A : Around} {base h₀ : Heap} {outer : List Env} {env : Env} {L : Addr} {m mg mb : PySem.Str → Option Value}
  {p : Program} {loose : List PySem.Str} {mean : ExcName → Option Value} {s : Shared} {news : List (Addr × Obj)} {E : Value → Shared → Prop}
theorem words_Put : True := by
  k_with_none
  w_top off
  (k_with "k_steps" => repeat' (first | (k_unfold; (try dsimp only)) | (k_end; wrow_close) | (dsimp only; walk1) | walk1 | (leave1; walk_say "STEP leave1"; try dsimp only) | fail "no step"))
  (k_with "k_lt" => first | (intro hlt9; (with_reducible rename NodT _ _ => hNdZ); have hNd2 := nod_new hNdZ hlt9 rfl; replace hlt9 := allLt_of hlt9; simp only [AllLt, and_true] at hlt9; revert hNd2 hlt9; intro _) | (intro hlt9; replace hlt9 := allLt_of hlt9; simp only [AllLt, and_true] at hlt9; revert hlt9) | fail)
  (k_with "k_off1" => first | exact Or.inl (by assumption) | exact Nat.le_refl _ | exact Nat.le_of_lt (by assumption) | exact Or.inr (Nat.le_trans (m := 201) (by decide) (by assumption)) | exact Nat.le_trans (m := 201) (by decide) (by assumption) | omega | fail)
  (k_with "k_offs" => first | (refine List.forall_mem_cons.mpr ⟨?_, ?_⟩; (try dsimp only); (k_extra "k_off1"); (k_extra "k_offs")) | exact (fun _ h => absurd h List.not_mem_nil) | fail)
  (k_with "k_cj" => with_reducible first | assumption | exact And.left (by assumption) | exact And.left (And.right (by assumption)) | exact And.left (And.right (And.right (by assumption))) | exact And.left (And.right (And.right (And.right (by assumption)))) | exact And.left (And.right (And.right (And.right (And.right (by assumption))))) | exact And.left (And.right (And.right (And.right (And.right (And.right (by assumption)))))) | exact And.right (by assumption) | exact And.right (And.right (by assumption)) | exact And.right (And.right (And.right (by assumption))) | exact And.right (And.right (And.right (And.right (by assumption)))) | exact And.right (And.right (And.right (And.right (And.right (by assumption))))) | fail)
  (k_with "k_dp" => first | exact Nat.le_trans (by assumption) (by decide) | exact Nat.le_trans (Nat.succ_le_succ (by assumption)) (by decide) | exact Nat.lt_of_le_of_lt (by assumption) (by decide) | exact Nat.lt_of_le_of_lt (Nat.succ_le_succ (by assumption)) (by decide) | exact Nat.le_trans (Nat.succ_le_succ (Nat.succ_le_succ (by assumption))) (by decide) | exact Nat.lt_of_le_of_lt (Nat.succ_le_succ (Nat.succ_le_succ (by assumption))) (by decide) | (simp only [depth_mark, depth_under_make, depth_under_kw, depth_in1, depth_deeper]; omega) | fail)
  (k_with "k_mem" => first | exact AtU.head | (apply AtU.tail; k_mem) | (refine' PairIn.head ?_; k_mem) | (refine' PairIn.tail ?_; k_mem) | fail)
  (k_with "k_ne" => first | (refine' ne_d1 ?zH ?zP; (case zH => assumption); (case zP => k_mem)) | (refine' ne_d2 ?zH ?zP; (case zH => assumption); (case zP => k_mem)) | exact Nat.ne_of_gt (by (try dsimp only); k_extra "k_cj") | exact Nat.ne_of_lt (by (try dsimp only); k_extra "k_cj") | (refine neN ?_; (try dsimp only); omega) | fail)
  (k_with "k_updF" => first | (refine' updF_at ?zA ?zH ?ze ?zm; (case zA => k_mem); (case zH => assumption); (case ze => rfl); (case zm => k_mem)) | (refine' UpdF.head ?za; (case za => k_all)) | (refine' UpdF.tail ?za ?zb; (case za => k_ne); (case zb => k_updF)) | fail)
  trivial
theorem keyOf_ne {i j : Nat} (hi : i < 3) (hj : j < 3) (h : i ≠ j) : keyOf i ≠ keyOf j := by
  match i, j, hi, hj with
  | 0, 0, _, _ => exact absurd rfl h
  | 0, 1, _, _ => decide
  | 0, 2, _, _ => decide
  | 1, 0, _, _ => decide
  | 1, 1, _, _ => exact absurd rfl h
  | 1, 2, _, _ => decide
  | 2, 0, _, _ => decide
  | 2, 1, _, _ => decide
  | 2, 2, _, _ => exact absurd rfl h
theorem keyOf_in {i : Nat} (hi : i < 3) : keyOf i ∈ KL := by
  match i, hi with
  | 0, _ => exact .head _
  | 1, _ => exact .tail _ (.head _)
  | 2, _ => exact .tail _ (.tail _ (.head _))
theorem KL_keyOf {k : PySem.Str} (h : k ∈ KL) : ∃ i, i < 3 ∧ k = keyOf i := by
  simp only [KL, List.mem_cons, List.not_mem_nil, or_false] at h
  rcases h with rfl | rfl | rfl
  · exact ⟨0, by decide, rfl⟩
  · exact ⟨1, by decide, rfl⟩
  · exact ⟨2, by decide, rfl⟩
/-- a list's place turned -/
def putAt {α : Type} (f : Nat → α) (i : Nat) (a : α) (j : Nat) : α := if j = i then a else f j
theorem putAt_self {α : Type} {f : Nat → α} {i : Nat} {a : α} : putAt f i a i = a := if_pos rfl
theorem putAt_ne {α : Type} {f : Nat → α} {i j : Nat} {a : α} (h : j ≠ i) : putAt f i a j = f j := if_neg h
theorem setAt_self {f : Nat → Addr} {i : Nat} {a : Addr} : setAt f i a i = a := if_pos rfl
theorem setAt_ne {f : Nat → Addr} {i j : Nat} {a : Addr} (h : j ≠ i) : setAt f i a j = f j := if_neg h
theorem ListIn.sub {tl tl' : List (Addr × Obj)} {a : Nat} {ns : List Int} (x : ListIn tl a ns) (h : ∀ q ∈ tl, q ∈ tl') : ListIn tl' a ns := by
  obtain ⟨vs, c, m, i⟩ := x
  exact ⟨vs, c, h _ m, i⟩
theorem lst_put {tl tl' : List (Addr × Obj)} {f : Nat → Addr} {ns : Nat → List Int} {b b' wh : Nat} {D : Addr} {l : List Int} (h : ∀ i, i < 3 → ListIn tl (f i) (ns i) ∧ (ns i).length ≤ b) (hs : ∀ q ∈ tl, q ∈ tl') (hb : b ≤ b') (hD : ListIn tl' D l) (hl : l.length ≤ b') :
    ∀ i, i < 3 → ListIn tl' (setAt f wh D i) (putAt ns wh l i) ∧ (putAt ns wh l i).length ≤ b' := fun i hi => by
  by_cases e : i = wh
  · subst e; rw [setAt_self, putAt_self]; exact ⟨hD, hl⟩
  · rw [setAt_ne e, putAt_ne e]; exact ⟨(h i hi).1.sub hs, Nat.le_trans (h i hi).2 hb⟩
theorem lst_keep {tl tl' : List (Addr × Obj)} {f : Nat → Addr} {ns : Nat → List Int} {b b' : Nat} (h : ∀ i, i < 3 → ListIn tl (f i) (ns i) ∧ (ns i).length ≤ b) (hs : ∀ q ∈ tl, q ∈ tl') (hb : b ≤ b') :
    ∀ i, i < 3 → ListIn tl' (f i) (ns i) ∧ (ns i).length ≤ b' := fun i hi => ⟨(h i hi).1.sub hs, Nat.le_trans (h i hi).2 hb⟩
theorem c_put {gS gE gS' gE' : PySem.Str → Option Int} {toks : Nat → List Int} {t : Int} {wh : Nat} {l : List Int} (h : ∀ i, i < 3 → CInv gS gE (keyOf i) (toks i) t) (hw : wh < 3) (hS : ∀ k, k ≠ keyOf wh → gS' k = gS k) (hE : ∀ k, k ≠ keyOf wh → gE' k = gE k) (hn : CInv gS' gE' (keyOf wh) l t) :
    ∀ i, i < 3 → CInv gS' gE' (keyOf i) (putAt toks wh l i) t := fun i hi => by
  by_cases e : i = wh
  · subst e; rw [putAt_self]; exact hn
  · rw [putAt_ne e]; exact (h i hi).at (hS _ (keyOf_ne hi hw e)) (hE _ (keyOf_ne hi hw e))
def EvO (w : World) (tl : List (Addr × Obj)) (bd : Nat) : Option Addr → List (Int × Int) → Prop
  | none, l => l = []
  | some a, l => EvIn w tl bd a l
theorem EvO.sub {tl tl' : List (Addr × Obj)} {bd : Nat} {y : Option Addr} {l : List (Int × Int)} (x : EvO w tl bd y l) (h : ∀ q ∈ tl, q ∈ tl') : EvO w tl' bd y l := by
  cases y with
  | none => exact x
  | some a => exact EvIn.sub x h
theorem ev_put {tl tl' : List (Addr × Obj)} {bd wh : Nat} {gV : PySem.Str → Option Addr} {y : Option Addr} {l : Nat → List (Int × Int)} {l' : List (Int × Int)} (h : ∀ i, i < 3 → EvO w tl bd (gV (keyOf i)) (l i)) (hw : wh < 3) (hs : ∀ q ∈ tl, q ∈ tl') (hn : EvO w tl' bd y l') :
    ∀ i, i < 3 → EvO w tl' bd (upd gV (keyOf wh) y (keyOf i)) (putAt l wh l' i) := fun i hi => by
  by_cases e : i = wh
  · subst e
    rw [putAt_self, upd_self]; exact hn
  · rw [putAt_ne e, upd_ne _ _ (keyOf_ne hi hw e)]; exact (h i hi).sub hs
theorem m_put {l : Nat → List (Int × Int)} {uns : Nat → List Int} {t : Int} {wh : Nat} {l' : List (Int × Int)} {u' : List Int} (h : ∀ i, i < 3 → MInv (l i) (uns i) t (winOf i)) (hn : MInv l' u' t (winOf wh)) : ∀ i, i < 3 → MInv (putAt l wh l' i) (putAt uns wh u' i) t (winOf i) := fun i hi => by
  by_cases e : i = wh
  · subst e; rw [putAt_self, putAt_self]; exact hn
  · rw [putAt_ne e, putAt_ne e]; exact h i hi
theorem ite_at {gE : PySem.Str → Option Int} {k k0 : PySem.Str} {p q : Prop} [Decidable p] [Decidable q] {x y : Option Int} (h : k ≠ k0) : (if p then upd gE k0 x else if q then upd gE k0 y else gE) k = gE k := by
  split
  · exact upd_ne _ _ h
  · split
    · exact upd_ne _ _ h
    · rfl
theorem ite_at1 {gE : PySem.Str → Option Int} {k k0 : PySem.Str} {q : Prop} [Decidable q] {y : Option Int} (h : k ≠ k0) : (if q then upd gE k0 y else gE) k = gE k := by
  split
  · exact upd_ne _ _ h
  · rfl
/-- the lists of events by key -/
def byKey (l : Nat → List (Int × Int)) (k : PySem.Str) : List (Int × Int) := if k = keyOf 0 then l 0 else if k = keyOf 1 then l 1 else l 2
theorem byKey_at {l : Nat → List (Int × Int)} {i : Nat} (h : i < 3) : byKey l (keyOf i) = l i := by
  unfold byKey
  match i, h with
  | 0, _ => exact if_pos rfl
  | 1, _ => rw [if_neg (by decide), if_pos rfl]
  | 2, _ => rw [if_neg (by decide), if_neg (by decide)]
theorem byKey_ind {l : Nat → List (Int × Int)} {P : List (Int × Int) → Prop} (h : ∀ i, i < 3 → P (l i)) (k : PySem.Str) : P (byKey l k) := by
  unfold byKey
  split
  · exact h 0 (by decide)
  · split
    · exact h 1 (by decide)
    · exact h 2 (by decide)
theorem asd_in {o : Obj} {gV : PySem.Str → Option Addr} {k : PySem.Str} {a : Addr} (D : ASD prog w o gV) (h : gV k = some a) : k ∈ KL := by
  obtain ⟨kvs, _, hk, hv⟩ := D
  have := hv k
  rw [h] at this
  obtain ⟨v, e, _⟩ := this
  obtain ⟨kv, hf, _⟩ := Option.map_eq_some_iff.mp e
  have h1 := List.find?_some hf
  have h2 := hk _ (List.mem_of_find?_eq_some hf)
  rw [of_decide_eq_true h1] at h2
  exact h2

end Put
section Turn
variable {prog : Program} {w : World} {A₀ A : Around} {base h₀ : Heap} {outer : List Env} {env : Env} {L : Addr} {m mg mb : PySem.Str → Option Value}
  {p : Program} {loose : List PySem.Str} {mean : ExcName → Option Value} {s : Shared} {news : List (Addr × Obj)} {E : Value → Shared → Prop}
theorem words_Turn : True := by
  k_with_none
  w_top off
  (k_with "k_steps" => repeat' (first | (k_unfold; (try dsimp only)) | (k_end; wrow_close) | (dsimp only; walk1) | walk1 | (leave1; walk_say "STEP leave1"; try dsimp only) | fail "no step"))
  (k_with "k_lt" => first | (intro hlt9; (with_reducible rename NodT _ _ => hNdZ); have hNd2 := nod_new hNdZ hlt9 rfl; replace hlt9 := allLt_of hlt9; simp only [AllLt, and_true] at hlt9; revert hNd2 hlt9; intro _) | (intro hlt9; replace hlt9 := allLt_of hlt9; simp only [AllLt, and_true] at hlt9; revert hlt9) | fail)
  (k_with "k_off1" => first | exact Or.inl (by assumption) | exact Nat.le_refl _ | exact Nat.le_of_lt (by assumption) | exact Or.inr (Nat.le_trans (m := 201) (by decide) (by assumption)) | exact Nat.le_trans (m := 201) (by decide) (by assumption) | omega | fail)
  (k_with "k_offs" => first | (refine List.forall_mem_cons.mpr ⟨?_, ?_⟩; (try dsimp only); (k_extra "k_off1"); (k_extra "k_offs")) | exact (fun _ h => absurd h List.not_mem_nil) | fail)
  (k_with "k_cj" => with_reducible first | assumption | exact And.left (by assumption) | exact And.left (And.right (by assumption)) | exact And.left (And.right (And.right (by assumption))) | exact And.left (And.right (And.right (And.right (by assumption)))) | exact And.left (And.right (And.right (And.right (And.right (by assumption))))) | exact And.left (And.right (And.right (And.right (And.right (And.right (by assumption)))))) | exact And.right (by assumption) | exact And.right (And.right (by assumption)) | exact And.right (And.right (And.right (by assumption))) | exact And.right (And.right (And.right (And.right (by assumption)))) | exact And.right (And.right (And.right (And.right (And.right (by assumption))))) | fail)
  (k_with "k_dp" => first | exact Nat.le_trans (by assumption) (by decide) | exact Nat.le_trans (Nat.succ_le_succ (by assumption)) (by decide) | exact Nat.lt_of_le_of_lt (by assumption) (by decide) | exact Nat.lt_of_le_of_lt (Nat.succ_le_succ (by assumption)) (by decide) | exact Nat.le_trans (Nat.succ_le_succ (Nat.succ_le_succ (by assumption))) (by decide) | exact Nat.lt_of_le_of_lt (Nat.succ_le_succ (Nat.succ_le_succ (by assumption))) (by decide) | (simp only [depth_mark, depth_under_make, depth_under_kw, depth_in1, depth_deeper]; omega) | fail)
  (k_with "k_mem" => first | exact AtU.head | (apply AtU.tail; k_mem) | (refine' PairIn.head ?_; k_mem) | (refine' PairIn.tail ?_; k_mem) | fail)
  (k_with "k_ne" => first | (refine' ne_d1 ?zH ?zP; (case zH => assumption); (case zP => k_mem)) | (refine' ne_d2 ?zH ?zP; (case zH => assumption); (case zP => k_mem)) | exact Nat.ne_of_gt (by (try dsimp only); k_extra "k_cj") | exact Nat.ne_of_lt (by (try dsimp only); k_extra "k_cj") | (refine neN ?_; (try dsimp only); omega) | fail)
  (k_with "k_updF" => first | (refine' updF_at ?zA ?zH ?ze ?zm; (case zA => k_mem); (case zH => assumption); (case ze => rfl); (case zm => k_mem)) | (refine' UpdF.head ?za; (case za => k_all)) | (refine' UpdF.tail ?za ?zb; (case za => k_ne); (case zb => k_updF)) | fail)
  trivial
set_option genInjectivity false in
set_option genSizeOfSpec false in
/-- what a turn of the law may change -/
structure LV where
  t : Int
  tk : Tok
  c : Nat
  oS : Obj
  oE : Obj
  oV : Obj
  oW : Obj
  p89 : Array Value
  p141 : Array Value
  T : Nat
  aT : Nat → Addr
  cT : Nat
  U : Nat
  aU : Nat → Addr
  cU : Nat
  gS : PySem.Str → Option Int
  gE : PySem.Str → Option Int
  gV : PySem.Str → Option Addr
  toks : Nat → List Int
  uns : Nat → List Int
  l : Nat → List (Int × Int)
abbrev led (L nw dS dE dV : Nat) (v : LV) : List (Addr × Obj) :=
  [(nw, W.listOf #[.int v.t v.tk] v.c), (dS, v.oS), (dE, v.oE), (dV, v.oV), (89, tabObj v.p89), (141, tabObj v.p141), (L + 1, v.oW), (v.T, W.listOf #[.ref (v.aT 0), .ref (v.aT 1), .ref (v.aT 2)] v.cT), (v.U, W.listOf #[.ref (v.aU 0), .ref (v.aU 1), .ref (v.aU 2)] v.cU)]
abbrev kept5 : List PySem.Str := ["script", "numbers", "store", "keys", "windows"].map PySem.Str.ofString
/-- the law's state between two turns: tl tells the objects that no turn changes -/
structure LF (prog : Program) (w : World) (L nw dS dE dV : Nat) (m₀ m : PySem.Str → Option Value) (n : Nat) (its tl : List (Addr × Obj)) (v : LV) : Prop where
  nod : NodT ((led L nw dS dE dV v).map (·.1)) (its ++ tl)
  hS : ISD prog w v.oS v.gS
  hE : ISD prog w v.oE v.gE
  hV : ASD prog w v.oV v.gV
  hW : ∃ ov, v.oW.data = .cell ov
  t89 : TabL tl dV 38 64 qExp v.p89
  t141 : TabL tl dV 90 68 qMov v.p141
  tok : ∀ i, i < 3 → ListIn tl (v.aT i) (v.toks i) ∧ (v.toks i).length ≤ 3 * n
  uni : ∀ i, i < 3 → ListIn tl (v.aU i) (v.uns i) ∧ (v.uns i).length ≤ 6 * n
  ev : ∀ i, i < 3 → EvO w tl dV (v.gV (keyOf i)) (v.l i)
  hM : ∀ i, i < 3 → MInv (v.l i) (v.uns i) v.t (winOf i)
  hC : ∀ i, i < 3 → CInv v.gS v.gE (keyOf i) (v.toks i) v.t
  mT : m (PySem.Str.ofString "tokens") = some (.ref v.T)
  mU : m (PySem.Str.ofString "units") = some (.ref v.U)
  mR : ∀ y, y ∈ kept5 → m y = m₀ y
/-- the law's fixed objects, told by tl -/
structure FT (w : World) (L lo x fk dx nw dS dE dV aK aW : Nat) (oC : Obj) (vsK vsW : List Value) (cK cW : Nat) (uK uW : Nat → Tok) (t1 t2 t3 t4 : Tok) (tl : List (Addr × Obj)) : Prop where
  G : ∀ h t tk c, (∀ q ∈ tl, h.get? q.1 = some q.2) → h.get? nw = some (W.listOf #[.int t tk] c) → Geo w h lo x fk dS dE dV t
  mX : (x, instObj 192 dx) ∈ tl
  mXd : (dx, dictOf (storeEs w fk dS dE dV t1 t2 t3 t4) 4) ∈ tl
  mC : (L + 1 + 1, oC) ∈ tl
  dC : oC.data = .cell (some (.ref nw))
  mK : (aK, tupO vsK cK) ∈ tl
  hK : ∀ i, i < 3 → vsK[i]? = some (.str (keyOf i) (uK i))
  mW : (aW, tupO vsW cW) ∈ tl
  hW : ∀ i, i < 3 → vsW[i]? = some (.int (winOf i) (uW i))
theorem FT.sub {L lo x fk dx nw dS dE dV aK aW : Nat} {oC : Obj} {vsK vsW : List Value} {cK cW : Nat} {uK uW : Nat → Tok} {t1 t2 t3 t4 : Tok} {tl tl' : List (Addr × Obj)} (f : FT w L lo x fk dx nw dS dE dV aK aW oC vsK vsW cK cW uK uW t1 t2 t3 t4 tl) (h : ∀ q ∈ tl, q ∈ tl') : FT w L lo x fk dx nw dS dE dV aK aW oC vsK vsW cK cW uK uW t1 t2 t3 t4 tl' :=
  ⟨fun hp t tk c n k => f.G hp t tk c (fun q hq => n q (h q hq)) k, h _ f.mX, h _ f.mXd, h _ f.mC, f.dC, h _ f.mK, f.hK, h _ f.mW, f.hW⟩
theorem turn_split : turnBody = turnPre ++ [elifAt 0, tailFor] := rfl
theorem EvO.ev {h : Heap} {tl : List (Addr × Obj)} {bd : Nat} {y : Option Addr} {l : List (Int × Int)} (x : EvO w tl bd y l) (n : ∀ q ∈ tl, h.get? q.1 = some q.2) : match (generalizing := false) y with | none => l = [] | some a => EvAt w h bd a l := by
  cases y with
  | none => exact x
  | some a => exact EvIn.at x n
theorem EvO.mt {tl : List (Addr × Obj)} {bd : Nat} {y : Option Addr} {l : List (Int × Int)} (x : EvO w tl bd y l) : match (generalizing := false) y with | none => l = [] | some a => EvIn w tl bd a l := by
  cases y with
  | none => exact x
  | some a => exact x
theorem EvO.of {tl : List (Addr × Obj)} {bd : Nat} {y : Option Addr} {l : List (Int × Int)} (x : match y with | none => l = [] | some a => EvIn w tl bd a l) : EvO w tl bd y l := by
  cases y with
  | none => exact x
  | some a => exact x
def TurnR (prog : Program) (w : World) (h₀ : Heap) (L nw dS dE dV : Nat) (m₀ : PySem.Str → Option Value) (n : Nat) (its tl : List (Addr × Obj)) (s : Shared) (fl : Flow) (s' : Shared) : Prop :=
  fl = .next ∧ ∃ h' tk' m' v' tl', Ext its tl tl' ∧ s' = { s with heap := h', toks := tk' } ∧ Fr h₀ L h' m' ∧ News h₀ L h' (led L nw dS dE dV v' ++ (its ++ tl')) ∧ LF prog w L nw dS dE dV m₀ m' n its tl' v'
theorem kept_in {m₀ m1 m3 : PySem.Str → Option Value} {T U : Nat} (km : ∀ y, y ∈ kept8 → m3 y = m1 y) (hT : m1 (PySem.Str.ofString "tokens") = some (.ref T)) (hU : m1 (PySem.Str.ofString "units") = some (.ref U)) (hR : ∀ y, y ∈ kept5 → m1 y = m₀ y) :
    m3 (PySem.Str.ofString "tokens") = some (.ref T) ∧ m3 (PySem.Str.ofString "units") = some (.ref U) ∧ ∀ y, y ∈ kept5 → m3 y = m₀ y :=
  ⟨(km _ (by decide +kernel)).trans hT, (km _ (by decide +kernel)).trans hU, fun y hy => (km y (by revert y; decide +kernel)).trans (hR y hy)⟩
theorem len_incr {ns : List Int} {a b : Int} {t : Int} {n : Nat} (h : ns.length ≤ 3 * n) (h1 : a < 3) : ((ns.filter fun e => decide (t < e)) ++ List.replicate (1 + a).toNat b).length ≤ 3 * (n + 1) := by
  rw [List.length_append, List.length_replicate]
  exact Nat.add_le_add (Nat.le_trans (List.length_filter_le _ ns) h) (Int.toNat_le.mpr (Int.add_comm 1 a ▸ h1 : 1 + a ≤ 3))
set_option maxHeartbeats 4000000 in
theorem turn_in {lo x fk dx nw dS dE dV aK aW fa : Nat} {oC : Obj} {vsK vsW : List Value} {cK cW pl n : Nat} {uK uW : Nat → Tok} {t1 t2 t3 t4 tnum tpl : Tok} {num : Int} {m₀ : PySem.Str → Option Value} {its tl : List (Addr × Obj)} {v : LV} {U : Flow → Shared → Prop}
    (B : Below A₀ base [] h₀) (F : Fr h₀ L s.heap m) (X₀ : (hd.heap_39 w.params).In h₀) (T₀ : Top p loose mean mg mb h₀)
    (hA : A.frames = some [lawEnv L fa]) (hh : A.handled = none) (hroom : A.depth ≤ 400)
    (ti2 : PySem.Str.ofString "IndexError" ∉ loose) (ti3 : PySem.Str.ofString "IndexError" ∉ (recsOf p).map (·.name)) (ti4 : PySem.Str.ofString "IndexError" ∉ (litsOf p).map (·.1)) (ti5 : PySem.Str.ofString "IndexError" ∉ (clssOf p loose).map (·.name))
    (hlo : 201 ≤ lo) (hL : (L : Nat) ≤ lo) (CH1 : CodeHd base 145 141) (CH2 : CodeHd base 93 89)
    (N : News h₀ L s.heap (led L nw dS dE dV v ++ (its ++ tl))) (ft : FT w L lo x fk dx nw dS dE dV aK aW oC vsK vsW cK cW uK uW t1 t2 t3 t4 tl) (lf : LF prog w L nw dS dE dV m₀ m n its tl v) (hn : n ≤ 19) (hpl : pl ≤ 63)
    (a1 : m (PySem.Str.ofString "number") = some (.int num tnum)) (a2 : m (PySem.Str.ofString "place") = some (.int pl tpl)) (a3 : m₀ (PySem.Str.ofString "keys") = some (.ref aK)) (a4 : m₀ (PySem.Str.ofString "windows") = some (.ref aW)) (a5 : m₀ (PySem.Str.ofString "store") = some (.ref x))
    (hU : ∀ h' tk' m' v' tl', Ext its tl tl' → Fr h₀ L h' m' → News h₀ L h' (led L nw dS dE dV v' ++ (its ++ tl')) → LF prog w L nw dS dE dV m₀ m' (n + 1) its tl' v' → U .next { s with heap := h', toks := tk' }) :
    wpAny (model prog w) A (execs turnBody (lawEnv L fa)) U E s := by
  obtain ⟨ov, hov⟩ := lf.hW
  have up : ∀ q ∈ tl, q ∈ pick (led L nw dS dE dV v) [1, 2, 3, 4, 5, 7, 8] ++ (its ++ tl) := fun q hq => List.mem_append_right _ (List.mem_append_right _ hq)
  rw [turn_split]
  refine pre_in B F X₀ T₀ (news_re [0, 6] [1, 2, 3, 4, 5, 7, 8] N rfl rfl) (nod_pick [0, 6] [1, 2, 3, 4, 5, 7, 8] lf.nod (by decide) rfl rfl) hA hh hroom hov (up _ ft.mC) ft.dC (up _ ft.mK) ft.hK (up _ ft.mW) ft.hW
    (.tail _ (.tail _ (.tail _ (.tail _ (.tail _ (.head _)))))) (fun i hi => ⟨(lf.tok i hi).1.sub up, Nat.le_trans (lf.tok i hi).2 (Nat.le_trans (Nat.mul_le_mul_left 3 hn) (by decide))⟩) a1 a2 ((lf.mR _ (by decide +kernel)).trans a3) ((lf.mR _ (by decide +kernel)).trans a4) lf.mT hpl ?_
  intro h1 tk1 m1 t' u' wh D c' vsL oW' u1 u2 u3 u4 hle hwh F1 N1 hN1 dW1 iL b1 b2 b3 b4 b5 hm1
  have hE1 := led_fin (its := its) (tl := tl) (E := (D, W.listOf vsL.toArray c') :: (nw, W.listOf #[.int t' u'] v.c) :: (L + 1, oW') :: pick (led L nw dS dE dV v) [1, 2, 3, 4, 5, 7, 8]) [1, 3, 4, 5, 6, 7, 2, 8, 9] [0] N1 (nod_join (R := pick (led L nw dS dE dV v) [1, 2, 3, 4, 5, 7, 8]) (tl := its ++ tl) hN1 (nod_pick [1, 2, 3, 4, 5, 7, 8] [] lf.nod (by decide) rfl rfl)) (by decide) rfl rfl
  obtain ⟨tl1, htl1⟩ : ∃ tl1, tl1 = (D, W.listOf vsL.toArray c') :: tl := ⟨_, rfl⟩
  have sub1 : ∀ q ∈ tl, q ∈ tl1 := fun q hq => htl1 ▸ List.mem_cons_of_mem _ hq
  have x1 : Ext its tl tl1 := by rw [htl1]; exact hE1.2.2
  have mD : (D, W.listOf vsL.toArray c') ∈ tl1 := htl1 ▸ .head _
  obtain ⟨v1, hv1⟩ : ∃ v1 : LV, v1 = { v with t := t', tk := u', oW := oW' } := ⟨_, rfl⟩
  have N2 : News h₀ L h1 (led L nw dS dE dV v1 ++ (its ++ tl1)) := by rw [hv1, htl1]; exact hE1.1
  have k1 : ∀ y, y ∈ kept8 → m1 y = m y := hm1
  have lf1 : LF prog w L nw dS dE dV m₀ m1 n its tl1 v1 := by
    rw [hv1]
    exact ⟨by rw [htl1]; exact hE1.2.1, lf.hS, lf.hE, lf.hV, ⟨_, dW1⟩, lf.t89.sub sub1, lf.t141.sub sub1, lst_keep lf.tok sub1 (Nat.le_refl _), lst_keep lf.uni sub1 (Nat.le_refl _), fun i hi => (lf.ev i hi).sub sub1, fun i hi => (lf.hM i hi).time hle, fun i hi => (lf.hC i hi).time hle,
      (kept_in k1 lf.mT lf.mU lf.mR).1, (kept_in k1 lf.mT lf.mU lf.mR).2.1, (kept_in k1 lf.mT lf.mU lf.mR).2.2⟩
  have ft1 := ft.sub sub1
  have iL1 : IntsAre vsL ((v1.toks wh).filter fun e => decide (v1.t < e)) := by rw [hv1]; exact iL
  have a1' := (k1 _ (by decide +kernel)).trans a1
  have a3' := (lf1.mR (PySem.Str.ofString "keys") (by decide +kernel)).trans a3
  have a4' := (lf1.mR (PySem.Str.ofString "windows") (by decide +kernel)).trans a4
  have a5' := (lf1.mR (PySem.Str.ofString "store") (by decide +kernel)).trans a5
  have dW2 : v1.oW.data = .cell (some (.int (winOf wh) (uW wh))) := by rw [hv1]; exact dW1
  have n9 : n ≤ n + 1 := Nat.le_succ n
  have n3 : 3 * n ≤ 3 * (n + 1) := Nat.mul_le_mul_left 3 n9
  have n6 : 6 * n ≤ 6 * (n + 1) := Nat.mul_le_mul_left 6 n9
  have lT : (v1.toks wh).length ≤ 100 := Nat.le_trans (lf1.tok wh hwh).2 (Nat.le_trans (Nat.mul_le_mul_left 3 hn) (by decide))
  have lU : ∀ i, i < 3 → (v1.uns i).length ≤ 200 := fun i hi => Nat.le_trans (lf1.uni i hi).2 (Nat.le_trans (Nat.mul_le_mul_left 6 hn) (by decide))
  have ft0 := ft
  clear hE1 N1 hN1 lf ft N F hv1 htl1 up dW1 iL hov
  refine wpAny_execs_cons (cut_exec (TurnR prog w h₀ L nw dS dE dV m₀ (n + 1) its tl s) (chain_in (news := led L nw dS dE dV v1 ++ (its ++ tl1)) F1 X₀ T₀ N2 hA hh hroom b4 b1 ?_ ?_) ?_)
  · intro k h2 tk2 hk F2 N2
    match k, hk with
    | 0, _ =>
      have up0 : ∀ q ∈ tl1, q ∈ pick (led L nw dS dE dV v1) [0, 3, 4, 5, 6, 8] ++ (its ++ tl1) := fun q hq => List.mem_append_right _ (List.mem_append_right _ hq)
      refine incr_br B F2 X₀ T₀ (news_re [1, 2, 7] [0, 3, 4, 5, 6, 8] N2 rfl rfl) (nod_pick [1, 2, 7] [0, 3, 4, 5, 6, 8] lf1.nod (by decide) rfl rfl) hA hh hroom (up0 _ ft1.mX) (up0 _ ft1.mXd) (fun h' N' => ft1.G h' v1.t v1.tk v1.c (fun q hq => (N' q (up0 q hq)).1) (N' _ (.head _)).1) lf1.hS lf1.hE hwh (keyOf_in hwh)
        (.head _) (up0 _ ft1.mC) ft1.dC (up0 _ mD) iL1 (Nat.le_trans (List.length_filter_le _ _) lT) (lf1.hC wh hwh).count a1' b1 b2 b3 b5 a5' lf1.mT ?_
      intro h3 tk3 m3 oS oE D3 vs3 e F3 N3 hN3 DS DE iv km
      have hf := led_fin (E := (D3, W.listOf vs3.toArray 0) :: (dS, oS) :: (dE, oE) :: (v1.T, W.listOf #[.ref (setAt v1.aT wh D3 0), .ref (setAt v1.aT wh D3 1), .ref (setAt v1.aT wh D3 2)] v1.cT) :: pick (led L nw dS dE dV v1) [0, 3, 4, 5, 6, 8]) (its := its) (tl := tl1) [4, 1, 2, 5, 6, 7, 8, 3, 9] [0] N3
            (nod_join (R := pick (led L nw dS dE dV v1) [0, 3, 4, 5, 6, 8]) (tl := its ++ tl1) hN3 (nod_pick [0, 3, 4, 5, 6, 8] [] lf1.nod (by decide) rfl rfl)) (by decide) rfl rfl
      have kk := kept_in km lf1.mT lf1.mU lf1.mR
      have s2 : ∀ q ∈ tl1, q ∈ (D3, W.listOf vs3.toArray 0) :: tl1 := fun q hq => .tail _ hq
      have b3 := fm_in (cd := num + 7 * pl) (k := 3) (by decide)
      exact ⟨rfl, h3, tk3, m3, { v1 with oS := oS, oE := oE, gS := _, gE := _, aT := setAt v1.aT wh D3, toks := putAt v1.toks wh _ }, (D3, W.listOf vs3.toArray 0) :: tl1, x1.trans hf.2.2, rfl, F3, hf.1, ⟨hf.2.1, DS, DE, lf1.hV, lf1.hW, lf1.t89.sub s2, lf1.t141.sub s2,
        lst_put lf1.tok s2 n3 ⟨vs3, 0, .head _, iv⟩ (len_incr (lf1.tok wh hwh).2 b3.2), lst_keep lf1.uni s2 n6, fun i hi => (lf1.ev i hi).sub s2, lf1.hM, c_put lf1.hC hwh (fun k hk => upd_ne _ _ hk) (fun k hk => ite_at hk) ((lf1.hC wh hwh).incr (Int.lt_of_lt_of_le (by decide) (Int.le_add_of_nonneg_right b3.1))), kk.1, kk.2.1, kk.2.2⟩⟩
    | 1, _ =>
      have up1 : ∀ q ∈ tl1, q ∈ pick (led L nw dS dE dV v1) [0, 3, 4, 5, 6, 8] ++ (its ++ tl1) := fun q hq => List.mem_append_right _ (List.mem_append_right _ hq)
      refine decr_br B F2 X₀ T₀ (news_re [1, 2, 7] [0, 3, 4, 5, 6, 8] N2 rfl rfl) (nod_pick [1, 2, 7] [0, 3, 4, 5, 6, 8] lf1.nod (by decide) rfl rfl) hA hh hroom (up1 _ ft1.mX) (up1 _ ft1.mXd) (fun h' N' => ft1.G h' v1.t v1.tk v1.c (fun q hq => (N' q (up1 q hq)).1) (N' _ (.head _)).1) lf1.hS lf1.hE hwh (keyOf_in hwh)
        (.head _) (up1 _ ft1.mC) ft1.dC (up1 _ mD) iL1 (Nat.le_trans (List.length_filter_le _ _) lT) (lf1.hC wh hwh).count b1 b2 b3 b5 a5' lf1.mT ?_
      intro h3 tk3 m3 oS oE D3 vs3 F3 N3 hN3 DS DE iv km
      have hf := led_fin (E := (D3, W.listOf vs3.toArray 0) :: (dS, oS) :: (dE, oE) :: (v1.T, W.listOf #[.ref (setAt v1.aT wh D3 0), .ref (setAt v1.aT wh D3 1), .ref (setAt v1.aT wh D3 2)] v1.cT) :: pick (led L nw dS dE dV v1) [0, 3, 4, 5, 6, 8]) (its := its) (tl := tl1) [4, 1, 2, 5, 6, 7, 8, 3, 9] [0] N3
            (nod_join (R := pick (led L nw dS dE dV v1) [0, 3, 4, 5, 6, 8]) (tl := its ++ tl1) hN3 (nod_pick [0, 3, 4, 5, 6, 8] [] lf1.nod (by decide) rfl rfl)) (by decide) rfl rfl
      have kk := kept_in km lf1.mT lf1.mU lf1.mR
      have s2 : ∀ q ∈ tl1, q ∈ (D3, W.listOf vs3.toArray 0) :: tl1 := fun q hq => .tail _ hq
      have b3 := fm_in (cd := num + 7 * pl) (k := 4) (by decide)
      exact ⟨rfl, h3, tk3, m3, { v1 with oS := oS, oE := oE, gS := _, gE := _, aT := setAt v1.aT wh D3, toks := putAt v1.toks wh _ }, (D3, W.listOf vs3.toArray 0) :: tl1, x1.trans hf.2.2, rfl, F3, hf.1, ⟨hf.2.1, DS, DE, lf1.hV, lf1.hW, lf1.t89.sub s2, lf1.t141.sub s2,
        lst_put lf1.tok s2 n3 ⟨vs3, 0, .head _, iv⟩ (by rw [List.length_drop]; exact Nat.le_trans (Nat.sub_le _ _) (Nat.le_trans (List.length_filter_le _ _) (Nat.le_trans (lf1.tok wh hwh).2 n3))), lst_keep lf1.uni s2 n6, fun i hi => (lf1.ev i hi).sub s2, lf1.hM, c_put lf1.hC hwh (fun k hk => upd_ne _ _ hk) (fun k hk => ite_at1 hk) ((lf1.hC wh hwh).decr b3.1), kk.1, kk.2.1, kk.2.2⟩⟩
    | 2, _ =>
      have up2 : ∀ q ∈ tl1, q ∈ pick (led L nw dS dE dV v1) [0, 1, 2, 4, 5, 6, 7] ++ (its ++ tl1) := fun q hq => List.mem_append_right _ (List.mem_append_right _ hq)
      obtain ⟨⟨vsU, cUU, mU, iU⟩, lU1⟩ := lf1.uni wh hwh
      refine acquire_br F2 X₀ T₀ (news_re [3, 8] [0, 1, 2, 4, 5, 6, 7] N2 rfl rfl) (nod_pick [3, 8] [0, 1, 2, 4, 5, 6, 7] lf1.nod (by decide) rfl rfl) hA hh hroom ti2 ti3 ti4 ti5 (up2 _ ft1.mX) (up2 _ ft1.mXd) (fun h' N' => ft1.G h' v1.t v1.tk v1.c (fun q hq => (N' q (up2 q hq)).1) (N' _ (.head _)).1) hL lf1.hV hwh (keyOf_in hwh)
        (fun h' N' => (lf1.ev wh hwh).ev fun q hq => (N' q (up2 q hq)).1) (Nat.le_trans (lf1.hM wh hwh).len (Nat.le_trans (lU wh hwh) (by decide))) (.head _) (up2 _ ft1.mC) ft1.dC (.tail _ (.tail _ (.tail _ (.tail _ (.tail _ (.head _)))))) dW2 (up2 _ mU) iU (lU wh hwh)
        (fun am lim q => (lf1.hM wh hwh).acq1 am lim q) (fun am lim => (lf1.hM wh hwh).acq2 am lim) a1' b1 b2 b3 a5' lf1.mU ?_ ?_
      · intro h3 tk3 m3 oV F3 N3 DV km
        have hf := led_fin (E := (dV, oV) :: (v1.U, W.listOf #[.ref (v1.aU 0), .ref (v1.aU 1), .ref (v1.aU 2)] v1.cU) :: pick (led L nw dS dE dV v1) [0, 1, 2, 4, 5, 6, 7]) (its := its) (tl := tl1) [2, 3, 4, 0, 5, 6, 7, 8, 1] [] N3
            (nod_join (R := pick (led L nw dS dE dV v1) [0, 1, 2, 4, 5, 6, 7]) (tl := its ++ tl1) (nod_pick [3, 8] [0, 1, 2, 4, 5, 6, 7] lf1.nod (by decide) rfl rfl) (nod_pick [0, 1, 2, 4, 5, 6, 7] [] lf1.nod (by decide) rfl rfl)) (by decide) rfl rfl
        have kk := kept_in km lf1.mT lf1.mU lf1.mR
        exact ⟨rfl, h3, tk3, m3, { v1 with oV := oV }, tl1, x1, rfl, F3, hf.1, ⟨hf.2.1, lf1.hS, lf1.hE, DV, lf1.hW, lf1.t89, lf1.t141, lst_keep lf1.tok (fun _ h => h) n3, lst_keep lf1.uni (fun _ h => h) n6, lf1.ev, lf1.hM, lf1.hC, kk.1, kk.2.1, kk.2.2⟩⟩
      · intro h3 tk3 m3 oV a' r d D3 vs zs n' am u1 u2 u3 u4 h9 ham0 ham6 F3 N3 hN3 DV q1 q2 q3 iz Nh9 hv km
        have hf := led_fin (E := (D3, W.listOf zs.toArray 0) :: (a', W.listOf (List.replicate am.toNat (Value.ref r) ++ vs).toArray n') :: (r, instObj 69 d) :: (d, dictOf (entryEs w v1.t (v1.t + winOf wh) u1 u2 u3 u4) 2) :: (dV, oV) :: (v1.U, W.listOf #[.ref (setAt v1.aU wh D3 0), .ref (setAt v1.aU wh D3 1), .ref (setAt v1.aU wh D3 2)] v1.cU) :: pick (led L nw dS dE dV v1) [0, 1, 2, 4, 5, 6, 7]) (its := its) (tl := tl1) [6, 7, 8, 4, 9, 10, 11, 12, 5] [0, 1, 2, 3] N3
            (nod_join (R := pick (led L nw dS dE dV v1) [0, 1, 2, 4, 5, 6, 7]) (tl := its ++ tl1) hN3 (nod_pick [0, 1, 2, 4, 5, 6, 7] [] lf1.nod (by decide) rfl rfl)) (by decide) rfl rfl
        have kk := kept_in km lf1.mT lf1.mU lf1.mR
        have s2 : ∀ q ∈ tl1, q ∈ (D3, W.listOf zs.toArray 0) :: (a', W.listOf (List.replicate am.toNat (Value.ref r) ++ vs).toArray n') :: (r, instObj 69 d) :: (d, dictOf (entryEs w v1.t (v1.t + winOf wh) u1 u2 u3 u4) 2) :: tl1 := fun q hq => .tail _ (.tail _ (.tail _ (.tail _ hq)))
        exact ⟨rfl, h3, tk3, m3, { v1 with oV := oV, gV := _, aU := setAt v1.aU wh D3, uns := putAt v1.uns wh _, l := putAt v1.l wh _ }, _ :: _ :: _ :: _ :: tl1, x1.trans hf.2.2, rfl, F3, hf.1, ⟨hf.2.1, lf1.hS, lf1.hE, DV, lf1.hW, lf1.t89.sub s2, lf1.t141.sub s2,
          lst_keep lf1.tok s2 n3, lst_put lf1.uni s2 n6 ⟨zs, 0, .head _, iz⟩ (by rw [List.length_append, List.length_replicate]; exact Nat.add_le_add lU1 (Int.toNat_le.mpr ham6)), ev_put lf1.ev hwh s2 (EvO.of (y := some a') (ev_acq (lf1.ev wh hwh).mt hv (fun q hq => (Nh9 q (up2 q hq)).1) s2 (.tail _ (.head _)) (.tail _ (.tail _ (.head _))) (.tail _ (.tail _ (.tail _ (.head _)))) q1 q2 q3)), m_put lf1.hM ((lf1.hM wh hwh).acquire am.toNat), lf1.hC, kk.1, kk.2.1, kk.2.2⟩⟩
    | 3, _ =>
      have up3 : ∀ q ∈ tl1, q ∈ pick (led L nw dS dE dV v1) [0, 4, 5, 6] ++ (its ++ tl1) := fun q hq => List.mem_append_right _ (List.mem_append_right _ hq)
      refine clear_br B F2 X₀ T₀ (news_re [1, 2, 3, 7, 8] [0, 4, 5, 6] N2 rfl rfl) (nod_pick [1, 2, 3, 7, 8] [0, 4, 5, 6] lf1.nod (by decide) rfl rfl) hA hh hroom (up3 _ ft1.mX) (up3 _ ft1.mXd) (fun h' N' => ft1.G h' v1.t v1.tk v1.c (fun q hq => (N' q (up3 q hq)).1) (N' _ (.head _)).1) lf1.hS lf1.hE lf1.hV hwh b2 b3 a5' lf1.mT lf1.mU ?_
      intro h3 tk3 m3 oS oE oV D1 D2 F3 N3 hN3 DS DE DV km
      have hf := led_fin (E := (D2, W.listOf #[] 0) :: (D1, W.listOf #[] 0) :: (dS, oS) :: (dE, oE) :: (dV, oV) :: (v1.T, W.listOf #[.ref (setAt v1.aT wh D1 0), .ref (setAt v1.aT wh D1 1), .ref (setAt v1.aT wh D1 2)] v1.cT) :: (v1.U, W.listOf #[.ref (setAt v1.aU wh D2 0), .ref (setAt v1.aU wh D2 1), .ref (setAt v1.aU wh D2 2)] v1.cU) :: pick (led L nw dS dE dV v1) [0, 4, 5, 6]) (its := its) (tl := tl1) [7, 2, 3, 4, 8, 9, 10, 5, 6] [0, 1] N3
            (nod_join (R := pick (led L nw dS dE dV v1) [0, 4, 5, 6]) (tl := its ++ tl1) hN3 (nod_pick [0, 4, 5, 6] [] lf1.nod (by decide) rfl rfl)) (by decide) rfl rfl
      have kk := kept_in km lf1.mT lf1.mU lf1.mR
      have s2 : ∀ q ∈ tl1, q ∈ (D2, W.listOf #[] 0) :: (D1, W.listOf #[] 0) :: tl1 := fun q hq => .tail _ (.tail _ hq)
      exact ⟨rfl, h3, tk3, m3, { v1 with oS := oS, oE := oE, oV := oV, gS := _, gE := _, gV := _, aT := setAt v1.aT wh D1, toks := putAt v1.toks wh [], aU := setAt v1.aU wh D2, uns := putAt v1.uns wh [], l := putAt v1.l wh [] }, _ :: _ :: tl1, x1.trans hf.2.2, rfl, F3, hf.1, ⟨hf.2.1, DS, DE, DV, lf1.hW, lf1.t89.sub s2, lf1.t141.sub s2,
        lst_put lf1.tok s2 n3 ⟨[], 0, .tail _ (.head _), .nil⟩ (Nat.zero_le _), lst_put lf1.uni s2 n6 ⟨[], 0, .head _, .nil⟩ (Nat.zero_le _), ev_put lf1.ev hwh s2 (y := none) rfl, m_put lf1.hM .nil, c_put lf1.hC hwh (fun k hk => upd_ne _ _ hk) (fun k hk => upd_ne _ _ hk) (CInv.none' (upd_self _ _ _)), kk.1, kk.2.1, kk.2.2⟩⟩
    | 4, _ =>
      have up4 : ∀ q ∈ tl1, q ∈ pick (led L nw dS dE dV v1) [0, 5, 6, 7, 8] ++ (its ++ tl1) := fun q hq => List.mem_append_right _ (List.mem_append_right _ hq)
      refine sweep_br B F2 X₀ T₀ (news_re [1, 2, 3, 4] [0, 5, 6, 7, 8] N2 rfl rfl) (nod_pick [1, 2, 3, 4] [0, 5, 6, 7, 8] lf1.nod (by decide) rfl rfl) hA hh hroom (up4 _ ft1.mX) (up4 _ ft1.mXd) (fun h' N' => ft1.G h' v1.t v1.tk v1.c (fun q hq => (N' q (up4 q hq)).1) (N' _ (.head _)).1) hlo CH2 lf1.hS lf1.hE lf1.hV (fun h' N' => lf1.t89.st fun q hq => (N' q (up4 q hq)).1) (l := byKey v1.l)
        (fun h' N' k a e => by
          obtain ⟨i, hi, rfl⟩ := KL_keyOf (asd_in lf1.hV e)
          rw [byKey_at hi]
          have := (lf1.ev i hi).ev fun q hq => (N' q (up4 q hq)).1
          rw [e] at this
          exact this) (byKey_ind (P := fun l => l.length ≤ 1000) fun i hi => Nat.le_trans (lf1.hM i hi).len (Nat.le_trans (lU i hi) (by decide)))
        (byKey_ind (P := fun l => ∀ (i j : Nat) q r, i < j → l[i]? = some q → l[j]? = some r → r.2 ≤ q.2) fun i hi a b q r hab ha hb => by
          rw [(lf1.hM i hi).at ha, (lf1.hM i hi).at hb]
          exact Int.add_le_add_right ((lf1.hM i hi).desc a b q r hab ha hb) _) a5' ?_
      intro h3 tk3 oS oE oV ps' ls gV' F3 N3 et hfr DS DE DV hT
      have fr : ∀ q ∈ ls, ∀ r ∈ led L nw dS dE dV v1 ++ (its ++ tl1), q.1 ≠ r.1 := fun q hq r hr e => by
        have h1 := (hfr q hq).1
        rw [e, (N2 r hr).1] at h1; cases h1
      have hw := nod_swap (P := [(dS, oS), (dE, oE), (dV, oV), (89, tabObj ps')]) (R := pick (led L nw dS dE dV v1) [0, 5, 6, 7, 8]) (its := its) (ls := ls) (tl := tl1) (fun q hq => N3 q (by
          rcases List.mem_append.mp hq with hq | hq
          · exact List.mem_append_right _ (List.mem_append_left _ hq)
          rcases List.mem_append.mp hq with hq | hq
          · exact List.mem_append_left _ hq
          · exact List.mem_append_right _ (List.mem_append_right [(dS, oS), (dE, oE), (dV, oV), (89, tabObj ps')] hq))) (nod_tail (nod_pick [1, 2, 3, 4] [0, 5, 6, 7, 8] lf1.nod (by decide) rfl rfl) fun q hq a ha => by
          obtain ⟨r, hr, rfl⟩ := List.mem_map.mp (show a ∈ (pick (led L nw dS dE dV v1) [1, 2, 3, 4]).map (·.1) from ha)
          exact fr q hq r (List.mem_append_left _ (pick_in (is := [1, 2, 3, 4]) rfl r hr))) (nod_pick [0, 5, 6, 7, 8] [] lf1.nod (by decide) rfl rfl) (fun q hq r hr => fr q hq r (by
          rcases List.mem_append.mp hr with hr | hr
          · exact List.mem_append_left _ (pick_in rfl r hr)
          · exact List.mem_append_right _ hr))
      have hf := led_fin (its := its) (tl := ls ++ tl1) [4, 0, 1, 2, 3, 5, 6, 7, 8] [] hw.1 hw.2.1 (by decide) rfl rfl
      have s2 : ∀ q ∈ tl1, q ∈ ls ++ tl1 := fun q hq => List.mem_append_right _ hq
      have hx : ∀ i, ∃ l', i < 3 → MInv l' (v1.uns i) v1.t (winOf i) ∧ EvO w (ls ++ tl1) dV (gV' (keyOf i)) l' := fun i => by
        by_cases hi : i < 3
        · have h1 := hT (keyOf i)
          rw [byKey_at hi] at h1
          obtain ⟨l', e1, e2⟩ := ev_trim (lf1.ev i hi).mt h1 (fun q hq => (N2 q (List.mem_append_right _ (List.mem_append_right _ hq))).1) (fun q hq => (hfr q hq).2) (lf1.hM i hi)
          exact ⟨l', fun _ => ⟨e1, EvO.of e2⟩⟩
        · exact ⟨[], fun h => absurd h hi⟩
      obtain ⟨l', hl'⟩ : ∃ l' : Nat → List (Int × Int), ∀ i, i < 3 → MInv (l' i) (v1.uns i) v1.t (winOf i) ∧ EvO w (ls ++ tl1) dV (gV' (keyOf i)) (l' i) := ⟨fun i => Classical.choose (hx i), fun i => Classical.choose_spec (hx i)⟩
      have t89 : TabL (ls ++ tl1) dV 38 64 qExp ps' := by
        rcases et with rfl | ⟨c', co, vs, t, hm, e, d1, d2⟩
        · exact lf1.t89.sub s2
        · exact .inr ⟨c', co, vs, t, List.mem_append_left _ hm, (hfr _ hm).2, e, d1, d2⟩
      exact ⟨rfl, h3, tk3, m1, { v1 with oS := oS, oE := oE, oV := oV, p89 := ps', gS := _, gE := _, gV := _, l := l' }, ls ++ tl1, x1.trans hw.2.2, rfl, F3, hf.1, ⟨hf.2.1, DS, DE, DV, lf1.hW, t89, lf1.t141.sub s2,
        lst_keep lf1.tok s2 n3, lst_keep lf1.uni s2 n6, fun i hi => (hl' i hi).2, fun i hi => (hl' i hi).1, fun i hi => (lf1.hC i hi).sweep, lf1.mT, lf1.mU, lf1.mR⟩⟩
    | 5, _ =>
      have up5 : ∀ q ∈ tl1, q ∈ pick (led L nw dS dE dV v1) [0, 4, 5, 6, 7, 8] ++ (its ++ tl1) := fun q hq => List.mem_append_right _ (List.mem_append_right _ hq)
      refine reset_br B F2 X₀ T₀ (news_re [1, 2, 3] [0, 4, 5, 6, 7, 8] N2 rfl rfl) (nod_pick [1, 2, 3] [0, 4, 5, 6, 7, 8] lf1.nod (by decide) rfl rfl) hA hh hroom (up5 _ ft1.mX) (up5 _ ft1.mXd) (fun h' N' => ft1.G h' v1.t v1.tk v1.c (fun q hq => (N' q (up5 q hq)).1) (N' _ (.head _)).1) lf1.hS lf1.hE lf1.hV a5' ?_
      intro h3 tk3 m3 oS oE oV T U k0 k1 k2 u0 u1 u2 cT cU F3 N3 hN3 DS DE DV eT eU km
      have hf := led_fin (E := (U, W.listOf #[.ref u0, .ref u1, .ref u2] cU) :: (u2, W.listOf #[] 0) :: (u1, W.listOf #[] 0) :: (u0, W.listOf #[] 0) :: (T, W.listOf #[.ref k0, .ref k1, .ref k2] cT) :: (k2, W.listOf #[] 0) :: (k1, W.listOf #[] 0) :: (k0, W.listOf #[] 0) :: (dS, oS) :: (dE, oE) :: (dV, oV) :: pick (led L nw dS dE dV v1) [0, 4, 5, 6, 7, 8]) (its := its) (tl := tl1) [11, 8, 9, 10, 12, 13, 14, 4, 0] [1, 2, 3, 5, 6, 7] N3
            (nod_join (R := pick (led L nw dS dE dV v1) [0, 4, 5, 6, 7, 8]) (tl := its ++ tl1) hN3 (nod_pick [0, 4, 5, 6, 7, 8] [] lf1.nod (by decide) rfl rfl)) (by decide) rfl rfl
      have s2 : ∀ q ∈ tl1, q ∈ (u2, W.listOf #[] 0) :: (u1, W.listOf #[] 0) :: (u0, W.listOf #[] 0) :: (k2, W.listOf #[] 0) :: (k1, W.listOf #[] 0) :: (k0, W.listOf #[] 0) :: tl1 := fun q hq => .tail _ (.tail _ (.tail _ (.tail _ (.tail _ (.tail _ hq)))))
      exact ⟨rfl, h3, tk3, m3, { v1 with oS := oS, oE := oE, oV := oV, gS := _, gE := _, gV := _, T := T, aT := fun | 0 => k0 | 1 => k1 | _ => k2, cT := cT, toks := fun _ => [], U := U, aU := fun | 0 => u0 | 1 => u1 | _ => u2, cU := cU, uns := fun _ => [], l := fun _ => [] }, _ :: _ :: _ :: _ :: _ :: _ :: tl1, x1.trans hf.2.2, rfl, F3, hf.1, ⟨hf.2.1, DS, DE, DV, lf1.hW, lf1.t89.sub s2, lf1.t141.sub s2,
        fun i hi => ⟨⟨[], 0, (match i, hi with | 0, _ => .tail _ (.tail _ (.tail _ (.tail _ (.tail _ (.head _))))) | 1, _ => .tail _ (.tail _ (.tail _ (.tail _ (.head _)))) | 2, _ => .tail _ (.tail _ (.tail _ (.head _)))), .nil⟩, Nat.zero_le _⟩,
        fun i hi => ⟨⟨[], 0, (match i, hi with | 0, _ => .tail _ (.tail _ (.head _)) | 1, _ => .tail _ (.head _) | 2, _ => .head _), .nil⟩, Nat.zero_le _⟩, fun _ _ => rfl, fun _ _ => .nil, fun _ _ => CInv.none' rfl, eT, eU, fun y hy => (km y (by revert y; decide +kernel)).trans (lf1.mR y hy)⟩⟩
  · intro h2 tk2 F2 N2
    exact ⟨rfl, h2, tk2, m1, v1, tl1, x1, rfl, F2, N2, ⟨lf1.nod, lf1.hS, lf1.hE, lf1.hV, lf1.hW, lf1.t89, lf1.t141, lst_keep lf1.tok (fun _ h => h) n3, lst_keep lf1.uni (fun _ h => h) n6, lf1.ev, lf1.hM, lf1.hC, lf1.mT, lf1.mU, lf1.mR⟩⟩
  · rintro fl s2 ⟨rfl, h2, tk2, m2, v2, tl2, s2, rfl, F2, N2, lf2⟩
    show wpAny _ _ (execs [tailFor] _) _ _ _
    have up : ∀ q ∈ tl2, q ∈ pick (led L nw dS dE dV v2) [0, 3, 4, 6, 7, 8] ++ (its ++ tl2) := fun q hq => List.mem_append_right _ (List.mem_append_right _ hq)
    have ft2 := ft0.sub s2.sub
    have hls : ∀ (f : Nat → Addr) (ns : Nat → List Int) (b b' : Nat), (∀ i, i < 3 → ListIn tl2 (f i) (ns i) ∧ (ns i).length ≤ b) → b ≤ b' → ∀ i, i < 3 → ListIn (pick (led L nw dS dE dV v2) [0, 3, 4, 6, 7, 8] ++ (its ++ tl2)) (f i) (ns i) ∧ (ns i).length ≤ b' ∧ f i ≠ dV := fun f ns b b' h hb i hi => by
      obtain ⟨⟨vs, c, hm, hi'⟩, hl⟩ := h i hi
      exact ⟨⟨vs, c, up _ hm, hi'⟩, Nat.le_trans hl hb, lf2.nod.2 _ (List.mem_append_right _ hm) dV (.tail _ (.tail _ (.tail _ (.head _))))⟩
    refine tail_in B F2 X₀ T₀ (news_re [1, 2, 5] [0, 3, 4, 6, 7, 8] N2 rfl rfl) (nod_pick [1, 2, 5] [0, 3, 4, 6, 7, 8] lf2.nod (by decide) rfl rfl) hA hh hroom (fun h' N' => ft2.G h' v2.t v2.tk v2.c (fun q hq => (N' q (up q hq)).1) (N' _ (.head _)).1) hlo CH1 lf2.hS lf2.hE lf2.hV (.tail _ (.head _)) (lf2.t141.sub up) (.head _) (up _ ft2.mC) ft2.dC
      (up _ ft2.mK) ft2.hK (up _ ft2.mW) ft2.hW (.tail _ (.tail _ (.tail _ (.tail _ (.head _))))) (.tail _ (.tail _ (.tail _ (.tail _ (.tail _ (.head _)))))) (hls _ _ _ _ lf2.tok (Nat.le_trans (Nat.mul_le_mul_left 3 (Nat.succ_le_succ hn)) (by decide))) (hls _ _ _ _ lf2.uni (Nat.le_trans (Nat.mul_le_mul_left 6 (Nat.succ_le_succ hn)) (by decide))) (fun h' N' i hi => (lf2.ev i hi).ev fun q hq => (N' q (up q hq)).1) lf2.hM lf2.hC
      ((lf2.mR _ (by decide +kernel)).trans a3) ((lf2.mR _ (by decide +kernel)).trans a4) lf2.mT lf2.mU ((lf2.mR _ (by decide +kernel)).trans a5) ?_
    intro h3 tk3 m3 n3' F3 N3 hJ
    obtain ⟨oS, oE, ps, gS, gE, ls, rfl, hN3, hf3, DS, DE, hC3, hT3, km⟩ := hJ
    have hw := nod_swap (P := [(dS, oS), (dE, oE), (141, tabObj ps)]) (R := pick (led L nw dS dE dV v2) [0, 3, 4, 6, 7, 8]) (its := its) (ls := ls) (tl := tl2) N3 hN3 (nod_pick [0, 3, 4, 6, 7, 8] [] lf2.nod (by decide) rfl rfl) hf3
    have hf := led_fin (its := its) (tl := ls ++ tl2) [3, 0, 1, 4, 5, 2, 6, 7, 8] [] hw.1 hw.2.1 (by decide) rfl rfl
    have s3 : ∀ q ∈ tl2, q ∈ ls ++ tl2 := fun q hq => List.mem_append_right _ hq
    have kk := kept_in km lf2.mT lf2.mU lf2.mR
    have t141 : TabL (ls ++ tl2) dV 90 68 qMov ps := hT3.elim (fun e => e ▸ lf2.t141.sub s3) fun x => x.sub fun q hq => List.mem_append_left _ hq
    exact hU h3 tk3 m3 { v2 with oS := oS, oE := oE, p141 := ps, gS := gS, gE := gE } (ls ++ tl2) (s2.trans hw.2.2) F3 hf.1 ⟨hf.2.1, DS, DE, lf2.hV, lf2.hW, lf2.t89.sub s3, t141, lst_keep lf2.tok s3 (Nat.le_refl _), lst_keep lf2.uni s3 (Nat.le_refl _), fun i hi => (lf2.ev i hi).sub s3, lf2.hM, hC3, kk.1, kk.2.1, kk.2.2⟩

end Turn
section Loop
variable {prog : Program} {w : World} {A₀ A : Around} {base h₀ : Heap} {outer : List Env} {env : Env} {L : Addr} {m mg mb : PySem.Str → Option Value}
  {p : Program} {loose : List PySem.Str} {mean : ExcName → Option Value} {s : Shared} {news : List (Addr × Obj)} {E : Value → Shared → Prop}
theorem words_Loop : True := by
  k_with_none
  w_top off
  (k_with "k_steps" => repeat' (first | (k_unfold; (try dsimp only)) | (k_end; wrow_close) | (dsimp only; walk1) | walk1 | (leave1; walk_say "STEP leave1"; try dsimp only) | fail "no step"))
  (k_with "k_lt" => first | (intro hlt9; (with_reducible rename NodT _ _ => hNdZ); have hNd2 := nod_new hNdZ hlt9 rfl; replace hlt9 := allLt_of hlt9; simp only [AllLt, and_true] at hlt9; revert hNd2 hlt9; intro _) | (intro hlt9; replace hlt9 := allLt_of hlt9; simp only [AllLt, and_true] at hlt9; revert hlt9) | fail)
  trivial
theorem LF.off {L nw dS dE dV n : Nat} {m₀ : PySem.Str → Option Value} {its its' tl : List (Addr × Obj)} {v : LV} (x : LF prog w L nw dS dE dV m₀ m n its tl v) (h : ∀ q ∈ its', ∀ a ∈ (led L nw dS dE dV v).map (·.1), q.1 ≠ a) : LF prog w L nw dS dE dV m₀ m n its' tl v :=
  { x with nod := ⟨x.nod.1, fun q hq a ha => (List.mem_append.mp hq).elim (fun hq => h q hq a ha) fun hq => x.nod.2 q (List.mem_append_right _ hq) a ha⟩ }
theorem LF.names {L nw dS dE dV n : Nat} {m₀ m' : PySem.Str → Option Value} {its tl : List (Addr × Obj)} {v : LV} (x : LF prog w L nw dS dE dV m₀ m n its tl v) (h : ∀ y, y ∈ kept8 → y ≠ PySem.Str.ofString "number" → m' y = m y) : LF prog w L nw dS dE dV m₀ m' n its tl v :=
  { x with mT := (h _ (by decide +kernel) (by decide +kernel)).trans x.mT, mU := (h _ (by decide +kernel) (by decide +kernel)).trans x.mU, mR := fun y hy => (h y (by revert y; decide +kernel) (by revert y; decide +kernel)).trans (x.mR y hy) }
theorem ints_at {vs : List Value} {ns : List Int} (h : IntsAre vs ns) : ∀ {i : Nat} {v : Value}, vs[i]? = some v → ∃ x t, v = .int x t := by
  induction h with
  | nil => intro i v e; simp at e
  | cons x t r ih =>
    intro i v e
    cases i with
    | zero => exact ⟨x, t, (Option.some.inj e).symm⟩
    | succ i => exact ih e
theorem enum_at {vs : List Value} {i : Nat} {a : Itm} (h : (enumItems 0 vs)[i]? = some a) : ∃ v, vs[i]? = some v ∧ a = .pair (fun t => .int (i : Int) t) v := by
  have hl := (List.getElem?_eq_some_iff.mp h).1
  rw [enumItems_length] at hl
  have h1 := List.getElem?_eq_getElem hl
  have h2 := enumItems_get vs 0 i h1
  rw [h, Nat.zero_add] at h2
  exact ⟨_, h1, Option.some.inj h2⟩
def LoopJ (prog : Program) (w : World) (L nw dS dE dV : Nat) (m₀ : PySem.Str → Option Value) (tl0 : List (Addr × Obj)) (its : List Addr) (i : Nat) (m : PySem.Str → Option Value) (n : List (Addr × Obj)) : Prop :=
  ∃ v tl, (∀ q ∈ tl0, q ∈ tl) ∧ (∀ q ∈ led L nw dS dE dV v ++ tl, q.1 ∉ its) ∧ n = led L nw dS dE dV v ++ tl ∧ LF prog w L nw dS dE dV m₀ m i [] tl v
theorem mem_rot {α : Type} {q : α} {a b c : List α} (h : q ∈ a ++ (b ++ c)) : q ∈ b ++ (a ++ c) := by
  simp only [List.mem_append] at h ⊢
  rcases h with h | h | h
  · exact .inr (.inl h)
  · exact .inl h
  · exact .inr (.inr h)
theorem words_loop : True := by
  (k_with "eval Name" => (k_here; (with_reducible show wpAny _ _ (eval (Expr.Name _ _) (envOfC _ _ _ _ _)) _ _ _); k_dflt (refine' nameX_L ?zF ?zv ?_ ?za ?zb; (case za => rfl); (case zb => rfl); (case zF => k_asm); (case zv => first | rfl | assumption))))
  (k_with "execs" => (with_reducible show wpAny _ _ (execs turnBody _) _ _ _); refine stopW ?_)
  (k_with "execs cons" => (with_reducible show wpAny _ _ (execs turnBody _) _ _ _); refine stopW ?_)
  (k_with "call type:enumerate" => refine stopW ?_)
  trivial
set_option maxHeartbeats 4000000 in
theorem loop_in {lo x fk dx nw dS dE dV aK aW fa ln : Nat} {oC : Obj} {vsK vsW vsN : List Value} {cK cW cN : Nat} {uK uW : Nat → Tok} {t1 t2 t3 t4 : Tok} {ns : List Int} {tl : List (Addr × Obj)} {v : LV} {U : Flow → Shared → Prop}
    (B : Below A₀ base [] h₀) (F : Fr h₀ L s.heap m) (X₀ : (hd.heap_39 w.params).In h₀) (T₀ : Top p loose mean mg mb h₀)
    (hA : A.frames = some [lawEnv L fa]) (hh : A.handled = none) (hroom : A.depth ≤ 400)
    (ti2 : PySem.Str.ofString "IndexError" ∉ loose) (ti3 : PySem.Str.ofString "IndexError" ∉ (recsOf p).map (·.name)) (ti4 : PySem.Str.ofString "IndexError" ∉ (litsOf p).map (·.1)) (ti5 : PySem.Str.ofString "IndexError" ∉ (clssOf p loose).map (·.name))
    (hlo : 201 ≤ lo) (hL : (L : Nat) ≤ lo) (CH1 : CodeHd base 145 141) (CH2 : CodeHd base 93 89)
    (N : News h₀ L s.heap (led L nw dS dE dV v ++ tl)) (ft : FT w L lo x fk dx nw dS dE dV aK aW oC vsK vsW cK cW uK uW t1 t2 t3 t4 tl) (lf : LF prog w L nw dS dE dV m m 0 [] tl v)
    (mN : (ln, W.listOf vsN.toArray cN) ∈ tl) (iN : IntsAre vsN ns) (lN : ns.length ≤ 20)
    (a0 : m (PySem.Str.ofString "numbers") = some (.ref ln)) (a3 : m (PySem.Str.ofString "keys") = some (.ref aK)) (a4 : m (PySem.Str.ofString "windows") = some (.ref aW)) (a5 : m (PySem.Str.ofString "store") = some (.ref x))
    (hU : ∀ h' tk' m' v' tl', (∀ q ∈ tl, q ∈ tl') → Fr h₀ L h' m' → News h₀ L h' (led L nw dS dE dV v' ++ tl') → U (.ret (.bool true)) { s with heap := h', toks := tk' }) :
    wpAny (model prog w) A (execs (lawBody.drop 7) (lawEnv L fa)) U E s := by
  have mN' : (ln, W.listOf vsN.toArray cN) ∈ led L nw dS dE dV v ++ tl := List.mem_append_right _ mN
  obtain ⟨news, hnews⟩ : ∃ news, news = led L nw dS dE dV v ++ tl := ⟨_, rfl⟩
  rw [← hnews] at mN' N
  obtain ⟨hd9, dp, fr, gs, un⟩ := A
  dsimp only at hA hh hroom
  subst hA
  subst hh
  unfold lawEnv
  show wpAny _ _ (execs (Stmt.For _ _ turnBody [] _ :: _) _) _ _ _
  refine wpAny_execs_cons ?_
  refine wpAny_noRaise (For_turns F ?_)
  k_steps
  show wpAny _ _ _ _ _ _
  refine ktu_enum rfl (by assumption) (by assumption) mN' rfl rfl rfl (fun I hI => ?_)
  refine items_ind (LoopJ prog w L nw dS dE dV m tl [I + 1, I]) ⟨v, tl, fun _ h => h, fun q hq => ?_, hnews, lf⟩ ?_ ?_
  · have := hI q (hnews ▸ hq)
    simp only [List.mem_cons, List.not_mem_nil, or_false, not_or]
    exact ⟨Nat.ne_of_lt (Nat.lt_succ_of_lt this), Nat.ne_of_lt this⟩
  · intro i a m₁ n₁ ha hJ vv h₁ tk₁ hv F₁
    refine AllObj.cons (fun oE hoE => AllObj.cons (fun oI hoI => AllObj.nil (fun Z hZ _ N₁ => ?_)))
    obtain ⟨v1, tl1, hs1, hoff1, rfl, lf1⟩ := hJ
    obtain ⟨vN, hvN, rfl⟩ := enum_at ha
    obtain ⟨num, tnum, rfl⟩ := ints_at iN hvN
    obtain ⟨T, t, rfl, hT⟩ := hv
    dsimp only at hT
    have hi : i ≤ 19 := by
      have h1 := (List.getElem?_eq_some_iff.mp hvN).1
      have h2 := iN.length
      omega
    k_steps
    show wpAny _ _ (execs turnBody (lawEnv L fa)) _ _ _
    rename Fr h₀ _ _ _ => F9
    rename News h₀ _ _ _ => N9
    have hoff2 : ∀ q ∈ led L nw dS dE dV v1 ++ tl1, ∀ r ∈ [(I + 1, oE), (I, oI)], q.1 ≠ r.1 := fun q hq r hr e => hoff1 q hq (by
      rcases List.mem_cons.mp hr with rfl | hr
      · exact e ▸ .head _
      · rw [List.mem_singleton.mp hr] at e; exact e ▸ .tail _ (.head _))
    refine turn_in (its := [(I + 1, oE), (I, oI)]) (pl := i) B F9 X₀ T₀ rfl rfl hroom ti2 ti3 ti4 ti5 hlo hL CH1 CH2 (fun q hq => N9 q (mem_rot hq)) (ft.sub hs1) ((lf1.off fun q hq a ha => ?_).names ?_) hi (Nat.le_trans hi (by decide)) rfl rfl a3 a4 a5 ?_
    · obtain ⟨r, hr, rfl⟩ := List.mem_map.mp ha
      exact (hoff2 r (List.mem_append_left _ hr) q hq).symm
    · exact keep8 (fun _ => rfl) (fun _ => rfl) (fun _ => rfl) (fun _ => rfl) (fun _ => rfl) (fun _ => rfl) (fun _ => rfl) (fun hn => absurd rfl hn)
    · intro h' tk' m' v' tl' x F' N' lf'
      have hoff' : ∀ q ∈ led L nw dS dE dV v' ++ tl', ∀ r ∈ [(I + 1, oE), (I, oI)], q.1 ≠ r.1 := fun q hq r hr => by
        rcases List.mem_append.mp hq with hq | hq
        · exact (lf'.nod.2 r (List.mem_append_left _ hr) q.1 (List.mem_map_of_mem hq)).symm
        · exact (x.off q hq).elim (fun hq => hoff2 q (List.mem_append_right _ hq) r hr) fun hq => hq r hr
      exact hZ h' tk' m' _ F' (fun q hq => N' q (mem_rot hq)) hoff' ⟨List.mem_append_right _ (x.sub _ (hs1 _ mN)), trivial⟩ ⟨v', tl', fun q hq => x.sub q (hs1 q hq), fun q hq hm => by
        rcases List.mem_cons.mp hm with e | hm
        · exact hoff' q hq _ (.head _) e
        · exact hoff' q hq _ (.tail _ (.head _)) (List.mem_singleton.mp hm), rfl, lf'.off fun q hq => nomatch hq⟩
  · intro m₁ n₁ hJ h₁ tk₁ F₁ N₁
    obtain ⟨v1, tl1, hs1, hoff1, rfl, lf1⟩ := hJ
    show wpAny _ _ _ _ _ _
    k_steps
    exact hU _ _ _ _ _ hs1 (by assumption) (by assumption)

end Loop
section Store
variable {prog : Program} {w : World} {A₀ A : Around} {base h₀ : Heap} {outer : List Env} {env : Env} {L : Addr} {m mg mb : PySem.Str → Option Value}
  {p : Program} {loose : List PySem.Str} {mean : ExcName → Option Value} {s : Shared} {news : List (Addr × Obj)} {E : Value → Shared → Prop}
theorem words_Store : True := by
  k_with_none
  w_top off
  (k_with "k_steps" => repeat' (first | (k_unfold; (try dsimp only)) | (k_end; wrow_close) | (dsimp only; walk1) | walk1 | (leave1; walk_say "STEP leave1"; try dsimp only) | fail "no step"))
  (k_with "k_lt" => first | (intro hlt9; (with_reducible rename NodT _ _ => hNdZ); have hNd2 := nod_new hNdZ hlt9 rfl; replace hlt9 := allLt_of hlt9; simp only [AllLt, and_true] at hlt9; revert hNd2 hlt9; intro _) | (intro hlt9; replace hlt9 := allLt_of hlt9; simp only [AllLt, and_true] at hlt9; revert hlt9) | fail)
  (k_with "k_off1" => first | exact Or.inl (by assumption) | exact Nat.le_refl _ | exact Nat.le_of_lt (by assumption) | exact Or.inr (Nat.le_trans (m := 201) (by decide) (by assumption)) | exact Nat.le_trans (m := 201) (by decide) (by assumption) | omega | fail)
  (k_with "k_offs" => first | (refine List.forall_mem_cons.mpr ⟨?_, ?_⟩; (try dsimp only); (k_extra "k_off1"); (k_extra "k_offs")) | exact (fun _ h => absurd h List.not_mem_nil) | fail)
  (k_with "k_cj" => with_reducible first | assumption | exact And.left (by assumption) | exact And.left (And.right (by assumption)) | exact And.left (And.right (And.right (by assumption))) | exact And.left (And.right (And.right (And.right (by assumption)))) | exact And.left (And.right (And.right (And.right (And.right (by assumption))))) | exact And.left (And.right (And.right (And.right (And.right (And.right (by assumption)))))) | exact And.right (by assumption) | exact And.right (And.right (by assumption)) | exact And.right (And.right (And.right (by assumption))) | exact And.right (And.right (And.right (And.right (by assumption)))) | exact And.right (And.right (And.right (And.right (And.right (by assumption))))) | fail)
  (k_with "k_dp" => first | exact Nat.le_trans (by assumption) (by decide) | exact Nat.le_trans (Nat.succ_le_succ (by assumption)) (by decide) | exact Nat.lt_of_le_of_lt (by assumption) (by decide) | exact Nat.lt_of_le_of_lt (Nat.succ_le_succ (by assumption)) (by decide) | exact Nat.le_trans (Nat.succ_le_succ (Nat.succ_le_succ (by assumption))) (by decide) | exact Nat.lt_of_le_of_lt (Nat.succ_le_succ (Nat.succ_le_succ (by assumption))) (by decide) | (simp only [depth_mark, depth_under_make, depth_under_kw, depth_in1, depth_deeper]; omega) | fail)
  (k_with "k_mem" => first | exact AtU.head | (apply AtU.tail; k_mem) | (refine' PairIn.head ?_; k_mem) | (refine' PairIn.tail ?_; k_mem) | fail)
  (k_with "k_ne" => first | (refine' ne_d1 ?zH ?zP; (case zH => assumption); (case zP => k_mem)) | (refine' ne_d2 ?zH ?zP; (case zH => assumption); (case zP => k_mem)) | exact Nat.ne_of_gt (by (try dsimp only); k_extra "k_cj") | exact Nat.ne_of_lt (by (try dsimp only); k_extra "k_cj") | (refine neN ?_; (try dsimp only); omega) | fail)
  (k_with "k_updF" => first | (refine' updF_at ?zA ?zH ?ze ?zm; (case zA => k_mem); (case zH => assumption); (case ze => rfl); (case zm => k_mem)) | (refine' UpdF.head ?za; (case za => k_all)) | (refine' UpdF.tail ?za ?zb; (case za => k_ne); (case zb => k_updF)) | fail)
  (k_with "k_inst" => first | (refine' instH ?zF ?zI; (case zF => k_asm); (case zI => assumption)) | fail)
  (k_with "k_room" => first | (show _ < 1000; k_extra "k_dp") | fail)
  (k_with "is_list" => first | (refine' listH ?zF ?zI; (case zF => k_asm); (case zI => assumption)) | fail)
  (k_with "call ref" => (k_here; (with_reducible show wpAny _ _ (call (Value.ref _) [] []) _ _ _); k_dflt (refine' clock_in ?zF ?zX ?zN ?zT ?zr ?zC ?_; (case zF => k_asm); (case zC => assumption); (case zX => k_asm); (case zN => k_asm); (case zT => k_asm); (case zr => k_room)); intro _ _ _ _ _ _))
  (k_with "getMethod ref" => (k_here; (with_reducible show wpAny _ _ (getMethod (Value.ref _) (Str.ofString "get") _) _ _ _); k_dflt (refine' dsd_method PySem.F.slot_dict_get PySem.F.type_dict_get ?zN ?zm ?zD ?_; (case zN => k_asm); (case zm => k_mem); (case zD => k_asm))))
  (k_with "getMethod ref" => (k_here; (with_reducible show wpAny _ _ (getMethod (Value.ref _) (Str.ofString "pop") _) _ _ _); k_dflt (refine' dsd_method PySem.F.slot_dict_pop PySem.F.type_dict_pop ?zN ?zm ?zD ?_; (case zN => k_asm); (case zm => k_mem); (case zD => k_asm))))
  (k_with "getMethod ref" => (k_here; (with_reducible show wpAny _ _ (getMethod (Value.ref _) (Str.ofString "setdefault") _) _ _ _); k_dflt (refine' dsd_method PySem.F.slot_dict_setdefault PySem.F.type_dict_setdefault ?zN ?zm ?zD ?_; (case zN => k_asm); (case zm => k_mem); (case zD => k_asm))))
  (k_with "getMethod ref" => (k_here; (with_reducible show wpAny _ _ (getMethod (Value.ref _) (Str.ofString "clear") _) _ _ _); k_dflt (refine' dsd_method PySem.F.slot_dict_clear PySem.F.type_dict_clear ?zN ?zm ?zD ?_; (case zN => k_asm); (case zm => k_mem); (case zD => k_asm))))
  (k_with "getMethod ref" => (k_here; (with_reducible show wpAny _ _ (getMethod (Value.ref _) (Str.ofString "clock") _) _ _ _); k_dflt (refine' kmu_own ?zk1 ?zk2 ?zk3 ?zk4 ?zk5 ?_; (case zk1 => k_asm); (case zk2 => k_asm); (case zk3 => k_inst); (case zk4 => k_is); (case zk5 => k_is); k_whole)))
  (k_with "getAttr ref" => (k_here; k_dflt (refine' get_own ?zk1 ?zk2 ?zk3 ?zk4 ?zk5 ?zk6 ?zk7 ?zk8 ?zk9 ?_; (case zk1 => k_asm); (case zk2 => k_asm); (case zk3 => k_inst); (case zk4 => k_is); (case zk5 => k_is); (case zk6 => k_is); (case zk7 => k_is); (case zk8 => k_get); (case zk9 => k_handed); k_whole)))
  (k_with "call builtin:dict.get" => (k_here; k_dflt (refine' dsd_get ?zN ?zm ?zD ?zlo ?_; (case zN => k_asm); (case zm => k_mem); (case zD => k_asm); (case zlo => k_asm)); intro _ _))
  (k_with "call builtin:dict.get" => (k_here; (with_reducible show wpAny _ _ (call (Value.builtin _) [Value.ref _, Value.str _ _, Value.int _ _]) _ _ _); k_dflt (refine' isd_get ?zN ?zm ?zD ?zlo ?_; (case zN => k_asm); (case zm => k_mem); (case zD => k_asm); (case zlo => k_asm)); intro _))
  (k_with "call builtin:dict.pop" => (k_here; k_dflt (refine' dsd_pop ?zF ?zN ?zU ?zD ?zlo ?_; (case zF => k_asm); (case zN => k_asm); (case zU => k_updF); (case zD => k_asm); (case zlo => k_asm)); intro _ _ _ _ _ _ _))
  (k_with "call builtin:dict.clear" => (k_here; k_dflt (refine' dsd_clear ?zF ?zN ?zU ?zD ?_; (case zF => k_asm); (case zN => k_asm); (case zU => k_updF); (case zD => k_asm)); intro _ _ _ _ _))
  (k_with "call builtin:len" => (k_here; (with_reducible show wpAny _ _ (call (Value.builtin "len") [Value.ref _]) _ _ _); k_dflt (refine' dsd_len_call ?zN ?zm ?zD ?zlo ?_; (case zN => k_asm); (case zm => k_mem); (case zD => k_asm); (case zlo => k_asm)); intro _ _))
  (k_with "callWith ref" => (k_here; (with_reducible show wpAny _ _ (callWith _ _ _ (backTo _ (starEach [] _)) []) _ _ _); k_dflt (refine' callWith_F0 ?zk1 ?_; (case zk1 => exact fnClock (by k_asm) (by assumption)); k_whole); (try dsimp only [List.nil_append, List.cons_append])))
  (k_with "setItem ref str" => (k_here; k_dflt (refine' dsd_set ?zF ?zN ?zU ?zD ?zk ?zx ?_; (case zF => k_asm); (case zN => k_asm); (case zU => k_updF); (case zD => k_asm); (case zk => k_asm); (case zx => first | exact ⟨_, rfl⟩ | exact rfl)); intro _ _ _ _ _))
  (k_with "subscriptTail" => (k_here; (with_reducible show wpAny _ _ (subscriptTail _ _ (Value.ref _) (Value.str _ _)) _ _ _); k_dflt (refine' isd_item ?zN ?zm ?zD ?zx ?_; (case zN => k_asm); (case zm => k_mem); (case zD => k_asm); (case zx => first | exact upd_self _ _ _ | assumption)); intro _))
  (k_with "eval Name" => (k_here; k_dflt (refine' nameX_L ?zF ?zv ?_ ?za ?zb; (case za => rfl); (case zb => rfl); (case zF => k_asm); (case zv => first | rfl | assumption); k_whole)))
  (k_with "call builtin:len" => (k_here; (with_reducible show wpAny _ _ (call (Value.builtin "len") [Value.ref _]) _ _ _); k_dflt (refine' len_lst ?zl ?zn ?zb ?_; (case zl => is_list); (case zn => assumption); (case zb => omega); k_whole); intro _))
  (k_with "exec While Compare cons nil" => (k_here; refine stopW ?_))
  (k_with "subscriptTail" => (k_here; (with_reducible show wpAny _ _ (subscriptTail _ _ (Value.ref _) (Value.str _ _)) _ _ _); k_dflt (refine' asd_item ?zN ?zm ?zD ?zx ?_; (case zN => k_asm); (case zm => k_mem); (case zD => k_asm); (case zx => first | exact upd_self _ _ _ | assumption))))
  (k_with "call ref" => (k_here; (with_reducible show wpAny _ _ (call (Value.ref 117) [Value.ref _, Value.str _ _] []) _ _ _); k_dflt (refine' get_in ?zB ?zF ?zX ?zN ?zT ?zA ?zhh ?zf ?zk ?zr ?zG ?zU1 ?zU2 ?zDS ?zDE ?_; (case zF => k_asm); (case zG => exact Geo.all (by assumption) (Fr.keep (by k_asm))); (case zB => k_asm); (case zX => k_asm); (case zN => k_asm); (case zT => k_asm); (case zA => exact rfl); (case zhh => exact rfl); (case zf => exact rfl); (case zk => exact rfl); (case zr => (show _ ≤ 900; k_extra "k_dp")); (case zU1 => k_updF); (case zU2 => (intro _; (try dsimp only); k_updF)); (case zDS => k_asm); (case zDE => k_asm)); intro _ _ _ _ _ _ _ _ _ _))
  trivial
theorem dsd_nil {α : Type} {R : Value → α → Prop} {o : Obj} (h : o.IsDictOf (PySem.strKind prog w) []) : DSD prog w R o (fun _ => none) := ⟨[], h, (fun _ h => nomatch h), fun _ => rfl⟩
set_option maxHeartbeats 8000000 in
/-- the store made -/
theorem store_in {f : Nat} {Q : Value → Shared → Prop} (F : Fr h₀ L s.heap m) (X₀ : (hd.heap_39 w.params).In h₀) (N : News h₀ L s.heap news) (T : Top p loose mean mg mb h₀) (hroom : A.depth ≤ 890)
    (h : ∀ (d r dS dE dV : Nat) h' tk' u1 u2 u3 u4 oS oE oV, Fr h₀ L h' m → News h₀ L h' ((dV, oV) :: (dE, oE) :: (dS, oS) :: (r, instObj 192 d) :: (d, dictOf (storeEs w f dS dE dV u1 u2 u3 u4) 4) :: news) → (∀ q ∈ news, q.1 < d) → d < r → r < dS → dS < dE → dE < dV →
      (dS == sysModules) = false → (dE == sysModules) = false → (dV == sysModules) = false → ISD prog w oS (fun _ => none) → ISD prog w oE (fun _ => none) → ASD prog w oV (fun _ => none) → Q (.ref r) { s with heap := h', toks := tk' }) :
    wpAny (model prog w) A (call (.ref 192) [.ref f] []) Q E s := by
  refine' call_cls F X₀ N ?k4 ?k5 ?k6 ?_
  case k4 => k_is
  case k5 => k_is
  case k6 => k_is
  intro r d h1 F1 N1 l1 l2
  have N₀ : News h₀ L h1 [(r, instObj 192 d), (d, dictOf [] 0)] := fun q hq => N1 q (by rcases List.mem_cons.mp hq with rfl | hq; exact .head _; rw [List.mem_singleton.mp hq]; exact .tail _ (.head _))
  refine' def_in0 F1 X₀ N₀ T ?k7 ?k8 ?k9 ?kA ?kB ?_ ?c2 ?c3 ?c4 ?c5
  case k7 => k_is
  case k8 => k_is
  case k9 => rw [depth_under_make]; exact Nat.lt_of_le_of_lt (Nat.succ_le_succ hroom) (by decide)
  case kA => first | exact BindsTo.of_eq rfl | exact binds_K (by k_in) rfl (by k_is) rfl rfl rfl
  case kB => exact locs rfl
  case c5 => decide
  case c2 => exact rfl
  case c3 => exact rfl
  case c4 => exact rfl
  intro g' L' h' m1 hm1 F' N' X' T' hkept hlt
  dsimp only
  k_fold
  have a_self : m1 (PySem.Str.ofString "self") = some (.ref r) := (hm1 _).trans rfl
  have a_clock : m1 (PySem.Str.ofString "clock") = some (.ref f) := (hm1 _).trans rfl
  clear hm1
  have l2' : @LT.lt Nat instLTNat d r := l2
  k_steps
  refine h d r _ _ _ _ _ _ _ _ _ _ _ _ (by assumption) (News.of_kept (S := [r, d]) (own := [_, _, _, _, _]) (by assumption) (fun q hq => N1 q (.tail _ (.tail _ hq))) (kept_of (by assumption) hkept) fun q hq => ?_) l1 l2 (And.left (by assumption)) (And.left (by assumption)) (And.left (by assumption)) (by assumption) (by assumption) (by assumption) (dsd_nil (by assumption)) (dsd_nil (by assumption)) (dsd_nil (by assumption))
  exact off2 (Nat.ne_of_lt (Nat.lt_trans (l1 q hq) l2)) (Nat.ne_of_lt (l1 q hq))

end Store
section Law1
variable {prog : Program} {w : World} {A₀ A : Around} {base h₀ : Heap} {outer : List Env} {env : Env} {L : Addr} {m mg mb : PySem.Str → Option Value}
  {p : Program} {loose : List PySem.Str} {mean : ExcName → Option Value} {s : Shared} {news : List (Addr × Obj)} {E : Value → Shared → Prop}
theorem words_Law1 : True := by
  k_with_none
  w_top off
  (k_with "k_steps" => repeat' (first | (k_unfold; (try dsimp only)) | (k_end; wrow_close) | (dsimp only; walk1) | walk1 | (leave1; walk_say "STEP leave1"; try dsimp only) | fail "no step"))
  (k_with "k_lt" => first | (intro hlt9; (with_reducible rename NodT _ _ => hNdZ); have hNd2 := nod_new hNdZ hlt9 rfl; replace hlt9 := allLt_of hlt9; simp only [AllLt, and_true] at hlt9; revert hNd2 hlt9; intro _) | (intro hlt9; replace hlt9 := allLt_of hlt9; simp only [AllLt, and_true] at hlt9; revert hlt9) | fail)
  (k_with "k_off1" => first | exact Or.inl (by assumption) | exact Nat.le_refl _ | exact Nat.le_of_lt (by assumption) | exact Or.inr (Nat.le_trans (m := 201) (by decide) (by assumption)) | exact Nat.le_trans (m := 201) (by decide) (by assumption) | omega | fail)
  (k_with "k_offs" => first | (refine List.forall_mem_cons.mpr ⟨?_, ?_⟩; (try dsimp only); (k_extra "k_off1"); (k_extra "k_offs")) | exact (fun _ h => absurd h List.not_mem_nil) | fail)
  (k_with "k_cj" => with_reducible first | assumption | exact And.left (by assumption) | exact And.left (And.right (by assumption)) | exact And.left (And.right (And.right (by assumption))) | exact And.left (And.right (And.right (And.right (by assumption)))) | exact And.left (And.right (And.right (And.right (And.right (by assumption))))) | exact And.left (And.right (And.right (And.right (And.right (And.right (by assumption)))))) | exact And.right (by assumption) | exact And.right (And.right (by assumption)) | exact And.right (And.right (And.right (by assumption))) | exact And.right (And.right (And.right (And.right (by assumption)))) | exact And.right (And.right (And.right (And.right (And.right (by assumption))))) | fail)
  (k_with "k_dp" => first | exact Nat.le_trans (by assumption) (by decide) | exact Nat.le_trans (Nat.succ_le_succ (by assumption)) (by decide) | exact Nat.lt_of_le_of_lt (by assumption) (by decide) | exact Nat.lt_of_le_of_lt (Nat.succ_le_succ (by assumption)) (by decide) | exact Nat.le_trans (Nat.succ_le_succ (Nat.succ_le_succ (by assumption))) (by decide) | exact Nat.lt_of_le_of_lt (Nat.succ_le_succ (Nat.succ_le_succ (by assumption))) (by decide) | (simp only [depth_mark, depth_under_make, depth_under_kw, depth_in1, depth_deeper]; omega) | fail)
  (k_with "k_mem" => first | exact AtU.head | (apply AtU.tail; k_mem) | (refine' PairIn.head ?_; k_mem) | (refine' PairIn.tail ?_; k_mem) | fail)
  (k_with "k_ne" => first | (refine' ne_d1 ?zH ?zP; (case zH => assumption); (case zP => k_mem)) | (refine' ne_d2 ?zH ?zP; (case zH => assumption); (case zP => k_mem)) | exact Nat.ne_of_gt (by (try dsimp only); k_extra "k_cj") | exact Nat.ne_of_lt (by (try dsimp only); k_extra "k_cj") | (refine neN ?_; (try dsimp only); omega) | fail)
  (k_with "k_updF" => first | (refine' updF_at ?zA ?zH ?ze ?zm; (case zA => k_mem); (case zH => assumption); (case ze => rfl); (case zm => k_mem)) | (refine' UpdF.head ?za; (case za => k_all)) | (refine' UpdF.tail ?za ?zb; (case za => k_ne); (case zb => k_updF)) | fail)
  trivial
theorem lt_cons {a b : Addr} {o : Obj} {l : List (Addr × Obj)} (h : ∀ p ∈ l, p.1 < a) (h2 : a < b) : ∀ p ∈ (a, o) :: l, p.1 < b := fun p hp => by
  rcases List.mem_cons.mp hp with rfl | hp
  · exact h2
  · exact Nat.lt_trans (h p hp) h2
theorem lt_all {a : Addr} : ∀ {l : List (Addr × Obj)}, AllLt a l → ∀ p ∈ l, p.1 < a
  | [], _, _, hp => nomatch hp
  | _ :: _, h, p, hp => by
    rcases List.mem_cons.mp hp with rfl | hp
    · exact h.1
    · exact lt_all h.2 p hp
theorem words_l1 : True := by
  (k_with "eval Name" => (k_here; (with_reducible show wpAny _ _ (eval (Expr.Name _ _) (envOfC _ _ _ _ _)) _ _ _); k_dflt (refine' nameX_L ?zF ?zv ?_ ?za ?zb; (case za => rfl); (case zb => rfl); (case zF => k_asm); (case zv => first | rfl | assumption))))
  (k_with "k_room" => first | (show _ < 1000; k_extra "k_dp") | fail)
  (k_with "call ref" => ((with_reducible show wpAny _ _ (call (Value.ref 192) _ []) _ _ _); refine stopW ?_))
  trivial
set_option maxHeartbeats 8000000 in
theorem law1_in {fa a : Nat} {vs : List Value} {ws : List Int} {oC oW : Obj} {ov1 ov2 : Option Value} {rest : List Stmt} {Q : Flow → Shared → Prop} (F : Fr h₀ L s.heap m) (X₀ : (hd.heap_39 w.params).In h₀) (T₀ : Top p loose mean mg mb h₀)
    (N : News h₀ L s.heap [(L + 1 + 1, oC), (L + 1, oW), (141, tabObj #[]), (89, tabObj #[]), (201, tabObj #[])]) (hNd : NodT [L + 1 + 1, L + 1, 141, 89, 201] []) (hA : A.frames = some [lawEnv L fa]) (hh : A.handled = none) (hroom : A.depth ≤ 400)
    (CH3 : CodeHd h₀ 203 201) (hl : h₀.IsList a vs.toArray) (hi : IntsAre vs ws) (hlen : ws.length ≤ 63) (dC : oC.data = .cell ov1) (dW : oW.data = .cell ov2) (a1 : m (PySem.Str.ofString "script") = some (.ref a))
    (hQ : ∀ h' tk' m' (nw x dx fk dS dE dV ln : Nat) tk oC' oS oE oV vsN t1 t2 t3 t4 tl, Fr h₀ L h' m' → News h₀ L h' ((nw, W.listOf #[.int ws.sum tk] 0) :: (dS, oS) :: (dE, oE) :: (dV, oV) :: (89, tabObj #[]) :: (141, tabObj #[]) :: (L + 1, oW) :: tl) → NodT [nw, dS, dE, dV, 89, 141, L + 1] tl →
      ISD prog w oS (fun _ => none) → ISD prog w oE (fun _ => none) → ASD prog w oV (fun _ => none) → (x, instObj 192 dx) ∈ tl → (dx, dictOf (storeEs w fk dS dE dV t1 t2 t3 t4) 4) ∈ tl → (L + 1 + 1, oC') ∈ tl → oC'.data = .cell (some (.ref nw)) → (ln, W.listOf vsN.toArray 0) ∈ tl → IntsAre vsN (ws.take 17 ++ [3, 0, 15]) →
      (∃ ps, (201, tabObj ps) ∈ tl) → (∀ (h : Heap) t tk c, (∀ q ∈ tl, h.get? q.1 = some q.2) → h.get? nw = some (W.listOf #[.int t tk] c) → Geo w h L x fk dS dE dV t) → m' (PySem.Str.ofString "numbers") = some (.ref ln) → m' (PySem.Str.ofString "store") = some (.ref x) →
      wpAny (model prog w) A (execs rest (lawEnv L fa)) Q E { s with heap := h', toks := tk' }) :
    wpAny (model prog w) A (execs (lawBody.take 3 ++ rest) (lawEnv L fa)) Q E s := by
  obtain ⟨hd9, dp, fr, gs, un⟩ := A
  dsimp only at hA hh hroom
  subst hA
  subst hh
  unfold lawEnv
  show wpAny _ _ (execs (_ :: _ :: _ :: rest) _) _ _ _
  k_steps
  show wpAny _ _ _ _ _ _
  refine store_in (by assumption) X₀ (by assumption) T₀ (Nat.le_trans hroom (by decide)) ?_
  intro d r dS dE dV h' tk' u1 u2 u3 u4 oS oE oV F9 N9 l1 l2 l3 l4 l5 s1 s2 s3 DS DE DV
  k_steps
  rename_i D17 ws17 h17 iN17 _ _ _ _ l3' h18 _ _ ln vsN h19 iN _ _ h20 h21 tk21 tN nw h22 ol h23 oC' dC' fk c' oc' vs' t' ct' h24 tk24 d1 d2 hNd2 o1 o2 h25 F25 N25
  have hf : ∀ p ∈ [c', nw, ln, l3', D17, L + 1 + 1, L + 1, 141, 89, 201].map (·, oC'), p.1 < fk := lt_cons (lt_all ⟨o1.1, o1.2.1, o1.2.2.1, o1.2.2.2.1, o1.2.2.2.2.1, o1.2.2.2.2.2.1, o1.2.2.2.2.2.2.1, o1.2.2.2.2.2.2.2.1, o1.2.2.2.2.2.2.2.2, trivial⟩) o2
  have y1 := lt_cons (o := oC') l1 l2
  have y2 := lt_cons (o := oC') y1 l3
  have y3 := lt_cons (o := oC') y2 l4
  have n1 := nod_new (nod_new (nod_new (nod_new (nod_new (nod_new hNd2 hf rfl) l1 rfl) y1 rfl) y2 rfl) y3 rfl) (lt_cons (o := oC') y3 l5) rfl
  have hf := led_fin (its := []) (tl := []) [7, 2, 1, 0, 14, 13, 12] [3, 4, 5, 6, 8, 11, 15] (E := [_, _, _, _, _, _, _, _, _, _, _, _, _, _, _, _]) N25 n1 (by decide) rfl rfl
  refine hQ _ _ _ nw r d fk dS dE dV ln tN oC' oS oE oV vsN u1 u2 u3 u4 _ F25 hf.1 hf.2.1 DS DE DV (.head _) (.tail _ (.head _)) (.tail _ (.tail _ (.tail _ (.tail _ (.tail _ (.head _)))))) dC' (.tail _ (.tail _ (.tail _ (.tail _ (.head _))))) iN ⟨_, .tail _ (.tail _ (.tail _ (.tail _ (.tail _ (.tail _ (.head _))))))⟩ (fun h t tk c hm hn => ?_) rfl rfl
  refine ⟨⟨((d, L + 1 + 1, nw, c'), (u1, u2, u3, u4, tk), (_, _, _), (_, _, _), oC'), ⟨hm _ (.head _), rfl, rfl, hm _ (.tail _ (.head _))⟩, hm _ (.tail _ (.tail _ (.head _))), ⟨oc', vs', t', hm _ (.tail _ (.tail _ (.tail _ (.head _)))), d1, d2⟩, hm _ (.tail _ (.tail _ (.tail _ (.tail _ (.tail _ (.head _)))))), dC', ⟨_, hn, rfl, _, rfl⟩, Nat.lt_succ_of_lt (Nat.lt_succ_self L), ol.2.2.2.1, o1.1, o2, l1 _ (.head _), l2⟩, l3, l4, l5, s1, s2, s3⟩

end Law1
section Law3
variable {prog : Program} {w : World} {A₀ A : Around} {base h₀ : Heap} {outer : List Env} {env : Env} {L : Addr} {m mg mb : PySem.Str → Option Value}
  {p : Program} {loose : List PySem.Str} {mean : ExcName → Option Value} {s : Shared} {news : List (Addr × Obj)} {E : Value → Shared → Prop}
theorem words_Law3 : True := by
  k_with_none
  w_top off
  (k_with "k_steps" => repeat' (first | (k_unfold; (try dsimp only)) | (k_end; wrow_close) | (dsimp only; walk1) | walk1 | (leave1; walk_say "STEP leave1"; try dsimp only) | fail "no step"))
  (k_with "k_lt" => first | (intro hlt9; (with_reducible rename NodT _ _ => hNdZ); have hNd2 := nod_new hNdZ hlt9 rfl; replace hlt9 := allLt_of hlt9; simp only [AllLt, and_true] at hlt9; revert hNd2 hlt9; intro _) | (intro hlt9; replace hlt9 := allLt_of hlt9; simp only [AllLt, and_true] at hlt9; revert hlt9) | fail)
  trivial
theorem words_l3 : True := by
  (k_with "execs cons" => (with_reducible show wpAny _ _ (execs (Stmt.Assign [Expr.Name (PySem.Str.ofString "tokens") _] _ _ :: _) _) _ _ _); refine stopW ?_)
  trivial
theorem lst_nil {tl : List (Addr × Obj)} {f : Nat → Addr} {n : Nat} (h0 : (f 0, W.listOf #[] 0) ∈ tl) (h1 : (f 1, W.listOf #[] 0) ∈ tl) (h2 : (f 2, W.listOf #[] 0) ∈ tl) : ∀ i, i < 3 → ListIn tl (f i) [] ∧ ([] : List Int).length ≤ n
  | 0, _ => ⟨⟨[], 0, h0, .nil⟩, Nat.zero_le _⟩
  | 1, _ => ⟨⟨[], 0, h1, .nil⟩, Nat.zero_le _⟩
  | 2, _ => ⟨⟨[], 0, h2, .nil⟩, Nat.zero_le _⟩
set_option maxHeartbeats 8000000 in
theorem law2_in {fa nw x dx fk dS dE dV ln : Nat} {t : Int} {tk t1 t2 t3 t4 : Tok} {oC oW oS oE oV : Obj} {ov2 : Option Value} {vsN : List Value} {cN : Nat} {ns : List Int} {tl : List (Addr × Obj)} {U : Flow → Shared → Prop}
    (B : Below A₀ base [] h₀) (F : Fr h₀ L s.heap m) (X₀ : (hd.heap_39 w.params).In h₀) (T₀ : Top p loose mean mg mb h₀)
    (hA : A.frames = some [lawEnv L fa]) (hh : A.handled = none) (hroom : A.depth ≤ 400)
    (ti2 : PySem.Str.ofString "IndexError" ∉ loose) (ti3 : PySem.Str.ofString "IndexError" ∉ (recsOf p).map (·.name)) (ti4 : PySem.Str.ofString "IndexError" ∉ (litsOf p).map (·.1)) (ti5 : PySem.Str.ofString "IndexError" ∉ (clssOf p loose).map (·.name))
    (hlo : @LE.le Nat instLENat 201 L) (CH1 : CodeHd base 145 141) (CH2 : CodeHd base 93 89)
    (N : News h₀ L s.heap ((nw, W.listOf #[.int t tk] 0) :: (dS, oS) :: (dE, oE) :: (dV, oV) :: (89, tabObj #[]) :: (141, tabObj #[]) :: (L + 1, oW) :: tl)) (hN : NodT [nw, dS, dE, dV, 89, 141, L + 1] tl)
    (DS : ISD prog w oS (fun _ => none)) (DE : ISD prog w oE (fun _ => none)) (DV : ASD prog w oV (fun _ => none)) (dW : oW.data = .cell ov2) (mX : (x, instObj 192 dx) ∈ tl) (mXd : (dx, dictOf (storeEs w fk dS dE dV t1 t2 t3 t4) 4) ∈ tl) (mC : (L + 1 + 1, oC) ∈ tl) (dC : oC.data = .cell (some (.ref nw)))
    (mN : (ln, W.listOf vsN.toArray cN) ∈ tl) (iN : IntsAre vsN ns) (lN : ns.length ≤ 20) (hG : ∀ (h : Heap) t tk c, (∀ q ∈ tl, h.get? q.1 = some q.2) → h.get? nw = some (W.listOf #[.int t tk] c) → Geo w h L x fk dS dE dV t)
    (a0 : m (PySem.Str.ofString "numbers") = some (.ref ln)) (a5 : m (PySem.Str.ofString "store") = some (.ref x))
    (hU : ∀ h' tk' m' v' tl', (∀ q ∈ tl, q ∈ tl') → Fr h₀ L h' m' → News h₀ L h' (led L nw dS dE dV v' ++ tl') → U (.ret (.bool true)) { s with heap := h', toks := tk' }) :
    wpAny (model prog w) A (execs (lawBody.drop 3) (lawEnv L fa)) U E s := by
  obtain ⟨news, hnews⟩ : ∃ news, news = (nw, W.listOf #[.int t tk] 0) :: (dS, oS) :: (dE, oE) :: (dV, oV) :: (89, tabObj #[]) :: (141, tabObj #[]) :: (L + 1, oW) :: tl := ⟨_, rfl⟩
  rw [← hnews] at N
  have e : news.map (·.1) = [nw, dS, dE, dV, 89, 141, L + 1] ++ tl.map (·.1) := by rw [hnews]; rfl
  show wpAny _ _ (execs (_ :: _ :: _ :: _ :: lawBody.drop 7) _) _ _ _
  unfold lawEnv
  k_steps
  rename_i aK _ lK _ aW _ lW _ F1 N1
  show wpAny _ _ (execs _ (lawEnv L fa)) _ _ _
  refine lists3 F1 N1 rfl ?_
  intro h2 tk2 T k0 k1 k2 cT F2 N2 nd2
  refine lists3 F2 N2 rfl ?_
  intro h3 tk3 V u0 u1 u2 cU F3 N3 nd3
  have n2 := nod_new (nod_new hN lK e) (lt_cons (o := oC) lK lW.1) (congrArg (List.cons aK) e)
  have n3 := nd3 (nd2 n2 (congrArg (fun l => aW :: aK :: l) e)) (congrArg (fun l => T :: k2 :: k1 :: k0 :: aW :: aK :: l) e)
  rw [hnews] at N3
  have hf := led_fin (its := []) (tl := tl) (E := [_, _, _, _, _, _, _, _, _, _, _, _, _, _, _, _, _]) [10, 11, 12, 13, 14, 15, 16, 4, 0] [1, 2, 3, 5, 6, 7, 8, 9] N3 n3 (by decide) rfl rfl
  have sub : ∀ q ∈ tl, q ∈ _ ++ tl := hf.2.2.sub
  refine loop_in (v := { t := t, tk := _, c := 0, oS := oS, oE := oE, oV := oV, oW := oW, p89 := #[], p141 := #[], T := T, aT := fun | 0 => k0 | 1 => k1 | _ => k2, cT := cT, U := V, aU := fun | 0 => u0 | 1 => u1 | _ => u2, cU := cU, gS := fun _ => none, gE := fun _ => none, gV := fun _ => none, toks := fun _ => [], uns := fun _ => [], l := fun _ => [] })
    (uK := fun | 0 => _ | 1 => _ | _ => _) (uW := fun | 0 => _ | 1 => _ | _ => _) (vsK := [_, _, _]) (vsW := [_, _, _]) B F3 X₀ T₀ hA hh hroom ti2 ti3 ti4 ti5 hlo (Nat.le_refl _) CH1 CH2 hf.1
    ⟨fun h t tk c hm hn => hG h t tk c (fun q hq => hm q (sub q hq)) hn, sub _ mX, sub _ mXd, sub _ mC, dC, .tail _ (.tail _ (.tail _ (.tail _ (.tail _ (.tail _ (.tail _ (.head _))))))), fun | 0, _ => rfl | 1, _ => rfl | 2, _ => rfl, .tail _ (.tail _ (.tail _ (.tail _ (.tail _ (.tail _ (.head _)))))), fun | 0, _ => rfl | 1, _ => rfl | 2, _ => rfl⟩
    ⟨hf.2.1, DS, DE, DV, ⟨_, dW⟩, .inl rfl, .inl rfl, lst_nil (.tail _ (.tail _ (.tail _ (.tail _ (.tail _ (.head _)))))) (.tail _ (.tail _ (.tail _ (.tail _ (.head _))))) (.tail _ (.tail _ (.tail _ (.head _)))), lst_nil (.tail _ (.tail _ (.head _))) (.tail _ (.head _)) (.head _), fun _ _ => rfl, fun _ _ => .nil, fun _ _ => CInv.none' rfl, rfl, rfl, fun _ _ => rfl⟩
    (sub _ mN) iN lN a0 rfl rfl a5 ?_
  intro h4 tk4 m4 v4 tl4 hs F4 N4
  exact hU h4 tk4 m4 v4 tl4 (fun q hq => hs q (sub q hq)) F4 N4

end Law3
section Fin
variable {prog : Program} {w : World} {A₀ A : Around} {base h₀ : Heap} {outer : List Env} {env : Env} {L : Addr} {m mg mb : PySem.Str → Option Value}
  {p : Program} {loose : List PySem.Str} {mean : ExcName → Option Value} {s : Shared} {news : List (Addr × Obj)} {E : Value → Shared → Prop}
theorem words_Fin : True := by
  k_with_none
  w_top off
  (k_with "k_steps" => repeat' (first | (k_unfold; (try dsimp only)) | (k_end; wrow_close) | (dsimp only; walk1) | walk1 | (leave1; walk_say "STEP leave1"; try dsimp only) | fail "no step"))
  (k_with "k_lt" => first | (intro hlt9; (with_reducible rename NodT _ _ => hNdZ); have hNd2 := nod_new hNdZ hlt9 rfl; replace hlt9 := allLt_of hlt9; simp only [AllLt, and_true] at hlt9; revert hNd2 hlt9; intro _) | (intro hlt9; replace hlt9 := allLt_of hlt9; simp only [AllLt, and_true] at hlt9; revert hlt9) | fail)
  trivial
theorem five_nod {L : Nat} (l0 : @LT.lt Nat instLTNat 141 L ∧ @LT.lt Nat instLTNat 89 L ∧ @LT.lt Nat instLTNat 201 L) : NodT [L + 1 + 1, L + 1, 141, 89, 201] [] := by
  have h1 : ∀ p ∈ [((141 : Addr), tabObj #[]), (89, tabObj #[]), (201, tabObj #[])], p.1 < L + 1 := lt_all ⟨Nat.lt_succ_of_lt l0.1, Nat.lt_succ_of_lt l0.2.1, Nat.lt_succ_of_lt l0.2.2, trivial⟩
  exact nod_new (nod_new (ads := [141, 89, 201]) (tl := []) ⟨by decide, fun _ h => nomatch h⟩ h1 rfl) (lt_cons (o := tabObj #[]) h1 (Nat.lt_succ_self _)) rfl
theorem len_num {ws : List Int} : (ws.take 17 ++ [3, 0, 15]).length ≤ 20 := by
  rw [List.length_append, List.length_take]
  exact Nat.add_le_add_right (Nat.min_le_left _ _) 3
set_option maxHeartbeats 8000000 in
theorem fin0 : PySem.Challenge.rw_ji0054_01.Holds := by
  refine Mine.hd ?_
  k_go0
  all_goals (try k_fold)
  rename CodeHd _ 145 141 => c1
  rename CodeHd _ 93 89 => c2
  rename CodeHd _ 203 201 => c3
  rename _ ∧ _ ∧ _ => l0
  rename IntsAre _ _ => hI
  rename Fr _ _ _ _ => F1
  rename News _ _ _ _ => N1
  rename Below _ _ _ _ => B1
  rename Top _ _ _ _ _ (ghostOf _ _) => T1
  rename Frag.In _ (ghostOf _ _) => X1
  show wpAny _ _ (execs (lawBody.take 3 ++ lawBody.drop 3) (lawEnv _ _)) _ _ _
  refine law1_in F1 X1 T1 N1 (five_nod l0) rfl rfl (by rw [depth_deeper]; decide +kernel) c3 lifted hI (by omega) (by assumption) (by assumption) rfl ?_
  intro h' tk' m' nw x dx fk dS dE dV ln tk oC' oS oE oV vsN t1 t2 t3 t4 tl F2 N2 hN DS DE DV mX mXd mC dC mN iN m201 hG a0 a5
  refine law2_in B1 F2 X1 T1 rfl rfl (by rw [depth_deeper]; decide +kernel) (by decide +kernel) (by decide +kernel) (by decide +kernel) (by decide +kernel) (Nat.le_of_lt l0.2.2) c1 c2 N2 hN DS DE DV (by assumption) mX mXd mC dC mN iN len_num hG a0 a5 ?_
  intro h3 tk3 m3 v3 tl3 hs F3 N3
  obtain ⟨ps, m201⟩ := m201
  have N4 : News _ _ h3 [(141, tabObj v3.p141), (89, tabObj v3.p89), (201, tabObj ps)] := fun q hq => N3 q (by
    simp only [List.mem_cons, List.not_mem_nil, or_false] at hq
    rcases hq with rfl | rfl | rfl
    · exact .tail _ (.tail _ (.tail _ (.tail _ (.tail _ (.head _)))))
    · exact .tail _ (.tail _ (.tail _ (.tail _ (.head _))))
    · exact List.mem_append_right _ (hs _ m201))
  clear N3
  k_steps
  all_goals (try k_data)
  trace_state

end Fin
end Mine
theorem PySem.Challenge.cw_ji0054_01_holds : PySem.Challenge.rw_ji0054_01.Holds := by
  exact Mine.fin0
