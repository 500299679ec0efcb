import PyProof.Rows.All
import Wide.All
import OpenK.AllK
import Wide.FinOn
import Lean
import PySem.Challenge.RW_nb0029_01
set_option Elab.async false
section NbHead
open PySem PySem.W PyProof.Rows
namespace Mine
set_option maxRecDepth 100000 in
set_option maxHeartbeats 8000000 in
open_top hd for PySem.Challenge.rw_nb0029_01
end Mine

end NbHead
section NbBase
open PySem PySem.W PyProof.Rows PySem.Calls
namespace Mine
open PySem.Challenge

/-- every object of h stands in h' as it was -/
abbrev Keep (h h' : Heap) : Prop := ∀ b o, h.get? b = some o → h'.get? b = some o
theorem Keep.rfl' {h : Heap} : Keep h h := fun _ _ e => e
theorem Keep.trans {a b c : Heap} (x : Keep a b) (y : Keep b c) : Keep a c := fun p o e => y p o (x p o e)

/-- what surrounds a call: no exception in hand -/
abbrev Ar (dp un : Nat) (fr : Option (List Env)) (gd : Option (List Code)) : Around := { handled := none, depth := dp, frames := fr, guards := gd, units := un }

/-- what a call needs of the heap -/
structure Gr (w : World) (p : Program) (loose : List Str) (mean : ExcName → Option Value) (mg mb : Str → Option Value) (h : Heap) : Prop where
  K : (hd.heap_39 w.params).In h
  T : Top p loose mean mg mb h
theorem Gr.keeps {w : World} {p : Program} {loose : List Str} {mean : ExcName → Option Value} {mg mb : Str → Option Value} {h h' : Heap} (G : Gr w p loose mean mg mb h) (k : Keep h h') : Gr w p loose mean mg mb h' := ⟨G.K.keeps k, G.T.keeps k⟩

/-- a goal laid aside -/
def Park (P : Prop) : Prop := P
theorem Park.of {P : Prop} (h : Park P) : P := h

/-- names over a map -/
def ov (l : List (Str × Value)) (m : Str → Option Value) : Str → Option Value := fun y => match l.lookup y with | some v => some v | none => m y
theorem ov_self {m : Str → Option Value} : ∀ {l : List (Str × Value)}, (∀ p ∈ l, m p.1 = some p.2) → ov l m = m
  | [], _ => rfl
  | (x, v) :: l, h => by
    have ih := ov_self (l := l) (m := m) fun p hp => h p (List.mem_cons_of_mem _ hp)
    funext y
    have := congrFun ih y
    unfold ov at this ⊢
    by_cases e : y = x
    · subst e
      simp only [List.lookup_cons, beq_self_eq_true]
      exact (h (y, v) (List.mem_cons_self ..)).symm
    · simp only [List.lookup_cons, beq_eq_false_iff_ne.mpr e]
      exact this

section
variable {prog : Program} {w : World} {A : Around} {s : Shared} {K : Frag} {p : Program} {loose : List Str} {mean : ExcName → Option Value} {mg mb : Str → Option Value}
  {name qual : Str} {params : Arguments} {body : List Stmt} {scope : Scope} {dV kV doc pm cdv ct oc : Value} {an od : Option Addr} {osl : Array (Option Value)} {f : Addr} {args : List Value} {binds : List (Str × Value)} {Q : Value → Shared → Prop}

/-- entering a plain def -/
theorem enter (X : K.In s.heap) (T : Top p loose mean mg mb s.heap)
    (ho : K.lookup f = some ⟨oc, od, .func (fnOf name qual params body scope dV kV doc pm an cdv ct), osl⟩) (hcd : codeIn K cdv qual = true) (hroom : A.depth < recursionLimit)
    (hbind : BindsTo s (fnOf name qual params body scope dV kV doc pm an cdv ct) ⟨args, []⟩ binds) (hloc : ∀ y ∈ binds, scope.names.lookup y.1 = some .local)
    (h : ∀ h₁, Fr s.heap s.heap.objs.size h₁ (fun y => binds.reverse.lookup y) → News s.heap s.heap.objs.size h₁ [] →
      wpAny (model prog w) (A.deeper (envOf qual scope s.heap.objs.size f cdv)) (execs body (envOf qual scope s.heap.objs.size f cdv))
        (fun fl s' => Q (match fl with | .ret v => v | _ => .none) s') (fun _ _ => False) { s with heap := h₁, toks := s.toks + binds.length })
    (hco : scope.isCoroutine = false) (hgen : scope.isGenerator = false) (hk : scope.kind = .function)
    (hcell : ∀ x ∈ scope.names, x.2 ≠ .cell) : wpAny (model prog w) A (call (.ref f) args) Q (fun _ _ => False) s := by
  refine wpAny_call (codeAny_call_def (fd := fnOf name qual params body scope dV kV doc pm an cdv ct) (body := body) (binds := binds) hroom (X _ _ ho) rfl T.nolimit (codeRec_of X hcd) rfl hbind hcell hloc (fun h₁ hns hk₁ => ?_) hco hgen hk)
  exact wpAny_mono (h h₁ ⟨hns, hk₁, Nat.le_refl _⟩ News.nil) (fun fl s' q => q) (fun _ _ e => e.elim)

theorem wp_peek1 {α : Type} {M : Model} {E : Value → Shared → Prop} {Q : α → Shared → Prop} {o : Obj} {r : Addr → α}
    (X : K.In s.heap) (q : Q (r s.heap.objs.size) { s with heap := s.heap.push o }) :
    ∀ (t : Sem α) (g : Addr → Option α), peek1 K ⟨M.prog, M.w.params⟩ t = some (o, g) → (∀ D, g D = some (r D)) → wpAny M A t Q E s := by
  intro t
  induction t with
  | rule _ k ih => intro g e hg Γ p hΓ; exact ih () g e hg Γ p hΓ
  | point _ k ih => intro g e hg Γ p hΓ; exact ih () g e hg Γ p hΓ
  | ask k ih => intro g e hg Γ p hΓ; exact ih _ g e hg Γ p hΓ
  | load a _ k ih =>
    intro g e hg Γ p hΓ
    simp only [peek1] at e
    split at e
    · rename_i ob ho; exact ⟨ob, X _ _ ho, ih ob g e hg Γ p hΓ⟩
    · cases e
  | alloc ob k _ =>
    intro g e hg
    have e : some (ob, fun D => peek K ⟨M.prog, M.w.params⟩ (k D)) = some (o, g) := e
    obtain ⟨e1, e2⟩ := Prod.mk.inj (Option.some.inj e)
    subst e1
    subst e2
    have X' : K.In (s.heap.push ob) := X.keeps fun b x hb => Heap.get?_push_of_some _ hb
    show wpAny M A (alloc ob >>= k) Q E s
    refine wpAny_bind (wpAny_alloc ?_)
    exact (Looks.of_peek (M := M) (h := s.heap.push ob) X' (hg s.heap.objs.size)).here (s := { s with heap := s.heap.push ob }) q
  | _ => intro g e; cases e

/-- entering a def with a star -/
theorem enterRest {vs : List Value} {g₁ : Addr → Option (List (Str × Value))} {bs : Addr → List (Str × Value)} (X : K.In s.heap) (T : Top p loose mean mg mb s.heap)
    (ho : K.lookup f = some ⟨oc, od, .func (fnOf name qual params body scope dV kV doc pm an cdv ct), osl⟩) (hcd : codeIn K cdv qual = true) (hroom : A.depth < recursionLimit)
    (hp : peek1 K ⟨prog, w.params⟩ (bindArgs (fnOf name qual params body scope dV kV doc pm an cdv ct) ⟨args, []⟩) = some (({ cls := .type "tuple", data := .seq vs.toArray } : Obj), g₁))
    (hg : ∀ D, g₁ D = some (bs D)) (hloc : ∀ D, ∀ y ∈ bs D, scope.names.lookup y.1 = some .local)
    (h : ∀ D L h₁ n, Fr s.heap L h₁ (fun y => (bs D).reverse.lookup y) → News s.heap L h₁ [(D, ({ cls := .type "tuple", data := .seq vs.toArray } : Obj))] →
      wpAny (model prog w) (A.deeper (envOf qual scope L f cdv)) (execs body (envOf qual scope L f cdv))
        (fun fl s' => Q (match fl with | .ret v => v | _ => .none) s') (fun _ _ => False) { s with heap := h₁, toks := n })
    (hco : scope.isCoroutine = false) (hgen : scope.isGenerator = false) (hk : scope.kind = .function)
    (hcell : ∀ x ∈ scope.names, x.2 ≠ .cell) : wpAny (model prog w) A (call (.ref f) args) Q (fun _ _ => False) s := by
  refine wpAny_call (codeAny_call_function (fd := fnOf name qual params body scope dV kV doc pm an cdv ct) (body := body) hroom (X _ _ ho) rfl hco hgen rfl (codeRec_of X hcd) ?_)
  refine wp_peek1 (o := ({ cls := .type "tuple", data := .seq vs.toArray } : Obj)) X (r := bs) ?_ _ g₁ hp hg
  have T' : Top p loose mean mg mb (s.heap.push { cls := .type "tuple", data := .seq vs.toArray }) := T.keeps fun b o e => Heap.get?_push_of_some _ e
  refine wpAny_newFunctionEnv hcell (hloc _) (fun h₁ hns hsb => ⟨T'.nolimit.fresh _ hsb, codeAny_func ?_⟩) hk
  have hk₁ : Keep (s.heap.push { cls := .type "tuple", data := .seq vs.toArray }) h₁ := fun b o e => hsb.extBut b o (Nat.ne_of_lt (Heap.lt_size e)) (Heap.get?_push_of_some _ e)
  have hz : (s.heap.push { cls := .type "tuple", data := .seq vs.toArray }).objs.size = s.heap.objs.size + 1 := Heap.size_push ..
  refine wpAny_mono (h s.heap.objs.size _ h₁ _ ⟨hns, fun b o e => hk₁ b o (Heap.get?_push_of_some _ e), by rw [hz]; exact Nat.le_succ _⟩ ?_) (fun fl s' q => q) (fun _ _ e => e.elim)
  intro q hq
  rw [List.mem_singleton.mp hq]
  refine ⟨hk₁ _ _ (Heap.get?_push_size _ rfl), ?_, ?_⟩
  · show s.heap.objs.size ≠ _
    rw [hz]; exact Nat.ne_of_lt (Nat.lt_succ_self _)
  · cases e : s.heap.get? s.heap.objs.size with
    | none => rfl
    | some o => exact absurd (Heap.lt_size e) (Nat.lt_irrefl _)

/-- entering a def with cells -/
theorem enterC (X : K.In s.heap) (T : Top p loose mean mg mb s.heap)
    (ho : K.lookup f = some ⟨oc, od, .func (fnOf name qual params body scope dV kV doc pm an cdv ct), osl⟩) (hcd : codeIn K cdv qual = true) (hroom : A.depth < recursionLimit)
    (hbind : BindsTo s (fnOf name qual params body scope dV kV doc pm an cdv ct) ⟨args, []⟩ binds) (hkind : (binds.all fun y => scope.names.lookup y.1 == some .local || scope.names.lookup y.1 == some .cell) = true)
    (hnd : ((cellsFrom 0 scope.names []).map (·.1)).Nodup)
    (h : ∀ h₁ tk cells, Fr s.heap s.heap.objs.size h₁ (bindL (envOfC qual scope s.heap.objs.size f cdv).kindOf binds fun _ => none) → News s.heap s.heap.objs.size h₁ cells →
      CellsAre (bindC (envOfC qual scope s.heap.objs.size f cdv).kindOf binds fun _ => none) (cellsFrom (s.heap.objs.size + 1) scope.names []) cells →
      wpAny (model prog w) (A.deeper (envOfC qual scope s.heap.objs.size f cdv)) (execs body (envOfC qual scope s.heap.objs.size f cdv))
        (fun fl s' => Q (match fl with | .ret v => v | _ => .none) s') (fun _ _ => False) { s with heap := h₁, toks := tk })
    (hco : scope.isCoroutine = false) (hgen : scope.isGenerator = false) (hk : scope.kind = .function) : wpAny (model prog w) A (call (.ref f) args) Q (fun _ _ => False) s := by
  refine wpAny_call (codeAny_call_function (fd := fnOf name qual params body scope dV kV doc pm an cdv ct) (body := body) hroom (X _ _ ho) rfl hco hgen rfl (codeRec_of X hcd) (hbind _ _ _ _ ?_))
  refine wpAny_newFunctionEnv_cells hk (kindsX hkind _) fun env' he s' x => ?_
  subst he
  refine ⟨T.nolimit.keeps x.toInCall.keep, codeAny_func ?_⟩
  obtain ⟨h₁, tk, rfl, _⟩ := x.done
  have hk₁ := x.toInCall.keep
  obtain ⟨cells, NC, Y⟩ := Cl.news (h₀ := s.heap) (Nat.le_refl _) fun n c hm => ⟨x.cell n c (lookup_of_mem_nodup (cellsFrom_names scope.names 0 (s.heap.objs.size + 1) [] [] rfl ▸ hnd) hm), x.above n c hm⟩
  exact wpAny_mono (h h₁ tk cells ⟨x.toInCall.ns, hk₁, Nat.le_refl _⟩ NC Y) (fun fl s' q => q) fun _ _ e => e.elim
end
end Mine

end NbBase
section NbLoop
open PySem PySem.W PyProof.Rows PySem.Calls
namespace Mine
open PySem.Challenge

section
variable {prog : Program} {w : World} {A : Around} {s : Shared} {env : Env} {h₀ : Heap} {m₀ : Str → Option Value} {news : List (Addr × Obj)} {x : Str} {px pos : Pos} {body : List Stmt}

theorem not_here {h : Heap} {b : Addr} (hb : h.objs.size ≤ b) : h.get? b = none := by
  cases e : h.get? b with
  | none => rfl
  | some o => exact absurd (Heap.lt_size e) (Nat.not_lt.mpr hb)

/-- what a turn of a loop hands on -/
def TurnEnd (s : Shared) (h₀ : Heap) (L : Addr) (keepN : List (Addr × Obj)) (J : (Str → Option Value) → Prop) (f : Flow) (s₂ : Shared) : Prop :=
  f = .next ∧ ∃ h' tk' m', s₂ = { s with heap := h', toks := tk' } ∧ Fr h₀ L h' m' ∧ News h₀ L h' keepN ∧ J m'

theorem for_walks {R : Result → Shared → Prop} {I₀ : Addr} {fp wr : List Addr} {n : Nat} {P : Nat → Value → Prop} {St : Nat → Heap → Prop} (W : Walks prog w A I₀ fp wr n P St)
    (hx : env.kindOf x = some .local) (hp : (env.scope.kind == .class || (env.scope.kind == .module && env.locals != env.globals)) = false)
    (hL : env.locals ∉ fp) (hwr : ∀ b ∈ wr, h₀.get? b = none ∧ ∀ q ∈ news, q.1 ≠ b)
    (I : Nat → (Str → Option Value) → Prop) (hst : St 0 s.heap) (F : Fr h₀ env.locals s.heap m₀) (N : News h₀ env.locals s.heap news) (h0 : I 0 m₀)
    (turn : ∀ i v m₁ h tk own, i < n → P i v → I i m₁ → Fr h₀ env.locals h (fun y => if y = x then some v else m₁ y) → News h₀ env.locals h (own ++ news) →
      wpAny (model prog w) A (execs body env) (TurnEnd s h₀ env.locals (own ++ news) (I (i + 1))) (fun _ _ => False) { s with heap := h, toks := tk })
    (done : ∀ m₁ h tk, Fr h₀ env.locals h m₁ → News h₀ env.locals h news → I n m₁ → R (.ok .next) { s with heap := h, toks := tk }) :
    codeAny (model prog w) A (.forLoop (.Name x px) (.ref I₀) body [] env) R s := by
  have hLw : env.locals ∉ wr := fun h => hL (W.sub _ h)
  refine codeAny_forLoop (fun k s' => ∃ i h tk m₁, s' = { s with heap := h, toks := tk } ∧ Fr h₀ env.locals h m₁ ∧ News h₀ env.locals h news ∧ St i h ∧ I i m₁ ∧ i ≤ n ∧ k = n + 1 - i) ?_ (n + 1)
    ⟨0, s.heap, s.toks, m₀, rfl, F, N, hst, h0, Nat.zero_le _, rfl⟩
  rintro k s' ⟨i, h, tk, m₁, rfl, Fi, Ni, sti, hI, hi, rfl⟩
  have FW : ∀ {h₁ : Heap}, (∀ b o, b ∉ wr → h.get? b = some o → h₁.get? b = some o) → Fr h₀ env.locals h₁ m₁ := fun {h₁} hk =>
    ⟨Fi.ns.at' fun o e => hk _ o hLw e, fun b o e => hk b o (fun hb => by rw [(hwr b hb).1] at e; cases e) (Fi.keep b o e), Fi.above⟩
  have NW : ∀ {h₁ : Heap}, (∀ b o, b ∉ wr → h.get? b = some o → h₁.get? b = some o) → News h₀ env.locals h₁ news := fun {h₁} hk q hq =>
    ⟨hk _ _ (fun hb => (hwr _ hb).2 q hq rfl) (Ni q hq).1, (Ni q hq).2⟩
  by_cases hlt : i < n
  · refine W.item i _ _ _ hlt sti fun v h₁ tk₁ hP st₁ hk₁ => ?_
    have F₁ := FW hk₁
    have N₁ := NW hk₁
    refine wpAny_assign_Name (wpAny_storeName_local hx F₁.ns (fun h₂ hn₂ hs₂ => ?_) hp)
    have F₂ : Fr h₀ env.locals h₂ (fun y => if y = x then some v else m₁ y) := F₁.set hn₂ hs₂
    have N₂ : News h₀ env.locals h₂ news := N₁.set hs₂
    have st₂ : St (i + 1) h₂ := W.frame _ _ _ st₁ fun b hb o e => hs₂.extBut b o (fun e' => hL (e' ▸ hb)) e
    let own : List (Addr × Obj) := fp.filterMap fun b => match h₀.get? b, h₂.get? b with | none, some o => some (b, o) | _, _ => none
    have hown : ∀ q ∈ own, h₂.get? q.1 = some q.2 ∧ q.1 ≠ env.locals ∧ h₀.get? q.1 = none := by
      intro q hq
      obtain ⟨b, hb, e⟩ := List.mem_filterMap.mp hq
      cases e1 : h₀.get? b with
      | some o => rw [e1] at e; cases e
      | none =>
        cases e2 : h₂.get? b with
        | none => rw [e1, e2] at e; cases e
        | some o =>
          rw [e1, e2] at e
          cases e
          exact ⟨e2, fun e' => hL (e' ▸ hb), e1⟩
    have N₃ : News h₀ env.locals h₂ (own ++ news) := fun q hq => (List.mem_append.mp hq).elim (hown q) (N₂ q)
    refine wpAny_mono (turn i v m₁ h₂ _ own hlt hP hI F₂ N₃) (fun f s₃ h₃ => ?_) fun _ _ e => e.elim
    obtain ⟨rfl, h', tk', m', rfl, F', N', hI'⟩ := h₃
    refine ⟨n + 1 - (i + 1), by omega, i + 1, h', tk', m', rfl, F', fun q hq => N' q (List.mem_append_right _ hq), W.frame _ _ _ st₂ fun b hb o e => ?_, hI', hlt, rfl⟩
    cases e1 : h₀.get? b with
    | some o' =>
      have e2 := F₂.keep b o' e1
      rw [e] at e2
      cases e2
      exact F'.keep b o e1
    | none =>
      have hm : (b, o) ∈ own := List.mem_filterMap.mpr ⟨b, hb, by rw [e1, e]⟩
      exact (N' _ (List.mem_append_left _ hm)).1
  · have hin : i = n := by omega
    subst hin
    refine W.done _ _ _ sti fun h₁ tk₁ hk₁ => wpAny_execs_nil ?_
    exact done m₁ h₁ tk₁ (FW hk₁) (NW hk₁) hI

theorem for_text {Q : Flow → Shared → Prop} {iter : Expr} {xt : Str} {tx : Tok} (hh : A.handled = none) (F : Fr h₀ env.locals s.heap m₀) (N : News h₀ env.locals s.heap news)
    (hiter : ∀ Q', Q' (.str xt tx) s → wpAny (model prog w) A (eval iter env) Q' (fun _ _ => False) s)
    (I : Nat → (Str → Option Value) → Prop) (h0 : I 0 m₀)
    (turn : ∀ i c t m₁ h tk own, xt.cps[i]? = some c → I i m₁ → Fr h₀ env.locals h (fun y => if y = x then some (.str ⟨#[c]⟩ t) else m₁ y) → News h₀ env.locals h (own ++ news) →
      wpAny (model prog w) A (execs body env) (TurnEnd s h₀ env.locals (own ++ news) (I (i + 1))) (fun _ _ => False) { s with heap := h, toks := tk })
    (done : ∀ m₁ h tk, Fr h₀ env.locals h m₁ → News h₀ env.locals h news → I xt.cps.size m₁ → Q .next { s with heap := h, toks := tk })
    (hx : env.kindOf x = some .local) (hp : (env.scope.kind == .class || (env.scope.kind == .module && env.locals != env.globals)) = false)
    (hs : ∀ x, foldedSetIterable iter env x = pure x := by intro _; rfl) :
    wpAny (model prog w) A (exec (.For (.Name x px) iter body [] pos) env) Q (fun _ _ => False) s := by
  refine wpAny_For (hiter _ ?_) hs
  refine wpAny_pyIter_str fun o St hW hst => ?_
  refine for_walks (hW A hh) hx hp ?_ ?_ I hst (F.push _) (N.pushKeep _) h0 ?_ ?_
  · intro hm
    exact absurd F.ns.lt ((List.mem_singleton.mp hm) ▸ Nat.lt_irrefl _)
  · intro b hb
    rw [List.mem_singleton.mp hb]
    exact ⟨not_here (Nat.le_of_lt (Nat.lt_of_le_of_lt F.above F.ns.lt)), fun q hq e => absurd (Heap.lt_size (N q hq).1) (e ▸ Nat.lt_irrefl _)⟩
  · rintro i v m₁ h tk own hi ⟨c, t, hc, rfl⟩ hI F₁ N₁
    exact turn i c t m₁ h tk own hc hI F₁ N₁
  · exact done

/-- a for over a list that stands -/
theorem for_list {Q : Flow → Shared → Prop} {iter : Expr} {ax : Addr} {items : Array Value} {s₁ : Shared} {m₁ : Str → Option Value} (hh : A.handled = none) (F : Fr h₀ env.locals s₁.heap m₁) (N : News h₀ env.locals s₁.heap news) (hl : s₁.heap.IsList ax items) (haL : ax ≠ env.locals)
    (hiter : ∀ Q', Q' (.ref ax) s₁ → wpAny (model prog w) A (eval iter env) Q' (fun _ _ => False) s)
    (I : Nat → (Str → Option Value) → Prop) (h0 : I 0 m₁)
    (turn : ∀ i v m₁ h tk own, items[i]? = some v → I i m₁ → Fr h₀ env.locals h (fun y => if y = x then some v else m₁ y) → News h₀ env.locals h (own ++ news) →
      wpAny (model prog w) A (execs body env) (TurnEnd s₁ h₀ env.locals (own ++ news) (I (i + 1))) (fun _ _ => False) { s₁ with heap := h, toks := tk })
    (done : ∀ m₁ h tk, Fr h₀ env.locals h m₁ → News h₀ env.locals h news → I items.size m₁ → Q .next { s₁ with heap := h, toks := tk })
    (hx : env.kindOf x = some .local) (hp : (env.scope.kind == .class || (env.scope.kind == .module && env.locals != env.globals)) = false)
    (hs : ∀ x, foldedSetIterable iter env x = pure x := by intro _; rfl) :
    wpAny (model prog w) A (exec (.For (.Name x px) iter body [] pos) env) Q (fun _ _ => False) s := by
  refine wpAny_For (hiter _ (wpAny_pyIter_list hl ?_)) hs
  obtain ⟨ol, hol, _⟩ := id hl
  have hne : ax ≠ s₁.heap.objs.size := Nat.ne_of_lt (Heap.lt_size hol)
  refine for_walks (Walks.list hh s₁.heap.objs.size ax hne items) hx hp ?_ ?_ I ⟨⟨_, Heap.get?_push_size _ rfl, rfl, rfl⟩, hl.push _⟩ (F.push _) (N.pushKeep _) h0 ?_ ?_
  · intro hm
    rcases List.mem_cons.mp hm with e | hm
    · exact absurd F.ns.lt (e ▸ Nat.lt_irrefl _)
    · exact haL ((List.mem_singleton.mp hm).symm)
  · intro b hb
    rw [List.mem_singleton.mp hb]
    exact ⟨not_here (Nat.le_of_lt (Nat.lt_of_le_of_lt F.above F.ns.lt)), fun q hq e => absurd (Heap.lt_size (N q hq).1) (e ▸ Nat.lt_irrefl _)⟩
  · intro i v m₁ h tk own hi hP hI F₁ N₁
    exact turn i v m₁ h tk own hP hI F₁ N₁
  · exact done

def WTurn (s : Shared) (h₀ : Heap) (L : Addr) (keepN : List (Addr × Obj)) (J : Nat → (Str → Option Value) → Prop) (k : Nat) (f : Flow) (s₂ : Shared) : Prop := ∃ k', k' < k ∧ TurnEnd s h₀ L keepN (J k') f s₂
/-- a while by an invariant and a measure -/
theorem while_inv {Q : Flow → Shared → Prop} {test : Expr} (F : Fr h₀ env.locals s.heap m₀) (N : News h₀ env.locals s.heap news)
    (I : Nat → (Str → Option Value) → Prop) (Z : (Str → Option Value) → Prop) {k₀ : Nat} (h0 : I k₀ m₀)
    (turn : ∀ k m₁ h tk, I k m₁ → Fr h₀ env.locals h m₁ → News h₀ env.locals h news →
      wpAny (model prog w) A (isTrue test env (eval test env)) (fun b s₂ =>
        if b = true then wpAny (model prog w) A (execs body env) (WTurn s h₀ env.locals news I k) (fun _ _ => False) s₂
        else TurnEnd s h₀ env.locals news Z .next s₂) (fun _ _ => False) { s with heap := h, toks := tk })
    (done : ∀ m₁ h tk, Fr h₀ env.locals h m₁ → News h₀ env.locals h news → Z m₁ → Q .next { s with heap := h, toks := tk }) :
    wpAny (model prog w) A (exec (.While test body [] pos) env) Q (fun _ _ => False) s := by
  refine wpAny_While (codeAny_whileLoop (fun k s' => ∃ h tk m₁, s' = { s with heap := h, toks := tk } ∧ Fr h₀ env.locals h m₁ ∧ News h₀ env.locals h news ∧ I k m₁) ?_ k₀ ⟨s.heap, s.toks, m₀, rfl, F, N, h0⟩)
  rintro k s' ⟨h, tk, m₁, rfl, F₁, N₁, hI⟩
  refine wpAny_mono (turn k m₁ h tk hI F₁ N₁) (fun b s₂ h₂ => ?_) fun _ _ e => e.elim
  cases b with
  | true =>
    simp only [if_true] at h₂ ⊢
    refine wpAny_mono h₂ (fun f s₃ h₃ => ?_) fun _ _ e => e.elim
    obtain ⟨k', hk', rfl, h', tk', m', rfl, F', N', hI'⟩ := h₃
    exact ⟨k', hk', h', tk', m', rfl, F', N', hI'⟩
  | false =>
    simp only [Bool.false_eq_true, if_false] at h₂ ⊢
    obtain ⟨_, h', tk', m', rfl, F', N', hZ⟩ := h₂
    exact wpAny_execs_nil (done m' h' tk' F' N' hZ)
end
end Mine

end NbLoop
section NbSpec
open PySem PySem.W PyProof.Rows
namespace Mine

def isPQ (c : Nat) : Bool := c == 112 || c == 113
def isDE (c : Nat) : Bool := c == 100 || c == 101

def mrg : List Nat → List Nat → List Nat
  | [], new => new
  | c :: old, new => if isDE c then c :: mrg old new else new.takeWhile isPQ ++ c :: mrg old ((new.dropWhile isPQ).drop 1)

theorem mrg_length : ∀ (old new : List Nat), (mrg old new).length ≤ old.length + new.length
  | [], new => by simp [mrg]
  | c :: old, new => by
    unfold mrg
    split
    · have := mrg_length old new
      simp only [List.length_cons]; omega
    · have h1 := mrg_length old ((new.dropWhile isPQ).drop 1)
      have h2 : (new.takeWhile isPQ).length + (new.dropWhile isPQ).length = new.length := by
        rw [← List.length_append, List.takeWhile_append_dropWhile]
      simp only [List.length_append, List.length_cons, List.length_drop] at *
      omega
end Mine
namespace Mine
theorem beq_one {c d : Nat} {x : Str} (hx : x = ⟨#[d]⟩) : ((Str.mk #[c]) == x) = (c == d) := by
  subst hx
  rw [Bool.eq_iff_iff, beq_iff_eq, beq_iff_eq]
  exact ⟨fun e => by simpa using congrArg Str.cps e, fun e => by rw [e]⟩
theorem drop_at {l : List Nat} {i c : Nat} (h : l[i]? = some c) : l.drop i = c :: l.drop (i + 1) := by
  obtain ⟨hi, e⟩ := List.getElem?_eq_some_iff.mp h
  rw [List.drop_eq_getElem_cons hi, e]
theorem cps_snoc (x : Str) (c : Nat) : (x ++ (⟨#[c]⟩ : Str)).cps.toList = x.cps.toList ++ [c] := by
  rw [PySem.Str.cps_append, Array.toList_append]
theorem mrg_de {told old new R : List Nat} {i c : Nat} (hc : old[i]? = some c) (hde : isDE c = true) (h : told ++ mrg (old.drop i) new = R) : (told ++ [c]) ++ mrg (old.drop (i + 1)) new = R := by
  rw [drop_at hc, mrg, if_pos hde] at h
  simpa using h
theorem mrg_km {told old new R : List Nat} {i c : Nat} (hc : old[i]? = some c) (hde : isDE c = false) (h : told ++ mrg (old.drop i) new = R) :
    told ++ (new.takeWhile isPQ ++ c :: mrg (old.drop (i + 1)) ((new.dropWhile isPQ).drop 1)) = R := by
  rw [drop_at hc, mrg, hde] at h
  simpa using h
theorem run_in {told new R : List Nat} {k c q : Nat} {f : List Nat → List Nat} (hk : new[k]? = some q) (hq : isPQ q = true) (h : told ++ ((new.drop k).takeWhile isPQ ++ c :: f (((new.drop k).dropWhile isPQ).drop 1)) = R) :
    (told ++ [q]) ++ ((new.drop (k + 1)).takeWhile isPQ ++ c :: f (((new.drop (k + 1)).dropWhile isPQ).drop 1)) = R := by
  rw [drop_at hk] at h
  simpa [hq] using h
theorem run_off {told new R : List Nat} {k c q : Nat} {f : List Nat → List Nat} (hk : new[k]? = some q) (hq : isPQ q = false) (h : told ++ ((new.drop k).takeWhile isPQ ++ c :: f (((new.drop k).dropWhile isPQ).drop 1)) = R) :
    told ++ c :: f (new.drop (k + 1)) = R := by
  rw [drop_at hk] at h
  simpa [hq] using h
theorem run_end {told new R : List Nat} {k c : Nat} {f : List Nat → List Nat} (hk : new.length ≤ k) (h : told ++ ((new.drop k).takeWhile isPQ ++ c :: f (((new.drop k).dropWhile isPQ).drop 1)) = R) :
    told ++ c :: f (new.drop (k + 1)) = R := by
  rw [List.drop_eq_nil_of_le hk] at h
  rw [List.drop_eq_nil_of_le (Nat.le_succ_of_le hk)]
  simpa using h
end Mine
namespace Mine
theorem slice_from (x : Str) (a : Nat) : (Txt.slice x (some (a : Int)) none).cps.toList = x.cps.toList.drop a := by
  have main : ∀ b : Nat, b ≤ x.length → (Txt.slice x (some (b : Int)) none).cps.toList = x.cps.toList.drop b := by
    intro b h
    rw [slice_from_eq (b := x.length) (by omega) (by omega) rfl]
    simp only [Int.toNat_natCast]
    apply List.take_of_length_le
    simp only [List.length_drop, Array.length_toList]
    unfold Str.length
    omega
  by_cases h : a ≤ x.length
  · exact main a h
  · have h' : x.cps.size ≤ a := by unfold Str.length at h; omega
    have e : Txt.slice x (some (a : Int)) none = Txt.slice x (some (x.length : Int)) none := by
      unfold Txt.slice
      rw [indices_beyond (by omega)]
    have h1 : x.cps.toList.drop a = [] := List.drop_eq_nil_of_le (by simpa using h')
    have h2 : x.cps.toList.drop x.length = [] := List.drop_eq_nil_of_le (by unfold Str.length; simp)
    rw [e, main _ (Nat.le_refl _), h1, h2]
theorem slice_upto (x : Str) (b : Nat) (h : b ≤ x.length) : (Txt.slice x none (some (b : Int))).cps.toList = x.cps.toList.take b := by
  rw [beq_iff_eq.mp (slice_closes_toL (x := x) (j := (b : Int)) (by omega) (by omega))]
  simp
theorem in_pq (c : Nat) : (!(Builtin.Str.occurrences (Str.ofString "pq") ⟨#[c]⟩ 0 (Str.ofString "pq").length 1).isEmpty) = isPQ c := by
  rw [StrLaws.found_one, Bool.eq_iff_iff, decide_eq_true_eq]
  have : (Str.ofString "pq").cps.toList = [112, 113] := by decide +kernel
  rw [this]
  simp [isPQ]
theorem str_ext {a b : Str} (h : a.cps.toList = b.cps.toList) : a = b := PySem.Str.ext' (Array.toList_inj.mp h)
def BackStr (s : Shared) (r : Str) (v : Value) (s' : Shared) : Prop := ∃ t h' tk', v = .str r t ∧ s' = { s with heap := h', toks := tk' } ∧ Keep s.heap h'
def GivesStr (prog : Program) (w : World) (K : Frag) (p : Program) (loose : List Str) (mean : ExcName → Option Value) (mg mb : Str → Option Value) (f : Addr) (args : List Value) (r : Str) : Prop :=
  ∀ (dp un : Nat) (fr : Option (List Env)) (gd : Option (List Code)) (s : Shared), K.In s.heap → Top p loose mean mg mb s.heap → dp + 8 < recursionLimit → un + 100 < cLine →
    wpAny (model prog w) (Ar dp un fr gd) (call (.ref f) args) (BackStr s r) (fun _ _ => False) s

theorem itemAt {x : Str} {k : Nat} (h : k < x.length) : ∃ q, x.cps.toList[k]? = some q ∧ Txt.item x (k : Int) = ⟨#[q]⟩ := by
  have h' : k < x.cps.size := h
  exact ⟨x.cps[k], by simp [h'], item_meets (by omega) (by simp [h'])⟩
theorem len1 (c : Nat) : (Str.mk #[c]).length = 1 := rfl
end Mine
namespace Mine
/-- one pair of replace: the text split at a, joined by b -/
def rp (a b x : Str) : Str := Txt.join b (Txt.split x a)
theorem join_len (sep : Str) : ∀ ys : List Str, ys ≠ [] → (Str.join sep ys).length + sep.length = (ys.map (·.length)).sum + ys.length * sep.length
  | [], h => absurd rfl h
  | [y], _ => by simp [Str.join]
  | y :: z :: r, _ => by
    have ih := join_len sep (z :: r) (by simp)
    rw [join_cons_cons, PySem.Str.length_append, PySem.Str.length_append]
    simp only [List.map_cons, List.sum_cons, List.length_cons] at ih ⊢
    rw [Nat.succ_mul]
    omega
theorem split_ne (x y : Str) : Txt.split x y ≠ [] := by
  unfold Txt.split
  split
  · simp
  · split
    · simp
    · rename_i h
      rw [StrLaws.partsBetween_eq]
      obtain ⟨p, q, e⟩ := StrLaws.partsFrom_ne x y.length 0 (Builtin.Str.occurrences x y 0 x.length (x.length + 1))
      rw [e]; simp
theorem split_sum (x a : Str) : x.length + a.length = ((Txt.split x a).map (·.length)).sum + (Txt.split x a).length * a.length := by
  have := join_len a _ (split_ne x a)
  rwa [StrLaws.join_split] at this
theorem split_weight {x a : Str} (ha : 1 ≤ a.length) : ((Txt.split x a).map (·.length)).sum + (Txt.split x a).length ≤ x.length + a.length := by
  have h := split_sum x a
  have h1 : (Txt.split x a).length * 1 ≤ (Txt.split x a).length * a.length := Nat.mul_le_mul_left _ ha
  omega
theorem rp_length {a b x : Str} (hba : b.length ≤ a.length) : (rp a b x).length ≤ x.length := by
  have h := split_sum x a
  have h2 := join_len b _ (split_ne x a)
  unfold rp Txt.join
  rw [StrLaws.glued_eq_join]
  have h3 : 1 ≤ (Txt.split x a).length := by
    cases e : Txt.split x a with
    | nil => exact absurd e (split_ne x a)
    | cons y r => simp
  obtain ⟨k, hk⟩ : ∃ k, (Txt.split x a).length = k + 1 := ⟨(Txt.split x a).length - 1, by omega⟩
  rw [hk, Nat.succ_mul] at h h2
  have h4 : k * b.length ≤ k * a.length := Nat.mul_le_mul_left _ hba
  omega
theorem join_rp {prog : Program} {w : World} {A : Around} {E : Value → Shared → Prop} {s : Shared} {t : Tok} {Q : Value → Shared → Prop} {D : Addr} {items : Array Value} {x a b : Str} (hl : s.heap.IsList D items) (hi : StrsAre items.toList (Txt.split x a)) (hx : x.length ≤ 1000) (ha : 1 ≤ a.length) (ha2 : a.length ≤ 16) (hba : b.length ≤ a.length)
    (h : ∀ t' k, (rp a b x).length ≤ 1000 → Q (.str (rp a b x) t') { s with toks := k }) : wpAny (model prog w) A (call (.builtin "str.join") [.str b t, .ref D]) Q E s :=
  join_listW hl hi (by omega) (by have := split_weight (x := x) ha; omega) fun t' k => h t' k (Nat.le_trans (rp_length hba) hx)
end Mine
namespace Mine
theorem slice_tup {prog : Program} {w : World} {A : Around} {E : Value → Shared → Prop} {s : Shared} {h₀ : Heap} {L : Addr} {m : Str → Option Value} {news : List (Addr × Obj)} {value slice : Expr} {t : Addr} {n : Nat} {its zs : List Value} {a : Nat} {u : Tok} {Q : Value → Shared → Prop}
    (F : Fr h₀ L s.heap m) (N : News h₀ L s.heap news) (ht : (t, ({ cls := .type "tuple", data := .seq its.toArray n } : Obj)) ∈ news) (h1 : 1 ≤ a) (ha : a ≤ its.length) (e : its.drop a = zs) (hsz : its.length ≤ 100)
    (h : ∀ D h', Fr h₀ L h' m → News h₀ L h' [(D, ({ cls := .type "tuple", data := .seq zs.toArray } : Obj))] → Q (.ref D) { s with heap := h' })
    (hs : subscripted slice false (.ref t) (.ref s.heap.objs.size) = operate [.ref s.heap.objs.size, .ref t] (getItem (.ref t) (.ref s.heap.objs.size)))
    (hg : ∀ r, letTemporaryGo value (.ref t) r = pure ()) :
    wpAny (model prog w) A (subscriptTail value slice (.ref t) (.ref s.heap.objs.size)) Q E { s with heap := s.heap.push { cls := .type "slice", data := .fields #[.int a u, .none, .none] } } := by
  subst e
  refine slice_tuple_from F N (N.isTup ht) h1 (by simpa using ha) (fun h' F' N' => h _ h' F' (fun q hq => N' q ?_)) hs hg (by rw [PySem.sizeLine_eq]; simp; omega)
  rw [List.mem_singleton.mp hq]
  exact List.mem_cons_self ..
end Mine
namespace Mine
theorem GivesStr.use {prog : Program} {w : World} {K : Frag} {p : Program} {loose : List Str} {mean : ExcName → Option Value} {mg mb : Str → Option Value} {f : Addr} {args : List Value} {r : Str} (C : GivesStr prog w K p loose mean mg mb f args r)
    {dp un : Nat} {fr : Option (List Env)} {gd : Option (List Code)} {s : Shared} {h₀ : Heap} {L : Addr} {m : Str → Option Value} {news : List (Addr × Obj)} {Q E : Value → Shared → Prop}
    (F : Fr h₀ L s.heap m) (N : News h₀ L s.heap news) (X : K.In h₀) (T : Top p loose mean mg mb h₀) (hdp : dp + 8 < recursionLimit) (hun : un + 100 < cLine)
    (h : ∀ t h' tk', Fr h₀ L h' m → News h₀ L h' news → Q (.str r t) { s with heap := h', toks := tk' }) :
    wpAny (model prog w) (Ar dp un fr gd) (call (.ref f) args) Q E s := by
  refine wpAny_mono (C dp un fr gd s (X.keeps F.keep) (T.keeps F.keep) hdp hun) ?_ fun _ _ e => e.elim
  rintro v s' ⟨t, h', tk', rfl, rfl, hk⟩
  exact h t h' tk' (F.keeps hk) (N.grown hk)

def rd (x : Str) : Str := rp (Str.ofString "qe") (Str.ofString "eq") (rp (Str.ofString "qd") (Str.ofString "dq") (rp (Str.ofString "pe") (Str.ofString "ep") (rp (Str.ofString "pd") (Str.ofString "dp") x)))
def st (x : Str) : Str := rp (Str.ofString "h") (Str.ofString "") (rp (Str.ofString "g") (Str.ofString "") x)
/-- r is what x comes to, round upon round, and it is at rest -/
inductive Comes (x : Str) : Str → Prop where
  | start : Comes x (st x)
  | round {y : Str} : Comes x y → Comes x (rd y)
def BackSuch (s : Shared) (P : Str → Prop) (v : Value) (s' : Shared) : Prop := ∃ r t h' tk', v = .str r t ∧ s' = { s with heap := h', toks := tk' } ∧ Keep s.heap h' ∧ P r
def GivesSuch (prog : Program) (w : World) (K : Frag) (p : Program) (loose : List Str) (mean : ExcName → Option Value) (mg mb : Str → Option Value) (f : Addr) (args : List Value) (P : Str → Prop) : Prop :=
  ∀ (dp un : Nat) (fr : Option (List Env)) (gd : Option (List Code)) (s : Shared), K.In s.heap → Top p loose mean mg mb s.heap → dp + 16 < recursionLimit → un + 200 < cLine →
    wpAny (model prog w) (Ar dp un fr gd) (call (.ref f) args) (BackSuch s P) (fun _ _ => False) s
theorem rd_length {x : Str} : (rd x).length ≤ x.length :=
  Nat.le_trans (rp_length (by decide)) (Nat.le_trans (rp_length (by decide)) (Nat.le_trans (rp_length (by decide)) (rp_length (by decide))))
theorem st_length {x : Str} : (st x).length ≤ x.length := Nat.le_trans (rp_length (by decide)) (rp_length (by decide))
theorem Comes.length {x y : Str} (h : Comes x y) : y.length ≤ x.length := by
  induction h with
  | start => exact st_length
  | round _ ih => exact Nat.le_trans rd_length ih
end Mine

end NbSpec
section NbMerged
open PySem PySem.W PyProof.Rows
namespace Mine
open PySem.Challenge

local macro_rules | `(tactic| walk_at "exec For") => `(tactic| refine Park.of ?_)
local macro_rules | `(tactic| walk_at "exec For Name Name cons nil") => `(tactic| refine Park.of ?_)
local macro_rules | `(tactic| walk_at "exec While") => `(tactic| refine Park.of ?_)
local macro_rules | `(tactic| walk_at "last exec While") => `(tactic| refine Park.of ?_)
local macro_rules | `(tactic| walk_at "exec While BoolOp") => `(tactic| refine Park.of ?_)


local macro_rules | `(tactic| size_fits) => `(tactic| (rw [PySem.sizeLine_eq]; (try simp only [len1, PySem.Str.length_append]); omega))
set_option maxRecDepth 100000 in
set_option maxHeartbeats 8000000 in
theorem merged_ok {w : World} {p : Program} {loose : List Str} {mean : ExcName → Option Value} {mg mb : Str → Option Value} (old new : Str) (t1 t2 : Tok) (hlen : old.length + new.length ≤ 1000) :
   GivesStr rw_nb0029_01.row.prog w (hd.heap_39 w.params) p loose mean mg mb 47 [.str old t1, .str new t2] ⟨(mrg old.cps.toList new.cps.toList).toArray⟩ := by
  k_fill
  intro dp un fr gd s X T hdp hun
  k_dflt (refine' enter (binds := [(Str.ofString "old", .str old t1), (Str.ofString "new", .str new t2)]) ?k3 ?k5 ?k6 ?k7 ?k8 ?k9 ?kB ?_ ?c2 ?c3 ?c4 ?c5; (case k3 => k_asm); (case k5 => k_asm); (case k6 => k_is); (case k7 => k_is); (case k8 => exact Nat.lt_of_le_of_lt (Nat.le_add_right _ _) hdp); (case k9 => exact BindsTo.of_eq rfl); (case c5 => decide); (case kB => exact locs rfl); (case c2 => exact rfl); (case c3 => exact rfl); (case c4 => exact rfl); k_whole; intro h₁ F N; (try dsimp only); (try k_fold))
  k_steps
  rename Fr _ _ _ _ => F1
  rename News _ _ _ _ => N1
  unfold Park
  refine for_text (xt := old) (tx := t1) rfl F1 N1 (fun Q' h => ?iter) (I := fun i m => ∃ (told : Str) (place : Nat) (t t' : Tok), m (Str.ofString "told") = some (.str told t) ∧ m (Str.ofString "place") = some (.int (place : Int) t') ∧ m (Str.ofString "new") = some (.str new t2) ∧
     told.cps.toList ++ mrg (old.cps.toList.drop i) (new.cps.toList.drop place) = mrg old.cps.toList new.cps.toList) ?start ?turn ?done rfl rfl
  case iter => exact ld F1 rfl h
  case start => exact ⟨Str.ofString "", 0, _, _, rfl, rfl, rfl, rfl⟩
  case turn =>
    rintro i c t m₁ h tk own hc ⟨told, place, ta, tb, e1, e2, e3, hI⟩ F2 N2
    rw [← ov_self (m := m₁) (l := [(Str.ofString "told", .str told ta), (Str.ofString "place", .int (place : Int) tb), (Str.ofString "new", .str new t2)]) (by simp [e1, e2, e3])] at F2
    have hz : told.length ≤ 1000 := by
      have := congrArg List.length hI
      have h2 := mrg_length old.cps.toList new.cps.toList
      simp only [List.length_append, Array.length_toList] at this h2
      unfold Str.length at hlen ⊢
      omega
    clear F1 N1
    k_unmd
    k_fold
    k_steps
    · rename (_ == Str.ofString "d") = true => hd1
      rw [beq_one (x := Str.ofString "d") (d := 100) rfl, beq_iff_eq] at hd1
      refine ⟨rfl, _, _, _, rfl, by assumption, by assumption, told ++ ⟨#[c]⟩, place, _, _, rfl, rfl, rfl, ?_⟩
      rw [cps_snoc]
      exact mrg_de (by simpa using hc) (by simp [isDE, hd1]) hI
    · rename (_ == Str.ofString "e") = true => hd1
      rw [beq_one (x := Str.ofString "e") (d := 101) rfl, beq_iff_eq] at hd1
      refine ⟨rfl, _, _, _, rfl, by assumption, by assumption, told ++ ⟨#[c]⟩, place, _, _, rfl, rfl, rfl, ?_⟩
      rw [cps_snoc]
      exact mrg_de (by simpa using hc) (by simp [isDE, hd1]) hI
    · rename (_ == Str.ofString "d") = false => hd1
      rename (_ == Str.ofString "e") = false => hd2
      rw [beq_one (x := Str.ofString "d") (d := 100) rfl] at hd1
      rw [beq_one (x := Str.ofString "e") (d := 101) rfl] at hd2
      have hI' := mrg_km (by simpa using hc) (by simp only [isDE, hd1, hd2, Bool.or_self]) hI
      unfold Park
      refine while_inv F2 N2 (k₀ := new.length - place) (I := fun k m => ∃ (told : Str) (place : Nat) (ta tb : Tok), m (Str.ofString "told") = some (.str told ta) ∧ m (Str.ofString "place") = some (.int (place : Int) tb) ∧ m (Str.ofString "new") = some (.str new t2) ∧ m (Str.ofString "sign") = some (.str ⟨#[c]⟩ t) ∧ k = new.length - place ∧ 
        told.cps.toList ++ ((new.cps.toList.drop place).takeWhile isPQ ++ c :: mrg (old.cps.toList.drop (i + 1)) (((new.cps.toList.drop place).dropWhile isPQ).drop 1)) = mrg old.cps.toList new.cps.toList)
        (Z := fun m => ∃ (told : Str) (place : Nat) (ta tb : Tok), m (Str.ofString "told") = some (.str told ta) ∧ m (Str.ofString "place") = some (.int (place : Int) tb) ∧ m (Str.ofString "new") = some (.str new t2) ∧ m (Str.ofString "sign") = some (.str ⟨#[c]⟩ t) ∧ 
          told.cps.toList ++ c :: mrg (old.cps.toList.drop (i + 1)) (new.cps.toList.drop (place + 1)) = mrg old.cps.toList new.cps.toList) ?start2 ?turn2 ?done2
      case start2 => exact ⟨told, place, _, _, rfl, rfl, rfl, rfl, rfl, hI'⟩
      case turn2 =>
        clear hI' hI hz
        rintro k m₂ h' tk' ⟨told, place, ta, tb, e1, e2, e3, e4, hk, hI⟩ F3 N3
        rw [← ov_self (m := m₂) (l := [(Str.ofString "told", .str told ta), (Str.ofString "place", .int (place : Int) tb), (Str.ofString "new", .str new t2), (Str.ofString "sign", .str ⟨#[c]⟩ t)]) (by simp [e1, e2, e3, e4])] at F3
        have hz : told.length ≤ 1000 := by
          have := congrArg List.length hI
          have h2 := mrg_length old.cps.toList new.cps.toList
          simp only [List.length_append, Array.length_toList] at this h2
          unfold Str.length at hlen ⊢
          omega
        clear F2 N2
        k_unmd
        k_fold
        k_steps
        · rename (_ : Int) < _ => hlt
          obtain ⟨q, hq, hit⟩ := itemAt (x := new) (k := place) (by omega)
          rename (List.isEmpty _) = true => hem
          rw [hit] at hem
          have hnq : isPQ q = false := by rw [← in_pq, hem]; rfl
          exact ⟨rfl, _, _, _, rfl, by assumption, by assumption, told, place, _, _, rfl, rfl, rfl, rfl, run_off (f := mrg (old.cps.toList.drop (i + 1))) hq hnq hI⟩
        · rename (_ : Int) < _ => hlt
          obtain ⟨q, hq, hit⟩ := itemAt (x := new) (k := place) (by omega)
          rename (List.isEmpty _) = false => hem
          rw [hit] at hem
          have hnq : isPQ q = true := by rw [← in_pq, hem]; rfl
          refine ⟨new.length - (place + 1), by omega, rfl, _, _, _, rfl, by assumption, by assumption, told ++ Txt.item new (place : Int), place + 1, _, _, rfl, rfl, rfl, rfl, rfl, ?_⟩
          rw [hit, cps_snoc]
          exact run_in (f := mrg (old.cps.toList.drop (i + 1))) hq hnq hI
        · rename ¬ ((_ : Int) < _) => hge
          exact ⟨rfl, _, _, _, rfl, by assumption, by assumption, told, place, _, _, rfl, rfl, rfl, rfl, run_end (f := mrg (old.cps.toList.drop (i + 1))) (by unfold Str.length at hge; simp only [Array.length_toList]; omega) hI⟩
      case done2 =>
        clear hI' hI hz
        rintro m₂ h' tk' F3 N3 ⟨told, place, ta, tb, e1, e2, e3, e4, hI⟩
        rw [← ov_self (m := m₂) (l := [(Str.ofString "told", .str told ta), (Str.ofString "place", .int (place : Int) tb), (Str.ofString "new", .str new t2), (Str.ofString "sign", .str ⟨#[c]⟩ t)]) (by simp [e1, e2, e3, e4])] at F3
        have hz : told.length ≤ 1000 := by
          have := congrArg List.length hI
          have h2 := mrg_length old.cps.toList new.cps.toList
          simp only [List.length_append, Array.length_toList] at this h2
          unfold Str.length at hlen ⊢
          omega
        clear F2 N2
        dsimp only
        k_unmd
        k_steps
        refine ⟨rfl, _, _, _, rfl, by assumption, by assumption, told ++ ⟨#[c]⟩, place + 1, _, _, rfl, rfl, rfl, ?_⟩
        rw [cps_snoc]
        simpa using hI
  case done =>
    rintro m₁ h tk F2 N2 ⟨told, place, ta, tb, e1, e2, e3, hI⟩
    rw [← ov_self (m := m₁) (l := [(Str.ofString "told", .str told ta), (Str.ofString "place", .int (place : Int) tb), (Str.ofString "new", .str new t2)]) (by simp [e1, e2, e3])] at F2
    have hz : told.length ≤ 1000 := by
      have := congrArg List.length hI
      have h2 := mrg_length old.cps.toList new.cps.toList
      simp only [List.length_append, Array.length_toList] at this h2
      unfold Str.length at hlen ⊢
      omega
    clear F1 N1
    dsimp only
    k_unmd
    k_steps
    refine ⟨_, _, _, congrArg (Value.str · _) (str_ext ?_), rfl, Fr.keep (by assumption)⟩
    rw [PySem.Str.cps_append, Array.toList_append, slice_from]
    rw [List.drop_eq_nil_of_le (by simp)] at hI
    exact hI
end Mine

end NbMerged
section NbReplace
open PySem PySem.W PyProof.Rows
namespace Mine
open PySem.Challenge
local macro_rules | `(tactic| size_fits) => `(tactic| (rw [PySem.sizeLine_eq]; (try simp only [len1, PySem.Str.length_append]); omega))
local macro_rules | `(tactic| walk_at "call builtin:str.join") => `(tactic| ((rename List.map _ _ = Txt.split _ _ => hsp); (rename StrsAre _ _ => hst); rw [hsp] at hst; (refine join_rp (by assumption) hst (by omega) (by decide) (by decide) (by decide) ?_); clear hst hsp; intro tJ kJ hJ; try dsimp only))
local macro_rules | `(tactic| walk_at "subscriptTail Name Slice ref ref") => `(tactic| ((rename Fr _ _ _ _ => kF); (rename News _ _ _ _ => kN); (with_unfolding_all refine slice_tup (a := 2) kF kN (by k_mem) (by decide) (by exact Nat.le_of_ble_eq_true rfl) (by rfl) (by exact Nat.le_of_ble_eq_true rfl) ?_ (by rfl) (by intro _; rfl)); clear kF kN; intro D' h' F' N'; try dsimp only))
set_option maxRecDepth 100000 in
set_option maxHeartbeats 8000000 in
theorem replace4_ok {w : World} {p : Program} {loose : List Str} {mean : ExcName → Option Value} {mg mb : Str → Option Value} (x : Str) (t t1 t2 t3 t4 : Tok) (hlen : x.length ≤ 1000) :
   GivesStr rw_nb0029_01.row.prog w (hd.heap_39 w.params) p loose mean mg mb 28 [.str x t, .str (Str.ofString "g") t1, .str (Str.ofString "") t2, .str (Str.ofString "h") t3, .str (Str.ofString "") t4] (rp (Str.ofString "h") (Str.ofString "") (rp (Str.ofString "g") (Str.ofString "") x)) := by
  k_fill
  intro dp un fr gd s X T hdp hun
  k_dflt (refine' enterRest (vs := [.str (Str.ofString "g") t1, .str (Str.ofString "") t2, .str (Str.ofString "h") t3, .str (Str.ofString "") t4]) (bs := fun D => [(Str.ofString "text", .str x t), (Str.ofString "pairs", .ref D)]) ?k1 ?k2 ?k3 ?k4 ?k5 ?k6 ?k7 ?k8 ?_ ?c2 ?c3 ?c4 ?c5; (case k1 => k_asm); (case k2 => k_asm); (case k3 => k_is); (case k4 => k_is); (case k5 => exact Nat.lt_of_le_of_lt (Nat.le_add_right _ _) hdp); (case k6 => exact rfl); (case k7 => exact fun _ => rfl); (case k8 => exact fun _ => locs rfl); (case c5 => decide); (case c2 => exact rfl); (case c3 => exact rfl); (case c4 => exact rfl); k_whole; intro D L h₁ n F N; (try dsimp only); (try k_fold))
  k_steps
  exact ⟨_, _, _, rfl, rfl, Fr.keep (by assumption)⟩
set_option maxRecDepth 100000 in
set_option maxHeartbeats 8000000 in
theorem replace8_ok {w : World} {p : Program} {loose : List Str} {mean : ExcName → Option Value} {mg mb : Str → Option Value} (x : Str) (t t1 t2 t3 t4 t5 t6 t7 t8 : Tok) (hlen : x.length ≤ 1000) :
   GivesStr rw_nb0029_01.row.prog w (hd.heap_39 w.params) p loose mean mg mb 28 [.str x t, .str (Str.ofString "pd") t1, .str (Str.ofString "dp") t2, .str (Str.ofString "pe") t3, .str (Str.ofString "ep") t4, .str (Str.ofString "qd") t5, .str (Str.ofString "dq") t6, .str (Str.ofString "qe") t7, .str (Str.ofString "eq") t8] (rp (Str.ofString "qe") (Str.ofString "eq") (rp (Str.ofString "qd") (Str.ofString "dq") (rp (Str.ofString "pe") (Str.ofString "ep") (rp (Str.ofString "pd") (Str.ofString "dp") x)))) := by
  k_fill
  intro dp un fr gd s X T hdp hun
  k_dflt (refine' enterRest (vs := [.str (Str.ofString "pd") t1, .str (Str.ofString "dp") t2, .str (Str.ofString "pe") t3, .str (Str.ofString "ep") t4, .str (Str.ofString "qd") t5, .str (Str.ofString "dq") t6, .str (Str.ofString "qe") t7, .str (Str.ofString "eq") t8]) (bs := fun D => [(Str.ofString "text", .str x t), (Str.ofString "pairs", .ref D)]) ?k1 ?k2 ?k3 ?k4 ?k5 ?k6 ?k7 ?k8 ?_ ?c2 ?c3 ?c4 ?c5; (case k1 => k_asm); (case k2 => k_asm); (case k3 => k_is); (case k4 => k_is); (case k5 => exact Nat.lt_of_le_of_lt (Nat.le_add_right _ _) hdp); (case k6 => exact rfl); (case k7 => exact fun _ => rfl); (case k8 => exact fun _ => locs rfl); (case c5 => decide); (case c2 => exact rfl); (case c3 => exact rfl); (case c4 => exact rfl); k_whole; intro D L h₁ n F N; (try dsimp only); (try k_fold))
  k_steps
  exact ⟨_, _, _, rfl, rfl, Fr.keep (by assumption)⟩
end Mine

end NbReplace
section NbRest
open PySem PySem.W PyProof.Rows
namespace Mine
open PySem.Challenge
local macro_rules | `(tactic| walk_at "exec While") => `(tactic| refine Park.of ?_)
local macro_rules | `(tactic| walk_at "last exec While") => `(tactic| refine Park.of ?_)
local macro_rules | `(tactic| walk_at "exec While Compare") => `(tactic| refine Park.of ?_)
local macro_rules | `(tactic| walk_at "exec While Compare cons nil") => `(tactic| refine Park.of ?_)
local macro_rules | `(tactic| walk_at "call ref") => `(tactic| ((rename Fr _ _ _ _ => kF); (rename News _ _ _ _ => kN); (k_dflt (first
  | refine GivesStr.use (replace4_ok _ _ _ _ _ _ (by omega)) kF kN (by assumption) (by assumption) (by simp only [depth_deeper]; omega) (by simp only [units_deeper]; omega) ?_
  | refine GivesStr.use (replace8_ok _ _ _ _ _ _ _ _ _ _ (by omega)) kF kN (by assumption) (by assumption) (by simp only [depth_deeper]; omega) (by simp only [units_deeper]; omega) ?_)); clear kF kN; intro tR hR kR F' N'; try dsimp only))
local macro_rules | `(tactic| size_fits) => `(tactic| (rw [PySem.sizeLine_eq]; (try simp only [len1, PySem.Str.length_append]); omega))
set_option maxRecDepth 100000 in
set_option maxHeartbeats 8000000 in
theorem at_rest_ok {w : World} {p : Program} {loose : List Str} {mean : ExcName → Option Value} {mg mb : Str → Option Value} (x : Str) (t : Tok) (hlen : x.length ≤ 1000) (μ : Str → Nat) (hμ : ∀ y, rd y ≠ y → μ (rd y) < μ y) (h0 : rd (Str.ofString "") = Str.ofString "") :
   GivesSuch rw_nb0029_01.row.prog w (hd.heap_39 w.params) p loose mean mg mb 40 [.str x t] (fun r => Comes x r ∧ rd r = r) := by
  k_fill
  intro dp un fr gd s X T hdp hun
  k_dflt (refine' enter (binds := [(Str.ofString "word", .str x t)]) ?k3 ?k5 ?k6 ?k7 ?k8 ?k9 ?kB ?_ ?c2 ?c3 ?c4 ?c5; (case k3 => k_asm); (case k5 => k_asm); (case k6 => k_is); (case k7 => k_is); (case k8 => exact Nat.lt_of_le_of_lt (Nat.le_add_right _ _) hdp); (case k9 => exact BindsTo.of_eq rfl); (case c5 => decide); (case kB => exact locs rfl); (case c2 => exact rfl); (case c3 => exact rfl); (case c4 => exact rfl); k_whole; intro h₁ F N; (try dsimp only); (try k_fold))
  k_steps
  rename Fr _ _ _ _ => F1
  rename News _ _ _ _ => N1
  unfold Park
  refine while_inv F1 N1 (k₀ := μ (st x) + (if Str.ofString "" = st x then 0 else 1)) (I := fun k m => ∃ (ahead word : Str) (ta tb : Tok), m (Str.ofString "ahead") = some (.str ahead ta) ∧ m (Str.ofString "word") = some (.str word tb) ∧ Comes x word ∧ (ahead = word → rd word = word) ∧ k = μ word + (if ahead = word then 0 else 1))
     (Z := fun m => ∃ (word : Str) (tb : Tok), m (Str.ofString "word") = some (.str word tb) ∧ Comes x word ∧ rd word = word) ?start ?turn ?done
  case start => exact ⟨Str.ofString "", st x, _, _, rfl, rfl, .start, fun e => e ▸ h0, rfl⟩
  case turn =>
    rintro k m₁ h tk ⟨ahead, word, ta, tb, e1, e2, hc, hr, hk⟩ F2 N2
    rw [← ov_self (m := m₁) (l := [(Str.ofString "ahead", .str ahead ta), (Str.ofString "word", .str word tb)]) (by simp [e1, e2])] at F2
    have hz : word.length ≤ 1000 := Nat.le_trans hc.length hlen
    clear F1 N1
    k_unmd
    k_fold
    k_steps
    · rename (_ != _) = true => hne
      have hne' : ahead ≠ word := by simpa using hne
      rw [if_neg hne'] at hk
      refine ⟨μ (rd word) + (if word = rd word then 0 else 1), ?_, rfl, _, _, _, rfl, by assumption, by assumption, word, rd word, _, _, rfl, rfl, .round hc, fun e => by rw [← e]; exact e.symm, rfl⟩
      by_cases e : rd word = word
      · rw [if_pos e.symm, e]; omega
      · rw [if_neg fun e' => e e'.symm]
        have := hμ word e
        omega
    · rename (_ != _) = false => heq
      have heq' : ahead = word := by simpa using heq
      exact ⟨rfl, _, _, _, rfl, by assumption, by assumption, word, _, rfl, hc, hr heq'⟩
  case done =>
    rintro m₁ h tk F2 N2 ⟨word, tb, e2, hc, hr⟩
    rw [← ov_self (m := m₁) (l := [(Str.ofString "word", .str word tb)]) (by simp [e2])] at F2
    clear F1 N1
    dsimp only
    k_unmd
    k_steps
    exact ⟨_, _, _, _, rfl, rfl, Fr.keep (by assumption), hc, hr⟩
end Mine

end NbRest
section NbDrain
open PySem PySem.W PyProof.Rows
namespace Mine

/-- an iterator that is drained into the list at S -/
structure Drain (prog : Program) (w : World) (A : Around) (I S : Addr) (n : Nat) (P : Nat → Value → Prop) (St : Nat → Shared → Prop) (Fin : Shared → Prop) : Prop where
  frame : ∀ i (s : Shared) h', St i s → (∀ b o, b ≠ S → s.heap.get? b = some o → h'.get? b = some o) → (∃ o, h'.get? S = some o) → St i { s with heap := h' }
  item : ∀ i (s : Shared) (Q : Option Value → Shared → Prop) (E : Value → Shared → Prop), i < n → St i s →
    (∀ v s', P i v → St (i + 1) s' → (∀ o, s.heap.get? S = some o → s'.heap.get? S = some o) → Q (some v) s') → wpAny (model prog w) A (pyNext (.ref I)) Q E s
  done : ∀ (s : Shared) (Q : Option Value → Shared → Prop) (E : Value → Shared → Prop), St n s → (∀ s', Fin s' → (∀ o, s.heap.get? S = some o → s'.heap.get? S = some o) → Q none s') → wpAny (model prog w) A (pyNext (.ref I)) Q E s
  self : ∀ i (s : Shared) (Q : Value → Shared → Prop) (E : Value → Shared → Prop), St i s → Q (.ref I) s → wpAny (model prog w) A (pyIter (.ref I)) Q E s
  typ : ∀ i (s : Shared), St i s → s.TypeIs (.ref I) "generator"

section
variable {prog : Program} {w : World} {A : Around} {R : Result → Shared → Prop} {I S : Addr} {n : Nat} {P : Nat → Value → Prop} {St : Nat → Shared → Prop} {Fin : Shared → Prop} {s : Shared}

theorem drain_loop (W : Drain prog w A.in1 I S n P St Fin) (hn : n ≤ sizeLine) (res : Value) :
    ∀ (k i : Nat) (s : Shared) (acc : Array Value) (c : Nat), n - i = k → i ≤ n → St i s → s.heap.get? S = some { cls := .type "list", dict := none, data := .seq acc c, slots := #[] } → ItemsOf P acc i →
    (∀ s' acc' c', Fin s' → s'.heap.get? S = some { cls := .type "list", dict := none, data := .seq acc' c', slots := #[] } → ItemsOf P acc' n → R (.ok (.ret res)) s') →
    codeAny (model prog w) A (.builtin "list.extend.loop" ⟨[.ref S, .ref I, res], []⟩) R s := by
  intro k
  induction k with
  | zero =>
    intro i s acc c hk hi hst hS hacc hR
    have hin : i = n := by omega
    subst hin
    refine codeAny_builtin F.entry_extend_loop ?_
    rw [Around.under_plainId F.plain_extend_loop _]
    show wpAny _ A.in1 (pyNext (.ref I) >>= _) _ _ s
    refine wpAny_bind (W.done s _ _ hst fun s' hf hk => ?_)
    exact wpAny_pure (hR s' acc c hf (hk _ hS) hacc)
  | succ k ih =>
    intro i s acc c hk hi hst hS hacc hR
    have hlt : i < n := by omega
    refine codeAny_builtin F.entry_extend_loop ?_
    rw [Around.under_plainId F.plain_extend_loop _]
    show wpAny _ A.in1 (pyNext (.ref I) >>= _) _ _ s
    refine wpAny_bind (W.item i s _ _ hlt hst fun v s' hP hst' hk' => ?_)
    have hS' := hk' _ hS
    show wpAny _ A.in1 (updateSeq S (·.push v) >>= _) _ _ _
    refine wpAny_bind ?_
    refine wpAny_updateSeq hS' rfl (wpAny_pure ⟨plainId_quiet F.plain_extend_loop _, ih (i + 1) _ (acc.push v) _ (by omega) hlt (W.frame _ s' _ hst' (fun b o hb e => ?_) ⟨_, Heap.get?_update_self _ hS' rfl⟩) (Heap.get?_update_self _ hS' rfl) (hacc.push hP) hR⟩)
      (by rw [hacc.1]; omega) (by show (acc.push v).size ≤ sizeLine + 1; rw [Array.size_push, hacc.1]; omega)
    exact (Heap.get?_update_other _ _ (Ne.symm hb)).trans e

theorem drain_extend (W : Drain prog w A.in1 I S n P St Fin) (hn : n ≤ sizeLine) (hIS : I ≠ S) (res : Value) (c₀ : Nat) (hst : St 0 s)
    (hS : s.heap.get? S = some { cls := .type "list", data := .seq #[] c₀ })
    (hR : ∀ s' acc' c', Fin s' → s'.heap.get? S = some { cls := .type "list", dict := none, data := .seq acc' c', slots := #[] } → ItemsOf P acc' n → R (.ok (.ret res)) s') :
    wpAny (model prog w) A.in1 (Builtin.List.listExtendWith (.ref S) (.ref I) res)
      (fun fin s' => match fin with | .done f => R (.ok f) s' | .again c' => c'.quiet = true ∧ codeAny (model prog w) A c' R s') (fun e s' => R (.error e) s') s := by
  unfold Builtin.List.listExtendWith
  refine wpAny_bind (wpAny_typeOf (W.typ 0 _ hst) ?_)
  have h1 : Builtin.List.listSameRef (.ref S) (.ref I) = false := by simp [Builtin.List.listSameRef, Ne.symm hIS]
  have h2 : (Value.type "generator" == Value.type "list") = false := by decide
  have h3 : (Value.type "generator" == Value.type "tuple") = false := by decide
  simp only [h1, h2, h3, Bool.or_false, Bool.false_eq_true, if_false]
  refine wpAny_bind (W.self 0 _ _ _ hst ?_)
  refine wpAny_bind (wpAny_holding ?_)
  unfold Builtin.List.listLengthHint
  refine wpAny_bind (wpAny_specialOf (W.typ 0 _ hst) F.gen_no_len ?_)
  show wpAny _ A.in1 (specialOf (Value.ref I) (Str.ofString "__length_hint__") >>= _) _ _ _
  refine wpAny_bind (wpAny_specialOf (W.typ 0 _ hst) F.gen_no_hint ?_)
  refine wpAny_pure ?_
  show wpAny _ A.in1 (rule "list.extend.makes-room" >>= fun _ => Builtin.List.listTouch (.ref S) >>= fun _ =>
    again (.builtin "list.extend.loop" ⟨[.ref S, .ref I, res], []⟩)) _ _ _
  refine wpAny_bind (wpAny_rule ?_)
  refine wpAny_bind ?_
  show wpAny _ A.in1 (updateSeq S (·.push .none) >>= fun _ => updateSeq S (·.pop)) _ _ _
  refine wpAny_bind (wpAny_updateSeq hS rfl ?_)
  have hS₂ := Heap.get?_update_self (Obj.mapSeq (·.push Value.none)) hS rfl
  refine wpAny_updateSeq (hz := by seq_fits) hS₂ rfl ?_
  have hS₃ := Heap.get?_update_self (Obj.mapSeq (·.pop)) hS₂ rfl
  have oth : ∀ b o, b ≠ S → s.heap.get? b = some o → ((s.heap.update S (Obj.mapSeq (·.push Value.none))).update S (Obj.mapSeq (·.pop))).get? b = some o :=
    fun b o hb e => (Heap.get?_update_other _ _ (Ne.symm hb)).trans ((Heap.get?_update_other _ _ (Ne.symm hb)).trans e)
  exact wpAny_pure ⟨plainId_quiet F.plain_extend_loop _, drain_loop W hn _ n 0 _ _ _ rfl (Nat.zero_le _) (W.frame 0 s _ hst oth ⟨_, hS₃⟩) hS₃ (ItemsOf.nil P) hR⟩

theorem drain_init (W : Drain prog w A.in1 I S n P St Fin) (hn : n ≤ sizeLine) (hIS : I ≠ S) (hst : St 0 s)
    (hS : s.heap.get? S = some { cls := .type "list", data := .seq #[] })
    (hR : ∀ s' acc' c', Fin s' → s'.heap.get? S = some { cls := .type "list", dict := none, data := .seq acc' c', slots := #[] } → ItemsOf P acc' n → R (.ok (.ret .none)) s') :
    wpAny (model prog w) A.in1 (Builtin.«list.__init__» ⟨[.ref S, .ref I], []⟩)
      (fun fin s' => match fin with | .done f => R (.ok f) s' | .again c' => c'.quiet = true ∧ codeAny (model prog w) A c' R s') (fun e s' => R (.error e) s') s := by
  show wpAny _ A.in1 (do let old ← Builtin.List.listItems (.ref S); Builtin.List.listUpdate (.ref S) (fun _ => #[]); letGo old.toList.reverse; Builtin.List.listExtendWith (.ref S) (.ref I) .none) _ _ s
  refine wpAny_bind ?_
  unfold Builtin.List.listItems
  refine wpAny_bind (wpAny_seqItems hS rfl (wpAny_pure ?_))
  show wpAny _ A.in1 (updateSeq S (fun _ => #[]) >>= fun _ => letGo (#[] : Array Value).toList.reverse >>= fun _ => Builtin.List.listExtendWith (.ref S) (.ref I) .none) _ _ s
  refine wpAny_bind (wpAny_updateSeq hS rfl ?_)
  have hS₂ := Heap.get?_update_self (Obj.mapSeq (fun _ => (#[] : Array Value))) hS rfl
  have oth : ∀ b o, b ≠ S → s.heap.get? b = some o → (s.heap.update S (Obj.mapSeq (fun _ => (#[] : Array Value)))).get? b = some o :=
    fun b o hb e => (Heap.get?_update_other _ _ (Ne.symm hb)).trans e
  refine wpAny_bind (wpAny_letGo ?_)
  exact drain_extend W hn hIS .none _ (W.frame 0 s _ hst oth ⟨_, hS₂⟩) hS₂ hR
end

theorem drain_list {prog : Program} {w : World} {A : Around} {E : Value → Shared → Prop} {s : Shared} {I : Addr} {n : Nat} {P : Nat → Value → Prop} {St : Nat → Shared → Prop} {Fin : Shared → Prop} {Q : Value → Shared → Prop}
    (W : Drain prog w A.in1.in1 I s.heap.objs.size n P St Fin) (hn : n ≤ sizeLine) (hIS : I ≠ s.heap.objs.size) (hst : St 0 { s with heap := s.heap.push { cls := .type "list", data := .seq #[] } })
    (hQ : ∀ s' acc' c', Fin s' → s'.heap.get? s.heap.objs.size = some { cls := .type "list", dict := none, data := .seq acc' c', slots := #[] } → ItemsOf P acc' n → Q (.ref s.heap.objs.size) s') :
    wpAny (model prog w) A (call (.type "list") [.ref I]) Q E s := by
  refine callType_codes (Q₁ := fun obj s₁ => obj = .ref s.heap.objs.size ∧ s₁ = { s with heap := s.heap.push { cls := .type "list", data := .seq #[] } }) F.called_list (F.typeCall_list_1 _) F.entry_list_init
    (code_list_new _ ⟨rfl, rfl⟩) fun obj s₁ h₁ => ?_
  obtain ⟨rfl, rfl⟩ := h₁
  have hS : (s.heap.push { cls := .type "list", data := .seq #[] }).get? s.heap.objs.size = some { cls := .type "list", data := .seq #[] } := Heap.get?_push_size _ rfl
  exact ⟨⟨_, hS, rfl⟩, F.args_list_init_2 _ _, drain_init W hn hIS hst hS fun s' acc' c' hf hS' hacc => ⟨rfl, hQ s' acc' c' hf hS' hacc⟩⟩
end Mine

end NbDrain
section NbGen
open PySem PySem.W PyProof.Rows
namespace Mine

/-- what the generator's own steps leave as it was: all up to S, but its own names at C -/
def GSince (C S : Addr) (s₀ s : Shared) : Prop :=
  ∃ h' tk, s = { s₀ with heap := h', toks := tk } ∧ ∀ b o, b ≠ C → b ≤ S → s₀.heap.get? b = some o → h'.get? b = some o
theorem GSince.refl (C S : Addr) (s : Shared) : GSince C S s s := ⟨s.heap, s.toks, rfl, fun _ _ _ _ e => e⟩
theorem GSince.step {C S : Addr} {s₀ s : Shared} (x : GSince C S s₀ s) {h' : Heap} {tk : Nat} (hk : ∀ b o, b ≠ C → b ≤ S → s.heap.get? b = some o → h'.get? b = some o) :
    GSince C S s₀ { s with heap := h', toks := tk } := by
  obtain ⟨h₁, tk₁, rfl, hk₁⟩ := x
  exact ⟨h', tk, rfl, fun b o hC hS e => hk b o hC hS (hk₁ b o hC hS e)⟩

/-- what the consumer leaves as it was: all but S -/
def Kept (S : Addr) (s s'' : Shared) : Prop := (∀ b o, b ≠ S → s.heap.get? b = some o → s''.heap.get? b = some o) ∧ ∃ o, s''.heap.get? S = some o

def gProto (C S : Addr) (pz : Nat → Bool) (n₀ : Nat) (F : Nat → Value → Prop) : Protocol := fun m s₀ v s kap =>
  (∃ i, (passing pz n₀ 0)[(passing pz n₀ 0).length - 1 - m]? = some i ∧ F i v) ∧ GSince C S s₀ s ∧ ∀ s'' : Shared, Kept S s s'' → kap (.send .none) s''

abbrev gEnd (C S : Addr) : GenEnd := fun n s₀ r s₁ => r = .ok (.ret .none) ∧ (n = 0 ∧ GSince C S s₀ s₁)

/-- the state of a generator that is being drained into the list at S; sB: the state ahead of the list's making -/
def GSt (prog : Program) (w : World) (A : Around) (a : Addr) (g : Nat) (C S : Addr) (pz : Nat → Bool) (n₀ : Nat) (F : Nat → Value → Prop) (sB : Shared) (j : Nat) (s : Shared) : Prop :=
  s.heap.IsGen a g ∧ s.heap.NoLimit ∧ (∃ o, s.heap.get? S = some o) ∧ ((∀ b o, b ≠ C → b < S → sB.heap.get? b = some o → s.heap.get? b = some o) ∧ s.os = sB.os ∧ s.drawn = sB.drawn ∧ GenOnly g sB.gens s.gens) ∧
  ∃ gs, s.gens[g]? = some gs ∧ ∀ s'' : Shared, Kept S s s'' → gs.Goes (model prog w) A.in1 (gEnd C S) (gProto C S pz n₀ F) ((passing pz n₀ 0).length - j) (.send .none) s''

def GFin (g : Nat) (C S : Addr) (sB s : Shared) : Prop := (∀ b o, b ≠ C → b < S → sB.heap.get? b = some o → s.heap.get? b = some o) ∧ s.os = sB.os ∧ s.drawn = sB.drawn ∧ GenOnlyQ g sB.gens s.gens

section
variable {prog : Program} {w : World} {A : Around}
theorem genDrain (hh : A.handled = none) (hroom : A.depth < recursionLimit) {a : Addr} {g : Nat} {C S : Addr} {pz : Nat → Bool} {n₀ : Nat} {F : Nat → Value → Prop} {sB : Shared} (haS : a < S) (haC : a ≠ C) (hCS : C < S) (hcC : cStatics ≠ C) (hcS : cStatics < S) :
    Drain prog w A a S (passing pz n₀ 0).length (fun j y => ∃ i, (passing pz n₀ 0)[j]? = some i ∧ F i y) (GSt prog w A a g C S pz n₀ F sB) (GFin g C S sB) where
  frame := fun j s h' st hk hS => by
    obtain ⟨hg, hl, hS₀, ⟨h1, h2, h3, h4⟩, gs, hgs, hgo⟩ := st
    refine ⟨let ⟨o, nm, qn, ho, r⟩ := hg; ⟨o, nm, qn, hk a o (Nat.ne_of_lt haS) ho, r⟩, (let ⟨mc, hns, hnn⟩ := hl; ⟨mc, hns.at' fun o e => hk cStatics o (Nat.ne_of_lt hcS) e, hnn⟩), hS, ⟨fun b o hb hbS e => hk b o (Nat.ne_of_lt hbS) (h1 b o hb hbS e), h2, h3, h4⟩, gs, hgs, fun s'' hal => hgo s'' ⟨fun b o hb e => hal.1 b o hb (hk b o hb e), hal.2⟩⟩
  item := fun j s Q E hj st hQ => by
    obtain ⟨hg, hl, ⟨oS, hS₀⟩, ⟨h1, h2, h3, h4⟩, gs, hgs, hgo⟩ := st
    obtain ⟨m, hm⟩ : ∃ m, (passing pz n₀ 0).length - j = m + 1 := ⟨(passing pz n₀ 0).length - j - 1, by omega⟩
    rw [hm] at hgo
    refine wpAny_pyNext_gen (P := fun n s₀ s₁ => n = 0 ∧ GSince C S s₀ s₁) hh hl hroom hg hgs (hgo _ ⟨fun _ _ _ e => e, oS, hS₀⟩) (fun v s₁ gs' hv => ?_) (fun s₁ hp h' hk => ?_)
    · obtain ⟨⟨i, hi, hF⟩, ⟨h₁, tk₁, rfl, hk₁⟩, hkap⟩ := hv
      have hidx : (passing pz n₀ 0).length - 1 - (m + 1 - 1) = j := by omega
      rw [hidx] at hi
      have hS₁ := hk₁ S oS (Nat.ne_of_gt hCS) (Nat.le_refl _) hS₀
      refine hQ v _ ⟨i, hi, hF⟩ ⟨let ⟨o, nm, qn, ho, r⟩ := hg; ⟨o, nm, qn, hk₁ a o haC (Nat.le_of_lt haS) ho, r⟩, (let ⟨mc, hns, hnn⟩ := hl; ⟨mc, hns.at' fun o e => hk₁ cStatics o hcC (Nat.le_of_lt hcS) e, hnn⟩), ⟨oS, hS₁⟩,
        ⟨fun b o hb hbS e => hk₁ b o hb (Nat.le_of_lt hbS) (h1 b o hb hbS e), h2, h3, ?_⟩, gs', setGen_self (gs := .running) (setGen_self hgs), fun s'' hal => ?_⟩ (fun o e => hk₁ S o (Nat.ne_of_gt hCS) (Nat.le_refl _) e)
      · exact h4.trans ((GenOnly.setGen s g .running).trans (GenOnly.setGen _ g gs'))
      · have e : (passing pz n₀ 0).length - (j + 1) = m := by omega
        rw [e]
        exact hkap s'' hal
    · exact absurd hp.1 (Nat.succ_ne_zero m)
  done := fun s Q E st hQ => by
    obtain ⟨hg, hl, ⟨oS, hS₀⟩, ⟨h1, h2, h3, h4⟩, gs, hgs, hgo⟩ := st
    rw [Nat.sub_self] at hgo
    refine wpAny_pyNext_gen (P := fun n s₀ s₁ => n = 0 ∧ GSince C S s₀ s₁) hh hl hroom hg hgs (hgo _ ⟨fun _ _ _ e => e, oS, hS₀⟩) (fun v s₁ gs' hv => ?_) (fun s₁ hp h' hk => ?_)
    · obtain ⟨_, ⟨h₁, tk₁, rfl, hk₁⟩, hkap⟩ := hv
      have hS₁ := hk₁ S oS (Nat.ne_of_gt hCS) (Nat.le_refl _) hS₀
      exact False.elim (hkap _ ⟨fun _ _ _ e => e, oS, hS₁⟩)
    · obtain ⟨_, h₁, tk₁, rfl, hk₁⟩ := hp
      refine hQ _ ⟨fun b o hb hbS e => hk b o (hk₁ b o hb (Nat.le_of_lt hbS) (h1 b o hb hbS e)), h2, h3, ?_⟩ (fun o e => hk S o (hk₁ S o (Nat.ne_of_gt hCS) (Nat.le_refl _) e))
      exact GenOnlyQ.of (h4.trans ((GenOnly.setGen s g .running).trans (GenOnly.setGen _ g .finished))) (setGen_self (gs := .running) (setGen_self hgs)) rfl
  self := fun _ _ _ _ st hQ => wpAny_pyIter_gen st.1 hQ
  typ := fun _ _ st => st.1.typeIs
end

section
variable {prog : Program} {w : World} {A : Around} {S : Addr} {pz : Nat → Bool} {F : Nat → Value → Prop} {env : Env} {x : Str} {px ipos epos ypos : Pos} {test e : Expr} {I ax : Addr} {items : Array Value} {fs : List Frame}

abbrev yBody (test e : Expr) (ypos epos ipos : Pos) : List Stmt := [.If test [.Expr (.Yield (some e) ypos) epos] [] ipos]

theorem seg_forLoop (J : (Str → Option Value) → Heap → Prop)
    (hh : (A.over (.forLoop (.Name x px) (.ref I) (yBody test e ypos epos ipos) [] env) fs).handled = none)
    (hx : env.kindOf x = some .local) (hp : (env.scope.kind == .class || (env.scope.kind == .module && env.locals != env.globals)) = false) (hco : env.scope.isCoroutine = false) (hin : interactive env = false)
    (hIS : S < I) (hIC : I ≠ env.locals) (haxC : ax ≠ env.locals) (haxS : ax < S) (hCS : env.locals < S)
    (hfs : splitAtGen fs = none) (hfg : fs.any Frame.guarded = false)
    (JK : ∀ m h h', J m h → (∀ b o, b ≠ env.locals → b ≠ I → b ≠ S → h.get? b = some o → h'.get? b = some o) → J m h')
    (JX : ∀ m h v, J m h → J (fun y => if y = x then some v else m y) h)
    (htest : ∀ i v (s₂ : Shared) m₂, items[i]? = some v → s₂.heap.Ns env.locals m₂ → m₂ x = some v → J m₂ s₂.heap →
      wpAny (model prog w) (A.over (.forLoop (.Name x px) (.ref I) (yBody test e ypos epos ipos) [] env) fs) (isTrue test env (eval test env)) (fun b s₃ => b = pz i ∧ Keeps s₂ s₃) (fun _ _ => False) s₂)
    (helt : ∀ i v (s₂ : Shared) m₂, items[i]? = some v → pz i = true → s₂.heap.Ns env.locals m₂ → m₂ x = some v → J m₂ s₂.heap →
      wpAny (model prog w) (A.over (.forLoop (.Name x px) (.ref I) (yBody test e ypos epos ipos) [] env) fs) (eval e env) (fun y s₃ => F i y ∧ Keeps s₂ s₃) (fun _ _ => False) s₂)
    (hend : ∀ s₀ s, GSince env.locals S s₀ s → Seg (model prog w) A (gEnd env.locals S) (gProto env.locals S pz items.size F) 0 s₀ (.block [] env) (leafOf (.ok .next)) fs s) :
    ∀ (k i : Nat) (s₀ s : Shared) (m : Str → Option Value), items.size - i = k → i ≤ items.size → s.heap.IsListIter I ax i → s.heap.IsList ax items → s.heap.Ns env.locals m → J m s.heap → GSince env.locals S s₀ s →
      Seg (model prog w) A (gEnd env.locals S) (gProto env.locals S pz items.size F) (passing pz items.size i).length s₀
        (.forLoop (.Name x px) (.ref I) (yBody test e ypos epos ipos) [] env) ((model prog w).den (.forLoop (.Name x px) (.ref I) (yBody test e ypos epos ipos) [] env)) fs s := by
  have hISn : I ≠ S := Nat.ne_of_gt hIS
  have haxI : ax ≠ I := Nat.ne_of_lt (Nat.lt_trans haxS hIS)
  intro k
  induction k with
  | zero =>
    intro i s₀ s m hk hi hit hl hn hJ hsince
    have hi' : i = items.size := by omega
    subst hi'
    show Seg _ A _ _ _ s₀ _ ((forTurn (.Name x px) (.ref I) (yBody test e ypos epos ipos) [] env).onRaise _) fs s
    rw [Sem.onRaise_eq_wrap]
    unfold forTurn
    refine seg_bind_wrap (wpAny_standAt ?_)
    refine seg_bind_wrap (wpAny_onRaise (wpAny_pyNext_list_end hh hit hl (by simp) fun h₁ he₁ => ?_))
    rw [passing_end]
    refine seg_again rfl ?_
    exact hend s₀ _ (hsince.step (tk := s.toks) fun b o hbC hbS e => he₁ b o (fun h => absurd hIS (by rw [← h]; exact Nat.not_lt.mpr hbS)) e)
  | succ k ih =>
    intro i s₀ s m hk hi hit hl hn hJ hsince
    have hlt : i < items.size := by omega
    have hv : items[i]? = some items[i] := by simp [hlt]
    show Seg _ A _ _ _ s₀ _ ((forTurn (.Name x px) (.ref I) (yBody test e ypos epos ipos) [] env).onRaise _) fs s
    rw [Sem.onRaise_eq_wrap]
    unfold forTurn
    refine seg_bind_wrap (wpAny_standAt ?_)
    refine seg_bind_wrap (wpAny_onRaise (wpAny_pyNext_list_item hit hl hv fun h₁ hit₁ hs₁ => ?_))
    refine seg_bind_wrap (wpAny_of_eq (rfl : letOwnedTupleGo (.Name x px) (.ref I) items[i] = pure ()) ?_)
    refine seg_bind_wrap (wpAny_assign_Name (wpAny_storeName_local hx (hn.sameBut hs₁ (Ne.symm hIC)) (fun h₂ hn₂ hs₂ => ?_) hp))
    have up₂ : ∀ b o, b ≠ env.locals → b ≠ I → s.heap.get? b = some o → h₂.get? b = some o := fun b o hbC hbI e => hs₂.extBut b o hbC (hs₁.extBut b o hbI e)
    have hit₂ : h₂.IsListIter I ax (i + 1) := hit₁.extBut hs₂.extBut hIC
    have hl₂ : h₂.IsList ax items := (hl.extBut hs₁.extBut haxI).extBut hs₂.extBut haxC
    have hJ₂ : J (fun y => if y = x then some items[i] else m y) h₂ := JX _ _ _ (JK _ _ _ hJ fun b o hbC hbI _ e => up₂ b o hbC hbI e)
    rw [Sem.bind_eq_wrap', Sem.wrap_wrap]
    refine seg_execs_cons ?_
    rw [exec_If]
    refine seg_bind_wrap (wpAny_standAt ?_)
    refine seg_bind_wrap (wpAny_mono (htest i items[i] _ _ hv hn₂ (by simp) hJ₂) (fun b s₃ h₃ => ?_) fun _ _ e => e.elim)
    obtain ⟨rfl, h₃, tk₃, rfl, hk₃⟩ := h₃
    have hn₃ := hn₂.keeps hk₃
    have hit₃ : h₃.IsListIter I ax (i + 1) := hit₂.at fun o e => hk₃ _ o e
    have hl₃ : h₃.IsList ax items := hl₂.at fun o e => hk₃ _ o e
    have hJ₃ : J (fun y => if y = x then some items[i] else m y) h₃ := JK _ _ _ hJ₂ fun b o _ _ _ e => hk₃ b o e
    have hsince₃ : GSince env.locals S s₀ { s with heap := h₃, toks := tk₃ } := hsince.step fun b o hbC hbS e => hk₃ b o (up₂ b o hbC (fun h => absurd hIS (by rw [← h]; exact Nat.not_lt.mpr hbS)) e)
    cases hpz : pz i with
    | false =>
      rw [passing_false hlt hpz]
      simp only [Bool.false_eq_true, if_false]
      exact seg_again rfl (ih (i + 1) s₀ _ _ (by omega) hlt hit₃ hl₃ hn₃ hJ₃ hsince₃)
    | true =>
      rw [passing_true hlt hpz, List.length_cons]
      simp only [if_true]
      refine seg_execs_cons ?_
      refine seg_Expr_Yield hfs rfl hfg (wpAny_mono (helt i items[i] _ _ hv hpz hn₃ (by simp) hJ₃) (fun y s₄ h₄ => ?_) fun _ _ e => e.elim) hco hin
      obtain ⟨hFy, h₄, tk₄, rfl, hk₄⟩ := h₄
      intro kap hkap
      refine ⟨⟨i, passing_here hlt hpz, hFy⟩, hsince₃.step fun b o _ _ e => hk₄ b o e, fun s'' hal => hkap .none s'' ?_⟩
      refine seg_again rfl (ih (i + 1) s'' s'' (fun y => if y = x then some items[i] else m y) (by omega) hlt ?_ ?_ ?_ ?_ (GSince.refl _ _ _))
      · exact hit₃.at fun o e => hal.1 _ o hISn (hk₄ _ o e)
      · exact hl₃.at fun o e => hal.1 _ o (Nat.ne_of_lt haxS) (hk₄ _ o e)
      · exact hn₃.at' fun o e => hal.1 _ o (Nat.ne_of_lt hCS) (hk₄ _ o e)
      · exact JK _ _ _ hJ₃ fun b o _ _ hbS e => hal.1 b o hbS (hk₄ b o e)
theorem seg_forLoopC {C : Addr} {n₀ : Nat} (hC : env.locals = C) (hn₀ : items.size = n₀) (J : (Str → Option Value) → Heap → Prop)
    (hh : (A.over (.forLoop (.Name x px) (.ref I) (yBody test e ypos epos ipos) [] env) fs).handled = none)
    (hx : env.kindOf x = some .local) (hp : (env.scope.kind == .class || (env.scope.kind == .module && env.locals != env.globals)) = false) (hco : env.scope.isCoroutine = false) (hin : interactive env = false)
    (hIS : S < I) (hIC : I ≠ C) (haxC : ax ≠ C) (haxS : ax < S) (hCS : C < S)
    (hfs : splitAtGen fs = none) (hfg : fs.any Frame.guarded = false)
    (JK : ∀ m h h', J m h → (∀ b o, b ≠ C → b ≠ I → b ≠ S → h.get? b = some o → h'.get? b = some o) → J m h')
    (JX : ∀ m h v, J m h → J (fun y => if y = x then some v else m y) h)
    (htest : ∀ i v (s₂ : Shared) m₂, items[i]? = some v → s₂.heap.Ns C m₂ → m₂ x = some v → J m₂ s₂.heap →
      wpAny (model prog w) (A.over (.forLoop (.Name x px) (.ref I) (yBody test e ypos epos ipos) [] env) fs) (isTrue test env (eval test env)) (fun b s₃ => b = pz i ∧ Keeps s₂ s₃) (fun _ _ => False) s₂)
    (helt : ∀ i v (s₂ : Shared) m₂, items[i]? = some v → pz i = true → s₂.heap.Ns C m₂ → m₂ x = some v → J m₂ s₂.heap →
      wpAny (model prog w) (A.over (.forLoop (.Name x px) (.ref I) (yBody test e ypos epos ipos) [] env) fs) (eval e env) (fun y s₃ => F i y ∧ Keeps s₂ s₃) (fun _ _ => False) s₂)
    (hend : ∀ s₀ s, GSince C S s₀ s → Seg (model prog w) A (gEnd C S) (gProto C S pz n₀ F) 0 s₀ (.block [] env) (leafOf (.ok .next)) fs s) :
    ∀ (k i : Nat) (s₀ s : Shared) (m : Str → Option Value), items.size - i = k → i ≤ items.size → s.heap.IsListIter I ax i → s.heap.IsList ax items → s.heap.Ns C m → J m s.heap → GSince C S s₀ s →
      Seg (model prog w) A (gEnd C S) (gProto C S pz n₀ F) (passing pz n₀ i).length s₀
        (.forLoop (.Name x px) (.ref I) (yBody test e ypos epos ipos) [] env) ((model prog w).den (.forLoop (.Name x px) (.ref I) (yBody test e ypos epos ipos) [] env)) fs s := by
  subst hC
  subst hn₀
  exact seg_forLoop J hh hx hp hco hin hIS hIC haxC haxS hCS hfs hfg JK JX htest helt hend
end
end Mine

end NbGen
section NbRestore
open PySem PySem.W PyProof.Rows
namespace Mine
open PySem.Challenge

def isKM (c : Nat) : Bool := c == 107 || c == 109
def sgn (c : Nat) : Bool := isKM c || isDE c || isPQ c || c == 103 || c == 104
/-- the two signs ahead of a row -/
def mk2 (c : Nat) : Str := if isKM c then Str.ofString "  " else if isDE c then Str.ofString "- " else if isPQ c then Str.ofString "+ " else if c == 103 then Str.ofString "-:" else Str.ofString "? "
def row (c : Nat) : Str := mk2 c ++ ⟨#[c]⟩
def tagOf (k : Int) : Str := if k = 1 then Str.ofString "- " else Str.ofString "+ "
def pass (k : Int) (c : Nat) : Bool := mk2 c == Str.ofString "  " || mk2 c == tagOf k
def RowsOf (items : Array Value) (cs : List Nat) : Prop := items.size = cs.length ∧ ∀ (i : Nat) (v : Value), items[i]? = some v → ∃ c u, cs[i]? = some c ∧ v = Value.str (row c) u

theorem own_all (s : Shared) (h₀ : Heap) (C S : Addr) : ∃ own, News h₀ C s.heap own ∧ ∀ b o, b ≠ C → b ≤ S → s.heap.get? b = some o → h₀.get? b = none → (b, o) ∈ own := by
  refine ⟨(List.range (S + 1)).filterMap fun b => if b = C then none else match h₀.get? b, s.heap.get? b with | none, some o => some (b, o) | _, _ => none, ?_, ?_⟩
  · intro q hq
    obtain ⟨b, _, e⟩ := List.mem_filterMap.mp hq
    by_cases hb : b = C
    · rw [if_pos hb] at e; cases e
    · rw [if_neg hb] at e
      cases e1 : h₀.get? b with
      | some o => rw [e1] at e; cases e
      | none =>
        cases e2 : s.heap.get? b with
        | none => rw [e1, e2] at e; cases e
        | some o => rw [e1, e2] at e; cases e; exact ⟨e2, hb, e1⟩
  · intro b o hb hS e e0
    exact List.mem_filterMap.mpr ⟨b, List.mem_range.mpr (Nat.lt_succ_of_le hS), by rw [if_neg hb, e0, e]⟩
theorem own_keep {h₀ h h' : Heap} {C S : Addr} {m m' : Str → Option Value} {own : List (Addr × Obj)} (F : Fr h₀ C h m) (hall : ∀ b o, b ≠ C → b ≤ S → h.get? b = some o → h₀.get? b = none → (b, o) ∈ own) (F' : Fr h₀ C h' m') (N' : News h₀ C h' own) :
    ∀ b o, b ≠ C → b ≤ S → h.get? b = some o → h'.get? b = some o := by
  intro b o hb hS e
  cases e0 : h₀.get? b with
  | some o' =>
    have := F.keep b o' e0
    rw [e] at this
    cases this
    exact F'.keep b o e0
  | none => exact (N' _ (hall b o hb hS e e0)).1

/-- a generator that stands ready: B: the heap's size ahead of its making -/
def Ready (prog : Program) (w : World) (B : Nat) (C a : Addr) (n : Nat) (pz : Nat → Bool) (F : Nat → Value → Prop) (s : Shared) : Prop :=
  B ≤ C ∧ C < a ∧ a < s.heap.objs.size ∧ s.heap.NoLimit ∧ cStatics < B ∧ ∃ g gs, s.heap.IsGen a g ∧ s.gens[g]? = some gs ∧ 
    ∀ (S dp un : Nat) (fr : Option (List Env)) (gd : Option (List Code)) (s'' : Shared), s.heap.objs.size ≤ S → dp + 8 < recursionLimit → un + 100 < cLine → Keep s.heap s''.heap → (∃ o, s''.heap.get? S = some o) →
      gs.Goes (model prog w) (Ar dp un fr gd) (gEnd C S) (gProto C S pz n F) (passing pz n 0).length (.send .none) s''

theorem Ready.use {prog : Program} {w : World} {B : Nat} {C a : Addr} {n : Nat} {pz : Nat → Bool} {F : Nat → Value → Prop} {s : Shared} (R : Ready prog w B C a n pz F s)
    {dp un : Nat} {fr : Option (List Env)} {gd : Option (List Code)} {h₀ : Heap} {L : Addr} {m : Str → Option Value} {news : List (Addr × Obj)} {Q E : Value → Shared → Prop}
    (Fh : Fr h₀ L s.heap m) (N : News h₀ L s.heap news) (hLB : L < B ∧ ∀ p ∈ news, p.1 < B) (hdp : dp + 8 < recursionLimit) (hun : un + 103 < cLine) (hn : n ≤ 1000)
    (h : ∀ D gn' h' tk' acc c, Fr h₀ L h' m → News h₀ L h' ((D, ({ cls := .type "list", data := .seq acc c } : Obj)) :: news) → (∀ p ∈ news, p.1 < D) → (AllBare s.gens → AllBare gn') → ItemsOf (fun j y => ∃ i, (passing pz n 0)[j]? = some i ∧ F i y) acc (passing pz n 0).length →
      Q (.ref D) { s with heap := h', gens := gn', toks := tk' }) :
    wpAny (model prog w) (Ar dp un fr gd) (call (.type "list") [.ref a]) Q E s := by
  obtain ⟨hBC, hCa, haS, hl, hcB, g, gs, hg, hgs, hgo⟩ := R
  have hcS : cStatics < s.heap.objs.size := Nat.lt_of_lt_of_le hcB (Nat.le_of_lt (Nat.lt_of_le_of_lt hBC (Nat.lt_trans hCa haS)))
  have hlen : (passing pz n 0).length ≤ n := by
    unfold passing
    exact Nat.le_trans (List.length_filter_le _ _) (by simp)
  refine drain_list (genDrain (A := (Ar dp un fr gd).in1.in1) (g := g) (C := C) (pz := pz) (n₀ := n) (F := F) (sB := s) rfl (by show dp < recursionLimit; omega) haS (Nat.ne_of_gt hCa) (Nat.lt_trans hCa haS) (Nat.ne_of_lt (Nat.lt_of_lt_of_le hcB hBC)) hcS) (by rw [PySem.sizeLine_eq]; omega) (Nat.ne_of_lt haS) ?_ ?_
  · refine ⟨hg.push _, hl.keeps fun _ _ e => Heap.get?_push_of_some _ e, ⟨_, Heap.get?_push_size _ rfl⟩, ⟨fun b o _ _ e => Heap.get?_push_of_some _ e, rfl, rfl, ⟨rfl, fun _ _ => rfl⟩⟩, gs, hgs, fun s'' hk => ?_⟩
    rw [Nat.sub_zero]
    exact hgo s.heap.objs.size dp (un + 1 + 1 + 1) fr gd s'' (Nat.le_refl _) hdp (by omega) (fun b o e => hk.1 b o (Nat.ne_of_lt (Heap.lt_size e)) (Heap.get?_push_of_some _ e)) hk.2
  · intro s' acc c hf hS hacc
    obtain ⟨h1, h2, h3, h4⟩ := hf
    obtain ⟨h', gn', dr, tk', os⟩ := s'
    simp only at h1 h2 h3 h4 hS
    subst h2 h3
    have lt : ∀ b o, s.heap.get? b = some o → b < B → h'.get? b = some o := fun b o e hb => h1 b o (Nat.ne_of_lt (Nat.lt_of_lt_of_le hb hBC)) (Heap.lt_size e) e
    have hLlt := Fh.ns.lt
    have F' : Fr h₀ L h' m := ⟨Fh.ns.at' fun o e => lt L o e hLB.1, fun b o e => lt b o (Fh.keep b o e) (Nat.lt_trans (Nat.lt_of_lt_of_le (Heap.lt_size e) Fh.above) hLB.1), Fh.above⟩
    refine h _ gn' h' tk' acc c F' ?_ (fun p hp => Heap.lt_size (N p hp).1) (fun hb => h4.bare hb) hacc
    intro p hp
    rcases List.mem_cons.mp hp with rfl | hp
    · exact ⟨hS, Nat.ne_of_gt hLlt, not_here (Nat.le_of_lt (Nat.lt_of_le_of_lt Fh.above hLlt))⟩
    · exact ⟨lt _ _ (N p hp).1 (hLB.2 p hp), (N p hp).2⟩

section
variable {prog : Program} {w : World} {A : Around} {s : Shared} {K : Frag} {p : Program} {loose : List Str} {mean : ExcName → Option Value} {mg mb : Str → Option Value}
  {name qual : Str} {params : Arguments} {body : List Stmt} {scope : Scope} {dV kV doc pm cdv ct oc : Value} {an od : Option Addr} {osl : Array (Option Value)} {f : Addr} {args : List Value} {binds : List (Str × Value)} {Q : Value → Shared → Prop}
/-- calling a generator function -/
theorem enterGen (X : K.In s.heap) (T : Top p loose mean mg mb s.heap)
    (ho : K.lookup f = some ⟨oc, od, .func (fnOf name qual params body scope dV kV doc pm an cdv ct), osl⟩) (hcd : codeIn K cdv qual = true) (hroom : A.depth < recursionLimit)
    (hbind : BindsTo s (fnOf name qual params body scope dV kV doc pm an cdv ct) ⟨args, []⟩ binds) (hloc : ∀ y ∈ binds, scope.names.lookup y.1 = some .local)
    (h : ∀ h₁ tk, Fr s.heap s.heap.objs.size h₁ (fun y => binds.reverse.lookup y) → s.heap.objs.size < h₁.objs.size → (h₁.push { cls := .type "generator", data := .fields #[.int s.gens.size 0, .str name tk, .str qual (tk + 1)] }).IsGen h₁.objs.size s.gens.size →
      Q (.ref h₁.objs.size) { s with gens := s.gens.push (.fresh (.func body (envOf qual scope s.heap.objs.size f cdv))), toks := tk + 1 + 1, heap := h₁.push { cls := .type "generator", data := .fields #[.int s.gens.size 0, .str name tk, .str qual (tk + 1)] } })
    (hco : scope.isCoroutine = false) (hgen : scope.isGenerator = true) (hk : scope.kind = .function)
    (hcell : ∀ x ∈ scope.names, x.2 ≠ .cell) : wpAny (model prog w) A (call (.ref f) args) Q (fun _ _ => False) s := by
  refine wpAny_call (codeAny_call_generator (fd := fnOf name qual params body scope dV kV doc pm an cdv ct) (body := body) hroom (X _ _ ho) rfl hco hgen rfl (codeRec_of X hcd) (hbind _ _ _ _ ?_))
  refine wpAny_newFunctionEnv hcell hloc (fun h₁ hns hsb => ⟨T.nolimit.fresh _ hsb, ?_⟩) hk
  refine h h₁ _ ⟨hns, fun b o e => hsb.extBut b o (Nat.ne_of_lt (Heap.lt_size e)) (Heap.get?_push_of_some _ e), Nat.le_refl _⟩ hns.lt ⟨_, _, _, Heap.get?_push_size _ rfl, rfl, rfl, rfl⟩
end

theorem mono0 {α : Type} {M : Model} {A : Around} {s : Shared} {t : Sem α} {Q Q' : α → Shared → Prop} {E' : Value → Shared → Prop} (h : wpAny M A t Q (fun _ _ => False) s) (hQ : ∀ a s, Q a s → Q' a s) : wpAny M A t Q' E' s := wpAny_mono h hQ fun _ _ e => e.elim
theorem try_next {prog : Program} {w : World} {A : Around} {s : Shared} {env : Env} {body : List Stmt} {h₀ : ExceptHandler} {hs : List ExceptHandler} {pos : Pos} {Q : Flow → Shared → Prop}
    (h : wpAny (model prog w) A (execs body env) (fun f s' => f = .next ∧ Q .next s') (fun _ _ => False) s) : wpAny (model prog w) A (exec (.Try body (h₀ :: hs) [] [] pos) env) Q (fun _ _ => False) s := by
  refine wpAny_Try_except (wpAny_mono h (fun f s' q => ?_) fun _ _ e => e.elim)
  obtain ⟨rfl, q⟩ := q
  exact wpAny_execs_nil q
end Mine

end NbRestore
section NbLine
open PySem PySem.W PyProof.Rows
namespace Mine

theorem mk2_length (c : Nat) : (mk2 c).length = 2 := by
  unfold mk2
  split
  · rfl
  · split
    · rfl
    · split
      · rfl
      · split <;> rfl
theorem row_take (c : Nat) : Txt.slice (row c) none (some 2) = mk2 c := by
  apply str_ext
  have h2 := mk2_length c
  unfold Str.length at h2
  have := slice_upto (row c) 2 (by unfold row; rw [PySem.Str.length_append, mk2_length]; exact Nat.le_add_right _ _)
  rw [show ((2 : Nat) : Int) = 2 from rfl] at this
  rw [this]
  unfold row
  rw [PySem.Str.cps_append, Array.toList_append, List.take_append_of_le_length (by simp [h2]), List.take_of_length_le (by simp [h2])]
theorem row_drop (c : Nat) : Txt.slice (row c) (some 2) none = ⟨#[c]⟩ := by
  apply str_ext
  have h2 := mk2_length c
  unfold Str.length at h2
  have := slice_from (row c) 2
  rw [show ((2 : Nat) : Int) = 2 from rfl] at this
  rw [this]
  unfold row
  rw [PySem.Str.cps_append, Array.toList_append, List.drop_append_of_le_length (by simp [h2]), List.drop_of_length_le (by simp [h2])]
  rfl
theorem row_length (c : Nat) : (row c).length = 3 := by unfold row; rw [PySem.Str.length_append, mk2_length]; rfl

section
variable {prog : Program} {w : World} {A : Around} {s : Shared} {env : Env} {m : Str → Option Value}

theorem line_cut {p2 p3 p4 p1 : Pos} {k0 : Nat} {c : Nat} {u : Tok} {E : Value → Shared → Prop} {Q : Value → Shared → Prop} (hk : env.scope.kind = .function) (hl : env.kindOf (Str.ofString "line") = some .local) (hn : s.heap.Ns env.locals m) (hm : m (Str.ofString "line") = some (.str (row c) u))
    (h : ∀ t' h' tk, Keep s.heap h' → Q (.str (mk2 c) t') { s with heap := h', toks := tk }) :
    wpAny (model prog w) A (eval (.Subscript (.Name (Str.ofString "line") p1) (.Slice none (some (.Constant (.int 2) k0 p2)) none p3) p4) env) Q E s := by
  refine wpAny_Subscript_str_slice (wpAny_Name (wpAny_loadName_local hk hl hn hm ?_))
  refine wpAny_evalPart_none (wpAny_evalPart_some (wpAny_Constant_int ?_))
  refine ⟨_, _, none, some (2, s.toks), rfl, rfl, rfl, ?_⟩
  refine post_val_or_str ⟨?_, fun t' k => ?_⟩
  · have := Txt.slice_le (row c) none (some 2)
    rw [row_length] at this
    have h3 : (Txt.slice (row c) none (some 2)).length ≤ sizeLine := Nat.le_trans this (by rw [PySem.sizeLine_eq]; decide)
    exact h3
  · have e := row_take c
    have := h t' (s.heap.push { cls := .type "slice", data := .fields #[.none, .int 2 s.toks, .none] }) k (fun b o e => Heap.get?_push_of_some _ e)
    rw [← e] at this
    exact this

theorem line_rest {p2 p3 p4 p1 : Pos} {k0 : Nat} {c : Nat} {u : Tok} {E : Value → Shared → Prop} {Q : Value → Shared → Prop} (hk : env.scope.kind = .function) (hl : env.kindOf (Str.ofString "line") = some .local) (hn : s.heap.Ns env.locals m) (hm : m (Str.ofString "line") = some (.str (row c) u))
    (h : ∀ t' h' tk, Keep s.heap h' → Q (.str ⟨#[c]⟩ t') { s with heap := h', toks := tk }) :
    wpAny (model prog w) A (eval (.Subscript (.Name (Str.ofString "line") p1) (.Slice (some (.Constant (.int 2) k0 p2)) none none p3) p4) env) Q E s := by
  refine wpAny_Subscript_str_slice (wpAny_Name (wpAny_loadName_local hk hl hn hm ?_))
  refine wpAny_evalPart_some (wpAny_Constant_int (wpAny_evalPart_none ?_))
  refine ⟨_, _, some (2, s.toks), none, rfl, rfl, rfl, ?_⟩
  refine post_val_or_str ⟨?_, fun t' k => ?_⟩
  · have := Txt.slice_le (row c) (some 2) none
    rw [row_length] at this
    have h3 : (Txt.slice (row c) (some 2) none).length ≤ sizeLine := Nat.le_trans this (by rw [PySem.sizeLine_eq]; decide)
    exact h3
  · have e := row_drop c
    have := h t' (s.heap.push { cls := .type "slice", data := .fields #[.int 2 s.toks, .none, .none] }) k (fun b o e => Heap.get?_push_of_some _ e)
    rw [← e] at this
    exact this

theorem line_test {p1 p2 p3 p4 p5 p6 : Pos} {k0 : Nat} {c : Nat} {u : Tok} {k : Int} {P : Addr} {u1 u2 : Tok} {whole : Sem Value} (hk : env.scope.kind = .function) (hl : env.kindOf (Str.ofString "line") = some .local) (hl2 : env.kindOf (Str.ofString "prefixes") = some .local)
    (hn : s.heap.Ns env.locals m) (hm : m (Str.ofString "line") = some (.str (row c) u)) (hp : m (Str.ofString "prefixes") = some (.ref P)) (hT : IsTup s.heap P #[.str (Str.ofString "  ") u1, .str (tagOf k) u2]) :
    wpAny (model prog w) A (isTrue (.Compare (.Subscript (.Name (Str.ofString "line") p1) (.Slice none (some (.Constant (.int 2) k0 p2)) none p3) p4) [.In] [.Name (Str.ofString "prefixes") p5] p6) env whole) (fun b s₃ => b = pass k c ∧ Keeps s s₃) (fun _ _ => False) s := by
  refine wpAny_isTrue_Compare1 (line_cut hk hl hn hm fun t' h' tk hK => ?_) rfl
  refine wpAny_Name (wpAny_loadName_local hk hl2 (hn.keeps hK) hp ?_)
  have hT' : IsTup h' P #[.str (Str.ofString "  ") u1, .str (tagOf k) u2] := hT.keeps hK
  refine PySem.SeqAt.in_tupleAt (fun y => match y with | .str a _ => a == mk2 c | _ => false) hT' (fun y hy => ?_) ?_
  · simp only [List.mem_toArray, List.mem_cons, List.not_mem_nil, or_false] at hy
    rcases hy with rfl | rfl
    · exact PySem.SeqAt.EqAt.str_str _ _ _ _
    · exact PySem.SeqAt.EqAt.str_str _ _ _ _
  · refine wpAny_truthy_bool ⟨?_, h', tk, rfl, hK⟩
    have e : (#[Value.str (Str.ofString "  ") u1, Value.str (tagOf k) u2].any fun y => match y with | .str a _ => a == mk2 c | _ => false) = ((Str.ofString "  " == mk2 c) || (tagOf k == mk2 c)) := by simp
    rw [e]
    unfold pass
    rw [BEq.comm (a := Str.ofString "  "), BEq.comm (a := tagOf k)]
end
end Mine

end NbLine
section NbRestoreCall
open PySem PySem.W PyProof.Rows
namespace Mine
open PySem.Challenge

def BackGen (prog : Program) (w : World) (s : Shared) (n : Nat) (pz : Nat → Bool) (F : Nat → Value → Prop) (v : Value) (s' : Shared) : Prop :=
  ∃ a C h' tk' gs, v = .ref a ∧ s' = { s with heap := h', toks := tk', gens := s.gens.push gs } ∧ Keep s.heap h' ∧ gs.bare = true ∧ Ready prog w s.heap.objs.size C a n pz F s'
def GivesGen (prog : Program) (w : World) (K : Frag) (p : Program) (loose : List Str) (mean : ExcName → Option Value) (mg mb : Str → Option Value) (f ax : Addr) (items : Array Value) (args : List Value) (n : Nat) (pz : Nat → Bool) (F : Nat → Value → Prop) : Prop :=
  ∀ (dp un : Nat) (fr : Option (List Env)) (gd : Option (List Code)) (s : Shared), K.In s.heap → Top p loose mean mg mb s.heap → s.heap.IsList ax items → dp + 8 < recursionLimit → un + 100 < cLine →
    wpAny (model prog w) (Ar dp un fr gd) (call (.ref f) args) (BackGen prog w s n pz F) (fun _ _ => False) s

def PrefPost (s'' : Shared) (h₀ : Heap) (C S : Addr) (own : List (Addr × Obj)) (ax : Addr) (k : Int) (f : Flow) (s₁ : Shared) : Prop :=
  ∃ P, TurnEnd s'' h₀ C own (fun m => m (Str.ofString "delta") = some (.ref ax) ∧ m (Str.ofString "prefixes") = some (.ref P)) f s₁ ∧ P ≠ C ∧ S < P ∧ ∃ u v, IsTup s₁.heap P #[.str (Str.ofString "  ") u, .str (tagOf k) v]
set_option maxRecDepth 100000 in
set_option maxHeartbeats 8000000 in
theorem restore_ok {w : World} {p : Program} {loose : List Str} {mean : ExcName → Option Value} {mg mb : Str → Option Value} (ax : Addr) (items : Array Value) (cs : List Nat) (hr : RowsOf items cs) (k : Int) (t : Tok) (hk : k = 1 ∨ k = 2) :
   GivesGen rw_nb0029_01.row.prog w (hd.heap_39 w.params) p loose mean mg mb 21 ax items [.ref ax, .int k t] items.size (fun i => pass k (cs.getD i 0)) (fun i y => ∃ c u, cs[i]? = some c ∧ y = .str ⟨#[c]⟩ u) := by
  k_fill
  intro dp un fr gd s X T hl hdp hun
  k_dflt (refine' enterGen (binds := [(Str.ofString "delta", .ref ax), (Str.ofString "which", .int k t)]) ?k3 ?k5 ?k6 ?k7 ?k8 ?k9 ?kB ?_ ?c2 ?c3 ?c4 ?c5; (case k3 => k_asm); (case k5 => k_asm); (case k6 => k_is); (case k7 => k_is); (case k8 => exact Nat.lt_of_le_of_lt (Nat.le_add_right _ _) hdp); (case k9 => exact BindsTo.of_eq rfl); (case c5 => decide); (case kB => exact locs rfl); (case c2 => exact rfl); (case c3 => exact rfl); (case c4 => exact rfl); k_whole; intro h₁ tk F hlt hig)
  have hcst : cStatics < s.heap.objs.size := let ⟨_, hn, _⟩ := T.nolimit; hn.lt
  refine ⟨_, s.heap.objs.size, _, _, _, rfl, rfl, fun b o e => Heap.get?_push_of_some _ (F.keep b o e), rfl, Nat.le_refl _, hlt, by rw [Heap.size_push]; exact Nat.lt_succ_self _, T.nolimit.keeps fun b o e => Heap.get?_push_of_some _ (F.keep b o e), hcst, s.gens.size, _, hig, Array.getElem?_push_size .., ?_⟩
  clear dp un fr gd hdp hun
  intro S dp un fr gd s'' hS hdp hun hK hSS
  refine ⟨rfl, seg_func ?_⟩
  have F1 : Fr s.heap s.heap.objs.size s''.heap _ := F.keeps fun b o e => hK b o (Heap.get?_push_of_some _ e)
  obtain ⟨own, N1, hown⟩ := own_all s'' s.heap s.heap.objs.size S
  have hCS : s.heap.objs.size < S := Nat.lt_of_lt_of_le hlt (Nat.le_trans (Nat.le_of_lt (by rw [Heap.size_push]; exact Nat.lt_succ_self _)) hS)
  clear hS hig hK hcst hlt F tk h₁
  generalize hnn : items.size = nn at *
  refine seg_execs_cons ?_
  refine seg_wrap ?_
  refine mono0 (Q := fun f s₁ => f = .next ∧ TurnEnd s'' s.heap s.heap.objs.size own (fun m => m (Str.ofString "delta") = some (.ref ax) ∧ ∃ u, m (Str.ofString "tag") = some (.str (tagOf k) u)) f s₁) ?h1 ?h2
  case h1 =>
    refine try_next ?_
    k_fold
    clear hr hl hown hSS hCS hnn
    rcases hk with rfl | rfl
    all_goals k_steps
    all_goals
      rename Fr _ _ _ _ => F2
      rename News _ _ _ _ => N2
      exact ⟨rfl, _, _, _, rfl, F2, (fun q hq => N2 q (List.mem_cons_of_mem _ hq)), rfl, _, rfl⟩
  case h2 =>
    rintro f s₁ ⟨rfl, _, h₂, tk₂, m₂, rfl, F2, N2, e1, u, e2⟩
    dsimp only
    refine seg_execs_cons ?_
    refine seg_wrap ?_
    refine mono0 (Q := PrefPost s'' s.heap s.heap.objs.size S own ax k) ?h3 ?h4
    case h3 =>
      rw [← ov_self (m := m₂) (l := [(Str.ofString "delta", .ref ax), (Str.ofString "tag", .str (tagOf k) u)]) (by simp [e1, e2])] at F2
      k_unmd
      k_fold
      k_steps
      rename Fr _ _ _ _ => F3
      rename News _ _ _ _ => N3
      obtain ⟨oS, hoS⟩ := hSS
      have hSo := hown S oS (Nat.ne_of_gt hCS) (Nat.le_refl _) hoS (not_here (Nat.le_of_lt hCS))
      rename ∀ p ∈ own, _ => hl1
      exact ⟨_, ⟨rfl, _, _, _, rfl, F3, (fun q hq => N3 q (List.mem_cons_of_mem _ hq)), rfl, rfl⟩, (N3 _ (List.mem_cons_self ..)).2.1, hl1 _ hSo, _, _, N3.isTup (List.mem_cons_self ..)⟩
    case h4 =>
      rintro f s₁ ⟨P, ⟨rfl, h₃, tk₃, m₃, rfl, F3, N3, e3, e4⟩, hPC, hSP, u1, u2, hT⟩
      dsimp only at hT ⊢
      refine seg_execs_cons ?_
      rw [exec_For]
      refine seg_bind_wrap (wpAny_standAt ?_)
      refine seg_bind_wrap (ld F3 e3 ?_)
      refine seg_bind_wrap (wpAny_of_eq (a := Value.ref ax) rfl ?_)
      refine seg_bind_wrap (wpAny_standAt ?_)
      have hl3 : h₃.IsList ax items := hl.at fun o e => F3.keep _ o e
      refine seg_bind_wrap (wpAny_holding (wpAny_pyIter_list hl3 ?_))
      refine seg_call (fun pz0 => ?_)
      have hI : S < h₃.objs.size := by
        obtain ⟨oS, hoS⟩ := hSS
        exact Heap.lt_size (own_keep F1 hown F3 N3 S oS (Nat.ne_of_gt hCS) (Nat.le_refl _) hoS)
      have hsin : GSince s.heap.objs.size S s'' { s'' with heap := h₃.push { cls := .type "list_iterator", data := .fields #[.ref ax, .int 0 0] }, toks := tk₃ } := by
        refine (GSince.refl _ _ _).step fun b o hb hbS e => Heap.get?_push_of_some _ (own_keep F1 hown F3 N3 b o hb hbS e)
      obtain ⟨ol, hol, _⟩ := id hl
      refine seg_forLoopC (C := s.heap.objs.size) rfl hnn (S := S) (I := h₃.objs.size) (ax := ax) (items := items) (fun m h => m (Str.ofString "prefixes") = some (.ref P) ∧ IsTup h P #[.str (Str.ofString "  ") u1, .str (tagOf k) u2]) rfl rfl rfl rfl rfl hI ?g1 ?g2 ?g3 hCS rfl rfl ?g4 ?g5 ?g6 ?g7 ?g8 items.size 0 _ _ m₃ (Nat.sub_zero _) (Nat.zero_le _) ⟨_, Heap.get?_push_size _ rfl, rfl, rfl⟩ (hl3.push _) (F3.ns.push _) ⟨e4, hT.keeps fun _ _ e => Heap.get?_push_of_some _ e⟩ hsin
      case g1 => exact Nat.ne_of_gt F3.ns.lt
      case g2 => exact Nat.ne_of_lt (Heap.lt_size hol)
      case g3 => exact Nat.lt_trans (Heap.lt_size hol) hCS
      case g4 =>
        rintro m h h' ⟨j1, j2⟩ hk'
        obtain ⟨o, ho, r⟩ := j2
        obtain ⟨oP, hoP, _⟩ := hT
        exact ⟨j1, o, hk' P o hPC (Nat.ne_of_lt (Heap.lt_size hoP)) (Nat.ne_of_gt hSP) ho, r⟩
      case g5 => rintro m h v ⟨j1, j2⟩; exact ⟨j1, j2⟩
      case g6 =>
        rintro i v s₂ m₂' hv hn hm ⟨j1, j2⟩
        obtain ⟨c, u, hc, rfl⟩ := hr.2 i v hv
        refine wpAny_mono (line_test rfl rfl rfl hn hm j1 j2) (fun b s₃ hb => ?_) fun _ _ e => e
        rw [List.getD_eq_getElem?_getD, hc]
        exact hb
      case g7 =>
        rintro i v s₂ m₂' hv hpz hn hm ⟨j1, j2⟩
        obtain ⟨c, u, hc, rfl⟩ := hr.2 i v hv
        exact line_rest rfl rfl hn hm fun t' h' tk hK => ⟨⟨c, t', hc, rfl⟩, h', tk, rfl, hK⟩
      case g8 =>
        intro s₀ s₉ hs₉
        refine seg_leaf (.ok .next) ?_
        exact seg_end (.ok (.ret .none)) ⟨rfl, rfl, hs₉⟩
end Mine

end NbRestoreCall
section NbSidesBase
open PySem PySem.W PyProof.Rows
namespace Mine
open PySem.Challenge
def BackPair (s : Shared) (o n : Str) (v : Value) (s' : Shared) : Prop :=
  ∃ D h' tk' gn' t1 t2 z, v = .ref D ∧ s' = { s with heap := h', toks := tk', gens := gn' } ∧ Keep s.heap h' ∧ s.heap.get? D = none ∧ h'.get? D = some { cls := .type "list", data := .seq #[.str o t1, .str n t2] z } ∧ (AllBare s.gens → AllBare gn')
def GivesPair (prog : Program) (w : World) (K : Frag) (p : Program) (loose : List Str) (mean : ExcName → Option Value) (mg mb : Str → Option Value) (f : Addr) (args : List Value) (o n : Str) : Prop :=
  ∀ (dp un : Nat) (fr : Option (List Env)) (gd : Option (List Code)) (s : Shared), K.In s.heap → Top p loose mean mg mb s.heap → dp + 16 < recursionLimit → un + 200 < cLine →
    wpAny (model prog w) (Ar dp un fr gd) (call (.ref f) args) (BackPair s o n) (fun _ _ => False) s
def side (k : Int) (x : Str) : Str := ⟨(x.cps.toList.filter (pass k)).toArray⟩

theorem sgn_cases {c : Nat} (h : sgn c = true) : c = 107 ∨ c = 109 ∨ c = 100 ∨ c = 101 ∨ c = 112 ∨ c = 113 ∨ c = 103 ∨ c = 104 := by
  simp only [sgn, isKM, isDE, isPQ, Bool.or_eq_true, beq_iff_eq] at h
  omega

theorem rows_of {x : Str} {vs : List Value} {ys : Array Value} (hlen : vs.length = x.cps.size) (hP : ∀ (j : Nat) (v : Value), vs[j]? = some v → SignAt x j v)
    (hF : Paired (fun v y => ∃ (c : Nat) (t u : Tok), v = Value.str ⟨#[c]⟩ t ∧ y = Value.str (row c) u) (vs.filter fun _ => true) ys.toList) : RowsOf ys x.cps.toList := by
  rw [List.filter_eq_self.mpr (fun _ _ => rfl)] at hF
  have key : ∀ (vs : List Value) (l : List Value), Paired (fun v y => ∃ (c : Nat) (t u : Tok), v = Value.str ⟨#[c]⟩ t ∧ y = Value.str (row c) u) vs l → ∀ (i : Nat) (y : Value), l[i]? = some y → ∃ (v : Value) (c : Nat) (t u : Tok), vs[i]? = some v ∧ v = Value.str ⟨#[c]⟩ t ∧ y = Value.str (row c) u := by
    intro vs l hp
    induction hp with
    | nil => intro i y hy; simp at hy
    | cons h _ ih =>
      intro i y hy
      cases i with
      | zero =>
        obtain ⟨c, t, u, e1, e2⟩ := h
        simp at hy
        subst hy
        exact ⟨_, c, t, u, rfl, e1, e2⟩
      | succ i =>
        obtain ⟨v, c, t, u, e0, e1, e2⟩ := ih i y (by simpa using hy)
        exact ⟨v, c, t, u, by simpa using e0, e1, e2⟩
  refine ⟨?_, fun i y hy => ?_⟩
  · have := hF.length
    simp only [Array.length_toList] at this ⊢
    omega
  · obtain ⟨v, c, t, u, e0, rfl, rfl⟩ := key _ _ hF i y (by simpa using hy)
    obtain ⟨c', u', hc', e⟩ := hP i _ e0
    have : c' = c := by
      have := congrArg (fun v => match v with | Value.str z _ => z.cps | _ => #[]) e
      simpa using this.symm
    subst this
    exact ⟨c', u, by simpa using hc', rfl⟩

theorem allBare_push {g : Array GenState} {x : GenState} (h : AllBare g) (hx : x.bare = true) : AllBare (g.push x) := by
  intro y hy
  rcases Array.mem_push.mp hy with hy | rfl
  · exact h y hy
  · exact hx

theorem GivesGen.use {prog : Program} {w : World} {K : Frag} {p : Program} {loose : List Str} {mean : ExcName → Option Value} {mg mb : Str → Option Value} {f ax : Addr} {items : Array Value} {args : List Value} {n : Nat} {pz : Nat → Bool} {G : Nat → Value → Prop} (C : GivesGen prog w K p loose mean mg mb f ax items args n pz G)
    {dp un : Nat} {fr : Option (List Env)} {gd : Option (List Code)} {s : Shared} {h₀ : Heap} {L : Addr} {m : Str → Option Value} {news : List (Addr × Obj)} {Q E : Value → Shared → Prop} {z : Nat}
    (F : Fr h₀ L s.heap m) (N : News h₀ L s.heap news) (hax : (ax, ({ cls := .type "list", data := .seq items z } : Obj)) ∈ news) (X : K.In h₀) (T : Top p loose mean mg mb h₀) (hdp : dp + 8 < recursionLimit) (hun : un + 100 < cLine)
    (h : ∀ a B C gs h' tk', Fr h₀ L h' m → News h₀ L h' news → (L < B ∧ ∀ p ∈ news, p.1 < B) → (AllBare s.gens → AllBare (s.gens.push gs)) → Ready prog w B C a n pz G { s with heap := h', toks := tk', gens := s.gens.push gs } → Q (.ref a) { s with heap := h', toks := tk', gens := s.gens.push gs }) :
    wpAny (model prog w) (Ar dp un fr gd) (call (.ref f) args) Q E s := by
  refine mono0 (C dp un fr gd s (X.keeps F.keep) (T.keeps F.keep) (N.isList hax) hdp hun) ?_
  rintro v s' ⟨a, C, h', tk', gs, rfl, rfl, hk, hb, R⟩
  exact h a _ C gs h' tk' (F.keeps hk) (N.grown hk) ⟨F.ns.lt, fun p hp => Heap.lt_size (N p hp).1⟩ (fun hg => allBare_push hg hb) R

theorem passing_map (pz : Nat → Bool) (cs : List Nat) (pf : Nat → Bool) (h : ∀ i, pz i = pf (cs.getD i 0)) : (passing pz cs.length 0).map (fun i => cs.getD i 0) = cs.filter pf := by
  unfold passing
  rw [List.drop_zero]
  have e : (fun i => pz i) = pf ∘ (fun i => cs.getD i 0) := funext h
  have e' : pz = pf ∘ (fun i => cs.getD i 0) := e
  rw [e', ← List.filter_map]
  congr 1
  apply List.ext_getElem?
  intro i
  rw [List.getElem?_map]
  by_cases hi : i < cs.length
  · simp [hi, List.getD_eq_getElem?_getD]
  · simp [hi]

theorem strs_of {acc : Array Value} {cs : List Nat} {k : Int} (h : ItemsOf (fun j y => ∃ i, (passing (fun i => pass k (cs.getD i 0)) cs.length 0)[j]? = some i ∧ ∃ (c : Nat) (u : Tok), cs[i]? = some c ∧ y = Value.str ⟨#[c]⟩ u) acc (passing (fun i => pass k (cs.getD i 0)) cs.length 0).length) :
    StrsAre acc.toList ((cs.filter (pass k)).map fun c => ⟨#[c]⟩) := by
  rw [← passing_map (fun i => pass k (cs.getD i 0)) cs (pass k) (fun _ => rfl), List.map_map]
  generalize passing (fun i => pass k (cs.getD i 0)) cs.length 0 = ps at h
  obtain ⟨hz, hi⟩ := h
  have key : ∀ (l : List Value) (ps : List Nat), l.length = ps.length → (∀ (j : Nat) (v : Value), l[j]? = some v → ∃ i, ps[j]? = some i ∧ ∃ (c : Nat) (u : Tok), cs[i]? = some c ∧ v = Value.str ⟨#[c]⟩ u) →
      StrsAre l (ps.map ((fun c => (⟨#[c]⟩ : Str)) ∘ fun i => cs.getD i 0)) := by
    intro l
    induction l with
    | nil =>
      intro ps hl _
      cases ps with
      | nil => exact .nil
      | cons a b => simp at hl
    | cons v l ih =>
      intro ps hl hv
      cases ps with
      | nil => simp at hl
      | cons i ps =>
        obtain ⟨i', e, c, u, hc, rfl⟩ := hv 0 v rfl
        have : i = i' := by simpa using e
        subst this
        have hc' : cs.getD i 0 = c := by rw [List.getD_eq_getElem?_getD, hc]; rfl
        simp only [List.map_cons, Function.comp_apply, hc']
        exact .cons _ _ (ih ps (by simpa using hl) fun j w hw => by simpa using hv (j + 1) w (by simpa using hw))
  exact key _ _ (by simp [hz]) fun j v hv => hi j v (by simpa using hv)

theorem Ready.list {prog : Program} {w : World} {B : Nat} {C a : Addr} {items : Array Value} {cs : List Nat} {k : Int} {s : Shared} (R : Ready prog w B C a items.size (fun i => pass k (cs.getD i 0)) (fun i y => ∃ c u, cs[i]? = some c ∧ y = .str ⟨#[c]⟩ u) s) (hz : items.size = cs.length)
    {dp un : Nat} {fr : Option (List Env)} {gd : Option (List Code)} {h₀ : Heap} {L : Addr} {m : Str → Option Value} {news : List (Addr × Obj)} {Q E : Value → Shared → Prop}
    (Fh : Fr h₀ L s.heap m) (N : News h₀ L s.heap news) (hLB : L < B ∧ ∀ p ∈ news, p.1 < B) (hdp : dp + 8 < recursionLimit) (hun : un + 103 < cLine) (hn : cs.length ≤ 1000)
    (h : ∀ D gn' h' tk' acc c, Fr h₀ L h' m → News h₀ L h' ((D, ({ cls := .type "list", data := .seq acc c } : Obj)) :: news) → (∀ p ∈ news, p.1 < D) → (AllBare s.gens → AllBare gn') → StrsAre acc.toList ((cs.filter (pass k)).map fun c => ⟨#[c]⟩) →
      Q (.ref D) { s with heap := h', gens := gn', toks := tk' }) :
    wpAny (model prog w) (Ar dp un fr gd) (call (.type "list") [.ref a]) Q E s := by
  rw [hz] at R
  exact Ready.use R Fh N hLB hdp hun hn fun D gn' h' tk' acc c F' N' l1 hb hi => h D gn' h' tk' acc c F' N' l1 hb (strs_of hi)

theorem join_singles : ∀ l : List Nat, Str.join (Str.ofString "") (l.map fun c => ⟨#[c]⟩) = ⟨l.toArray⟩
  | [] => rfl
  | [c] => rfl
  | c :: d :: r => by
    have ih := join_singles (d :: r)
    simp only [List.map_cons] at ih ⊢
    rw [join_cons_cons, ih]
    apply str_ext
    rw [PySem.Str.cps_append, PySem.Str.cps_append, Array.toList_append, Array.toList_append]
    have : (Str.ofString "").cps.toList = [] := by decide +kernel
    rw [this]
    simp
theorem singles_sum : ∀ l : List Nat, ((l.map fun c => (⟨#[c]⟩ : Str)).map (·.length)).sum = l.length
  | [] => rfl
  | c :: r => by
    have ih := singles_sum r
    simp only [List.map_cons, List.sum_cons, List.length_cons]
    rw [ih, len1]; omega
theorem join_side {prog : Program} {w : World} {A : Around} {E : Value → Shared → Prop} {s : Shared} {t : Tok} {Q : Value → Shared → Prop} {D : Addr} {items : Array Value} {l : List Nat} (hl : s.heap.IsList D items) (hi : StrsAre items.toList (l.map fun c => ⟨#[c]⟩)) (hlen : l.length ≤ 1000)
    (h : ∀ t' k, Q (.str ⟨l.toArray⟩ t') { s with toks := k }) : wpAny (model prog w) A (call (.builtin "str.join") [.str (Str.ofString "") t, .ref D]) Q E s := by
  refine join_listW hl hi (by decide) (by rw [singles_sum, List.length_map]; omega) fun t' k => ?_
  have e : Txt.join (Str.ofString "") (l.map fun c => ⟨#[c]⟩) = ⟨l.toArray⟩ := by unfold Txt.join; rw [StrLaws.glued_eq_join, join_singles]
  rw [e]
  exact h t' k
theorem marks_of {prog : Program} {w : World} {o : Obj} {a1 a2 a3 a4 a5 a6 a7 a8 b1 b2 b3 b4 b5 b6 b7 b8 : Tok} (h : Obj.IsDictOf (PySem.strKind prog w) o (strPairs [(Value.str (Str.ofString "k") a1, Value.str (Str.ofString "  ") b1), (Value.str (Str.ofString "m") a2, Value.str (Str.ofString "  ") b2), (Value.str (Str.ofString "d") a3, Value.str (Str.ofString "- ") b3), (Value.str (Str.ofString "e") a4, Value.str (Str.ofString "- ") b4), (Value.str (Str.ofString "p") a5, Value.str (Str.ofString "+ ") b5), (Value.str (Str.ofString "q") a6, Value.str (Str.ofString "+ ") b6), (Value.str (Str.ofString "g") a7, Value.str (Str.ofString "-:") b7), (Value.str (Str.ofString "h") a8, Value.str (Str.ofString "? ") b8)])) :
    ∃ kvs, Obj.IsDictOf (PySem.strKind prog w) o kvs ∧ ∀ c, sgn c = true → ∃ u, valueAt kvs (⟨#[c]⟩ : Str) = some (.str (mk2 c) u) := by
  refine ⟨_, h, fun c hc => ?_⟩
  rcases sgn_cases hc with rfl | rfl | rfl | rfl | rfl | rfl | rfl | rfl <;> exact ⟨_, rfl⟩
end Mine

end NbSidesBase
section NbSides
open PySem PySem.W PyProof.Rows
namespace Mine
open PySem.Challenge
local macro_rules | `(tactic| walk_at "exec Assign cons ListComp") => `(tactic| refine Park.of ?_)
local macro_rules | `(tactic| walk_at "call ref") => `(tactic| ((rename Fr _ _ _ _ => kF); (rename News _ _ _ _ => kN); (rename RowsOf _ _ => hrows); (k_dflt (refine GivesGen.use (restore_ok _ _ _ hrows _ _ (by first | exact .inl rfl | exact .inr rfl)) kF kN (by k_mem) (by assumption) (by assumption) (by simp only [depth_deeper]; omega) (by simp only [units_deeper]; omega) ?_)); clear kF kN; intro aG BG CG gsG hG kG F' N' hLB hbG hRdy; try dsimp only))
local macro_rules | `(tactic| walk_at "call type:list") => `(tactic| ((rename Fr _ _ _ _ => kF); (rename News _ _ _ _ => kN); (rename Ready _ _ _ _ _ _ _ _ _ => hRdy); (rename (_ < _ ∧ ∀ _ ∈ _, _) => hLB); (rename RowsOf _ _ => hrows); (k_dflt (refine Ready.list hRdy hrows.1 kF kN hLB (by simp only [depth_deeper]; omega) (by simp only [units_deeper]; omega) (by omega) ?_)); clear kF kN hRdy hLB; intro DL gnL hL kL accL cL F' N' l1 hbL hstL; try dsimp only))
local macro_rules | `(tactic| walk_at "call builtin:str.join") => `(tactic| ((rename StrsAre _ _ => hst); (rename News _ _ _ _ => kN); (k_dflt (refine join_side (News.isList kN (by k_mem)) hst (by ((rename (∀ _ : Int, (_ : Nat) ≤ 1000) => hf9); exact hf9 _)) ?_)); clear hst; intro tJ kJ; try dsimp only))
set_option maxRecDepth 100000 in
set_option maxHeartbeats 8000000 in
theorem sides_ok {w : World} {p : Program} {loose : List Str} {mean : ExcName → Option Value} {mg mb : Str → Option Value} (x : Str) (t : Tok) (hlen : x.length ≤ 1000) (hx : ∀ c ∈ x.cps.toList, sgn c = true) :
   GivesPair rw_nb0029_01.row.prog w (hd.heap_39 w.params) p loose mean mg mb 33 [.str x t] (side 1 x) (side 2 x) := by
  k_fill
  intro dp un fr gd s X T hdp hun
  k_dflt (refine' enterC (binds := [(Str.ofString "word", .str x t)]) ?k3 ?k5 ?k6 ?k7 ?k8 ?k9 ?kB ?kD ?_ ?c2 ?c3 ?c4; (case k3 => k_asm); (case k5 => k_asm); (case k6 => k_is); (case k7 => k_is); (case k8 => exact Nat.lt_of_le_of_lt (Nat.le_add_right _ _) hdp); (case k9 => exact BindsTo.of_eq rfl); (case kB => exact rfl); (case kD => decide +kernel); (case c2 => exact rfl); (case c3 => exact rfl); (case c4 => exact rfl); k_whole; intro h₁ tk cells F N Y; (try dsimp only); (try k_fold))
  k_cells Y
  k_steps
  rename Fr _ _ _ _ => F1
  rename News _ _ _ _ => N1
  rename Obj.IsDictOf _ _ _ => hdict
  rename _ = Data.cell _ => hcell
  obtain ⟨kvs, hkvs, hval⟩ := marks_of hdict
  clear hdict
  rename Heap => h₂
  have hcellAt : Heap.IsCell _ (s.heap.objs.size + 1) _ := ⟨_, (N1 _ (.tail _ (.head _))).1, hcell⟩
  have hmap := (Heap.dictOf_iff.mpr ⟨_, (N1 _ (.head _)).1, hkvs⟩)
  unfold Park
  clear hcell hkvs
  refine wpAny_Assign_ListComp_free (p := fun _ => true) (F := fun v y => ∃ c t u, v = .str ⟨#[c]⟩ t ∧ y = .str (row c) u) (cl := [(Str.ofString "marks", s.heap.objs.size + 1)]) ?a1 ?a2 ?a3 ?a4 ?a5 ?a6 ?a7 ?a8 ?a9 ?a10
  case a1 => with_unfolding_all rfl
  case a2 => with_unfolding_all rfl
  case a3 => decide
  case a4 => rfl
  case a5 => decide
  case a6 => rfl
  case a7 => rfl
  case a8 => rfl
  case a10 => intro _; rfl
  case a9 =>
    refine wpAny_Name (wpAny_loadName_local rfl rfl F1.ns rfl ?_)
    refine wpAny_pyIter_str fun o St hW hst => ?_
    refine ⟨_, _, _, _, _, _, _, rfl, hW _ rfl, ?b1, hst, ?b2, ?b3, F1.ns.push _, ?b4, ?b5⟩
    case b1 => rw [PySem.sizeLine_eq]; unfold Str.length at hlen; omega
    case b2 => intro b hb; rw [List.mem_singleton.mp hb, Heap.size_push]; exact Nat.lt_succ_self _
    case b3 => intro hb; exact absurd F1.ns.lt ((List.mem_singleton.mp hb) ▸ Nat.lt_irrefl _)
    case b4 =>
      refine ⟨fun C i v s₃ m₃ E' hC hP hn hm hk htk => wpAny_tests_nil ⟨rfl, _, _, rfl, fun _ _ e => e⟩, fun C i v s₃ m₃ E' hC hP _ hn hm hk htk => ?_⟩
      obtain ⟨c, u, hc, rfl⟩ := hP
      obtain ⟨u', hv⟩ := hval c (hx c (by rw [Array.mem_toList_iff]; exact Array.mem_of_getElem? hc))
      have up : ∀ b o, h₂.get? b = some o → s₃.heap.get? b = some o := fun b o e => hk b o (fun hb => Nat.ne_of_lt (Heap.lt_size e) (List.mem_singleton.mp hb)) (Heap.get?_push_of_some _ e)
      refine wpAny_BinOp (wpAny_Subscript_Name_late (wpAny_Name (wpAny_loadName_cell rfl rfl rfl (hcellAt.keeps up) (wpAny_Name (wpAny_loadName_local rfl rfl hn hm ?_)))))
      refine ⟨"dict", _, slot_dict_getitem.lookup, (hmap.keep up).typeIs, wpAny_getItem_of (PySem.strKind_is _ _ _ _) (hmap.keep up).mapOf hv ?_⟩
      refine wpAny_Name (wpAny_loadName_local rfl rfl hn hm ?_)
      exact add_str (fun t' tk => ⟨⟨c, _, _, rfl, rfl⟩, _, _, rfl, fun _ _ e => e⟩) (by rw [PySem.sizeLine_eq, mk2_length, len1]; decide)
    case b5 =>
      intro D h' tk' ys vs hD hl hpl hvs hvP hpair hns hk
      have hrows := rows_of hvs hvP hpair
      have hfl : ∀ k, (x.cps.toList.filter (pass k)).length ≤ 1000 := fun k => Nat.le_trans (List.length_filter_le _ _) (by simpa [Str.length] using hlen)
      have hcs : x.cps.toList.length ≤ 1000 := by simpa [Str.length] using hlen
      obtain ⟨z, hplo⟩ := hpl
      have hDL : D ≠ s.heap.objs.size := fun e => by
        obtain ⟨oL, _, _, hoL, _⟩ := F1.ns
        rw [e] at hD
        rw [Heap.get?_push_of_some _ hoL] at hD
        cases hD
      have F2 : Fr s.heap s.heap.objs.size h' _ := ⟨hns, fun b o e => hk b o (Nat.ne_of_lt (Heap.lt_size e)) (fun hb => Nat.ne_of_lt (Heap.lt_size (F1.keep b o e)) (List.mem_singleton.mp hb)) (Heap.get?_push_of_some _ (F1.keep b o e)), Nat.le_refl _⟩
      have N2 : News s.heap s.heap.objs.size h' [(D, ({ cls := .type "list", data := .seq ys z } : Obj))] := by
        intro q hq
        rw [List.mem_singleton.mp hq]
        refine ⟨hplo, hDL, ?_⟩
        cases e : s.heap.get? D with
        | none => rfl
        | some oD => rw [Heap.get?_push_of_some _ (F1.keep _ _ e)] at hD; cases hD
      clear F1 N1 hcellAt hmap hval hW hst hvP hpair hns hk hD hl hvs
      dsimp only
      k_steps
      rename Fr _ _ _ _ => F9
      rename News _ _ _ _ => N9
      rename (AllBare _ → AllBare _) => q
      revert q
      rename (AllBare _ → AllBare _) => q
      revert q
      rename (AllBare _ → AllBare _) => q
      revert q
      rename (AllBare _ → AllBare _) => q
      revert q
      intro q1 q2 q3 q4
      exact ⟨_, _, _, _, _, _, _, rfl, rfl, F9.keep, (N9 _ (.head _)).2.2, (N9 _ (.head _)).1, fun hb => q4 (q3 (q2 (q1 hb)))⟩
end Mine

end NbSides
section NbLaw0
open PySem PySem.W PyProof.Rows PySem.Calls
namespace Mine
open PySem.Challenge

section
variable {prog : Program} {w : World} {A : Around} {s : Shared} {K : Frag} {p : Program} {loose : List Str} {mean : ExcName → Option Value} {mg mb : Str → Option Value}
  {name qual : Str} {params : Arguments} {body : List Stmt} {scope : Scope} {dV kV doc pm cdv ct oc : Value} {an od : Option Addr} {osl : Array (Option Value)} {f : Addr} {args : List Value} {binds : List (Str × Value)} {R : Result → Shared → Prop}
theorem enterCode (X : K.In s.heap) (T : Top p loose mean mg mb s.heap)
    (ho : K.lookup f = some ⟨oc, od, .func (fnOf name qual params body scope dV kV doc pm an cdv ct), osl⟩) (hcd : codeIn K cdv qual = true) (hroom : A.depth < recursionLimit)
    (hbind : BindsTo s (fnOf name qual params body scope dV kV doc pm an cdv ct) ⟨args, []⟩ binds) (hloc : ∀ y ∈ binds, scope.names.lookup y.1 = some .local)
    (h : ∀ h₁, Fr s.heap s.heap.objs.size h₁ (fun y => binds.reverse.lookup y) → News s.heap s.heap.objs.size h₁ [] →
      wpAny (model prog w) (A.deeper (envOf qual scope s.heap.objs.size f cdv)) (execs body (envOf qual scope s.heap.objs.size f cdv))
        (fun fl s' => R (.ok (.ret (match fl with | .ret v => v | _ => .none))) s') (fun _ _ => False) { s with heap := h₁, toks := s.toks + binds.length })
    (hco : scope.isCoroutine = false) (hgen : scope.isGenerator = false) (hk : scope.kind = .function)
    (hcell : ∀ x ∈ scope.names, x.2 ≠ .cell) : codeAny (model prog w) A (.call (.ref f) ⟨args, []⟩) R s := by
  refine codeAny_call_def (fd := fnOf name qual params body scope dV kV doc pm an cdv ct) (body := body) (binds := binds) hroom (X _ _ ho) rfl T.nolimit (codeRec_of X hcd) rfl hbind hcell hloc (fun h₁ hns hk₁ => ?_) hco hgen hk
  exact mono0 (h h₁ ⟨hns, hk₁, Nat.le_refl _⟩ News.nil) (fun fl s' q => q)
end

/-- a list of signs -/
def SL (h : Heap) (D : Addr) (ws : List Nat) : Prop := ∃ items : Array Value, h.IsList D items ∧ items.size = ws.length ∧ ∀ (i c : Nat), ws[i]? = some c → ∃ t, items[i]? = some (.str ⟨#[c]⟩ t)
theorem SL.at {h h' : Heap} {D : Addr} {ws : List Nat} (x : SL h D ws) (e : ∀ o, h.get? D = some o → h'.get? D = some o) : SL h' D ws := let ⟨it, hl, r⟩ := x; ⟨it, hl.at e, r⟩
theorem SL.strs {h : Heap} {D : Addr} {ws : List Nat} (x : SL h D ws) : ∃ items : Array Value, h.IsList D items ∧ StrsAre items.toList (ws.map fun c => ⟨#[c]⟩) := by
  obtain ⟨items, hl, hz, hv⟩ := x
  refine ⟨items, hl, ?_⟩
  have key : ∀ (l : List Value) (ws : List Nat), l.length = ws.length → (∀ (i c : Nat), ws[i]? = some c → ∃ t, l[i]? = some (Value.str ⟨#[c]⟩ t)) → StrsAre l (ws.map fun c => ⟨#[c]⟩) := by
    intro l
    induction l with
    | nil => intro ws hl _; cases ws with | nil => exact .nil | cons a b => simp at hl
    | cons v l ih =>
      intro ws hl hv
      cases ws with
      | nil => simp at hl
      | cons c ws =>
        obtain ⟨t, e⟩ := hv 0 c rfl
        have : v = .str ⟨#[c]⟩ t := by simpa using e
        subst this
        exact .cons _ _ (ih ws (by simpa using hl) fun i d hd => by simpa using hv (i + 1) d (by simpa using hd))
  exact key _ _ (by simpa using hz) fun i c hc => by simpa using hv i c hc
theorem SL.of_strs {h : Heap} {D : Addr} {ws : List Nat} {items : Array Value} (hl : h.IsList D items) (hs : StrsAre items.toList (ws.map fun c => ⟨#[c]⟩)) : SL h D ws := by
  refine ⟨items, hl, by simpa using hs.length, ?_⟩
  have key : ∀ (l : List Value) (ws : List Nat), StrsAre l (ws.map fun c => (⟨#[c]⟩ : Str)) → ∀ (i c : Nat), ws[i]? = some c → ∃ t, l[i]? = some (Value.str ⟨#[c]⟩ t) := by
    intro l
    induction l with
    | nil => intro ws hs i c hc; cases ws with | nil => simp at hc | cons a b => cases hs
    | cons v l ih =>
      intro ws hs i c hc
      cases ws with
      | nil => cases hs
      | cons d ws =>
        cases hs with
        | cons _ t hs =>
          cases i with
          | zero => simp at hc; subst hc; exact ⟨t, rfl⟩
          | succ i => obtain ⟨t', e⟩ := ih ws hs i c (by simpa using hc); exact ⟨t', by simpa using e⟩
  intro i c hc
  obtain ⟨t, e⟩ := key _ _ hs i c hc
  exact ⟨t, by simpa using e⟩

def TurnEndH (s : Shared) (h₀ : Heap) (L : Addr) (keepN : List (Addr × Obj)) (J : (Str → Option Value) → Heap → Prop) (f : Flow) (s₂ : Shared) : Prop :=
  f = .next ∧ ∃ h' tk' m', s₂ = { s with heap := h', toks := tk' } ∧ Fr h₀ L h' m' ∧ News h₀ L h' keepN ∧ J m' h'

section
variable {prog : Program} {w : World} {A : Around} {s : Shared} {env : Env} {h₀ : Heap} {m₀ : Str → Option Value} {x : Str} {px pos : Pos} {body : List Stmt}
theorem for_listH {R : Result → Shared → Prop} {I₀ ax : Addr} {items : Array Value} (hh : A.handled = none)
    (hx : env.kindOf x = some .local) (hp : (env.scope.kind == .class || (env.scope.kind == .module && env.locals != env.globals)) = false)
    (hL : env.locals ≠ I₀) (hL2 : env.locals ≠ ax) (hax : ax ≠ I₀) (hn0 : h₀.get? I₀ = none) (hn1 : h₀.get? ax = none)
    (I : Nat → (Str → Option Value) → Heap → Prop) (IK : ∀ i m h h', I i m h → (∀ b o, b ≠ env.locals → b ≠ I₀ → h.get? b = some o → h'.get? b = some o) → I i m h')
    (hit : s.heap.IsListIter I₀ ax 0) (hl : s.heap.IsList ax items) (F : Fr h₀ env.locals s.heap m₀) (h0 : I 0 m₀ s.heap)
    (turn : ∀ i v m₁ h tk own, items[i]? = some v → (∀ q ∈ own, q.1 = I₀ ∨ q.1 = ax) → I i m₁ h → Fr h₀ env.locals h (fun y => if y = x then some v else m₁ y) → News h₀ env.locals h own →
      wpAny (model prog w) A (execs body env) (TurnEndH s h₀ env.locals own (I (i + 1))) (fun _ _ => False) { s with heap := h, toks := tk })
    (done : ∀ m₁ h tk, Fr h₀ env.locals h m₁ → I items.size m₁ h → R (.ok .next) { s with heap := h, toks := tk }) :
    codeAny (model prog w) A (.forLoop (.Name x px) (.ref I₀) body [] env) R s := by
  have W := Walks.list (prog := prog) (w := w) hh I₀ ax hax items
  refine codeAny_forLoop (fun k s' => ∃ i h tk m₁, s' = { s with heap := h, toks := tk } ∧ Fr h₀ env.locals h m₁ ∧ (h.IsListIter I₀ ax i ∧ h.IsList ax items) ∧ I i m₁ h ∧ i ≤ items.size ∧ k = items.size + 1 - i) ?_ (items.size + 1)
    ⟨0, s.heap, s.toks, m₀, rfl, F, ⟨hit, hl⟩, h0, Nat.zero_le _, rfl⟩
  rintro k s' ⟨i, h, tk, m₁, rfl, Fi, sti, hI, hi, rfl⟩
  have nI : ∀ b, b ≠ I₀ → b ∉ [I₀] := fun b hb hm => hb (List.mem_singleton.mp hm)
  have FW : ∀ {h₁ : Heap}, (∀ b o, b ∉ [I₀] → h.get? b = some o → h₁.get? b = some o) → Fr h₀ env.locals h₁ m₁ := fun {h₁} hk =>
    ⟨Fi.ns.at' fun o e => hk _ o (nI _ hL) e, fun b o e => hk b o (nI _ fun hb => by rw [hb, hn0] at e; cases e) (Fi.keep b o e), Fi.above⟩
  by_cases hlt : i < items.size
  · refine W.item i _ _ _ hlt sti fun v h₁ tk₁ hP st₁ hk₁ => ?_
    have F₁ := FW hk₁
    refine wpAny_assign_Name (wpAny_storeName_local hx F₁.ns (fun h₂ hn₂ hs₂ => ?_) hp)
    have F₂ : Fr h₀ env.locals h₂ (fun y => if y = x then some v else m₁ y) := F₁.set hn₂ hs₂
    have hI₂ : I i m₁ h₂ := IK _ _ _ _ hI fun b o hb hbI e => hs₂.extBut b o hb (hk₁ b o (nI _ hbI) e)
    obtain ⟨oi, hoi, ri⟩ := st₁.1
    obtain ⟨oa, hoa, ra⟩ := st₁.2
    have hoi2 := hs₂.extBut _ _ (Ne.symm hL) hoi
    have hoa2 := hs₂.extBut _ _ (Ne.symm hL2) hoa
    have N₃ : News h₀ env.locals h₂ [(I₀, oi), (ax, oa)] := by
      intro q hq
      rcases List.mem_cons.mp hq with rfl | hq
      · exact ⟨hoi2, Ne.symm hL, hn0⟩
      · rw [List.mem_singleton.mp hq]; exact ⟨hoa2, Ne.symm hL2, hn1⟩
    refine mono0 (turn i v m₁ h₂ _ [(I₀, oi), (ax, oa)] hP (by
      intro q hq
      rcases List.mem_cons.mp hq with rfl | hq
      · exact .inl rfl
      · rw [List.mem_singleton.mp hq]; exact .inr rfl) hI₂ F₂ N₃) (fun f s₃ h₃ => ?_)
    obtain ⟨rfl, h', tk', m', rfl, F', N', hI'⟩ := h₃
    exact ⟨items.size + 1 - (i + 1), by omega, i + 1, h', tk', m', rfl, F', ⟨⟨oi, (N' _ (.head _)).1, ri⟩, ⟨oa, (N' _ (.tail _ (.head _))).1, ra⟩⟩, hI', hlt, rfl⟩
  · have hin : i = items.size := by omega
    subst hin
    refine W.done _ _ _ sti fun h₁ tk₁ hk₁ => wpAny_execs_nil ?_
    exact done m₁ h₁ tk₁ (FW hk₁) (IK _ _ _ _ hI fun b o _ hbI e => hk₁ b o (nI _ hbI) e)
end
end Mine

end NbLaw0
section NbComp
open PySem PySem.W PyProof.Rows PySem.Calls
namespace Mine
open PySem.Challenge

def LawBack (s : Shared) (r : Result) (s' : Shared) : Prop := r = .ok (.ret (.bool true)) ∧ ∃ h' tk' gn', s' = { s with heap := h', toks := tk', gens := gn' } ∧ Keep s.heap h' ∧ (AllBare s.gens → AllBare gn')
def ch (n : Int) : Nat := [107, 109, 100, 101, 112, 113, 103, 104].getD (n.fmod 8).toNat 0
theorem fmod8 (n : Int) : 0 ≤ n.fmod 8 ∧ n.fmod 8 < 8 := by
  rw [Int.fmod_eq_emod_of_nonneg n (by decide : (0 : Int) ≤ 8)]
  omega
theorem item_ch (n : Int) : Txt.item (Str.ofString "kmdepqgh") (n.fmod 8) = ⟨#[ch n]⟩ := by
  have h := fmod8 n
  refine item_meets h.1 ?_
  unfold ch
  obtain ⟨k, hk⟩ : ∃ k : Nat, (n.fmod 8).toNat = k := ⟨_, rfl⟩
  rw [hk]
  have : k < 8 := by omega
  have hc : (Str.ofString "kmdepqgh").cps = #[107, 109, 100, 101, 112, 113, 103, 104] := by decide +kernel
  rw [hc]
  match k, this with
  | 0, _ | 1, _ | 2, _ | 3, _ | 4, _ | 5, _ | 6, _ | 7, _ => rfl

theorem char_ok {i : Int} (h : 0 ≤ i ∧ i < 8) : (Txt.charAt (Str.ofString "kmdepqgh") i).isSome = true := by
  rcases (by omega : i = 0 ∨ i = 1 ∨ i = 2 ∨ i = 3 ∨ i = 4 ∨ i = 5 ∨ i = 6 ∨ i = 7) with rfl | rfl | rfl | rfl | rfl | rfl | rfl | rfl <;> decide +kernel
theorem comp_strs {vs : List Value} {ns : List Int} {ys : List Value} (hI : IntsAre vs ns)
    (hF : Paired (fun v y => ∃ (n : Int) (t u : Tok), v = Value.int n t ∧ y = Value.str ⟨#[ch n]⟩ u) vs ys) : StrsAre ys ((ns.map ch).map fun c => ⟨#[c]⟩) := by
  induction hF generalizing ns with
  | nil => cases hI; exact .nil
  | cons h _ ih =>
    obtain ⟨n, t, u, rfl, rfl⟩ := h
    cases hI with
    | cons _ _ hI => exact .cons _ _ (ih hI)

theorem comp_word {prog : Program} {w : World} {A : Around} {s : Shared} {env : Env} {h₀ : Heap} {m : Str → Option Value} {l : Addr} {vs : List Value} {ns : List Int} {Q : Value → Shared → Prop} {p1 p2 p3 p4 p5 p6 p7 p8 p9 p10 p11 : Pos} {k1 k2 k3 : Nat} {scope : Scope} (hh : A.handled = none)
    (F : Fr h₀ env.locals s.heap m) (hm : m (Str.ofString "script") = some (.ref l)) (hl : h₀.IsList l vs.toArray) (hI : IntsAre vs ns) (hlen : ns.length ≤ 63) (hek : env.scope.kind = .function) (hks : env.kindOf (Str.ofString "script") = some .local)
    (hfree : ∀ y ∈ scope.names, y.2 ≠ .free) (hcell : ∀ y ∈ scope.names, y.2 ≠ .cell) (hkind : scope.kind = .function)
    (hnames : ∀ y ∈ scope.names, y.2 = .local → scope.names.lookup y.1 = some .local) (hx : scope.names.lookup (Str.ofString "x") = some .local)
    (hfs : ∀ x, foldedSetIterable (.Subscript (.Name (Str.ofString "script") p8) (.Slice none (some (.Constant (.int 24) k3 p9)) none p10) p11) env x = pure x)
    (h : ∀ D h' tk ys z, Fr h₀ env.locals h' m → News h₀ env.locals h' [(D, ({ cls := .type "list", data := .seq ys z } : Obj))] → StrsAre ys.toList (((ns.take 24).map ch).map fun c => ⟨#[c]⟩) → Q (.ref D) { s with heap := h', toks := tk }) :
    wpAny (model prog w) A (eval (.ListComp (.Subscript (.Constant (.str (Str.ofString "kmdepqgh")) k1 p1) (.BinOp (.Name (Str.ofString "x") p2) .Mod (.Constant (.int 8) k2 p3) p4) p5) [⟨.Name (Str.ofString "x") p6, .Subscript (.Name (Str.ofString "script") p8) (.Slice none (some (.Constant (.int 24) k3 p9)) none p10) p11, [], 0⟩] scope p7) env) Q (fun _ _ => False) s := by
  have hvl : vs.length = ns.length := hI.length
  refine wpAny_ListComp_walk (p := fun _ => true) (F := fun v y => ∃ (n : Int) (t u : Tok), v = Value.int n t ∧ y = Value.str ⟨#[ch n]⟩ u) hfree hcell hkind hnames hx ?_ hfs
  refine wpAny_Subscript_list_slice (wpAny_Name (wpAny_loadName_local hek hks F.ns hm ?_))
  refine wpAny_evalPart_none (wpAny_evalPart_some (wpAny_Constant_int ?_))
  refine ⟨l, vs.toArray, none, some 24, rfl, hl.at fun o e => F.keep _ o e, by rw [PySem.sizeLine_eq]; simp; omega, .none, .int 24 _, ?_⟩
  rw [show slicePick vs.toArray none (some 24) none = (vs.take 24).toArray from by have := slicePick_upto' vs.toArray 24; simpa using this]
  have e2 := Heap.get?_push_size (o := ({ cls := .type "list", data := .seq (vs.take 24).toArray } : Obj)) (s.heap.push { cls := .type "slice", data := .fields #[.none, .int 24 s.toks, .none] }) rfl
  rw [Heap.size_push] at e2
  have hl2 : (((s.heap.push { cls := .type "slice", data := .fields #[.none, .int 24 s.toks, .none] }).push { cls := .type "list", data := .seq (vs.take 24).toArray })).IsList (s.heap.objs.size + 1) (vs.take 24).toArray := ⟨_, e2, rfl, _, rfl⟩
  refine wpAny_pyIter_list hl2 ?_
  have hz : ((s.heap.push { cls := .type "slice", data := .fields #[.none, .int 24 s.toks, .none] }).push { cls := .type "list", data := .seq (vs.take 24).toArray }).objs.size = s.heap.objs.size + 2 := by rw [Heap.size_push, Heap.size_push]
  refine ⟨_, _, _, _, _, _, rfl, Walks.list hh _ _ (by rw [hz]; exact Nat.ne_of_lt (Nat.lt_succ_self _)) _, ?_, ⟨⟨_, Heap.get?_push_size _ rfl, rfl, rfl⟩, hl2.push _⟩, ?_, ?_, ?_⟩
  · rw [PySem.sizeLine_eq]; simp; omega
  · intro b hb
    rw [Heap.size_push, hz]
    rcases List.mem_cons.mp hb with rfl | hb
    · rw [hz]; exact Nat.lt_succ_self _
    · rw [List.mem_singleton.mp hb]; exact Nat.lt_succ_of_lt (Nat.lt_succ_self _)
  · refine ⟨fun C i v s₃ m₃ E' hP hn hm hk htk => wpAny_tests_nil ⟨rfl, _, _, rfl, fun _ _ e => e⟩, fun C i v s₃ m₃ E' hP _ hn hm hk htk => ?_⟩
    have hPl : (vs.take 24)[i]? = some v := by simpa using hP
    have hv : vs[i]? = some v := by
      rw [List.getElem?_take] at hPl
      split at hPl
      · exact hPl
      · cases hPl
    obtain ⟨n, t, rfl⟩ : ∃ n t, v = .int n t := by
      have hi : i < ns.length := by
        have := (List.getElem?_eq_some_iff.mp hv).1
        omega
      obtain ⟨t, e⟩ := hI.get i ns[i] (by simp [hi])
      rw [hv] at e
      exact ⟨_, _, Option.some.inj e⟩
    refine Subscript_ (wpAny_Constant_str (wpAny_BinOp (wpAny_Name (wpAny_loadName_local hkind hx hn hm (wpAny_Constant_int (mod_int' (by decide) ?_))))))
    refine item_str_fmod (by decide) (by decide +kernel) (by decide +kernel) ?_
    rw [item_ch]
    exact fun _ => ⟨⟨n, t, _, rfl, rfl⟩, _, _, rfl, fun _ _ e => e⟩
  · intro D h' tk ys vs' hD hlD hpl hvs hP hpair hk
    obtain ⟨z, hplo⟩ := hpl
    have hvs' : vs' = vs.take 24 := by
      apply List.ext_getElem?
      intro i
      cases e : vs'[i]? with
      | none =>
        have := List.getElem?_eq_none_iff.mp e
        rw [hvs] at this
        symm
        rw [List.getElem?_eq_none_iff]
        simpa using this
      | some v => have := hP i v e; simpa using this.symm
    rw [List.filter_eq_self.mpr (fun _ _ => rfl), hvs'] at hpair
    have hkeep : ∀ b o, s.heap.get? b = some o → h'.get? b = some o := fun b o e => hk b o (fun hb => by
      have h1 := List.mem_singleton.mp hb
      have h2 := Heap.lt_size e
      rw [h1, hz] at h2
      exact absurd h2 (Nat.not_lt.mpr (Nat.le_add_right _ _))) (Heap.get?_push_of_some _ (Heap.get?_push_of_some _ (Heap.get?_push_of_some _ e)))
    have hDs : s.heap.get? D = none := by
      cases e : s.heap.get? D with
      | none => rfl
      | some o => rw [Heap.get?_push_of_some _ (Heap.get?_push_of_some _ (Heap.get?_push_of_some _ e))] at hD; cases hD
    refine h D h' tk ys z (F.keeps hkeep) ?_ (comp_strs (hI.take 24) hpair)
    intro q hq
    rw [List.mem_singleton.mp hq]
    refine ⟨hplo, fun e => ?_, ?_⟩
    · obtain ⟨oL, _, _, hoL, _⟩ := F.ns
      rw [show D = env.locals from e, hoL] at hDs
      cases hDs
    · cases e : h₀.get? D with
      | none => rfl
      | some o => rw [F.keep _ _ e] at hDs; cases hDs
end Mine

end NbComp
section NbLaw1
open PySem PySem.W PyProof.Rows PySem.Calls
namespace Mine
open PySem.Challenge

theorem list_word {prog : Program} {w : World} {A : Around} {E : Value → Shared → Prop} {s : Shared} {h₀ : Heap} {L : Addr} {m : Str → Option Value} {Q : Value → Shared → Prop} {x : Str} {t : Tok} (hh : A.handled = none) (F : Fr h₀ L s.heap m) (hx : x.length ≤ 1000)
    (h : ∀ D h' tk acc c, Fr h₀ L h' m → News h₀ L h' [(D, ({ cls := .type "list", data := .seq acc c } : Obj))] → StrsAre acc.toList (x.cps.toList.map fun c => ⟨#[c]⟩) → Q (.ref D) { s with heap := h', toks := tk }) :
    wpAny (model prog w) A (call (.type "list") [.str x t]) Q E s := by
  refine call_list_str hh x t (fun h' tk acc c hk hS hacc => ?_) (by rw [PySem.sizeLine_eq]; unfold Str.length at hx; omega)
  refine h _ h' tk acc c (F.keeps hk) ?_ ?_
  · intro q hq
    rw [List.mem_singleton.mp hq]
    exact ⟨hS, Nat.ne_of_gt F.ns.lt, not_here (Nat.le_of_lt (Nat.lt_of_le_of_lt F.above F.ns.lt))⟩
  · obtain ⟨hz, hi⟩ := hacc
    have key : ∀ (l : List Value) (cs : List Nat), l.length = cs.length → (∀ (j : Nat) (v : Value), l[j]? = some v → ∃ (c : Nat) (u : Tok), cs[j]? = some c ∧ v = Value.str ⟨#[c]⟩ u) → StrsAre l (cs.map fun c => ⟨#[c]⟩) := by
      intro l
      induction l with
      | nil => intro cs hl _; cases cs with | nil => exact .nil | cons a b => simp at hl
      | cons v l ih =>
        intro cs hl hv
        cases cs with
        | nil => simp at hl
        | cons c cs =>
          obtain ⟨c', u, e, rfl⟩ := hv 0 v rfl
          have : c = c' := by simpa using e
          subst this
          exact .cons _ _ (ih cs (by simpa using hl) fun j w hw => by simpa using hv (j + 1) w (by simpa using hw))
    exact key _ _ (by simp [hz]) fun j v hv => by
      obtain ⟨c, u, hc, e⟩ := hi j v (by simpa using hv)
      exact ⟨c, u, by simpa using hc, e⟩

def swAt (len : Nat) (n : Int) : Nat := ((n.fdiv 8).fmod ((len : Int) - 1)).toNat
def sw (ws : List Nat) (n : Int) : List Nat := (ws.set (swAt ws.length n) (ws.getD (swAt ws.length n + 1) 0)).set (swAt ws.length n + 1) (ws.getD (swAt ws.length n) 0)
theorem sw_length (ws : List Nat) (n : Int) : (sw ws n).length = ws.length := by simp [sw]
theorem sws_length (ns : List Int) (ws : List Nat) : (ns.foldl sw ws).length = ws.length := by
  induction ns generalizing ws with
  | nil => rfl
  | cons n r ih => rw [List.foldl_cons, ih, sw_length]
theorem swAt_lt {len : Nat} (h : 2 ≤ len) (n : Int) : swAt len n + 1 < len ∧ ((n.fdiv 8).fmod ((len : Int) - 1)) = (swAt len n : Int) := by
  have h0 := Int.fmod_nonneg_of_pos (n.fdiv 8) (show (0 : Int) < (len : Int) - 1 by omega)
  have h1 := Int.fmod_lt_of_pos (n.fdiv 8) (show (0 : Int) < (len : Int) - 1 by omega)
  unfold swAt
  omega

theorem SL.read {prog : Program} {w : World} {A : Around} {E : Value → Shared → Prop} {s : Shared} {D : Addr} {ws : List Nat} {value slice : Expr} {k : Int} {u : Tok} {Q : Value → Shared → Prop} {j : Nat} (x : SL s.heap D ws) (hk : k = (j : Int)) (hj : j < ws.length) (hz : ws.length ≤ 1000) (h : ∀ t', Q (.str ⟨#[ws.getD j 0]⟩ t') s)
    (hs : subscripted slice false (.ref D) (.int k u) = operate [.ref D, .int k u] (getItem (.ref D) (.int k u))) (hg : ∀ r, letTemporaryGo value (.ref D) r = pure ()) :
    wpAny (model prog w) A (subscriptTail value slice (.ref D) (.int k u)) Q E s := by
  obtain ⟨items, hl, hsz, hv⟩ := x
  obtain ⟨t, e⟩ := hv j (ws.getD j 0) (by simp [List.getD_eq_getElem?_getD, hj])
  subst hk
  have hl' : s.heap.IsList D items.toList.toArray := by simpa using hl
  exact item_listL hl' (by omega) (by omega) (by simpa using e) (h t) hs hg
theorem SL.write {prog : Program} {w : World} {A : Around} {E : Value → Shared → Prop} {s : Shared} {D : Addr} {ws : List Nat} {k : Int} {u tv : Tok} {c : Nat} {Q : Unit → Shared → Prop} {j : Nat} (x : SL s.heap D ws) (hk : k = (j : Int)) (hj : j < ws.length) (hz : ws.length ≤ 1000)
    (h : ∀ h', SL h' D (ws.set j c) → Heap.SameBut D s.heap h' → Q () { s with heap := h' }) :
    wpAny (model prog w) A (setItem (.ref D) (.int k u) (.str ⟨#[c]⟩ tv)) Q E s := by
  obtain ⟨items, hl, hsz, hv⟩ := x
  subst hk
  refine wpAny_setItem_list hl (by omega) (by omega) (by omega) fun h' hl' hs' => h h' ⟨_, hl', by simp [hsz], fun i d hd => ?_⟩ hs'
  rw [Int.toNat_natCast]
  rw [List.getElem?_set] at hd
  by_cases e : j = i
  · subst e
    have : d = c := by simpa [hj] using hd.symm
    subst this
    exact ⟨tv, by simp [hsz, hj]⟩
  · rw [if_neg e] at hd
    obtain ⟨t, e'⟩ := hv i d hd
    exact ⟨t, by rw [Array.getElem?_setIfInBounds_ne e]; exact e'⟩
end Mine

end NbLaw1
section NbLaw2
open PySem PySem.W PyProof.Rows PySem.Calls
namespace Mine
open PySem.Challenge
theorem for_script {prog : Program} {w : World} {A : Around} {s : Shared} {env : Env} {h₀ : Heap} {m : Str → Option Value} {l : Addr} {vs : List Value} {ns : List Int} {Q : Flow → Shared → Prop} {p1 p2 p3 p4 p5 p6 : Pos} {k3 : Nat} {body : List Stmt} (hh : A.handled = none)
    (F : Fr h₀ env.locals s.heap m) (hm : m (Str.ofString "script") = some (.ref l)) (hl : h₀.IsList l vs.toArray) (hI : IntsAre vs ns) (hlen : ns.length ≤ 63) (hek : env.scope.kind = .function) (hks : env.kindOf (Str.ofString "script") = some .local)
    (hx : env.kindOf (Str.ofString "x") = some .local) (hp : (env.scope.kind == .class || (env.scope.kind == .module && env.locals != env.globals)) = false)
    (hfs : ∀ x, foldedSetIterable (.Subscript (.Name (Str.ofString "script") p2) (.Slice none (some (.Constant (.int 4) k3 p3)) none p4) p5) env x = pure x)
    (I : Nat → (Str → Option Value) → Heap → Prop) (IK : ∀ i m h h', I i m h → (∀ b o, b ≠ env.locals → b < s.heap.objs.size → h.get? b = some o → h'.get? b = some o) → I i m h') (h0 : I 0 m s.heap)
    (turn : ∀ i n t m₁ h tk own, (ns.take 4)[i]? = some n → (∀ q ∈ own, s.heap.objs.size ≤ q.1) → I i m₁ h → Fr h₀ env.locals h (fun y => if y = Str.ofString "x" then some (.int n t) else m₁ y) → News h₀ env.locals h own →
      wpAny (model prog w) A (execs body env) (TurnEndH s h₀ env.locals own (I (i + 1))) (fun _ _ => False) { s with heap := h, toks := tk })
    (done : ∀ m₁ h tk, Fr h₀ env.locals h m₁ → I (ns.take 4).length m₁ h → Q .next { s with heap := h, toks := tk }) :
    wpAny (model prog w) A (exec (.For (.Name (Str.ofString "x") p1) (.Subscript (.Name (Str.ofString "script") p2) (.Slice none (some (.Constant (.int 4) k3 p3)) none p4) p5) body [] p6) env) Q (fun _ _ => False) s := by
  have hvl : vs.length = ns.length := hI.length
  refine wpAny_For (wpAny_Subscript_list_slice (wpAny_Name (wpAny_loadName_local hek hks F.ns hm ?_))) hfs
  refine wpAny_evalPart_none (wpAny_evalPart_some (wpAny_Constant_int ?_))
  refine ⟨l, vs.toArray, none, some 4, rfl, hl.at fun o e => F.keep _ o e, by rw [PySem.sizeLine_eq]; simp; omega, .none, .int 4 _, ?_⟩
  rw [show slicePick vs.toArray none (some 4) none = (vs.take 4).toArray from by have := slicePick_upto' vs.toArray 4; simpa using this]
  have e2 := Heap.get?_push_size (o := ({ cls := .type "list", data := .seq (vs.take 4).toArray } : Obj)) (s.heap.push { cls := .type "slice", data := .fields #[.none, .int 4 s.toks, .none] }) rfl
  rw [Heap.size_push] at e2
  have hl2 : (((s.heap.push { cls := .type "slice", data := .fields #[.none, .int 4 s.toks, .none] }).push { cls := .type "list", data := .seq (vs.take 4).toArray })).IsList (s.heap.objs.size + 1) (vs.take 4).toArray := ⟨_, e2, rfl, _, rfl⟩
  refine wpAny_pyIter_list hl2 ?_
  have hz : ((s.heap.push { cls := .type "slice", data := .fields #[.none, .int 4 s.toks, .none] }).push { cls := .type "list", data := .seq (vs.take 4).toArray }).objs.size = s.heap.objs.size + 2 := by rw [Heap.size_push, Heap.size_push]
  have hLs : env.locals < s.heap.objs.size := F.ns.lt
  have h0s : h₀.objs.size ≤ s.heap.objs.size := Nat.le_of_lt (Nat.lt_of_le_of_lt F.above hLs)
  have hI4 := hI.take 4
  refine for_listH (s := { s with heap := _, toks := s.toks + 1 }) (ax := s.heap.objs.size + 1) (items := (vs.take 4).toArray) (m₀ := m) hh hx hp ?_ ?_ ?_ ?_ ?_ I ?_ ⟨_, Heap.get?_push_size _ rfl, rfl, rfl⟩ (hl2.push _) (((F.push _).push _).push _) (IK _ _ _ _ h0 fun b o _ _ e => Heap.get?_push_of_some _ (Heap.get?_push_of_some _ (Heap.get?_push_of_some _ e))) ?_ ?_
  · rw [hz]; exact Nat.ne_of_lt (Nat.lt_of_lt_of_le hLs (Nat.le_add_right _ _))
  · exact Nat.ne_of_lt (Nat.lt_of_lt_of_le hLs (Nat.le_add_right _ _))
  · rw [hz]; exact Nat.ne_of_lt (Nat.lt_succ_self _)
  · rw [hz]; exact not_here (Nat.le_trans h0s (Nat.le_add_right _ _))
  · exact not_here (Nat.le_trans h0s (Nat.le_add_right _ _))
  · intro i m h h' hi hk
    refine IK i m h h' hi fun b o hb hbs e => hk b o hb (fun e' => ?_) e
    rw [hz] at e'
    rw [e'] at hbs
    exact absurd hbs (Nat.not_lt.mpr (Nat.le_add_right _ _))
  · intro i v m₁ h tk own hv hown hIi F' N'
    have hv' : (vs.take 4)[i]? = some v := by simpa using hv
    have hi : i < (ns.take 4).length := by
      have := (List.getElem?_eq_some_iff.mp hv').1
      have h4 := hI4.length
      omega
    obtain ⟨t, e⟩ := hI4.get i (ns.take 4)[i] (List.getElem?_eq_getElem hi)
    rw [hv'] at e
    have e := Option.some.inj e
    subst e
    refine mono0 (turn i (ns.take 4)[i] t m₁ h tk own (List.getElem?_eq_getElem hi) (fun q hq => ?_) hIi F' N') (fun f s₂ h₂ => h₂)
    rcases hown q hq with e | e
    · rw [e, hz]; exact Nat.le_add_right _ _
    · rw [e]; exact Nat.le_add_right _ _
  · intro m₁ h tk F' hIi
    have : (vs.take 4).toArray.size = (ns.take 4).length := by simpa using hI4.length
    rw [this] at hIi
    exact done m₁ h tk F' hIi
end Mine
namespace Mine
theorem SL.len {prog : Program} {w : World} {A : Around} {E : Value → Shared → Prop} {s : Shared} {D : Addr} {ws : List Nat} {Q : Value → Shared → Prop} (x : SL s.heap D ws) (hz : ws.length ≤ 1000)
    (h : Q (.int (ws.length : Int) (s.toks + 1)) { s with toks := s.toks + 1 + 1 }) : wpAny (model prog w) A (call (.builtin "len") [.ref D]) Q E s := by
  obtain ⟨items, hl, hst⟩ := x.strs
  have hl' : s.heap.IsList D items.toList.toArray := by simpa using hl
  refine len_strsA hl' hst (by rw [List.length_map]; omega) ?_
  rw [List.length_map]
  exact h
end Mine

end NbLaw2
section NbUse
open PySem PySem.W PyProof.Rows PySem.Calls
namespace Mine
theorem GivesSuch.use {prog : Program} {w : World} {K : Frag} {p : Program} {loose : List Str} {mean : ExcName → Option Value} {mg mb : Str → Option Value} {f : Addr} {args : List Value} {P : Str → Prop} (C : GivesSuch prog w K p loose mean mg mb f args P)
    {dp un : Nat} {fr : Option (List Env)} {gd : Option (List Code)} {s : Shared} {h₀ : Heap} {L : Addr} {m : Str → Option Value} {news : List (Addr × Obj)} {Q E : Value → Shared → Prop}
    (F : Fr h₀ L s.heap m) (N : News h₀ L s.heap news) (X : K.In h₀) (T : Top p loose mean mg mb h₀) (hdp : dp + 16 < recursionLimit) (hun : un + 200 < cLine)
    (h : ∀ r t h' tk', P r → Fr h₀ L h' m → News h₀ L h' news → Q (.str r t) { s with heap := h', toks := tk' }) :
    wpAny (model prog w) (Ar dp un fr gd) (call (.ref f) args) Q E s := by
  refine mono0 (C dp un fr gd s (X.keeps F.keep) (T.keeps F.keep) hdp hun) ?_
  rintro v s' ⟨r, t, h', tk', rfl, rfl, hk, hP⟩
  exact h r t h' tk' hP (F.keeps hk) (N.grown hk)
theorem GivesPair.use {prog : Program} {w : World} {K : Frag} {p : Program} {loose : List Str} {mean : ExcName → Option Value} {mg mb : Str → Option Value} {f : Addr} {args : List Value} {o n : Str} (C : GivesPair prog w K p loose mean mg mb f args o n)
    {dp un : Nat} {fr : Option (List Env)} {gd : Option (List Code)} {s : Shared} {h₀ : Heap} {L : Addr} {m : Str → Option Value} {news : List (Addr × Obj)} {Q E : Value → Shared → Prop}
    (F : Fr h₀ L s.heap m) (N : News h₀ L s.heap news) (X : K.In h₀) (T : Top p loose mean mg mb h₀) (hdp : dp + 16 < recursionLimit) (hun : un + 200 < cLine)
    (h : ∀ D t1 t2 z h' tk' gn', Fr h₀ L h' m → News h₀ L h' ((D, ({ cls := .type "list", data := .seq #[.str o t1, .str n t2] z } : Obj)) :: news) → (∀ p ∈ news, p.1 ≠ D) → (AllBare s.gens → AllBare gn') → Q (.ref D) { s with heap := h', toks := tk', gens := gn' }) :
    wpAny (model prog w) (Ar dp un fr gd) (call (.ref f) args) Q E s := by
  refine mono0 (C dp un fr gd s (X.keeps F.keep) (T.keeps F.keep) hdp hun) ?_
  rintro v s' ⟨D, h', tk', gn', t1, t2, z, rfl, rfl, hk, hD, hDo, hb⟩
  refine h D t1 t2 z h' tk' gn' (F.keeps hk) ?_ (fun q hq e => ?_) hb
  · intro q hq
    rcases List.mem_cons.mp hq with rfl | hq
    · refine ⟨hDo, fun e => ?_, ?_⟩
      · obtain ⟨oL, _, _, hoL, _⟩ := F.ns
        rw [show D = L from e, hoL] at hD
        cases hD
      · cases e : h₀.get? D with
        | none => rfl
        | some ob => rw [F.keep _ _ e] at hD; cases hD
    · exact ⟨hk _ _ (N q hq).1, (N q hq).2⟩
  · rw [← e, (N q hq).1] at hD
    cases hD
theorem sw_sgn {ws : List Nat} {n : Int} (h2 : 2 ≤ ws.length) (h : ∀ c ∈ ws, sgn c = true) : ∀ c ∈ sw ws n, sgn c = true := by
  have hat := (swAt_lt h2 n).1
  intro c hc
  unfold sw at hc
  rcases List.mem_or_eq_of_mem_set hc with hc | hc
  · rcases List.mem_or_eq_of_mem_set hc with hc | hc
    · exact h c hc
    · rw [hc, List.getD_eq_getElem?_getD, List.getElem?_eq_getElem hat]
      exact h _ (List.getElem_mem hat)
  · rw [hc, List.getD_eq_getElem?_getD, List.getElem?_eq_getElem (Nat.lt_of_succ_lt hat)]
    exact h _ (List.getElem_mem _)
theorem sws_sgn (ns : List Int) {ws : List Nat} (h2 : 2 ≤ ws.length) (h : ∀ c ∈ ws, sgn c = true) : ∀ c ∈ ns.foldl sw ws, sgn c = true := by
  induction ns generalizing ws with
  | nil => exact h
  | cons n r ih => rw [List.foldl_cons]; exact ih (by rw [sw_length]; exact h2) (sw_sgn h2 h)
theorem ch_sgn (n : Int) : sgn (ch n) = true := by
  have h := fmod8 n
  unfold ch
  obtain ⟨k, hk⟩ : ∃ k : Nat, (n.fmod 8).toNat = k := ⟨_, rfl⟩
  rw [hk]
  have : k < 8 := by omega
  match k, this with
  | 0, _ | 1, _ | 2, _ | 3, _ | 4, _ | 5, _ | 6, _ | 7, _ => rfl
theorem word_sgn (l : List Int) : ∀ c ∈ (Str.mk (l.map ch).toArray ++ Str.ofString "pdhqekpde").cps.toList, sgn c = true := by
  intro c hc
  rw [PySem.Str.cps_append, Array.toList_append, List.mem_append] at hc
  rcases hc with hc | hc
  · have hc' : c ∈ l.map ch := hc
    obtain ⟨n, _, rfl⟩ := List.mem_map.mp hc'
    exact ch_sgn n
  · have : (Str.ofString "pdhqekpde").cps.toList = [112, 100, 104, 113, 101, 107, 112, 100, 101] := by decide +kernel
    rw [this] at hc
    simp only [List.mem_cons, List.not_mem_nil, or_false] at hc
    rcases hc with rfl | rfl | rfl | rfl | rfl | rfl | rfl | rfl | rfl <;> rfl
end Mine

end NbUse
section NbPlain
open PySem PySem.W PyProof.Rows PySem.Calls
namespace Mine
open StrLaws Builtin Builtin.Str

/-- y is x with k pieces a, from left to right, put to b -/
inductive Rep (a b : List Nat) : List Nat → List Nat → Nat → Prop
  | refl (x : List Nat) : Rep a b x x 0
  | step (p : List Nat) {r r' : List Nat} {k : Nat} : Rep a b r r' k → Rep a b (p ++ a ++ r) (p ++ b ++ r') (k + 1)

theorem rep_parts (x a b : Str) : ∀ (cuts : List Nat) (s f : Nat), ChainTo x a x.length s cuts f → Rep a.cps.toList b.cps.toList (strSub x s x.length).cps.toList (Str.join b (partsFrom x a.length s cuts)).cps.toList cuts.length
  | [], _, _, _ => Rep.refl _
  | c :: r, s, f, h => by
    obtain ⟨p, q, e⟩ := partsFrom_ne x a.length (c + a.length) r
    have ih := rep_parts x a b r (c + a.length) f h.2.2
    show Rep _ _ _ (Str.join b (strSub x s c :: partsFrom x a.length (c + a.length) r)).cps.toList _
    rw [e] at ih ⊢
    show Rep _ _ _ (strSub x s c ++ b ++ Str.join b (p :: q)).cps.toList _
    rw [← sub_cat x a h.1 h.2.1]
    simp only [PySem.Str.cps_append, Array.toList_append]
    exact .step _ ih

theorem rp_rep (a b x : Str) : ∃ k, Rep a.cps.toList b.cps.toList x.cps.toList (rp a b x).cps.toList k ∧ (k = 0 → ∀ i, ¬ At x a x.length i) := by
  unfold rp Txt.join
  rw [glued_eq_join]
  unfold Txt.split
  split
  · rename_i hc
    refine ⟨0, Rep.refl _, fun _ i hi => ?_⟩
    rw [Bool.or_eq_true, decide_eq_true_eq, decide_eq_true_eq] at hc
    rcases hc with hc | hc
    · have := hi.1
      omega
    · exact absurd (kind_le _ _ hi.2) (Nat.not_le.mpr hc)
  · split
    · rename_i he
      refine ⟨0, Rep.refl _, fun _ => ?_⟩
      rcases occ_head x a (x.length + 1) (by omega) with ⟨_, h⟩ | ⟨i, r, e, _⟩
      · exact h
      · rw [e] at he; cases he
    · rename_i he
      obtain ⟨f, h⟩ := occ_chain x a (x.length + 1)
      refine ⟨(occurrences x a 0 x.length (x.length + 1)).length, ?_, fun hk => ?_⟩
      · have := rep_parts x a b _ 0 f h
        rw [sub_whole] at this
        rw [partsBetween_eq]
        exact this
      · rw [List.length_eq_zero_iff] at hk
        rw [hk] at he
        exact absurd rfl he

theorem not_at {x a : Str} {p r : List Nat} (h : ∀ i, ¬ At x a x.length i) : x.cps.toList ≠ p ++ a.cps.toList ++ r := fun e => by
  refine h p.length ⟨?_, ?_⟩
  · have : x.length = x.cps.toList.length := by simp [Str.length]
    have h2 : a.length = a.cps.toList.length := by simp [Str.length]
    rw [this, h2, e]
    simp
  · have h2 : a.length = a.cps.toList.length := by simp [Str.length]
    rw [subAt_eq, e, h2, List.append_assoc, List.drop_left, List.take_left]
    simp

namespace Rep
variable {a b x y : List Nat} {k : Nat}
theorem filter (f : Nat → Bool) (h : a.filter f = b.filter f) (r : Rep a b x y k) : y.filter f = x.filter f := by
  induction r with
  | refl => rfl
  | step p _ ih => simp only [List.filter_append, h, ih]
theorem all (P : Nat → Prop) (h : ∀ c ∈ b, P c) (r : Rep a b x y k) : (∀ c ∈ x, P c) → ∀ c ∈ y, P c := by
  induction r with
  | refl => exact fun h => h
  | step p _ ih =>
    intro hx c hc
    simp only [List.mem_append] at hc hx
    rcases hc with (hc | hc) | hc
    · exact hx c (.inl (.inl hc))
    · exact h c hc
    · exact ih (fun c hc => hx c (.inr hc)) c hc
theorem same (r : Rep a b x y k) (hk : k = 0) : y = x := by
  cases r with
  | refl => rfl
  | step => cases hk
end Rep

/-- how often a sign p or q stands ahead of a sign d or e -/
def inv : List Nat → Nat
  | [] => 0
  | c :: r => (if isPQ c then (r.filter isDE).length else 0) + inv r

theorem Rep.inv {u v : Nat} (hu : isPQ u = true) (hv : isDE v = true) {x y : List Nat} {k : Nat} (r : Rep [u, v] [v, u] x y k) : Mine.inv x = Mine.inv y + k := by
  have hu' : isDE u = false := by
    simp only [isPQ, isDE, Bool.or_eq_true, Bool.or_eq_false_iff, beq_iff_eq, beq_eq_false_iff_ne] at hu ⊢
    omega
  have hv' : isPQ v = false := by
    simp only [isPQ, isDE, Bool.or_eq_true, Bool.or_eq_false_iff, beq_iff_eq, beq_eq_false_iff_ne] at hv ⊢
    omega
  have hf : [u, v].filter isDE = [v, u].filter isDE := by simp [hu', hv]
  induction r with
  | refl => rfl
  | @step p r r' k h ih =>
    have h1 := h.filter isDE hf
    induction p with
    | nil =>
      simp only [List.nil_append, List.cons_append, Mine.inv, hu, hv', hv, hu', List.filter_cons, if_true, Bool.false_eq_true, if_false, List.length_cons, h1]
      omega
    | cons c p ihp =>
      simp only [List.cons_append, Mine.inv]
      rw [ihp]
      have h2 : ((p ++ [u, v] ++ r).filter isDE).length = ((p ++ [v, u] ++ r').filter isDE).length := by
        simp only [List.filter_append, h1, hf]
      rw [h2]
      omega

def mu (x : Str) : Nat := inv x.cps.toList

theorem rd_steps (x : Str) : ∃ y1 y2 y3 : Str, ∃ k1 k2 k3 k4 : Nat, Rep [112, 100] [100, 112] x.cps.toList y1.cps.toList k1 ∧ Rep [112, 101] [101, 112] y1.cps.toList y2.cps.toList k2 ∧ Rep [113, 100] [100, 113] y2.cps.toList y3.cps.toList k3 ∧ Rep [113, 101] [101, 113] y3.cps.toList (rd x).cps.toList k4 ∧
    (k1 = 0 → ∀ i, ¬ At x (Str.ofString "pd") x.length i) ∧ (k2 = 0 → ∀ i, ¬ At y1 (Str.ofString "pe") y1.length i) ∧ (k3 = 0 → ∀ i, ¬ At y2 (Str.ofString "qd") y2.length i) ∧ (k4 = 0 → ∀ i, ¬ At y3 (Str.ofString "qe") y3.length i) := by
  obtain ⟨k1, r1, n1⟩ := rp_rep (Str.ofString "pd") (Str.ofString "dp") x
  obtain ⟨k2, r2, n2⟩ := rp_rep (Str.ofString "pe") (Str.ofString "ep") (rp (Str.ofString "pd") (Str.ofString "dp") x)
  obtain ⟨k3, r3, n3⟩ := rp_rep (Str.ofString "qd") (Str.ofString "dq") (rp (Str.ofString "pe") (Str.ofString "ep") (rp (Str.ofString "pd") (Str.ofString "dp") x))
  obtain ⟨k4, r4, n4⟩ := rp_rep (Str.ofString "qe") (Str.ofString "eq") (rp (Str.ofString "qd") (Str.ofString "dq") (rp (Str.ofString "pe") (Str.ofString "ep") (rp (Str.ofString "pd") (Str.ofString "dp") x)))
  exact ⟨_, _, _, k1, k2, k3, k4, r1, r2, r3, r4, n1, n2, n3, n4⟩



theorem rd_still (x : Str) : mu (rd x) < mu x ∨ (rd x = x ∧ (∀ i, ¬ At x (Str.ofString "pd") x.length i) ∧ (∀ i, ¬ At x (Str.ofString "pe") x.length i) ∧ (∀ i, ¬ At x (Str.ofString "qd") x.length i) ∧ (∀ i, ¬ At x (Str.ofString "qe") x.length i)) := by
  obtain ⟨y1, y2, y3, k1, k2, k3, k4, r1, r2, r3, r4, n1, n2, n3, n4⟩ := rd_steps x
  have e1 := r1.inv rfl rfl
  have e2 := r2.inv rfl rfl
  have e3 := r3.inv rfl rfl
  have e4 := r4.inv rfl rfl
  unfold mu
  by_cases hk : k1 + k2 + k3 + k4 = 0
  · right
    have s1 := str_ext (r1.same (by omega))
    subst s1
    have s2 := str_ext (r2.same (by omega))
    subst s2
    have s3 := str_ext (r3.same (by omega))
    subst s3
    have s4 := str_ext (r4.same (by omega))
    exact ⟨s4, n1 (by omega), n2 (by omega), n3 (by omega), n4 (by omega)⟩
  · left
    omega

theorem mu_lt : ∀ y, rd y ≠ y → mu (rd y) < mu y := fun y h => by
  rcases rd_still y with h1 | h1
  · exact h1
  · exact absurd h1.1 h
theorem rd_nil : rd (Str.ofString "") = Str.ofString "" := by
  rcases rd_still (Str.ofString "") with h1 | h1
  · exact absurd h1 (Nat.not_lt_zero _)
  · exact h1.1

theorem mem_join {b : Str} {c : Nat} : ∀ {ys : List Str}, c ∈ (Str.join b ys).cps.toList → c ∈ b.cps.toList ∨ ∃ y ∈ ys, c ∈ y.cps.toList
  | [], h => by simp [Str.join, Str.empty] at h
  | [y], h => .inr ⟨y, .head _, h⟩
  | y :: z :: r, h => by
    have h' : c ∈ (y ++ b ++ Str.join b (z :: r)).cps.toList := h
    simp only [PySem.Str.cps_append, Array.toList_append, List.mem_append] at h'
    rcases h' with (h' | h') | h'
    · exact .inr ⟨y, .head _, h'⟩
    · exact .inl h'
    · rcases mem_join h' with h2 | ⟨y', hy, h2⟩
      · exact .inl h2
      · exact .inr ⟨y', .tail _ hy, h2⟩

theorem rp_gone (c : Nat) (x : Str) : c ∉ (rp ⟨#[c]⟩ (Str.ofString "") x).cps.toList := fun h => by
  unfold rp Txt.join at h
  rw [glued_eq_join] at h
  rcases mem_join h with h | ⟨y, hy, h⟩
  · have e : (Str.ofString "").cps.toList = [] := by decide +kernel
    rw [e] at h
    cases h
  · exact split_free x c y hy h

theorem st_steps (x : Str) : ∃ y : Str, ∃ k1 k2 : Nat, Rep [103] [] x.cps.toList y.cps.toList k1 ∧ Rep [104] [] y.cps.toList (st x).cps.toList k2 ∧ 103 ∉ y.cps.toList ∧ 104 ∉ (st x).cps.toList := by
  obtain ⟨k1, r1, _⟩ := rp_rep (Str.ofString "g") (Str.ofString "") x
  obtain ⟨k2, r2, _⟩ := rp_rep (Str.ofString "h") (Str.ofString "") (rp (Str.ofString "g") (Str.ofString "") x)
  exact ⟨_, k1, k2, r1, r2, rp_gone 103 x, rp_gone 104 _⟩

theorem comes_all {x r : Str} (P : Nat → Prop) (hP : P 100 ∧ P 101 ∧ P 112 ∧ P 113) (hx : ∀ c ∈ x.cps.toList, P c) (h : Comes x r) : ∀ c ∈ r.cps.toList, P c := by
  obtain ⟨p0, p1, p2, p3⟩ := hP
  induction h with
  | start =>
    obtain ⟨y, k1, k2, r1, r2, _⟩ := st_steps x
    exact r2.all P (by simp) (r1.all P (by simp) hx)
  | @round y _ ih =>
    obtain ⟨y1, y2, y3, k1, k2, k3, k4, r1, r2, r3, r4, _⟩ := rd_steps y
    exact r4.all P (by simp [*]) (r3.all P (by simp [*]) (r2.all P (by simp [*]) (r1.all P (by simp [*]) ih)))

theorem comes_sgn {x r : Str} (hx : ∀ c ∈ x.cps.toList, sgn c = true) (h : Comes x r) : ∀ c ∈ r.cps.toList, sgn c = true :=
  comes_all (fun c => sgn c = true) ⟨rfl, rfl, rfl, rfl⟩ hx h

theorem comes_gone {x r : Str} (h : Comes x r) : ∀ c ∈ r.cps.toList, c ≠ 103 ∧ c ≠ 104 := by
  induction h with
  | start =>
    obtain ⟨y, k1, k2, r1, r2, n1, n2⟩ := st_steps x
    intro c hc
    refine ⟨r2.all (fun c => c ≠ 103) (by simp) (fun c hc e => n1 (e ▸ hc)) c hc, fun e => n2 (e ▸ hc)⟩
  | @round y _ ih =>
    obtain ⟨y1, y2, y3, k1, k2, k3, k4, r1, r2, r3, r4, _⟩ := rd_steps y
    exact r4.all _ (by simp) (r3.all _ (by simp) (r2.all _ (by simp) (r1.all _ (by simp) ih)))

theorem comes_side {x r : Str} (_hx : ∀ c ∈ x.cps.toList, sgn c = true) (h : Comes x r) {k : Int} (hk : k = 1 ∨ k = 2) : side k r = side k x := by
  unfold side
  have e : r.cps.toList.filter (pass k) = x.cps.toList.filter (pass k) := by
    induction h with
    | start =>
      obtain ⟨y, k1, k2, r1, r2, _⟩ := st_steps x
      rw [r2.filter _ (by rcases hk with rfl | rfl <;> decide), r1.filter _ (by rcases hk with rfl | rfl <;> decide)]
    | @round y _ ih =>
      obtain ⟨y1, y2, y3, k1, k2, k3, k4, r1, r2, r3, r4, _⟩ := rd_steps y
      rw [r4.filter _ (by rcases hk with rfl | rfl <;> decide), r3.filter _ (by rcases hk with rfl | rfl <;> decide), r2.filter _ (by rcases hk with rfl | rfl <;> decide), r1.filter _ (by rcases hk with rfl | rfl <;> decide), ih]
  rw [e]

/-- no p or q right ahead of a d or e -/
def Calm : List Nat → Prop
  | c :: e :: t => ¬ (isPQ c = true ∧ isDE e = true) ∧ Calm (e :: t)
  | _ => True

theorem calm_of : ∀ {x : List Nat}, (∀ p u v r, isPQ u = true → isDE v = true → x ≠ p ++ [u, v] ++ r) → Calm x
  | [], _ => trivial
  | [_], _ => trivial
  | c :: e :: t, h => ⟨fun hc => h [] c e t hc.1 hc.2 rfl, calm_of fun p u v r hu hv he => h (c :: p) u v r hu hv (by rw [he]; rfl)⟩

theorem Calm.tail {c : Nat} : ∀ {t : List Nat}, Calm (c :: t) → Calm t
  | [], _ => trivial
  | _ :: _, h => h.2

def fOld (c : Nat) : Bool := isKM c || isDE c
def fNew (c : Nat) : Bool := isKM c || isPQ c
def pure4 (c : Nat) : Prop := isKM c = true ∨ isDE c = true ∨ isPQ c = true

theorem km_not {c : Nat} (h : isKM c = true) : isDE c = false ∧ isPQ c = false := by
  simp only [isKM, isPQ, isDE, Bool.or_eq_true, Bool.or_eq_false_iff, beq_iff_eq, beq_eq_false_iff_ne] at h ⊢
  omega
theorem de_not {c : Nat} (h : isDE c = true) : isKM c = false ∧ isPQ c = false := by
  simp only [isKM, isPQ, isDE, Bool.or_eq_true, Bool.or_eq_false_iff, beq_iff_eq, beq_eq_false_iff_ne] at h ⊢
  omega
theorem pq_not {c : Nat} (h : isPQ c = true) : isKM c = false ∧ isDE c = false := by
  simp only [isKM, isPQ, isDE, Bool.or_eq_true, Bool.or_eq_false_iff, beq_iff_eq, beq_eq_false_iff_ne] at h ⊢
  omega

theorem mrg_pq {c : Nat} (hc : isPQ c = true) : ∀ {old : List Nat} (new : List Nat), (∀ d ∈ old.head?, isDE d = false) → mrg old (c :: new) = c :: mrg old new
  | [], new, _ => rfl
  | d :: old, new, h => by
    have hd : isDE d = false := h d rfl
    simp only [mrg, hd, Bool.false_eq_true, if_false, List.takeWhile_cons, List.dropWhile_cons, hc, if_true, List.cons_append]

theorem head_old : ∀ {c : Nat} {t : List Nat}, isPQ c = true → Calm (c :: t) → (∀ e ∈ t, pure4 e) → ∀ d ∈ (t.filter fOld).head?, isDE d = false
  | _, [], _, _, _, d, h => by cases h
  | c, e :: t, hc, hC, hp, d, h => by
    rcases hp e (.head _) with h1 | h1 | h1
    · have : fOld e = true := by simp [fOld, h1]
      rw [List.filter_cons_of_pos this] at h
      cases h
      exact (km_not h1).1
    · exact absurd ⟨hc, h1⟩ hC.1
    · have : ¬ fOld e = true := by simp [fOld, (pq_not h1).1, (pq_not h1).2]
      rw [List.filter_cons_of_neg this] at h
      exact head_old h1 hC.2 (fun e he => hp e (.tail _ he)) d h

theorem mrg_calm : ∀ {x : List Nat}, Calm x → (∀ e ∈ x, pure4 e) → mrg (x.filter fOld) (x.filter fNew) = x
  | [], _, _ => rfl
  | c :: t, hC, hp => by
    have ih := mrg_calm hC.tail (fun e he => hp e (.tail _ he))
    rcases hp c (.head _) with h1 | h1 | h1
    · have e1 : fOld c = true := by simp [fOld, h1]
      have e2 : fNew c = true := by simp [fNew, h1]
      rw [List.filter_cons_of_pos e1, List.filter_cons_of_pos e2]
      simp only [mrg, (km_not h1).1, (km_not h1).2, Bool.false_eq_true, if_false, List.takeWhile_cons, List.dropWhile_cons, List.nil_append, List.drop_succ_cons, List.drop_zero]
      rw [ih]
    · have e1 : fOld c = true := by simp [fOld, h1]
      have e2 : ¬ fNew c = true := by simp [fNew, (de_not h1).1, (de_not h1).2]
      rw [List.filter_cons_of_pos e1, List.filter_cons_of_neg e2]
      simp only [mrg, h1, if_true]
      rw [ih]
    · have e1 : ¬ fOld c = true := by simp [fOld, (pq_not h1).1, (pq_not h1).2]
      have e2 : fNew c = true := by simp [fNew, h1]
      rw [List.filter_cons_of_neg e1, List.filter_cons_of_pos e2, mrg_pq h1 _ (head_old h1 hC (fun e he => hp e (.tail _ he))), ih]

theorem rest_eq {x r : Str} (hx : ∀ c ∈ x.cps.toList, sgn c = true) (h : Comes x r) (hr : rd r = r) : r = ⟨(mrg (side 1 x).cps.toList (side 2 x).cps.toList).toArray⟩ := by
  have hs := comes_sgn hx h
  have hg := comes_gone h
  rw [← comes_side hx h (.inl rfl), ← comes_side hx h (.inr rfl)]
  have e1 : (side 1 r).cps.toList = r.cps.toList.filter fOld := by
    show r.cps.toList.filter (pass 1) = _
    refine List.filter_congr fun c hc => ?_
    rcases sgn_cases (hs c hc) with rfl | rfl | rfl | rfl | rfl | rfl | rfl | rfl <;> decide
  have e2 : (side 2 r).cps.toList = r.cps.toList.filter fNew := by
    show r.cps.toList.filter (pass 2) = _
    refine List.filter_congr fun c hc => ?_
    rcases sgn_cases (hs c hc) with rfl | rfl | rfl | rfl | rfl | rfl | rfl | rfl <;> decide
  rw [e1, e2]
  have hC : Calm r.cps.toList := calm_of fun p u v t hu hv => by
    rcases rd_still r with h1 | ⟨_, n1, n2, n3, n4⟩
    · rw [hr] at h1; exact absurd h1 (Nat.lt_irrefl _)
    · simp only [isPQ, isDE, Bool.or_eq_true, beq_iff_eq] at hu hv
      rcases hu with rfl | rfl <;> rcases hv with rfl | rfl
      · exact not_at n1
      · exact not_at n2
      · exact not_at n3
      · exact not_at n4
  have hp : ∀ e ∈ r.cps.toList, pure4 e := fun e he => by
    have := hg e he
    rcases sgn_cases (hs e he) with rfl | rfl | rfl | rfl | rfl | rfl | rfl | rfl
    · exact .inl rfl
    · exact .inl rfl
    · exact .inr (.inl rfl)
    · exact .inr (.inl rfl)
    · exact .inr (.inr rfl)
    · exact .inr (.inr rfl)
    · exact absurd rfl this.1
    · exact absurd rfl this.2
  rw [mrg_calm hC hp]
end Mine

end NbPlain
section NbEq2
open PySem PySem.W PyProof.Rows PySem.Calls PySem.Spec
namespace Mine
theorem side_ok {x : Str} (k : Int) (hx : ∀ c ∈ x.cps.toList, sgn c = true) : PyData.strOk (side k x) = true := by
  unfold PyData.strOk side
  simp only [List.all_toArray, List.all_eq_true, List.mem_filter, decide_eq_true_eq]
  rintro c ⟨hc, -⟩
  have := sgn_cases (hx c hc)
  omega
theorem shaped_two {a b : Str} (ha : PyData.strOk a = true) (hb : PyData.strOk b = true) : SeqAt.shaped (.list [.str a, .str b]) = true := by
  simp [SeqAt.shaped, PyData.canLay0, PyData.canLayAll0, PyData.depth, PyData.depthAll, ha, hb]
theorem same_two (a b c d : Str) : PySem.Spec.same (.list [.str a, .str b]) (.list [.str c, .str d]) = decide (a = c ∧ b = d) := by
  simp only [PySem.Spec.same, PySem.Spec.sameAll]
  by_cases h : a = c <;> by_cases h' : b = d <;> simp [h, h']
section
variable {prog : Program} {w : World} {A : Around} {E : Value → Shared → Prop} {s : Shared} {x y : Addr} {a b : Str} {t1 t2 t3 t4 : Tok} {Q : Value → Shared → Prop}
theorem eq_sides (hx : s.heap.IsList x #[.str (side 1 a) t1, .str (side 2 a) t2]) (hy : s.heap.IsList y #[.str (side 1 b) t3, .str (side 2 b) t4]) (ha : ∀ c ∈ a.cps.toList, sgn c = true) (hb : ∀ c ∈ b.cps.toList, sgn c = true) (hu : A.units + 64 < cLine) (h : Q (.bool (decide (side 1 a = side 1 b ∧ side 2 a = side 2 b))) s) :
    wpAny (model prog w) A (compareOp .Eq (.ref x) (.ref y)) Q E s :=
  eq_dataH_same (reads_newData hx (.cons (.str _ t1) (.cons (.str _ t2) .nil))) (reads_newData hy (.cons (.str _ t3) (.cons (.str _ t4) .nil))) (shaped_two (side_ok _ ha) (side_ok _ ha)) (shaped_two (side_ok _ hb) (side_ok _ hb)) hu (SeqAt.noMix_of_shape (.list .str) rfl _ _ rfl rfl) (by rw [same_two]; exact h)
theorem ne_sides (hx : s.heap.IsList x #[.str (side 1 a) t1, .str (side 2 a) t2]) (hy : s.heap.IsList y #[.str (side 1 b) t3, .str (side 2 b) t4]) (ha : ∀ c ∈ a.cps.toList, sgn c = true) (hb : ∀ c ∈ b.cps.toList, sgn c = true) (hu : A.units + 64 < cLine) (h : Q (.bool (!decide (side 1 a = side 1 b ∧ side 2 a = side 2 b))) s) :
    wpAny (model prog w) A (compareOp .NotEq (.ref x) (.ref y)) Q E s :=
  ne_dataH_same (reads_newData hx (.cons (.str _ t1) (.cons (.str _ t2) .nil))) (reads_newData hy (.cons (.str _ t3) (.cons (.str _ t4) .nil))) (shaped_two (side_ok _ ha) (side_ok _ ha)) (shaped_two (side_ok _ hb) (side_ok _ hb)) hu (SeqAt.noMix_of_shape (.list .str) rfl _ _ rfl rfl) (by rw [same_two]; exact h)
end
end Mine

end NbEq2
section NbLaw
open PySem PySem.W PyProof.Rows PySem.Calls
namespace Mine
open PySem.Challenge
local macro_rules | `(tactic| walk_at "eval ListComp") => `(tactic| refine Park.of ?_)
local macro_rules | `(tactic| walk_at "exec For") => `(tactic| refine Park.of ?_)
local macro_rules | `(tactic| walk_at "exec For Name Subscript cons nil") => `(tactic| refine Park.of ?_)
local macro_rules | `(tactic| walk_at "call builtin:str.join") => `(tactic| ((rename StrsAre _ _ => hst); (rename News _ _ _ _ => kN); (k_dflt (first | refine join_side (News.isList kN (by k_mem)) hst (by assumption) ?_ | refine join_side (by assumption) hst (by assumption) ?_)); clear hst; intro tJ kJ; try dsimp only))
local macro_rules | `(tactic| size_fits) => `(tactic| (rw [PySem.sizeLine_eq]; (try simp only [len1, PySem.Str.length_append]); omega))
local macro_rules | `(tactic| walk_at "call type:list") => `(tactic| ((rename Fr _ _ _ _ => kF); (k_dflt (refine list_word rfl kF (by omega) ?_)); clear kF; intro DS hS kS accS cS F' N' hstS; try dsimp only))
local macro_rules | `(tactic| walk_at "subscriptTail Name Name ref int") => `(tactic| refine Park.of ?_)
local macro_rules | `(tactic| walk_at "subscriptTail Name BinOp ref int") => `(tactic| refine Park.of ?_)
local macro_rules | `(tactic| walk_at "setItem ref int str") => `(tactic| refine Park.of ?_)
local macro_rules | `(tactic| walk_at "setItem ref int") => `(tactic| refine Park.of ?_)
local macro_rules | `(tactic| walk_at "call builtin:len") => `(tactic| ((rename SL _ _ _ => hSL'); (k_dflt (refine SL.len hSL' (by assumption) ?_)); try dsimp only))
local macro_rules | `(tactic| walk_at "call ref") => `(tactic| ((rename Fr _ _ _ _ => kF); (rename News _ _ _ _ => kN); (k_dflt (refine GivesPair.use (sides_ok _ _ (by first | assumption | omega) (by assumption)) kF kN (by assumption) (by assumption) (by simp only [depth_deeper]; omega) (by simp only [units_deeper]; omega) ?_)); clear kF kN; intro DP tP1 tP2 zP hP kP gnP F' N' hneP hbP; try dsimp only))
local macro_rules | `(tactic| walk_at "call ref") => `(tactic| ((rename Fr _ _ _ _ => kF); (rename News _ _ _ _ => kN); (k_dflt (refine GivesStr.use (merged_ok _ _ _ _ (by assumption)) kF kN (by assumption) (by assumption) (by simp only [depth_deeper]; omega) (by simp only [units_deeper]; omega) ?_)); clear kF kN; intro tM hM kM F' N'; try dsimp only))
local macro_rules | `(tactic| walk_at "call ref") => `(tactic| ((rename Fr _ _ _ _ => kF); (rename News _ _ _ _ => kN); (k_dflt (refine GivesSuch.use (at_rest_ok _ _ (by first | assumption | omega) mu mu_lt rd_nil) kF kN (by assumption) (by assumption) (by simp only [depth_deeper]; omega) (by simp only [units_deeper]; omega) ?_)); clear kF kN; intro rR tR hR kR hcR F' N'; (have hcS := comes_sgn (by assumption) hcR.1); (have hcL := hcR.1.length); (have hcE := rest_eq (by assumption) hcR.1 hcR.2); try dsimp only))
theorem law_true {W V r r' : Str} (hW : ∀ c ∈ W.cps.toList, sgn c = true) (hV : ∀ c ∈ V.cps.toList, sgn c = true) (c1 : Comes W r ∧ rd r = r) (c2 : Comes V r' ∧ rd r' = r') : (decide (side 1 V = side 1 W ∧ side 2 V = side 2 W) == (r' == r)) = true := by
  have e1 := rest_eq hW c1.1 c1.2
  have e2 := rest_eq hV c2.1 c2.2
  rw [beq_iff_eq]
  by_cases h : side 1 V = side 1 W ∧ side 2 V = side 2 W
  · rw [h.1, h.2, ← e1] at e2
    simp [h, e2]
  · have hne : r' ≠ r := fun e => h (by
      subst e
      exact ⟨(comes_side hV c2.1 (.inl rfl)).symm.trans (comes_side hW c1.1 (.inl rfl)), (comes_side hV c2.1 (.inr rfl)).symm.trans (comes_side hW c1.1 (.inr rfl))⟩)
    simp [h, hne]
theorem ne_strF {prog : Program} {w : World} {A : Around} {E : Value → Shared → Prop} {s : Shared} {x y : Str} {t u : Tok} {Q : Value → Shared → Prop} (e : x = y) (h : Q (.bool false) s) : wpAny (model prog w) A (compareOp .NotEq (.str x t) (.str y u)) Q E s :=
  ne_str (by subst e; simpa using h)
theorem ne_sidesF {prog : Program} {w : World} {A : Around} {E : Value → Shared → Prop} {s : Shared} {x y : Addr} {a b : Str} {t1 t2 t3 t4 : Tok} {Q : Value → Shared → Prop} (hx : s.heap.IsList x #[.str (side 1 a) t1, .str (side 2 a) t2]) (hy : s.heap.IsList y #[.str (side 1 b) t3, .str (side 2 b) t4]) (ha : ∀ c ∈ a.cps.toList, sgn c = true) (hb : ∀ c ∈ b.cps.toList, sgn c = true) (hu : A.units + 64 < cLine) (hc : Comes b a) (h : Q (.bool false) s) :
    wpAny (model prog w) A (compareOp .NotEq (.ref x) (.ref y)) Q E s :=
  ne_sides hx hy ha hb hu (by rw [comes_side hb hc (.inl rfl), comes_side hb hc (.inr rfl)]; simpa using h)
local macro_rules | `(tactic| walk_at "compareOp NotEq str str") => `(tactic| (k_dflt (refine ne_strF (by assumption) ?_); try dsimp only))
local macro_rules | `(tactic| walk_at "compareOp NotEq ref ref") => `(tactic| ((rename News _ _ _ _ => kN); (rename Comes _ _ ∧ _ => hcN); (k_dflt (refine ne_sidesF (News.isList kN (by k_mem)) (News.isList kN (by k_mem)) (by assumption) (by assumption) (by simp only [units_deeper]; omega) hcN.1 ?_)); try dsimp only))
local macro_rules | `(tactic| walk_at "compareOp Eq ref ref") => `(tactic| ((rename News _ _ _ _ => kN); (k_dflt (refine eq_sides (News.isList kN (by k_mem)) (News.isList kN (by k_mem)) (by assumption) (by assumption) (by simp only [units_deeper]; omega) ?_)); try dsimp only))
set_option maxRecDepth 100000 in
set_option maxHeartbeats 8000000 in
theorem law_ok {w : World} {p : Program} {loose : List Str} {mean : ExcName → Option Value} {mg mb : Str → Option Value} (l : Addr) (vs : List Value) (ns : List Int) (hI : IntsAre vs ns) (hlen : ns.length ≤ 63) (dp un : Nat) (fr : Option (List Env)) (gd : Option (List Code)) (s : Shared) (hdp : dp + 32 < recursionLimit) (hun : un + 400 < cLine) (hl : s.heap.IsList l vs.toArray) :
   (hd.heap_39 w.params).In s.heap → Top p loose mean mg mb s.heap → codeAny (model rw_nb0029_01.row.prog w) (Ar dp un fr gd) (.call (.ref 52) ⟨[.ref l], []⟩) (LawBack s) s := by
  k_fill
  intro X T
  k_dflt (refine' enterCode (binds := [(Str.ofString "script", .ref l)]) ?k3 ?k5 ?k6 ?k7 ?k8 ?k9 ?kB ?_ ?c2 ?c3 ?c4 ?c5; (case k3 => k_asm); (case k5 => k_asm); (case k6 => k_is); (case k7 => k_is); (case k8 => exact Nat.lt_of_le_of_lt (Nat.le_add_right _ _) hdp); (case k9 => exact BindsTo.of_eq rfl); (case c5 => decide); (case kB => exact locs rfl); (case c2 => exact rfl); (case c3 => exact rfl); (case c4 => exact rfl); k_whole; intro h₁ F N; (try dsimp only); (try k_fold))
  k_steps
  rename Fr _ _ _ _ => F1
  unfold Park
  refine comp_word rfl F1 rfl hl hI hlen rfl rfl (by decide) (by decide) rfl (by decide) rfl (fun _ => rfl) ?_
  clear F1 N
  intro D h' tk ys z F2 N2 hst
  have hl24 : ((ns.take 24).map ch).length ≤ 1000 := by rw [List.length_map, List.length_take]; omega
  obtain ⟨W0, hW0⟩ : ∃ W0, W0 = (ns.take 24).map ch := ⟨_, rfl⟩
  have hz0 : (Str.mk W0.toArray).length ≤ 24 := by rw [hW0]; unfold Str.length; simp; omega
  rw [← hW0] at hst hl24
  dsimp only
  k_unmd
  have hz9 : (Str.mk W0.toArray ++ Str.ofString "pdhqekpde").length ≤ 33 := by rw [PySem.Str.length_append]; have : (Str.ofString "pdhqekpde").length = 9 := by decide +kernel
                                                                               omega
  obtain ⟨W, hW⟩ : ∃ W, W = Str.mk W0.toArray ++ Str.ofString "pdhqekpde" := ⟨_, rfl⟩
  k_steps
  rename Fr _ _ _ _ => F3
  rename News _ _ _ _ => N3
  rename StrsAre _ _ => hst3
  have hSL := SL.of_strs (N3.isList (.head _)) hst3
  have hDL := (N3 _ (.head _)).2.1
  have hDn := (N3 _ (.head _)).2.2
  have hDs := Heap.lt_size (N3 _ (.head _)).1
  clear hst3 N3 F2
  unfold Park
  dsimp only at hDL hDn hDs hSL
  rw [← hW] at hSL F3 hz9
  have hWl : W.cps.toList.length ≤ 1000 := by simpa [Str.length] using (Nat.le_trans hz9 (by decide))
  have hW2 : 2 ≤ W.cps.toList.length := by
    rw [hW, PySem.Str.cps_append, Array.toList_append, List.length_append]
    have : (Str.ofString "pdhqekpde").cps.toList.length = 9 := by decide +kernel
    omega
  rename_i DS hS0 kS0 accS0 cS0 h3
  refine for_script rfl F3 rfl hl hI hlen rfl rfl rfl rfl (fun _ => rfl) (I := fun i m h => (∃ t, m (Str.ofString "word") = some (.str W t)) ∧ m (Str.ofString "signs") = some (.ref DS) ∧ SL h DS ((ns.take i).foldl sw W.cps.toList)) ?f1 ?f2 ?f3 ?f4
  case f1 =>
    rintro i m h h' ⟨j1, j2, j3⟩ hk
    exact ⟨j1, j2, j3.at fun o e => hk _ o hDL hDs e⟩
  case f2 => exact ⟨⟨_, rfl⟩, rfl, by simpa using hSL⟩
  case f3 =>
    rintro i n t m₁ h tk own hn hown ⟨⟨tw, j1⟩, j2, j3⟩ F4 N4
    rw [← ov_self (m := m₁) (l := [(Str.ofString "word", .str W tw), (Str.ofString "signs", .ref DS)]) (by simp [j1, j2])] at F4
    clear F3
    obtain ⟨ws, hws⟩ : ∃ ws, ws = (ns.take i).foldl sw W.cps.toList := ⟨_, rfl⟩
    rw [← hws] at j3
    have hwl : ws.length = W.cps.toList.length := by rw [hws, sws_length]
    have hw1 : ws.length ≤ 1000 := by rw [hwl]; exact hWl
    have hat := swAt_lt (show 2 ≤ ws.length by rw [hwl]; exact hW2) n
    have hne : (ws.length : Int) - 1 ≠ 0 := by omega
    have hown' : ∀ q ∈ own, q.1 ≠ DS := fun q hq e => absurd hDs (Nat.not_lt.mpr (e ▸ hown q hq))
    obtain ⟨its, hits, hitz, hitv⟩ := id j3
    obtain ⟨oD, hoD, _⟩ := hits
    have N5 : News s.heap _ h ((DS, oD) :: own) := fun q hq => by
      rcases List.mem_cons.mp hq with rfl | hq
      · exact ⟨hoD, hDL, hDn⟩
      · exact N4 q hq
    clear N4
    have j3k : Park (SL h DS ws) := j3
    k_unmd
    k_fold
    k_steps
    rename Fr _ _ _ _ => F6
    rename News _ _ _ _ => N6
    have j4 := SL.at (show SL h DS ws from j3k) (fun o' e => by rw [hoD] at e; cases e; exact (N6 _ (.head _)).1)
    unfold Park
    refine SL.read j4 hat.2 (Nat.lt_of_succ_lt hat.1) hw1 (fun t' => ?_) (by with_unfolding_all rfl) (by intro _; rfl)
    clear j4
    k_steps
    rename Fr _ _ _ _ => F6
    rename News _ _ _ _ => N6
    have j4 := SL.at (show SL h DS ws from j3k) (fun o' e => by rw [hoD] at e; cases e; exact (N6 _ (.head _)).1)
    unfold Park
    refine SL.read (j := swAt ws.length n + 1) j4 (by rw [hat.2]; rfl) hat.1 hw1 (fun t' => ?_) (by with_unfolding_all rfl) (by intro _; rfl)
    clear j4
    k_steps
    rename Fr _ _ _ _ => F6
    rename News _ _ _ _ => N6
    have j4 := SL.at (show SL h DS ws from j3k) (fun o' e => by rw [hoD] at e; cases e; exact (N6 _ (.head _)).1)
    unfold Park
    refine SL.write j4 hat.2 (Nat.lt_of_succ_lt hat.1) hw1 (fun h7 j7 hs7 => ?_)
    have F7 := F6.change hs7 hDL hDn
    obtain ⟨its7, hits7, hitz7, hitv7⟩ := id j7
    obtain ⟨oD7, hoD7, _⟩ := hits7
    have N7 : News s.heap _ h7 ((DS, oD7) :: own) := fun q hq => by
      rcases List.mem_cons.mp hq with rfl | hq
      · exact ⟨hoD7, hDL, hDn⟩
      · exact ⟨hs7.extBut _ _ (hown' q hq) (N6 q (List.mem_cons_of_mem _ hq)).1, (N6 q (List.mem_cons_of_mem _ hq)).2⟩
    clear j4 F6 N6 j3k hs7
    have j7k : Park (SL h7 DS _) := j7
    clear j7
    dsimp only
    k_steps
    rename Fr _ _ _ _ => F8
    rename News _ _ _ _ => N8
    have j8 := SL.at (show SL h7 DS _ from j7k) (fun o' e => by rw [hoD7] at e; cases e; exact (N8 _ (.head _)).1)
    unfold Park
    refine SL.write (j := swAt ws.length n + 1) j8 (by rw [hat.2]; rfl) (by rw [List.length_set]; exact hat.1) (by rw [List.length_set]; exact hw1) (fun h9 j9 hs9 => ?_)
    have F9 := F8.change hs9 hDL hDn
    have N9 : News s.heap _ h9 own := fun q hq => ⟨hs9.extBut _ _ (hown' q hq) (N8 q (List.mem_cons_of_mem _ hq)).1, (N8 q (List.mem_cons_of_mem _ hq)).2⟩
    clear j8 F8 N8 j7k hs9
    dsimp only
    k_steps
    refine ⟨rfl, _, _, _, rfl, F9, N9, ⟨_, rfl⟩, rfl, ?_⟩
    have e4 : (ns.take (i + 1)).foldl sw W.cps.toList = sw ws n := by
      have hi4 : ns[i]? = some n := by
        rw [List.getElem?_take] at hn
        split at hn
        · exact hn
        · cases hn
      rw [List.take_add_one, hi4]
      simp [hws]
    rw [e4]
    exact j9
  case f4 =>
    rintro m₁ h tk F4 ⟨⟨tw, j1⟩, j2, j3⟩
    rw [← ov_self (m := m₁) (l := [(Str.ofString "word", .str W tw), (Str.ofString "signs", .ref DS)]) (by simp [j1, j2])] at F4
    obtain ⟨V, hV⟩ : ∃ V, V = (ns.take (ns.take 4).length).foldl sw W.cps.toList := ⟨_, rfl⟩
    rw [← hV] at j3
    have hVl : V.length ≤ 1000 := by rw [hV, sws_length]; exact hWl
    have hWs : ∀ c ∈ W.cps.toList, sgn c = true := by rw [hW, hW0]; exact word_sgn _
    have hVs : ∀ c ∈ (Str.mk V.toArray).cps.toList, sgn c = true := by
      show ∀ c ∈ V, sgn c = true
      rw [hV]; exact sws_sgn _ hW2 hWs
    have hVL : (Str.mk V.toArray).length ≤ 1000 := by unfold Str.length; simpa using hVl
    have hWL : W.length ≤ 1000 := Nat.le_trans hz9 (by decide)
    have hsl : ∀ k, (side k W).length ≤ W.length := fun k => by
      unfold side Str.length
      simp only [List.size_toArray]
      exact Nat.le_trans (List.length_filter_le _ _) (by simp)
    have hsl2 : (side 1 W).length + (side 2 W).length ≤ 1000 := by
      have h1 := hsl 1
      have h2 := hsl 2
      omega
    obtain ⟨its9, hl9, hst9⟩ := j3.strs
    have N4 : News s.heap s.heap.objs.size h [] := News.nil
    clear F3 hSL hl24 hz0 j3
    dsimp only
    k_unmd
    k_steps
    rename Fr _ _ _ _ => FZ
    refine ⟨by rw [law_true hWs hVs (by assumption) (by assumption)], _, _, _, rfl, FZ.keep, fun hb => ?_⟩
    rename (AllBare _ → AllBare _) => b3
    refine b3 ?_
    clear b3
    rename (AllBare _ → AllBare _) => b2
    refine b2 ?_
    clear b2
    rename (AllBare _ → AllBare _) => b1
    exact b1 hb
end Mine

end NbLaw
section NbTop
open PySem PySem.W PyProof.Rows PySem.Calls
set_option maxRecDepth 100000 in
set_option maxHeartbeats 8000000 in
theorem PySem.Challenge.cw_nb0029_01_holds : PySem.Challenge.rw_nb0029_01.Holds := by
  refine Mine.hd ?_
  k_fill
  intro w s₀ s₁ mg mb G Y fa o pm cd doc dV kV ho hd hcd hD hmg hg args vals as hpre hlay hrd hwl hlo
  have KX := kIn_of Y
  have X := (Ground.X G).1
  have V := (Ground.X G).2
  refine Ground.open G ?_
  intro T B D TE TW
  have e52 : mg (Str.ofString "law") = some (.ref 52) := mg_of KX T.g (by k_is)
  have hmg' : mg (Str.ofString "law") = some (.ref fa) := hmg
  rw [e52] at hmg'
  cases hmg'
  clear ho hd hcd hD hmg
  wrow_args hpre hlay hrd hwl hlo
  refine enter_call ?_
  rename IntsAre _ _ => hI
  rename Heap.IsList _ _ _ => hL
  refine codeAny_mono (Mine.law_ok (mean := ExcName.means s₀.heap) _ _ _ hI (by omega) (1 + claimMargin) 4 (some []) (some []) s₁ (by decide +kernel) (by decide +kernel) hL KX T) ?_
  rintro r s' ⟨rfl, h', tk', gn', rfl, hk, hb⟩
  refine ⟨.inl ⟨.bool true, .bool true, [], rfl, (raisesW_false (by wrow_none_raised)), .bool true, (postW_of (by wrow_shape) (by wtm_val) (by str_meet; first | done | w_fin)), unshared_nil⟩, .of_keep hk, rfl, hb (.of_eq hg)⟩

end NbTop
