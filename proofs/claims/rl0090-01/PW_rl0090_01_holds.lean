import PyProof.Rows.All
import Wide.All
import OpenK.AllK
import Wide.FinOn
import PySem.Challenge.RW_rl0090_01
set_option Elab.async false
set_option compiler.extract_closed false
set_option linter.all false
-- MHead
namespace Mine
open PySem PySem.W PyProof.Rows
set_option maxRecDepth 100000 in
set_option maxHeartbeats 8000000 in
open_top hd for PySem.Challenge.rw_rl0090_01
end Mine
open PySem PySem.W PySem.Calls PyProof.Rows
namespace Mine
local macro_rules | `(tactic| walk_at "ands") => `(tactic| ((iterate 12 (first | done | assumption | apply And.right)); done))
local macro_rules | `(tactic| walk_at "and") => `(tactic| first | walk_at "ands" | (apply And.left; first | walk_at "ands" | (apply And.left; walk_at "ands") | (apply And.right; apply And.left; walk_at "ands")) | (apply And.right; first | (apply And.left; walk_at "ands") | (apply And.right; apply And.left; walk_at "ands")))
local macro_rules | `(tactic| k_ne) => `(tactic| (refine neN ?_; (try dsimp only); first | (walk_at "and") | (apply Nat.ne_of_gt; walk_at "and") | (apply Nat.ne_of_lt; walk_at "and") | (apply Ne.symm; walk_at "and") | omega))
-- MBase
section
open PySem PySem.W PySem.Calls PyProof.Rows
set_option maxRecDepth 100000

abbrev PG : Program := PySem.Challenge.rw_rl0090_01.row.prog

/-- a fact kept out of the closers' sight -/
structure HidP (q : Prop) : Prop where
  out : q
/-- what a called def may lean on: the written part, the top, the frames below -/
structure Gnd (w : World) (p : Program) (loose : List Str) (mean : ExcName → Option Value) (mg mb : Str → Option Value) (A : Around) (base : Heap) (outer : List Env) (g : Heap) : Prop where
  X : Frag.In (hd.heap_39 w.params) g
  T : Top p loose mean mg mb g
  B : Below A base outer g

section
variable {prog : Program} {w : World} {p : Program} {loose : List Str} {mean : ExcName → Option Value} {mg mb : Str → Option Value} {A A₀ : Around} {base h₀ g : Heap} {outer : List Env} {s : Shared} {R : Result → Shared → Prop} {L : Addr} {m : Str → Option Value} {env : Env} {news own : List (Addr × Obj)}

theorem Gnd.keeps {g' : Heap} (G : Gnd w p loose mean mg mb A base outer g) (k : g.StaysIn g') : Gnd w p loose mean mg mb A base outer g' :=
  ⟨G.X.keeps k, G.T.keeps k, ⟨G.B.stack, fun b o e => k _ _ (G.B.stays b o e), G.B.frames.of_keeps fun b o e _ => ⟨o, k _ _ e, rfl⟩⟩⟩

theorem Gnd.frames {A' : Around} (G : Gnd w p loose mean mg mb A base outer g) (e : A'.frames = A.frames) : Gnd w p loose mean mg mb A' base outer g :=
  ⟨G.X, G.T, ⟨e.trans G.B.stack, G.B.stays, G.B.frames⟩⟩

/-- the ground of a call out of a frame -/
theorem Gnd.of (X : Frag.In (hd.heap_39 w.params) h₀) (T : Top p loose mean mg mb h₀) (B : Below A₀ base outer h₀) (F : Fr h₀ L s.heap m) (N : News h₀ L s.heap news) (hA : A.frames = some (env :: outer)) (hf : env.frame = some L) (hke : env.scope.kind = .function) :
    Gnd w p loose mean mg mb A base (env :: outer) (hideAll s.heap (news.map (·.1))) := by
  obtain ⟨_, BG, st, _⟩ := groundX (R := fun _ _ => True) B F N hA hf hke
  exact ⟨X.keeps st, T.keeps st, BG⟩

theorem stays_hide (as : List Addr) {h : Heap} : (hideAll h as).StaysIn h := fun _ _ e => of_hideAll as e

theorem fr_stay {h' : Heap} {h : Heap} (F : Fr h₀ L h m) (k : h.StaysIn h') : Fr h₀ L h' m := ⟨F.ns.at' fun o e => k _ _ e, fun b o e => k _ _ (F.keep b o e), F.above⟩
theorem news_stay {h' : Heap} {h : Heap} (N : News h₀ L h news) (k : h.StaysIn h') : News h₀ L h' news := fun q hq => ⟨k _ _ (N q hq).1, (N q hq).2⟩
theorem stays_trans {a b c : Heap} (x : a.StaysIn b) (y : b.StaysIn c) : a.StaysIn c := fun q o e => y _ _ (x q o e)

/-- a deeper place is no loss -/
theorem code_le {M : Model} {A' : Around} {c : Code} (h : codeAny M A' c R s) (e1 : A'.handled = A.handled) (e2 : A.depth ≤ A'.depth) (e3 : A'.frames = A.frames) (e4 : A'.guards = A.guards) (e5 : A.units ≤ A'.units) : codeAny M A c R s := by
  intro Γ q hc hΓ
  refine h Γ q hc ⟨hΓ.1.trans e1.symm, Nat.le_trans hΓ.2.1 e2, fun l hl => hΓ.2.2.1 l (e3 ▸ hl), fun l hl => hΓ.2.2.2.1 l (e4 ▸ hl), Nat.le_trans hΓ.2.2.2.2 e5⟩

/-- a call of a written def, the objects «own» in its ledger, all else its base -/
theorem callO {name qual : Str} {params : Arguments} {body : List Stmt} {scope : Scope} {dV kV doc pm cdv ct oc : Value} {an od : Option Addr} {osl : Array (Option Value)} {f : Addr} {args : Args} {binds : List (Str × Value)} {K : Frag}
    (X : K.In g) (hlim : g.NoLimit) (hg : g.StaysIn s.heap) (hown : ∀ q ∈ own, s.heap.get? q.1 = some q.2) (hfr : ∀ q ∈ own, g.get? q.1 = none)
    (ho : K.lookup f = some ⟨oc, od, .func (fnOf name qual params body scope dV kV doc pm an cdv ct), osl⟩) (hcd : codeIn K cdv qual = true) (hroom : A.depth < recursionLimit)
    (hbind : BindsTo s (fnOf name qual params body scope dV kV doc pm an cdv ct) args binds) (hloc : ∀ y ∈ binds, scope.names.lookup y.1 = some .local)
    (h : ∀ g' L' h₁, g.StaysIn g' → (∀ b o, s.heap.get? b = some o → (∀ q ∈ own, q.1 ≠ b) → g'.get? b = some o) → Fr g' L' h₁ (fun y => binds.reverse.lookup y) → News g' L' h₁ own → (∀ q ∈ own, q.1 < L') → 
      wpAny (model prog w) (A.deeper (envOf qual scope L' f cdv)) (execs body (envOf qual scope L' f cdv))
        (fun fl s' => R (.ok (.ret (match fl with | .ret v => v | _ => .none))) s')
        (fun e s' => wpAny (model prog w) (A.deeper (envOf qual scope L' f cdv)) (leaving (envOf qual scope L' f cdv) e) (fun _ s'' => R (.error e) s'') (fun e' s'' => R (.error e') s'') s')
        { s with heap := h₁, toks := s.toks + binds.length })
    (hcell : ∀ x ∈ scope.names, x.2 ≠ .cell) (hco : scope.isCoroutine = false) (hgen : scope.isGenerator = false) (hk : scope.kind = .function) :
    codeAny (model prog w) A (.call (.ref f) args) R s := by
  have nm : ∀ b o, g.get? b = some o → b ∉ own.map (·.1) := fun b o e q => by
    obtain ⟨q', hq, rfl⟩ := List.mem_map.mp q
    rw [hfr q' hq] at e; cases e
  have st : g.StaysIn (hideAll s.heap (own.map (·.1))) := fun b o e => hideAll_get _ (hg b o e) (nm b o e)
  refine codeAny_call_def (fd := fnOf name qual params body scope dV kV doc pm an cdv ct) (body := body) (binds := binds) hroom (hg _ _ (X _ _ ho)) rfl (hlim.keeps hg) (codeRec_of (X.keeps hg) hcd) rfl hbind hcell hloc (fun h₁ hns hk₁ => ?_) hco hgen hk
  exact h _ s.heap.objs.size h₁ st (fun b o e hb => hideAll_get _ e fun q => by obtain ⟨q', hq, e'⟩ := List.mem_map.mp q; exact hb q' hq e')
    ⟨hns, fun b o e => hk₁ b o (of_hideAll _ e), Nat.le_of_eq (hideAll_size _ _)⟩ (fun q hq => ⟨hk₁ _ _ (hown q hq), Nat.ne_of_lt (Heap.lt_size (hown q hq)), hideAll_none _ (List.mem_map_of_mem hq)⟩) (fun q hq => Heap.lt_size (hown q hq))

/-- a call by a contract that only makes -/
theorem use_pure {f : Addr} {pos : List Value} {kw : List (Str × Value)} {D U : Nat} {P : Value → Prop} {Q : Value → Shared → Prop} {E : Value → Shared → Prop}
    (C : ∀ {g : Heap} {R : Result → Shared → Prop}, Gnd w p loose mean mg mb ⟨none, D, some (env :: outer), A.guards, U⟩ base (env :: outer) g → g.StaysIn s.heap → (∀ q ∈ own, s.heap.get? q.1 = some q.2) → (∀ q ∈ own, g.get? q.1 = none) →
      (∀ h' tk v, s.heap.StaysIn h' → P v → R (.ok (.ret v)) { s with heap := h', toks := tk }) → codeAny (model prog w) ⟨none, D, some (env :: outer), A.guards, U⟩ (.call (.ref f) ⟨pos, kw⟩) R s)
    (B : Below A₀ base outer h₀) (F : Fr h₀ L s.heap m) (X : Frag.In (hd.heap_39 w.params) h₀) (N : News h₀ L s.heap news) (T : Top p loose mean mg mb h₀) (hA : A.frames = some (env :: outer)) (hf : env.frame = some L) (hke : env.scope.kind = .function)
    (hh : A.handled = none) (hdp : A.depth ≤ D) (hun : A.units ≤ U) (hm : ∀ q ∈ own, q ∈ news)
    (h : ∀ h' tk v, P v → Fr h₀ L h' m → News h₀ L h' news → Q v { s with heap := h', toks := tk }) : wpAny (model prog w) A (call (.ref f) pos kw) Q E s := by
  have G : Gnd w p loose mean mg mb A base (env :: outer) (hideAll s.heap (news.map (·.1))) := Gnd.of X T B F N hA hf hke
  refine wpAny_call (code_le (C (G.frames hA.symm) (stays_hide _) (fun q hq => (N q (hm q hq)).1) (fun q hq => hideAll_none _ (List.mem_map_of_mem (hm q hq))) fun h' tk v st pv => ?_) hh.symm hdp hA.symm rfl hun)
  exact h h' tk v pv (fr_stay F st) (news_stay N st)
end
end
-- MLoop
section
open PySem PySem.W PySem.Calls PyProof.Rows
set_option maxRecDepth 100000

def AllNe (d : Nat) : List (Addr × Obj) → Prop
  | [] => True
  | q :: r => @Ne Nat q.1 d ∧ AllNe d r
theorem ite_off {z a : Str} {v w r : Option Value} {d : Decidable (z = a)} (h : z ≠ a) (e : w = r) : @ite _ (z = a) d v w = r := (if_neg h).trans e
theorem st_ne {z a : Str} {l : List Str} (h : (a :: l).contains z = false) : z ≠ a := by
  rintro rfl; simp at h
theorem st_tl {z a : Str} {l : List Str} (h : (a :: l).contains z = false) : l.contains z = false := by
  rw [List.contains_cons, Bool.or_eq_false_iff] at h; exact h.2
theorem kstB_out {z : Str} {f : Str → Option Value} : ∀ {ps ps' : List (Str × Value)}, (∀ q ∈ ps', z ≠ q.1) → ps.map Prod.fst = ps'.map Prod.fst → kstB f ps z = f z
  | [], _, _, _ => rfl
  | p :: r, [], _, e => nomatch e
  | p :: r, p' :: r', h, e => by
    have e1 : p.1 = p'.1 := (List.cons.inj e).1
    have e2 : r.map Prod.fst = r'.map Prod.fst := (List.cons.inj e).2
    exact (if_neg (e1 ▸ h p' (.head _))).trans (kstB_out (fun q hq => h q (.tail _ hq)) e2)
theorem kstB_off {ps ps' : List (Str × Value)} {z : Str} {stored : List Str} {u m : Str → Option Value} (h : ∀ q ∈ ps', z ≠ q.1) (h2 : stored.contains z = false) (e : ps.map Prod.fst = ps'.map Prod.fst) : kstB (fun z => if stored.contains z then u z else m z) ps z = m z :=
  (kstB_out h e).trans (if_neg fun q => Bool.noConfusion (h2.symm.trans q))
def JoinX (C : Shared → Prop) (Q : Flow → Shared → Prop) (f : Flow) (s₂ : Shared) : Prop := match f with
  | .next => C s₂
  | f => Q f s₂
theorem allNe_of {d : Addr} {l : List (Addr × Obj)} (h : ∀ q ∈ l, q.1 ≠ d) : AllNe d l := by
  induction l with
  | nil => trivial
  | cons a r ih => exact ⟨h a List.mem_cons_self, ih fun q hq => h q (List.mem_cons_of_mem _ hq)⟩
theorem of_allNe {d : Addr} {l : List (Addr × Obj)} (h : AllNe d l) : ∀ q ∈ l, q.1 ≠ d := by
  induction l with
  | nil => intro q hq; cases hq
  | cons a r ih =>
    intro q hq
    rcases List.mem_cons.mp hq with e | hq
    · rw [e]; exact h.1
    · exact ih h.2 q hq

def EndG {σ : Type} (h₀ : Heap) (L : Addr) (x : Str) (stored : List Str) (m₀ : Str → Option Value) (Led : σ → List (Addr × Obj)) (ps : σ → List (Str × Value)) (Inv : σ → Prop) (I : Addr) (oI : Obj) (s₁ s₂ : Shared) : Prop :=
  ∃ h' tk m' news' c, s₂ = { s₁ with heap := h', toks := tk } ∧ Fr h₀ L h' m' ∧ News h₀ L h' news' ∧ (∀ q ∈ Led c, q ∈ news') ∧ (I, oI) ∈ news' ∧ AllNe I (Led c) ∧ (∀ q ∈ ps c, m' q.1 = some q.2) ∧
    (∀ z, z ≠ x → (∀ q ∈ ps c, z ≠ q.1) → stored.contains z = false → m' z = m₀ z) ∧ Inv c
def OutG {σ : Type} (h₀ : Heap) (L : Addr) (x : Str) (stored : List Str) (m₀ : Str → Option Value) (Led : σ → List (Addr × Obj)) (ps : σ → List (Str × Value)) (Exit : σ → Prop) (s₁ s₂ : Shared) : Prop :=
  ∃ h' tk m' news' c, s₂ = { s₁ with heap := h', toks := tk } ∧ Fr h₀ L h' m' ∧ News h₀ L h' news' ∧ (∀ q ∈ Led c, q ∈ news') ∧ (∀ q ∈ ps c, m' q.1 = some q.2) ∧
    (∀ z, z ≠ x → (∀ q ∈ ps c, z ≠ q.1) → stored.contains z = false → m' z = m₀ z) ∧ Exit c
def PostG {σ : Type} (h₀ : Heap) (L : Addr) (x : Str) (stored : List Str) (m₀ : Str → Option Value) (Led : σ → List (Addr × Obj)) (ps : σ → List (Str × Value)) (Inv Exit : σ → Prop) (I : Addr) (oI : Obj) (s₁ : Shared) (Q : Flow → Shared → Prop) (f : Flow) (s₂ : Shared) : Prop :=
  match f with
  | .ret v => Q (.ret v) s₂
  | .brk => OutG h₀ L x stored m₀ Led ps Exit s₁ s₂
  | _ => EndG h₀ L x stored m₀ Led ps Inv I oI s₁ s₂

section
variable {prog : Program} {w : World} {A : Around} {E : Value → Shared → Prop} {s : Shared} {env : Env} {h₀ : Heap} {x : Str} {body : List Stmt} {Q : Flow → Shared → Prop}

theorem EndG.intro {σ : Type} {L : Addr} {stored : List Str} {m₀ : Str → Option Value} {Led : σ → List (Addr × Obj)} {ps : σ → List (Str × Value)} {Inv : σ → Prop} {I : Addr} {oI : Obj} {s₁ : Shared} {h' : Heap} {tk : Nat} {m' : Str → Option Value} {news' : List (Addr × Obj)} (c : σ)
    (F : Fr h₀ L h' m') (N : News h₀ L h' news') (hl : ∀ q ∈ Led c, q ∈ news') (hI : (I, oI) ∈ news') (hne : AllNe I (Led c)) (hk : ∀ q ∈ ps c, m' q.1 = some q.2)
    (hm : ∀ z, z ≠ x → (∀ q ∈ ps c, z ≠ q.1) → stored.contains z = false → m' z = m₀ z) (hi : Inv c) : EndG h₀ L x stored m₀ Led ps Inv I oI s₁ { s₁ with heap := h', toks := tk } :=
  ⟨h', tk, m', news', c, rfl, F, N, hl, hI, hne, hk, hm, hi⟩
theorem OutG.intro {σ : Type} {L : Addr} {stored : List Str} {m₀ : Str → Option Value} {Led : σ → List (Addr × Obj)} {ps : σ → List (Str × Value)} {Exit : σ → Prop} {s₁ : Shared} {h' : Heap} {tk : Nat} {m' : Str → Option Value} {news' : List (Addr × Obj)} (c : σ)
    (F : Fr h₀ L h' m') (N : News h₀ L h' news') (hl : ∀ q ∈ Led c, q ∈ news') (hk : ∀ q ∈ ps c, m' q.1 = some q.2)
    (hm : ∀ z, z ≠ x → (∀ q ∈ ps c, z ≠ q.1) → stored.contains z = false → m' z = m₀ z) (hi : Exit c) : OutG h₀ L x stored m₀ Led ps Exit s₁ { s₁ with heap := h', toks := tk } :=
  ⟨h', tk, m', news', c, rfl, F, N, hl, hk, hm, hi⟩

theorem loopG {σ : Type} {I : Addr} {n : Nat} {P : Nat → Value → Prop} {St : Nat → Heap → Prop} {m₀ : Str → Option Value} (Led : σ → List (Addr × Obj)) (ps : σ → List (Str × Value)) (stored : List Str) (Inv : Nat → σ → Prop) (Exit : σ → Prop) (c₀ : σ)
    (W : Walks prog w A I [I] [I] n P St) (live : ∀ i h, St i h → ∃ o, h.get? I = some o) (hLI : env.locals ≠ I) (hwr : h₀.get? I = none) (hne : ∀ q ∈ Led c₀, q.1 ≠ I) (hst : St 0 s.heap) (F : Fr h₀ env.locals s.heap m₀) (N : News h₀ env.locals s.heap (Led c₀))
    (hk : ∀ q ∈ ps c₀, m₀ q.1 = some q.2) (hp : Inv 0 c₀)
    (turn : ∀ i v (c : σ) (u : Str → Option Value) h tk oI, i < n → P i v → Inv i c → AllNe I (Led c) → Fr h₀ env.locals h (fun y => if y = x then some v else kstB (fun z => if stored.contains z then u z else m₀ z) (ps c) y) → News h₀ env.locals h ((I, oI) :: Led c) →
      wpAny (model prog w) A (execs body env) (PostG h₀ env.locals x stored m₀ Led ps (Inv (i + 1)) Exit I oI { s with heap := h, toks := tk } Q) E { s with heap := h, toks := tk })
    (stop : ∀ c, Inv n c → Exit c) (done : ∀ (c : σ) (u : Str → Option Value) h tk, Exit c → Fr h₀ env.locals h (fun y => if y = x then u y else kstB (fun z => if stored.contains z then u z else m₀ z) (ps c) y) → News h₀ env.locals h (Led c) → Q .next { s with heap := h, toks := tk }) :
    LoopAtV prog w A h₀ env x body Q E (.ref I) s := by
  let J : Nat → (Str → Option Value) → List (Addr × Obj) → Prop := fun i m nx => ∃ c : σ, nx = Led c ∧ (∀ q ∈ ps c, m q.1 = some q.2) ∧ (∀ z, z ≠ x → (∀ q ∈ ps c, z ≠ q.1) → stored.contains z = false → m z = m₀ z) ∧ Inv i c
  refine ⟨I, [I], [I], n, P, St, m₀, Led c₀, J, rfl, W, fun hm => hLI (List.mem_singleton.mp hm), fun b hb => List.mem_singleton.mp hb ▸ hwr, fun q hq hI => hne q hq (List.mem_singleton.mp hI), hst, F, N, ⟨c₀, rfl, hk, fun _ _ _ _ => rfl, hp⟩, ?_, ?_⟩
  · rintro i v m₁ news₁ s₁ own ⟨hh', tk', rfl⟩ hin hP ⟨c, rfl, h1, h2, hJ⟩ hoff _ _ hown hst' F₁ N₁
    obtain ⟨oI, hoI⟩ := live _ _ hst'
    have hm : (I, oI) ∈ own := hown I (List.mem_singleton.mpr rfl) hwr oI hoI
    have N₂ : News h₀ env.locals hh' ((I, oI) :: Led c) := fun q hq => N₁ q (by
      rcases List.mem_cons.mp hq with rfl | hq
      · exact List.mem_append_left _ hm
      · exact List.mem_append_right _ hq)
    have hn2 : AllNe I (Led c) := allNe_of fun q hq e => hoff q hq (List.mem_singleton.mpr e)
    refine wpAny_mono (turn i v c m₁ hh' tk' oI hin hP hJ hn2 (kst_fr h1 h2 F₁) N₂) (fun f s₂ q => ?_) fun _ _ e => e
    have fin : EndG h₀ env.locals x stored m₀ Led ps (Inv (i + 1)) I oI { s with heap := hh', toks := tk' } s₂ → LoopStepU h₀ env.locals [I] own (J (i + 1)) { s with heap := hh', toks := tk' } .next s₂ := by
      rintro ⟨h', tk, m', news', c', e, F', N', hl, hI, hne', hk', hm', hi'⟩
      refine ⟨rfl, h', tk, m', Led c', e, F', fun q hq => ?_, fun q hq hI' => of_allNe hne' q hq (List.mem_singleton.mp hI'), c', rfl, hk', hm', hi'⟩
      rcases List.mem_append.mp hq with h3 | h3
      · have := N₁ q (List.mem_append_left _ h3)
        obtain ⟨a, o⟩ := q
        have e1 : a = I := List.mem_singleton.mp (by rename_i hsub _; exact hsub _ h3)
        subst e1
        have e2 : o = oI := by have q1 := this.1; have q2 := hoI; exact Option.some.inj (q1.symm.trans q2)
        subst e2
        exact N' _ hI
      · exact N' q (hl q h3)
    cases f with
    | ret v => exact .ret q
    | brk =>
      obtain ⟨h', tk, m', news', c', rfl, F', N', hl, hk', hm', hi'⟩ := q
      exact .brk (done c' m' h' tk hi' (kst_frOut hk' hm' F') fun q hq => N' q (hl q hq))
    | next => exact .next (fin q)
    | cont => exact .cont (fin q)
  · rintro h' tk m' news' F' N' hoff ⟨c, rfl, h1, h2, hJ⟩
    exact done c m' h' tk (stop c hJ) (kst_frOut h1 h2 F') N'

/-- over a range by ones -/
theorem forRange {σ : Type} {r : Addr} {a₀ b₀ : Int} {t₀ u₀ v₀ : Tok} {n : Nat} {m₀ : Str → Option Value} (Led : σ → List (Addr × Obj)) (ps : σ → List (Str × Value)) (stored : List Str) (Inv : Nat → σ → Prop) (Exit : σ → Prop) (c₀ : σ)
    (hh : A.handled = none) (hr : IsRange s.heap r a₀ b₀ 1 t₀ u₀ v₀) (hsmall : Builtin.Range.small a₀ b₀ 1 = true) (hn : Builtin.Range.rangeSize a₀ b₀ 1 = (n : Int)) (F : Fr h₀ env.locals s.heap m₀) (N : News h₀ env.locals s.heap (Led c₀))
    (hk : ∀ q ∈ ps c₀, m₀ q.1 = some q.2) (hp : Inv 0 c₀)
    (turn : ∀ i t (c : σ) (u : Str → Option Value) h tk I oI, i < n → Inv i c → AllNe I (Led c) → Fr h₀ env.locals h (fun y => if y = x then some (.int (a₀ + (i : Int)) t) else kstB (fun z => if stored.contains z then u z else m₀ z) (ps c) y) → News h₀ env.locals h ((I, oI) :: Led c) →
      wpAny (model prog w) A (execs body env) (PostG h₀ env.locals x stored m₀ Led ps (Inv (i + 1)) Exit I oI { s with heap := h, toks := tk } Q) E { s with heap := h, toks := tk })
    (stop : ∀ c, Inv n c → Exit c) (done : ∀ (c : σ) (u : Str → Option Value) h tk, Exit c → Fr h₀ env.locals h (fun y => if y = x then u y else kstB (fun z => if stored.contains z then u z else m₀ z) (ps c) y) → News h₀ env.locals h (Led c) → Q .next { s with heap := h, toks := tk }) :
    wpAny (model prog w) A (pyIter (.ref r)) (fun it s₂ => LoopAtV prog w A h₀ env x body Q E it s₂) E s := by
  refine wpAny_pyIter_range hr hsmall ?_
  have W : Walks prog w A s.heap.objs.size [s.heap.objs.size] [s.heap.objs.size] n (fun i v => ∃ t, v = .int (a₀ + i * 1) t)
      (fun i h => IsRangeIter h s.heap.objs.size (a₀ + (i : Nat) * 1) ((n : Int) - (i : Nat)) 1) := Walks.range hh _ a₀ 1 n
  refine loopG Led ps stored Inv Exit c₀ W (fun i h st => ⟨_, st⟩) (Nat.ne_of_lt F.ns.lt) (next_is_new F) (fun q hq => Nat.ne_of_lt (Heap.lt_size (N q hq).1)) (by show IsRangeIter _ _ _ _ _; rw [hn]; simpa using Heap.get?_push_size _ rfl) (F.push _) (fun q hq => ⟨Heap.get?_push_of_some _ (N q hq).1, (N q hq).2⟩) hk hp ?_ stop done
  rintro i v c u h tk oI hi ⟨t, rfl⟩ hInv hne F₁ N₁
  have e1 : a₀ + (i : Int) * 1 = a₀ + (i : Int) := by omega
  rw [e1] at F₁
  exact turn i t c u h tk _ oI hi hInv hne F₁ N₁

/-- over a text's signs -/
theorem forText {σ : Type} {xt : Str} {tx : Tok} {m₀ : Str → Option Value} (Led : σ → List (Addr × Obj)) (ps : σ → List (Str × Value)) (stored : List Str) (Inv : Nat → σ → Prop) (Exit : σ → Prop) (c₀ : σ)
    (hh : A.handled = none) (F : Fr h₀ env.locals s.heap m₀) (N : News h₀ env.locals s.heap (Led c₀))
    (hk : ∀ q ∈ ps c₀, m₀ q.1 = some q.2) (hp : Inv 0 c₀)
    (turn : ∀ i cp t (c : σ) (u : Str → Option Value) h tk I oI, xt.cps[i]? = some cp → Inv i c → AllNe I (Led c) → Fr h₀ env.locals h (fun y => if y = x then some (.str ⟨#[cp]⟩ t) else kstB (fun z => if stored.contains z then u z else m₀ z) (ps c) y) → News h₀ env.locals h ((I, oI) :: Led c) →
      wpAny (model prog w) A (execs body env) (PostG h₀ env.locals x stored m₀ Led ps (Inv (i + 1)) Exit I oI { s with heap := h, toks := tk } Q) E { s with heap := h, toks := tk })
    (stop : ∀ c, Inv xt.cps.size c → Exit c) (done : ∀ (c : σ) (u : Str → Option Value) h tk, Exit c → Fr h₀ env.locals h (fun y => if y = x then u y else kstB (fun z => if stored.contains z then u z else m₀ z) (ps c) y) → News h₀ env.locals h (Led c) → Q .next { s with heap := h, toks := tk }) :
    wpAny (model prog w) A (pyIter (.str xt tx)) (fun it s₂ => LoopAtV prog w A h₀ env x body Q E it s₂) E s := by
  have go : ∀ (o : Obj) (St : Nat → Heap → Prop), Walks prog w A s.heap.objs.size [s.heap.objs.size] [s.heap.objs.size] xt.cps.size (SignAt xt) St → (∀ i h, St i h → ∃ o, h.get? s.heap.objs.size = some o) → St 0 (s.heap.push o) → LoopAtV prog w A h₀ env x body Q E (.ref s.heap.objs.size) { s with heap := s.heap.push o } := by
    intro o St W live hst
    refine loopG Led ps stored Inv Exit c₀ W live (Nat.ne_of_lt F.ns.lt) (next_is_new F) (fun q hq => Nat.ne_of_lt (Heap.lt_size (N q hq).1)) hst (F.push _) (fun q hq => ⟨Heap.get?_push_of_some _ (N q hq).1, (N q hq).2⟩) hk hp ?_ stop done
    rintro i v c u h tk oI hi ⟨cp, t, hcp, rfl⟩ hInv hne F₁ N₁
    exact turn i cp t c u h tk _ oI hcp hInv hne F₁ N₁
  cases ha : xt.cps.all (· < 128)
  · exact wpAny_pyIter_wide ha (go _ _ (Walks.strWide hh _ xt tx) (fun _ _ ⟨o, ho, _⟩ => ⟨o, ho⟩) ⟨_, Heap.get?_push_size _ rfl, rfl, rfl⟩)
  · exact wpAny_pyIter_ascii ha (go _ _ (Walks.strAscii hh _ xt tx) (fun _ _ ⟨o, ho, _⟩ => ⟨o, ho⟩) ⟨_, Heap.get?_push_size _ rfl, rfl, rfl⟩)
end
end
-- MPlain
section
/-- one more tab behind b blanks -/
def bump (cnt : List Int) (b : Int) : List Int :=
  let c := if (cnt.length : Int) ≤ b then cnt ++ List.replicate (b - cnt.length + 1).toNat 0 else cnt
  c.set b.toNat (c.getD b.toNat 0 + 1)
structure Scan where
  cnt : List Int
  b : Int
  n : Int
  nt : Int
/-- what Whitespace reads off a text -/
def scan : List Nat → List Int → Int → Int → Int → Scan
  | [], cnt, b, n, nt => ⟨cnt, b, n, nt⟩
  | c :: r, cnt, b, n, nt => if c = 32 then scan r cnt (b + 1) (n + 1) nt else if c = 9 then scan r (bump cnt b) 0 (n + 1) (nt + 1) else ⟨cnt, b, n, nt⟩
/-- the tabs' share of a column -/
def lvlSum (cnt : List Int) (ts : Int) : Nat → Int
  | 0 => 0
  | k + 1 => lvlSum cnt ts k + (ts + (k : Int)).fdiv ts * cnt.getD (ts + (k : Int)).toNat 0
/-- indent_level -/
def lvl (cnt : List Int) (b nt ts : Int) : Int := b + ts * (lvlSum cnt ts ((cnt.length : Int) - ts).toNat + nt)
/-- longest_run_of_spaces -/
def lng (cnt : List Int) (b : Int) : Int := if b > (cnt.length : Int) - 1 then b else (cnt.length : Int) - 1
/-- what less tells of two scans -/
def LessSpec (c : List Int) (b n nt : Int) (c' : List Int) (b' n' nt' : Int) : Prop :=
  n < n' ∧ (if (c.length : Int) ≤ 1 ∧ (c'.length : Int) ≤ 1 then nt ≤ nt' else ∀ k : Nat, 2 + (k : Int) ≤ (if lng c' b' > lng c b then lng c' b' else lng c b) + 1 → lvl c b nt (2 + (k : Int)) < lvl c' b' nt' (2 + (k : Int)))
/-- the directory's name behind the first quote -/
def parseTail : List Nat → List Nat
  | [] => []
  | c :: r => if c = 34 then (match r with
      | [] => []
      | d :: r' => if d = 34 then 34 :: parseTail r' else [])
    else c :: parseTail r
theorem parse_q_nil : parseTail [34] = [] := by simp [parseTail]
theorem parse_q_q (r : List Nat) : parseTail (34 :: 34 :: r) = 34 :: parseTail r := by simp [parseTail]
theorem parse_q_o {d : Nat} (h : d ≠ 34) (r : List Nat) : parseTail (34 :: d :: r) = [] := by simp [parseTail, h]
theorem parse_o {c : Nat} (h : c ≠ 34) (r : List Nat) : parseTail (c :: r) = c :: parseTail r := by cases r <;> simp [parseTail, h]
/-- one sign of the law's own walk: the column and the state (0 lead, 1 half, 2 done) -/
def colStep (size : Int) (col : Int) (st : Nat) (c : Nat) : Int × Nat :=
  if st = 0 ∧ c = 32 then (col + 1, 0) else if st = 0 ∧ c = 34 then (col, 1) else if st = 1 ∧ c = 34 then (col.fdiv size * size + size, 0) else (col, 2)
def colsFrom (size : Int) : List Nat → Int → Nat → List Int
  | [], _, _ => []
  | c :: r, col, st => (colStep size col st c).1 :: colsFrom size r (colStep size col st c).1 (colStep size col st c).2
end
-- MWs
section
open PySem PySem.W PySem.Calls PyProof.Rows
theorem sign_beq (cp c : Nat) : ((⟨#[cp]⟩ : Str) == ⟨#[c]⟩) = (cp == c) := by
  rw [Bool.eq_iff_iff, beq_iff_eq, beq_iff_eq]
  constructor
  · intro h; injection h with h; injection h with h; injection h
  · intro h; rw [h]
theorem sign_is {cp c : Nat} {y : Str} (hy : y = ⟨#[c]⟩) {b : Bool} (h : ((⟨#[cp]⟩ : Str) == y) = b) : (cp == c) = b := by rw [← h, hy, sign_beq]
theorem drop_step {xt : Str} {i cp : Nat} (h : xt.cps[i]? = some cp) : xt.cps.toList.drop i = cp :: xt.cps.toList.drop (i + 1) := by
  obtain ⟨hl, e⟩ := Array.getElem?_eq_some_iff.mp h
  rw [List.drop_eq_getElem_cons (by simpa using hl)]
  simp [← e]
section
variable {prog : Program} {w : World} {A : Around} {E : Value → Shared → Prop} {s : Shared}
theorem len_tup_ints {l : Addr} {vs : List Value} {ns : List Int} {Q : Value → Shared → Prop} (hl : IsTup s.heap l vs.toArray) (hI : IntsAre vs ns) (hz : (ns.length : Int) ≤ 2000)
    (h : Q (.int ns.length (s.toks + 1)) { s with toks := s.toks + 1 + 1 }) : wpAny (model prog w) A (call (.builtin "len") [.ref l]) Q E s := by
  have e : vs.toArray.size = ns.length := by simp [hI.length]
  exact len_tuple hl (by rw [e]; omega) (by rw [e]; exact h)
end
theorem stays_of {s : Shared} {g' h : Heap} {L' : Addr} {m : Str → Option Value} {own news : List (Addr × Obj)} (rest : ∀ b o, s.heap.get? b = some o → (∀ q ∈ own, q.1 ≠ b) → g'.get? b = some o) (hr : ∀ q ∈ own, s.heap.get? q.1 = some q.2)
    (F : Fr g' L' h m) (N : News g' L' h news) (hs : ∀ q ∈ own, q ∈ news) : s.heap.StaysIn h := by
  intro b o e
  by_cases hb : ∃ q ∈ own, q.1 = b
  · obtain ⟨q, hq, rfl⟩ := hb
    have := hr q hq
    rw [e] at this
    cases this
    exact (N q (hs q hq)).1
  · exact F.keep b o (rest b o e fun q hq e' => hb ⟨q, hq, e'⟩)
/-- where a Whitespace lies -/
structure WsR where
  x : Addr
  dx : Addr
  D : Addr
  D2 : Addr
  vs : List Value
  raw : Str
  cnt : List Int
  b : Int
  n : Int
  nt : Int
  sim : Bool
  k0 : Tok
  k1 : Tok
  k2 : Tok
  k3 : Tok
  k4 : Tok
  t0 : Tok
  t1 : Tok
  t2 : Tok
  tb : Tok
abbrev WsR.led (w : World) (r : WsR) : List (Addr × Obj) :=
  [(r.x, instObj 83 r.dx),
   (r.dx, dictOf [{ hash := PyData.keyHash w.params (Str.ofString "raw"), key := .str (Str.ofString "raw") r.k0, val := .str r.raw r.t0 },
     { hash := PyData.keyHash w.params (Str.ofString "n"), key := .str (Str.ofString "n") r.k1, val := .int r.n r.t1 },
     { hash := PyData.keyHash w.params (Str.ofString "nt"), key := .str (Str.ofString "nt") r.k2, val := .int r.nt r.t2 },
     { hash := PyData.keyHash w.params (Str.ofString "norm"), key := .str (Str.ofString "norm") r.k3, val := .ref r.D },
     { hash := PyData.keyHash w.params (Str.ofString "is_simple"), key := .str (Str.ofString "is_simple") r.k4, val := .bool r.sim }] 5),
   (r.D, { cls := .type "tuple", data := .seq #[.ref r.D2, .int r.b r.tb] }),
   (r.D2, { cls := .type "tuple", data := .seq r.vs.toArray })]
structure WsR.Ok (r : WsR) : Prop where
  isI : IntsAre r.vs r.cnt
  h1 : @LT.lt Nat _ r.dx r.x
  h2 : @LT.lt Nat _ r.x r.D2
  h3 : @LT.lt Nat _ r.D2 r.D
  b0 : 0 ≤ r.b
  b1 : r.b ≤ 1000
  c1 : (r.cnt.length : Int) ≤ 1000
  n0 : 0 ≤ r.n
  n1 : r.n ≤ 1000
  nt0 : 0 ≤ r.nt
  nt1 : r.nt ≤ 1000
  sim : r.sim = decide ((r.cnt.length : Int) ≤ 1)
  read : ⟨r.cnt, r.b, r.n, r.nt⟩ = scan r.raw.cps.toList [] 0 0 0
theorem bump_grow {cnt : List Int} {b : Int} (h : (cnt.length : Int) ≤ b) (hb : 0 ≤ b) :
    (cnt ++ (List.replicate (b - cnt.length + 1).toNat [(0 : Int)]).flatten).set b.toNat ((cnt ++ (List.replicate (b - cnt.length + 1).toNat [(0 : Int)]).flatten).getD b.toNat 0 + 1) = bump cnt b := by
  have e : (List.replicate (b - cnt.length + 1).toNat [(0 : Int)]).flatten = List.replicate (b - cnt.length + 1).toNat 0 := by
    generalize (b - cnt.length + 1).toNat = k
    induction k with
    | zero => rfl
    | succ k ih => rw [List.replicate_succ, List.flatten_cons, ih]; rfl
  unfold bump
  rw [if_pos h, e]
theorem bump_stay {cnt : List Int} {b : Int} (h : ¬ (cnt.length : Int) ≤ b) : cnt.set b.toNat (cnt.getD b.toNat 0 + 1) = bump cnt b := by
  unfold bump
  rw [if_neg h]
theorem bump_len {cnt : List Int} {b : Int} : (bump cnt b).length = if (cnt.length : Int) ≤ b then (b + 1).toNat else cnt.length := by
  unfold bump
  split
  · simp only [List.length_set, List.length_append, List.length_replicate]; omega
  · simp only [List.length_set]
end
-- MInit
section
open PySem PySem.W PySem.Calls PyProof.Rows
def IAr (i : Nat) (k : Nat) (b n nt : Int) : Prop := 0 ≤ b ∧ b ≤ i ∧ (k : Int) ≤ i ∧ 0 ≤ n ∧ n ≤ i ∧ 0 ≤ nt ∧ nt ≤ i
theorem up0 {b : Int} {i : Nat} (h : b ≤ i) : b ≤ ((i + 1 : Nat) : Int) := Int.le_trans h (Int.ofNat_le.mpr (Nat.le_succ i))
theorem up1 {b : Int} {i : Nat} (h : b ≤ i) : b + 1 ≤ ((i + 1 : Nat) : Int) := Int.add_le_add_right h 1
theorem IAr.space {i k : Nat} {b n nt : Int} (h : IAr i k b n nt) : IAr (i + 1) k (b + 1) (n + 1) nt :=
  ⟨Int.le_add_one h.1, up1 h.2.1, up0 h.2.2.1, Int.le_add_one h.2.2.2.1, up1 h.2.2.2.2.1, h.2.2.2.2.2.1, up0 h.2.2.2.2.2.2⟩
theorem bump_lid {i : Nat} {b : Int} {cnt : List Int} (h2 : b ≤ i) (h3 : (cnt.length : Int) ≤ i) : ((bump cnt b).length : Int) ≤ ((i + 1 : Nat) : Int) := by
  rw [bump_len]
  split <;> omega
theorem IAr.tab {i : Nat} {b n nt : Int} {cnt : List Int} (h : IAr i cnt.length b n nt) : IAr (i + 1) (bump cnt b).length 0 (n + 1) (nt + 1) :=
  ⟨Int.le_refl _, Int.natCast_nonneg _, bump_lid h.2.1 h.2.2.1, Int.le_add_one h.2.2.2.1, up1 h.2.2.2.2.1, Int.le_add_one h.2.2.2.2.2.1, up1 h.2.2.2.2.2.2⟩
theorem IAr.lid {i j k : Nat} {b n nt : Int} (h : IAr i k b n nt) (hi : i ≤ j) : IAr j k b n nt :=
  have q {x : Int} (hx : x ≤ i) : x ≤ j := Int.le_trans hx (Int.ofNat_le.mpr hi)
  ⟨h.1, q h.2.1, q h.2.2.1, h.2.2.2.1, q h.2.2.2.2.1, h.2.2.2.2.2.1, q h.2.2.2.2.2.2⟩
/-- behind «if b >= len(count): count = ..» -/
def CntJ (g : Heap) (L : Addr) (s : Shared) (m : Str → Option Value) (I : Addr) (oI : Obj) (rest : List (Addr × Obj)) (lo : Addr → Prop) (cnt : List Int) (b : Int) (s₂ : Shared) : Prop :=
  ∃ h' tk cl vs nn cnt', s₂ = { s with heap := h', toks := tk } ∧ Fr g L h' (fun y => if y = Str.ofString "count" then some (.ref cl) else m y) ∧ News g L h' ((I, oI) :: (cl, W.listOf vs.toArray nn) :: rest) ∧ lo cl ∧ @Ne Nat cl I ∧ IntsAre vs cnt' ∧
    b < (cnt'.length : Int) ∧ (cnt'.length : Int) ≤ 1001 ∧ cnt'.set b.toNat (cnt'.getD b.toNat 0 + 1) = bump cnt b
section
variable {g h' : Heap} {L I cl : Addr} {s : Shared} {m : Str → Option Value} {oI : Obj} {rest : List (Addr × Obj)} {lo : Addr → Prop} {cnt cnt' : List Int} {b : Int} {tk nn : Nat} {vs : List Value}
theorem CntJ.intro (F : Fr g L h' (fun y => if y = Str.ofString "count" then some (.ref cl) else m y)) {news : List (Addr × Obj)} (N : News g L h' news) (hl : ∀ q ∈ (I, oI) :: (cl, W.listOf vs.toArray nn) :: rest, q ∈ news) (h1 : lo cl) (h2 : @Ne Nat cl I) (h3 : IntsAre vs cnt') (h4 : b < (cnt'.length : Int)) (h5 : (cnt'.length : Int) ≤ 1001) (h6 : cnt'.set b.toNat (cnt'.getD b.toNat 0 + 1) = bump cnt b) :
    CntJ g L s m I oI rest lo cnt b { s with heap := h', toks := tk } := ⟨h', tk, cl, vs, nn, cnt', rfl, F, fun q hq => N q (hl q hq), h1, h2, h3, h4, h5, h6⟩
theorem cnt_join {prog : Program} {w : World} {A : Around} {t : Sem Flow} {Q : Flow → Shared → Prop} {E : Value → Shared → Prop} {o : Obj} (_F : Fr g L s.heap m) (_N : News g L s.heap ((I, oI) :: (cl, o) :: rest)) (lo : Addr → Prop) (cnt : List Int) (b : Int)
    (h : wpAny (model prog w) A t (JoinX (CntJ g L s m I oI rest lo cnt b) Q) E s)
    (k : ∀ h' tk cl vs nn cnt', Fr g L h' (fun y => if y = Str.ofString "count" then some (.ref cl) else m y) → News g L h' ((I, oI) :: (cl, W.listOf vs.toArray nn) :: rest) → lo cl → @Ne Nat cl I → IntsAre vs cnt' → b < (cnt'.length : Int) → (cnt'.length : Int) ≤ 1001 → cnt'.set b.toNat (cnt'.getD b.toNat 0 + 1) = bump cnt b → Q .next { s with heap := h', toks := tk }) :
    wpAny (model prog w) A t Q E s := by
  refine wpAny_mono h (fun f s₂ q => ?_) fun _ _ e => e
  cases f with
  | next => obtain ⟨h', tk, cl, vs, nn, cnt', e, F, N, h1, h2, h3, h4, h5, h6⟩ := q; rw [e]; exact k h' tk cl vs nn cnt' F N h1 h2 h3 h4 h5 h6
  | _ => exact q
theorem fr_same {x : Str} {v : Value} (F : Fr g L h' m) (h : m x = some v) : Fr g L h' (fun y => if y = x then some v else m y) := by
  have e : (fun y => if y = x then some v else m y) = m := by
    funext y
    by_cases q : y = x
    · rw [if_pos q, q, h]
    · rw [if_neg q]
  rw [e]; exact F
theorem grow_len (hb0 : 0 ≤ b) (h : (cnt.length : Int) ≤ b) : ((cnt ++ (List.replicate (b - cnt.length + 1).toNat [(0 : Int)]).flatten).length : Int) = b + 1 := by
  have e : (List.replicate (b - cnt.length + 1).toNat [(0 : Int)]).flatten.length = (b - cnt.length + 1).toNat := by
    generalize (b - cnt.length + 1).toNat = k
    induction k with
    | zero => rfl
    | succ k ih => rw [List.replicate_succ, List.flatten_cons, List.length_append, ih]; simp; omega
  rw [List.length_append, e]; omega
end
/-- the state of __init__'s loop -/
structure ISt where
  cl : Addr
  vs : List Value
  nn : Nat
  cnt : List Int
  b : Int
  n : Int
  nt : Int
  tb : Tok
  tn : Tok
  tnt : Tok

set_option maxRecDepth 100000 in
set_option maxHeartbeats 8000000 in
theorem ws_init {w : World} {p : Program} {loose : List Str} {mean : ExcName → Option Value} {mg mb : Str → Option Value} {base g : Heap} {outer : List Env} {s : Shared} {R : Result → Shared → Prop} {gs : Option (List Code)}
    {x dx : Addr} {raw : Str} {tr : Tok}
    (G : Gnd w p loose mean mg mb ⟨none, 600, some outer, gs, 3000⟩ base outer g) (hg : g.StaysIn s.heap) (hx : s.heap.get? x = some (instObj 83 dx)) (hdx : s.heap.get? dx = some (dictOf [] 0)) (hne : dx < x) (fx : g.get? x = none) (fdx : g.get? dx = none)
    (hraw : raw.cps.size ≤ 1000) (hR : ∀ h' tk (r : WsR), r.x = x → r.dx = dx → r.raw = raw → r.Ok → (∀ q ∈ r.led w, h'.get? q.1 = some q.2) → (∀ b o, s.heap.get? b = some o → b ≠ dx → h'.get? b = some o) → s.heap.get? r.D = none → s.heap.get? r.D2 = none →
      R (.ok (.ret .none)) { s with heap := h', toks := tk }) :
    codeAny (model PySem.Challenge.rw_rl0090_01.row.prog w) ⟨none, 600, some outer, gs, 3000⟩ (.call (.ref 38) ⟨[.ref x, .str raw tr], []⟩) R s := by
  have X := G.X
  revert X
  w_top off
  k_fill
  intro X
  refine' callO (own := [(x, instObj 83 dx), (dx, dictOf [] 0)]) X G.T.nolimit hg ?own ?fr ?ho ?cd ?room ?bind ?loc ?_ ?cell ?co ?gen ?kd
  case own => simp only [List.mem_cons, List.not_mem_nil, or_false, forall_eq_or_imp, forall_eq]; exact ⟨hx, hdx⟩
  case fr => simp only [List.mem_cons, List.not_mem_nil, or_false, forall_eq_or_imp, forall_eq]; exact ⟨fx, fdx⟩
  case ho => k_is
  case cd => k_is
  case room => k_room
  case bind => exact BindsTo.of_eq rfl
  case loc => exact locs rfl
  case cell => decide
  case co => rfl
  case gen => rfl
  case kd => rfl
  intro g' L' h₁ st rest F N lt
  have X' := X.keeps st
  have T' := G.T.keeps st
  have B' := (G.keeps st).B
  clear X
  dsimp only
  show wpAny _ _ _ _ _ _
  k_fold
  k_lt lt
  k_lt2 hne
  repeat' ((fail_if_success (with_reducible show wpAny _ _ (pyIter _) _ _ _)); (fail_if_success (with_reducible show wpAny _ _ (exec (Stmt.While _ _ _ _) _) _ _ _)); (fail_if_success (with_reducible show KswEnd _ _ _ _ _ _ _ _ _ _ _ _)); (first | ((k_here; (with_reducible show wpAny _ _ (call (Value.builtin "len") [Value.ref _]) _ _ _); k_dflt (refine' len_tup_ints ?k1 ?k2 ?k3 ?_; (case k1 => exact News.isTup (by k_asm) (by k_mem)); (case k2 => assumption); (case k3 => omega); k_whole))) | ((k_here; (with_reducible show wpAny _ _ (call (Value.type _) [Value.ref _]) _ _ _); k_dflt (refine' kde_tupleOf ?k1 ?k2 ?k3 ?k4 ?k5 ?_; (case k1 => k_asm); (case k2 => k_asm); (case k3 => exact News.isList (by k_asm) (by k_mem)); (case k4 => (have hL9 := IntsAre.length (by assumption); simp only [List.size_toArray]; omega)); (case k5 => exact rfl); k_whole); intro D' h' F' N' l1; (try k_lt l1); (try k_sweep))) | (k_unfold; (try dsimp only)) | (k_end; wrow_close) | walk1 | (dsimp only; walk1) | (leave1; walk_say "STEP leave1"; try dsimp only) | fail "no step"))
  rename_i D' a2 lD a3 a4 a5 tk0 l' a6 lL a7 a8 a9 hC FC NC
  refine' forText (Led := fun c : ISt => (c.cl, W.listOf c.vs.toArray c.nn) :: ?rest) (ps := fun c => [(Str.ofString "count", .ref c.cl), (Str.ofString "b", .int c.b c.tb), (Str.ofString "n", .int c.n c.tn), (Str.ofString "nt", .int c.nt c.tnt)]) (stored := [])
    (Inv := fun i c => (@LT.lt Nat _ D' c.cl ∧ @LT.lt Nat _ x c.cl ∧ @LT.lt Nat _ dx c.cl) ∧ IntsAre c.vs c.cnt ∧ IAr i c.cnt.length c.b c.n c.nt ∧ scan (raw.cps.toList.drop i) c.cnt c.b c.n c.nt = scan raw.cps.toList [] 0 0 0)
    (Exit := fun c => (@LT.lt Nat _ D' c.cl ∧ @LT.lt Nat _ x c.cl ∧ @LT.lt Nat _ dx c.cl) ∧ IntsAre c.vs c.cnt ∧ IAr 1000 c.cnt.length c.b c.n c.nt ∧ ⟨c.cnt, c.b, c.n, c.nt⟩ = scan raw.cps.toList [] 0 0 0)
    (c₀ := ⟨_, [], 0, [], 0, 0, 0, tk, tk, tk⟩) rfl FC NC ?hk ?hp ?turn ?stop ?done
  case hk => repeat' (first | exact List.forall_mem_nil _ | refine List.forall_mem_cons.mpr ⟨rfl, ?_⟩)
  case hp => exact ⟨lL, .nil, ⟨Int.le_refl _, Int.le_refl _, Int.le_refl _, Int.le_refl _, Int.le_refl _, Int.le_refl _, Int.le_refl _⟩, by rw [List.drop_zero]⟩
  case stop =>
    intro c hInv
    obtain ⟨hlt9, hI, hA, hsc⟩ := hInv
    rw [List.drop_of_length_le (by simp)] at hsc
    exact ⟨hlt9, hI, hA.lid hraw, hsc⟩
  case done =>
    intro c u h tk hE F2 N2
    obtain ⟨cl, vs, nn, cnt, b, n, nt, tb, tn, tnt⟩ := c
    obtain ⟨hlt9, hI, hA, hsc⟩ := hE
    dsimp only at hlt9 F2 N2 hI hA hsc
    obtain ⟨hb0, hb, hlen, hn0, hn, hnt0, hnt⟩ := hA
    clear FC NC
    have hMk9 := kstMark
    repeat' ((fail_if_success (with_reducible show wpAny _ _ (pyIter _) _ _ _)); (fail_if_success (with_reducible show wpAny _ _ (exec (Stmt.While _ _ _ _) _) _ _ _)); (fail_if_success (with_reducible show KswEnd _ _ _ _ _ _ _ _ _ _ _ _)); (first | ((k_here; (with_reducible show wpAny _ _ (call (Value.builtin "len") [Value.ref _]) _ _ _); k_dflt (refine' len_tup_ints ?k1 ?k2 ?k3 ?_; (case k1 => exact News.isTup (by k_asm) (by k_mem)); (case k2 => assumption); (case k3 => omega); k_whole))) | ((k_here; (with_reducible show wpAny _ _ (call (Value.type _) [Value.ref _]) _ _ _); k_dflt (refine' kde_tupleOf ?k1 ?k2 ?k3 ?k4 ?k5 ?_; (case k1 => k_asm); (case k2 => k_asm); (case k3 => exact News.isList (by k_asm) (by k_mem)); (case k4 => (have hL9 := IntsAre.length (by assumption); simp only [List.size_toArray]; omega)); (case k5 => exact rfl); k_whole); intro D' h' F' N' l1; (try k_lt l1); (try k_sweep))) | (k_unfold; (try dsimp only)) | (k_end; wrow_close) | walk1 | (dsimp only; walk1) | (leave1; walk_say "STEP leave1"; try dsimp only) | fail "no step"))
    rename Fr _ _ _ _ => FE
    rename News _ _ _ _ => NE
    refine' hR _ _ ⟨x, dx, _, _, vs, raw, cnt, b, n, nt, _, _, _, _, _, _, _, _, _, _⟩ rfl rfl rfl ?ok ?led ?keep ?f1 ?f2
    case led => repeat' (first | exact List.forall_mem_nil _ | refine List.forall_mem_cons.mpr ⟨(NE _ (by k_mem)).1, ?_⟩)
    case ok => exact ⟨hI, hne, by dsimp only; omega, by dsimp only; omega, hb0, hb, hlen, hn0, hn, hnt0, hnt, rfl, hsc⟩
    case keep =>
      intro b' o e hb'
      by_cases e1 : b' = x
      · rw [e1, hx] at e; cases e; rw [e1]; exact (NE (x, instObj 83 dx) (by k_mem)).1
      · refine FE.keep b' o (rest b' o e ?_)
        simp only [List.mem_cons, List.not_mem_nil, or_false, forall_eq_or_imp, forall_eq]
        exact ⟨fun q => e1 q.symm, fun q => hb' q.symm⟩
    case f1 =>
      refine Option.eq_none_iff_forall_ne_some.mpr fun o e => ?_
      have q := (NE _ (.head _)).2.2
      rw [rest _ o e ?_] at q
      · cases q
      · simp only [List.mem_cons, List.not_mem_nil, or_false, forall_eq_or_imp, forall_eq]
        exact ⟨neN (by omega), neN (by omega)⟩
    case f2 =>
      refine Option.eq_none_iff_forall_ne_some.mpr fun o e => ?_
      have q := (NE _ (.tail _ (.head _))).2.2
      rw [rest _ o e ?_] at q
      · cases q
      · simp only [List.mem_cons, List.not_mem_nil, or_false, forall_eq_or_imp, forall_eq]
        exact ⟨neN (by omega), neN (by omega)⟩
  case turn =>
    intro i cp t c u h tk I oI hcp hInv hneI F2 N2
    obtain ⟨cl, vs, nn, cnt, b, n, nt, tb, tn, tnt⟩ := c
    obtain ⟨hlt9, hI, hA, hsc⟩ := hInv
    have hneJ := hneI
    simp only [AllNe, and_true] at hneI
    dsimp only at hlt9 hneI F2 N2 hI hA hsc
    obtain ⟨hb0, hb, hlen, hn0, hn, hnt0, hnt⟩ := id hA
    clear FC NC
    have hi9 : i < 1000 := by
      have := (Array.getElem?_eq_some_iff.mp hcp).1
      omega
    have hMk9 := kstMark
    rw [drop_step hcp] at hsc
    repeat' ((fail_if_success (with_reducible show wpAny _ _ (exec (Stmt.If (PySem.Expr.Compare _ [CmpOp.GtE] _ _) _ _ _) _) _ _ _)); (fail_if_success (with_reducible show wpAny _ _ (pyIter _) _ _ _)); (first | ((k_here; (with_reducible show wpAny _ _ (call (Value.builtin "len") [Value.ref _]) _ _ _); k_dflt (refine' len_tup_ints ?k1 ?k2 ?k3 ?_; (case k1 => exact News.isTup (by k_asm) (by k_mem)); (case k2 => assumption); (case k3 => omega); k_whole))) | ((k_here; (with_reducible show wpAny _ _ (call (Value.type _) [Value.ref _]) _ _ _); k_dflt (refine' kde_tupleOf ?k1 ?k2 ?k3 ?k4 ?k5 ?_; (case k1 => k_asm); (case k2 => k_asm); (case k3 => exact News.isList (by k_asm) (by k_mem)); (case k4 => (have hL9 := IntsAre.length (by assumption); simp only [List.size_toArray]; omega)); (case k5 => exact rfl); k_whole); intro D' h' F' N' l1; (try k_lt l1); (try k_sweep))) | (k_unfold; (try dsimp only)) | (k_end; wrow_close) | walk1 | (dsimp only; walk1) | (leave1; walk_say "STEP leave1"; try dsimp only) | fail "no step"))
    · refine' EndG.intro ⟨_, _, _, cnt, b + 1, n + 1, nt, _, _, _⟩ (by k_asm) (by k_asm) ?hl ?hI ?hne ?hk ?hm ?hi
      case hk => repeat' (first | exact List.forall_mem_nil _ | exact rfl | refine List.forall_mem_cons.mpr ⟨?_, ?_⟩)
      case hl => repeat' (first | exact List.forall_mem_nil _ | refine List.forall_mem_cons.mpr ⟨by k_mem, ?_⟩)
      case hI => k_mem
      case hne => first | exact hneJ | exact And.intro (by first | assumption | exact Ne.symm (by assumption) | exact Nat.ne_of_gt (by assumption) | exact Nat.ne_of_lt (by assumption)) hneJ.2 | (simp only [AllNe, and_true]; (repeat' apply And.intro) <;> omega)
      case hm => intro z z1 z2 z3; repeat (first | exact kstB_off z2 z3 rfl | refine ite_off (by with_reducible first | exact z1 | exact z2 _ List.mem_cons_self | exact z2 _ (List.mem_cons_of_mem _ List.mem_cons_self) | exact z2 _ (List.mem_cons_of_mem _ (List.mem_cons_of_mem _ List.mem_cons_self)) | exact z2 _ (List.mem_cons_of_mem _ (List.mem_cons_of_mem _ (List.mem_cons_of_mem _ List.mem_cons_self))) | exact z2 _ (List.mem_cons_of_mem _ (List.mem_cons_of_mem _ (List.mem_cons_of_mem _ (List.mem_cons_of_mem _ List.mem_cons_self))))) ?_)
      case hi =>
        rename ((({ cps := #[cp] } : Str) == Str.ofString " ") = true) => q1
        have e1 := sign_is (c := 32) (by decide +kernel) q1
        rw [scan, if_pos (beq_iff_eq.mp e1)] at hsc
        exact ⟨hlt9, hI, hA.space, hsc⟩
    · rename Fr _ _ _ _ => F9
      rename News _ _ _ _ => N9
      refine cnt_join F9 N9 (fun c => @LT.lt Nat _ D' c ∧ @LT.lt Nat _ x c ∧ @LT.lt Nat _ dx c) cnt b ?_ ?_
      · repeat' ((fail_if_success (with_reducible show wpAny _ _ (pyIter _) _ _ _)); (fail_if_success (with_reducible show wpAny _ _ (exec (Stmt.While _ _ _ _) _) _ _ _)); (fail_if_success (with_reducible show KswEnd _ _ _ _ _ _ _ _ _ _ _ _)); (first | ((k_here; (with_reducible show wpAny _ _ (call (Value.builtin "len") [Value.ref _]) _ _ _); k_dflt (refine' len_tup_ints ?k1 ?k2 ?k3 ?_; (case k1 => exact News.isTup (by k_asm) (by k_mem)); (case k2 => assumption); (case k3 => omega); k_whole))) | ((k_here; (with_reducible show wpAny _ _ (call (Value.type _) [Value.ref _]) _ _ _); k_dflt (refine' kde_tupleOf ?k1 ?k2 ?k3 ?k4 ?k5 ?_; (case k1 => k_asm); (case k2 => k_asm); (case k3 => exact News.isList (by k_asm) (by k_mem)); (case k4 => (have hL9 := IntsAre.length (by assumption); simp only [List.size_toArray]; omega)); (case k5 => exact rfl); k_whole); intro D' h' F' N' l1; (try k_lt l1); (try k_sweep))) | (k_unfold; (try dsimp only)) | (k_end; wrow_close) | walk1 | (dsimp only; walk1) | (leave1; walk_say "STEP leave1"; try dsimp only) | fail "no step"))
        · refine' CntJ.intro (by k_asm) (by k_asm) ?n2 ?h1 ?h2 (by assumption) ?h4 ?h5 (bump_grow (by assumption) hb0)
          case n2 => repeat' (first | exact List.forall_mem_nil _ | refine List.forall_mem_cons.mpr ⟨by k_mem, ?_⟩)
          case h1 => exact ⟨by omega, by omega, by omega⟩
          case h2 => omega
          case h4 => rw [grow_len hb0 (by assumption)]; omega
          case h5 => rw [grow_len hb0 (by assumption)]; omega
        · exact CntJ.intro (fr_same F9 rfl) N9 (fun _ q => q) hlt9 hneJ.1 hI (Int.not_le.mp (by assumption)) (by omega) (bump_stay (by assumption))
      · intro h8 tk8 cl8 vs8 nn8 cnt8 F8 N8 hlo hneq hI8 hb8 hl8 hset
        clear F9 N9
        repeat' ((fail_if_success (with_reducible show wpAny _ _ (pyIter _) _ _ _)); (fail_if_success (with_reducible show wpAny _ _ (exec (Stmt.While _ _ _ _) _) _ _ _)); (fail_if_success (with_reducible show KswEnd _ _ _ _ _ _ _ _ _ _ _ _)); (first | ((k_here; (with_reducible show wpAny _ _ (call (Value.builtin "len") [Value.ref _]) _ _ _); k_dflt (refine' len_tup_ints ?k1 ?k2 ?k3 ?_; (case k1 => exact News.isTup (by k_asm) (by k_mem)); (case k2 => assumption); (case k3 => omega); k_whole))) | ((k_here; (with_reducible show wpAny _ _ (call (Value.type _) [Value.ref _]) _ _ _); k_dflt (refine' kde_tupleOf ?k1 ?k2 ?k3 ?k4 ?k5 ?_; (case k1 => k_asm); (case k2 => k_asm); (case k3 => exact News.isList (by k_asm) (by k_mem)); (case k4 => (have hL9 := IntsAre.length (by assumption); simp only [List.size_toArray]; omega)); (case k5 => exact rfl); k_whole); intro D' h' F' N' l1; (try k_lt l1); (try k_sweep))) | (k_unfold; (try dsimp only)) | (k_end; wrow_close) | walk1 | (dsimp only; walk1) | (leave1; walk_say "STEP leave1"; try dsimp only) | fail "no step"))
        refine' EndG.intro ⟨_, _, _, bump cnt b, 0, n + 1, nt + 1, _, _, _⟩ (by k_asm) (by k_asm) ?hl ?hI ?hne ?hk ?hm ?hi
        case hk => repeat' (first | exact List.forall_mem_nil _ | exact rfl | refine List.forall_mem_cons.mpr ⟨?_, ?_⟩)
        case hl => repeat' (first | exact List.forall_mem_nil _ | refine List.forall_mem_cons.mpr ⟨by k_mem, ?_⟩)
        case hI => k_mem
        case hne => exact And.intro hneq hneJ.2
        case hm => intro z z1 z2 z3; repeat (first | exact kstB_off z2 z3 rfl | refine ite_off (by with_reducible first | exact z1 | exact z2 _ List.mem_cons_self | exact z2 _ (List.mem_cons_of_mem _ List.mem_cons_self) | exact z2 _ (List.mem_cons_of_mem _ (List.mem_cons_of_mem _ List.mem_cons_self)) | exact z2 _ (List.mem_cons_of_mem _ (List.mem_cons_of_mem _ (List.mem_cons_of_mem _ List.mem_cons_self))) | exact z2 _ (List.mem_cons_of_mem _ (List.mem_cons_of_mem _ (List.mem_cons_of_mem _ (List.mem_cons_of_mem _ List.mem_cons_self))))) ?_)
        case hi =>
          rename ((({ cps := #[cp] } : Str) == Str.ofString " ") = false) => q1
          rename ((({ cps := #[cp] } : Str) == Str.ofString "\t") = true) => q2
          have e1 := sign_is (c := 32) (by decide +kernel) q1
          have e2 := sign_is (c := 9) (by decide +kernel) q2
          rw [scan, if_neg (by simpa using e1), if_pos (beq_iff_eq.mp e2)] at hsc
          refine ⟨hlo, ?_, hA.tab, hsc⟩
          dsimp only
          rw [← hset]
          assumption
    · dsimp only
      refine' OutG.intro ⟨_, _, _, cnt, b, n, nt, _, _, _⟩ (by k_asm) (by k_asm) ?hl ?hk ?hm ?hi
      case hk => repeat' (first | exact List.forall_mem_nil _ | exact rfl | refine List.forall_mem_cons.mpr ⟨?_, ?_⟩)
      case hl => repeat' (first | exact List.forall_mem_nil _ | refine List.forall_mem_cons.mpr ⟨by k_mem, ?_⟩)
      case hm => intro z z1 z2 z3; repeat (first | exact kstB_off z2 z3 rfl | refine ite_off (by with_reducible first | exact z1 | exact z2 _ List.mem_cons_self | exact z2 _ (List.mem_cons_of_mem _ List.mem_cons_self) | exact z2 _ (List.mem_cons_of_mem _ (List.mem_cons_of_mem _ List.mem_cons_self)) | exact z2 _ (List.mem_cons_of_mem _ (List.mem_cons_of_mem _ (List.mem_cons_of_mem _ List.mem_cons_self))) | exact z2 _ (List.mem_cons_of_mem _ (List.mem_cons_of_mem _ (List.mem_cons_of_mem _ (List.mem_cons_of_mem _ List.mem_cons_self))))) ?_)
      case hi =>
        rename ((({ cps := #[cp] } : Str) == Str.ofString " ") = false) => q1
        rename ((({ cps := #[cp] } : Str) == Str.ofString "\t") = false) => q2
        have e1 := sign_is (c := 32) (by decide +kernel) q1
        have e2 := sign_is (c := 9) (by decide +kernel) q2
        rw [scan, if_neg (by simpa using e1), if_neg (by simpa using e2)] at hsc
        exact ⟨hlt9, hI, hA.lid (Nat.le_of_lt hi9), hsc⟩
end
-- MLevel
section
open PySem PySem.W PySem.Calls PyProof.Rows
theorem fun_lid {n i : Nat} {ts : Int} (hi : i < ((n : Int) - ts).toNat) (c1 : (n : Int) ≤ 1000) : (i : Int) ≤ 1000 - ts := by omega
theorem quot_bits {ts : Int} {i : Nat} (t0 : 1 ≤ ts) (t1 : ts ≤ 5000) (hi : (i : Int) ≤ 1000 - ts) : Builtin.Int.intBits ((ts + (i : Int)).fdiv ts) ≤ 64 := by
  have t2 : 0 ≤ ts := Int.le_trans (by decide) t0
  have h2 : 0 ≤ ts + (i : Int) := Int.add_nonneg t2 (Int.natCast_nonneg i)
  have h0 := Int.fdiv_nonneg h2 t2
  have h1 : (ts + (i : Int)).fdiv ts ≤ ts + (i : Int) := by
    rw [Int.fdiv_eq_ediv_of_nonneg _ t2]
    exact Int.ediv_le_self _ h2
  have h3 : ts + (i : Int) ≤ 1000 := by omega
  exact intBits_le_64 (Int.lt_of_lt_of_le (by decide) h0) (Int.lt_of_le_of_lt (Int.le_trans h1 h3) (by decide))
set_option maxRecDepth 100000 in
set_option maxHeartbeats 8000000 in
theorem ws_level {w : World} {p : Program} {loose : List Str} {mean : ExcName → Option Value} {mg mb : Str → Option Value} {base g : Heap} {outer : List Env} {s : Shared} {R : Result → Shared → Prop} {gs : Option (List Code)}
    {r : WsR} {ts : Int} {tt : Tok}
    (G : Gnd w p loose mean mg mb ⟨none, 600, some outer, gs, 3000⟩ base outer g) (hg : g.StaysIn s.heap) (ok : r.Ok) (hr : ∀ q ∈ r.led w, s.heap.get? q.1 = some q.2) (fr : ∀ q ∈ r.led w, g.get? q.1 = none)
    (t0 : 1 ≤ ts) (t1 : ts ≤ 5000)
    (hR : ∀ h' tk tv, s.heap.StaysIn h' → R (.ok (.ret (.int (lvl r.cnt r.b r.nt ts) tv))) { s with heap := h', toks := tk }) :
    codeAny (model PySem.Challenge.rw_rl0090_01.row.prog w) ⟨none, 600, some outer, gs, 3000⟩ (.call (.ref 52) ⟨[.ref r.x, .int ts tt], []⟩) R s := by
  obtain ⟨x, dx, D, D2, vs, raw, cnt, b, n, nt, sim, k0, k1, k2, k3, k4, v0, v1, v2, tb⟩ := r
  obtain ⟨hI, o1, o2, o3, b0, b1, c1, n0, n1, m0, m1, hsim, hread⟩ := ok
  dsimp only at hI o1 o2 o3 b0 b1 c1 n0 n1 m0 m1 hsim hread
  dsimp only [WsR.led] at hr fr ⊢
  have X := G.X
  revert X
  w_top off
  k_fill
  intro X
  refine' callO (own := _) X G.T.nolimit hg hr fr ?ho ?cd ?room ?bind ?loc ?_ ?cell ?co ?gen ?kd
  case ho => k_is
  case cd => k_is
  case room => k_room
  case bind => exact BindsTo.of_eq rfl
  case loc => exact locs rfl
  case cell => decide
  case co => rfl
  case gen => rfl
  case kd => rfl
  intro g' L' h₁ st rest F N lt
  have X' := X.keeps st
  have T' := G.T.keeps st
  have B' := (G.keeps st).B
  clear X
  dsimp only
  show wpAny _ _ _ _ _ _
  k_fold
  k_lt lt
  have hMk9 := kstMark
  repeat' ((fail_if_success (with_reducible show wpAny _ _ (pyIter _) _ _ _)); (fail_if_success (with_reducible show wpAny _ _ (exec (Stmt.While _ _ _ _) _) _ _ _)); (fail_if_success (with_reducible show KswEnd _ _ _ _ _ _ _ _ _ _ _ _)); (first | ((k_here; (with_reducible show wpAny _ _ (call (Value.builtin "len") [Value.ref _]) _ _ _); k_dflt (refine' len_tup_ints ?k1 ?k2 ?k3 ?_; (case k1 => exact News.isTup (by k_asm) (by k_mem)); (case k2 => assumption); (case k3 => omega); k_whole))) | ((k_here; (with_reducible show wpAny _ _ (call (Value.type _) [Value.ref _]) _ _ _); k_dflt (refine' kde_tupleOf ?k1 ?k2 ?k3 ?k4 ?k5 ?_; (case k1 => k_asm); (case k2 => k_asm); (case k3 => exact News.isList (by k_asm) (by k_mem)); (case k4 => (have hL9 := IntsAre.length (by assumption); simp only [List.size_toArray]; omega)); (case k5 => exact rfl); k_whole); intro D' h' F' N' l1; (try k_lt l1); (try k_sweep))) | (k_unfold; (try dsimp only)) | (k_end; wrow_close) | walk1 | (dsimp only; walk1) | (leave1; walk_say "STEP leave1"; try dsimp only) | fail "no step"))
  rename_i hr9 FC NC st9
  refine' forRange (Led := fun _ : Int × Tok => ?led) (ps := fun c => [(Str.ofString "il", .int c.1 c.2)]) (stored := []) (Inv := fun i c => c.1 = lvlSum cnt ts i) (Exit := fun c => c.1 = lvlSum cnt ts ((cnt.length : Int) - ts).toNat)
    (c₀ := (0, _)) rfl hr9 (small_one (by omega) (by omega) (by omega) (by omega)) (rangeSize_nat _ _) FC NC ?hk rfl ?turn (fun _ e => e) ?done
  case hk => repeat' (first | exact List.forall_mem_nil _ | exact rfl | refine List.forall_mem_cons.mpr ⟨?_, ?_⟩)
  case turn =>
    intro i t c u h tk I oI hi hInv hneI F2 N2
    obtain ⟨il, til⟩ := c
    dsimp only at hInv F2 N2
    clear FC NC
    have hneJ := hneI
    simp only [AllNe, and_true] at hneI
    have hq := quot_bits t0 t1 (fun_lid hi c1)
    repeat' ((fail_if_success (with_reducible show wpAny _ _ (pyIter _) _ _ _)); (fail_if_success (with_reducible show wpAny _ _ (exec (Stmt.While _ _ _ _) _) _ _ _)); (fail_if_success (with_reducible show KswEnd _ _ _ _ _ _ _ _ _ _ _ _)); (first | ((k_here; (with_reducible show wpAny _ _ (call (Value.builtin "len") [Value.ref _]) _ _ _); k_dflt (refine' len_tup_ints ?k1 ?k2 ?k3 ?_; (case k1 => exact News.isTup (by k_asm) (by k_mem)); (case k2 => assumption); (case k3 => omega); k_whole))) | ((k_here; (with_reducible show wpAny _ _ (call (Value.type _) [Value.ref _]) _ _ _); k_dflt (refine' kde_tupleOf ?k1 ?k2 ?k3 ?k4 ?k5 ?_; (case k1 => k_asm); (case k2 => k_asm); (case k3 => exact News.isList (by k_asm) (by k_mem)); (case k4 => (have hL9 := IntsAre.length (by assumption); simp only [List.size_toArray]; omega)); (case k5 => exact rfl); k_whole); intro D' h' F' N' l1; (try k_lt l1); (try k_sweep))) | (k_unfold; (try dsimp only)) | (k_end; wrow_close) | walk1 | (dsimp only; walk1) | (leave1; walk_say "STEP leave1"; try dsimp only) | fail "no step"))
    refine' EndG.intro (_, _) (by k_asm) (by k_asm) ?hl ?hI ?hne ?hk ?hm ?hi
    case hk => repeat' (first | exact List.forall_mem_nil _ | exact rfl | refine List.forall_mem_cons.mpr ⟨?_, ?_⟩)
    case hl => repeat' (first | exact List.forall_mem_nil _ | refine List.forall_mem_cons.mpr ⟨by k_mem, ?_⟩)
    case hI => k_mem
    case hne => first | exact hneJ | exact And.intro (by first | assumption | exact Ne.symm (by assumption) | exact Nat.ne_of_gt (by assumption) | exact Nat.ne_of_lt (by assumption)) hneJ.2 | (simp only [AllNe, and_true]; (repeat' apply And.intro) <;> omega)
    case hm => intro z z1 z2 z3; repeat (first | exact kstB_off z2 z3 rfl | refine ite_off (by with_reducible first | exact z1 | exact z2 _ List.mem_cons_self | exact z2 _ (List.mem_cons_of_mem _ List.mem_cons_self)) ?_)
    case hi => (dsimp only; rw [hInv]; rfl)
  case done =>
    intro c u h tk hE F2 N2
    obtain ⟨il, til⟩ := c
    dsimp only at hE F2 N2
    clear FC NC
    repeat' ((fail_if_success (with_reducible show wpAny _ _ (pyIter _) _ _ _)); (fail_if_success (with_reducible show wpAny _ _ (exec (Stmt.While _ _ _ _) _) _ _ _)); (fail_if_success (with_reducible show KswEnd _ _ _ _ _ _ _ _ _ _ _ _)); (first | ((k_here; (with_reducible show wpAny _ _ (call (Value.builtin "len") [Value.ref _]) _ _ _); k_dflt (refine' len_tup_ints ?k1 ?k2 ?k3 ?_; (case k1 => exact News.isTup (by k_asm) (by k_mem)); (case k2 => assumption); (case k3 => omega); k_whole))) | ((k_here; (with_reducible show wpAny _ _ (call (Value.type _) [Value.ref _]) _ _ _); k_dflt (refine' kde_tupleOf ?k1 ?k2 ?k3 ?k4 ?k5 ?_; (case k1 => k_asm); (case k2 => k_asm); (case k3 => exact News.isList (by k_asm) (by k_mem)); (case k4 => (have hL9 := IntsAre.length (by assumption); simp only [List.size_toArray]; omega)); (case k5 => exact rfl); k_whole); intro D' h' F' N' l1; (try k_lt l1); (try k_sweep))) | (k_unfold; (try dsimp only)) | (k_end; wrow_close) | walk1 | (dsimp only; walk1) | (leave1; walk_say "STEP leave1"; try dsimp only) | fail "no step"))
    dsimp only
    subst hE
    refine hR _ _ _ (stays_of rest hr (by k_asm) (by k_asm) ?_)
    repeat' (first | exact List.forall_mem_nil _ | refine List.forall_mem_cons.mpr ⟨by k_mem, ?_⟩)
end
-- MSmall
section
open PySem PySem.W PySem.Calls PyProof.Rows
set_option maxRecDepth 100000 in
set_option maxHeartbeats 8000000 in
theorem ws_longest {w : World} {p : Program} {loose : List Str} {mean : ExcName → Option Value} {mg mb : Str → Option Value} {base g : Heap} {outer : List Env} {s : Shared} {R : Result → Shared → Prop} {gs : Option (List Code)}
    {r : WsR}
    (G : Gnd w p loose mean mg mb ⟨none, 600, some outer, gs, 3000⟩ base outer g) (hg : g.StaysIn s.heap) (ok : r.Ok) (hr : ∀ q ∈ r.led w, s.heap.get? q.1 = some q.2) (fr : ∀ q ∈ r.led w, g.get? q.1 = none)
    (hR : ∀ h' tk tv, s.heap.StaysIn h' → R (.ok (.ret (.int (if r.b > (r.cnt.length : Int) - 1 then r.b else (r.cnt.length : Int) - 1) tv))) { s with heap := h', toks := tk }) :
    codeAny (model PySem.Challenge.rw_rl0090_01.row.prog w) ⟨none, 600, some outer, gs, 3000⟩ (.call (.ref 45) ⟨[.ref r.x], []⟩) R s := by
  obtain ⟨x, dx, D, D2, vs, raw, cnt, b, n, nt, sim, k0, k1, k2, k3, k4, v0, v1, v2, tb⟩ := r
  obtain ⟨hI, o1, o2, o3, b0, b1, c1, n0, n1, m0, m1, hsim, hread⟩ := ok
  dsimp only at hI o1 o2 o3 b0 b1 c1 n0 n1 m0 m1 hsim hread
  dsimp only [WsR.led] at hr fr ⊢
  have X := G.X
  revert X
  w_top off
  k_fill
  intro X
  refine' callO (own := _) X G.T.nolimit hg hr fr ?ho ?cd ?room ?bind ?loc ?_ ?cell ?co ?gen ?kd
  case ho => k_is
  case cd => k_is
  case room => k_room
  case bind => exact BindsTo.of_eq rfl
  case loc => exact locs rfl
  case cell => decide
  case co => rfl
  case gen => rfl
  case kd => rfl
  intro g' L' h₁ st rest F N lt
  have X' := X.keeps st
  have T' := G.T.keeps st
  have B' := (G.keeps st).B
  clear X
  dsimp only
  show wpAny _ _ _ _ _ _
  k_fold
  k_lt lt
  have hMk9 := kstMark
  repeat' ((fail_if_success (with_reducible show wpAny _ _ (pyIter _) _ _ _)); (fail_if_success (with_reducible show wpAny _ _ (exec (Stmt.While _ _ _ _) _) _ _ _)); (fail_if_success (with_reducible show KswEnd _ _ _ _ _ _ _ _ _ _ _ _)); (first | ((k_here; (with_reducible show wpAny _ _ (call (Value.builtin "len") [Value.ref _]) _ _ _); k_dflt (refine' len_tup_ints ?k1 ?k2 ?k3 ?_; (case k1 => exact News.isTup (by k_asm) (by k_mem)); (case k2 => assumption); (case k3 => omega); k_whole))) | ((k_here; (with_reducible show wpAny _ _ (call (Value.type _) [Value.ref _]) _ _ _); k_dflt (refine' kde_tupleOf ?k1 ?k2 ?k3 ?k4 ?k5 ?_; (case k1 => k_asm); (case k2 => k_asm); (case k3 => exact News.isList (by k_asm) (by k_mem)); (case k4 => (have hL9 := IntsAre.length (by assumption); simp only [List.size_toArray]; omega)); (case k5 => exact rfl); k_whole); intro D' h' F' N' l1; (try k_lt l1); (try k_sweep))) | (k_unfold; (try dsimp only)) | (k_end; wrow_close) | walk1 | (dsimp only; walk1) | (leave1; walk_say "STEP leave1"; try dsimp only) | fail "no step"))
  refine hR _ _ _ (stays_of rest hr (by k_asm) (by k_asm) ?_)
  repeat' (first | exact List.forall_mem_nil _ | refine List.forall_mem_cons.mpr ⟨by k_mem, ?_⟩)
set_option maxRecDepth 100000 in
set_option maxHeartbeats 8000000 in
theorem ws_equal {w : World} {p : Program} {loose : List Str} {mean : ExcName → Option Value} {mg mb : Str → Option Value} {base g : Heap} {outer : List Env} {s : Shared} {R : Result → Shared → Prop} {gs : Option (List Code)}
    {r r' : WsR}
    (G : Gnd w p loose mean mg mb ⟨none, 600, some outer, gs, 3000⟩ base outer g) (hg : g.StaysIn s.heap) (ok : r.Ok) (ok' : r'.Ok) (hr : ∀ q ∈ r.led w ++ r'.led w, s.heap.get? q.1 = some q.2) (fr : ∀ q ∈ r.led w ++ r'.led w, g.get? q.1 = none)
    (hR : ∀ h' tk, s.heap.StaysIn h' → R (.ok (.ret (.bool (decide (r.cnt = r'.cnt ∧ r.b = r'.b))))) { s with heap := h', toks := tk }) :
    codeAny (model PySem.Challenge.rw_rl0090_01.row.prog w) ⟨none, 600, some outer, gs, 3000⟩ (.call (.ref 59) ⟨[.ref r.x, .ref r'.x], []⟩) R s := by
  obtain ⟨x, dx, D, D2, vs, raw, cnt, b, n, nt, sim, k0, k1, k2, k3, k4, v0, v1, v2, tb⟩ := r
  obtain ⟨hI, o1, o2, o3, b0, b1, c1, n0, n1, m0, m1, hsim, hread⟩ := ok
  dsimp only at hI o1 o2 o3 b0 b1 c1 n0 n1 m0 m1 hsim hread
  obtain ⟨x', dx', D', D2', vs', raw', cnt', b', n', nt', sim', k0', k1', k2', k3', k4', v0', v1', v2', tb'⟩ := r'
  obtain ⟨hI', o1', o2', o3', b0', b1', c1', n0', n1', m0', m1', hsim', hread'⟩ := ok'
  dsimp only at hI' o1' o2' o3' b0' b1' c1' n0' n1' m0' m1' hsim' hread'
  dsimp only [WsR.led, List.cons_append, List.nil_append] at hr fr ⊢
  have X := G.X
  revert X
  w_top off
  k_fill
  intro X
  refine' callO (own := _) X G.T.nolimit hg hr fr ?ho ?cd ?room ?bind ?loc ?_ ?cell ?co ?gen ?kd
  case ho => k_is
  case cd => k_is
  case room => k_room
  case bind => exact BindsTo.of_eq rfl
  case loc => exact locs rfl
  case cell => decide
  case co => rfl
  case gen => rfl
  case kd => rfl
  intro g' L' h₁ st rest F N lt
  have X' := X.keeps st
  have T' := G.T.keeps st
  have B' := (G.keeps st).B
  clear X
  dsimp only
  show wpAny _ _ _ _ _ _
  k_fold
  k_lt lt
  have hMk9 := kstMark
  repeat' ((fail_if_success (with_reducible show wpAny _ _ (pyIter _) _ _ _)); (fail_if_success (with_reducible show wpAny _ _ (exec (Stmt.While _ _ _ _) _) _ _ _)); (fail_if_success (with_reducible show KswEnd _ _ _ _ _ _ _ _ _ _ _ _)); (first | ((k_here; (with_reducible show wpAny _ _ (call (Value.builtin "len") [Value.ref _]) _ _ _); k_dflt (refine' len_tup_ints ?k1 ?k2 ?k3 ?_; (case k1 => exact News.isTup (by k_asm) (by k_mem)); (case k2 => assumption); (case k3 => omega); k_whole))) | ((k_here; (with_reducible show wpAny _ _ (call (Value.type _) [Value.ref _]) _ _ _); k_dflt (refine' kde_tupleOf ?k1 ?k2 ?k3 ?k4 ?k5 ?_; (case k1 => k_asm); (case k2 => k_asm); (case k3 => exact News.isList (by k_asm) (by k_mem)); (case k4 => (have hL9 := IntsAre.length (by assumption); simp only [List.size_toArray]; omega)); (case k5 => exact rfl); k_whole); intro D' h' F' N' l1; (try k_lt l1); (try k_sweep))) | (k_unfold; (try dsimp only)) | (k_end; wrow_close) | walk1 | (dsimp only; walk1) | (leave1; walk_say "STEP leave1"; try dsimp only) | fail "no step"))
  refine eq_dataH (da := .tuple [.tuple (cnt.map PyData.int), .int b]) (db := .tuple [.tuple (cnt'.map PyData.int), .int b']) (reads_tuple_at (News.get (by k_asm) (by k_mem)) rfl rfl (ReadsAll.cons (reads_tuple_at (News.get (by k_asm) (by k_mem)) rfl rfl (readsAll_of_ints hI)) (ReadsAll.cons (Reads.int _ _) ReadsAll.nil)))
    (reads_tuple_at (News.get (by k_asm) (by k_mem)) rfl rfl (ReadsAll.cons (reads_tuple_at (News.get (by k_asm) (by k_mem)) rfl rfl (readsAll_of_ints hI')) (ReadsAll.cons (Reads.int _ _) ReadsAll.nil))) ?_ ?_ (by ke_room) ?_
  · (simp [SeqAt.shaped, PyData.canLay0, PyData.canLayAll0, PyData.depth, PyData.depthAll, ke_canLayAll0, ke_depthAll]; done)
  · (simp [SeqAt.shaped, PyData.canLay0, PyData.canLayAll0, PyData.depth, PyData.depthAll, ke_canLayAll0, ke_depthAll]; done)
  rw [show PyData.eqv (.tuple [.tuple (cnt.map PyData.int), .int b]) (.tuple [.tuple (cnt'.map PyData.int), .int b']) = decide (cnt = cnt' ∧ b = b') from by
    simp only [PyData.eqv, PyData.eqvAll, ked_eqvAll, Bool.and_true]
    by_cases q1 : cnt = cnt' <;> by_cases q2 : b = b' <;> simp [q1, q2]]
  dsimp only
  refine hR _ _ (stays_of rest hr (by k_asm) (by k_asm) ?_)
  repeat' (first | exact List.forall_mem_nil _ | refine List.forall_mem_cons.mpr ⟨by k_mem, ?_⟩)
end
-- MLess
section
open PySem PySem.W PySem.Calls PyProof.Rows
theorem use_longest {w : World} {p : Program} {loose : List Str} {mean : ExcName → Option Value} {mg mb : Str → Option Value} {base h₀ : Heap} {outer : List Env} {s : Shared} {A A₀ : Around} {L : Addr} {m : Str → Option Value} {env : Env} {news : List (Addr × Obj)} {Q : Value → Shared → Prop} {E : Value → Shared → Prop} {r : WsR}
    (B : Below A₀ base outer h₀) (F : Fr h₀ L s.heap m) (X : Frag.In (hd.heap_39 w.params) h₀) (N : News h₀ L s.heap news) (T : Top p loose mean mg mb h₀) (hA : A.frames = some (env :: outer)) (hf : env.frame = some L) (hke : env.scope.kind = .function)
    (hh : A.handled = none) (hdp : A.depth ≤ 600) (hun : A.units ≤ 3000) (ok : r.Ok) (hm : ∀ q ∈ r.led w, q ∈ news)
    (h : ∀ h' tk tv, Fr h₀ L h' m → News h₀ L h' news → Q (.int (lng r.cnt r.b) tv) { s with heap := h', toks := tk }) : wpAny (model PySem.Challenge.rw_rl0090_01.row.prog w) A (call (.ref 45) [.ref r.x] []) Q E s :=
  use_pure (P := fun v => ∃ tv, v = .int (lng r.cnt r.b) tv) (own := r.led w) (fun G hg ho hfr hR => ws_longest G hg ok ho hfr fun h' tk tv st => hR h' tk _ st ⟨tv, rfl⟩) B F X N T hA hf hke hh hdp hun hm
    fun h' tk v ⟨tv, e⟩ F' N' => e ▸ h h' tk tv F' N'
theorem use_level {w : World} {p : Program} {loose : List Str} {mean : ExcName → Option Value} {mg mb : Str → Option Value} {base h₀ : Heap} {outer : List Env} {s : Shared} {A A₀ : Around} {L : Addr} {m : Str → Option Value} {env : Env} {news : List (Addr × Obj)} {Q : Value → Shared → Prop} {E : Value → Shared → Prop} {r : WsR} {ts : Int} {tt : Tok}
    (B : Below A₀ base outer h₀) (F : Fr h₀ L s.heap m) (X : Frag.In (hd.heap_39 w.params) h₀) (N : News h₀ L s.heap news) (T : Top p loose mean mg mb h₀) (hA : A.frames = some (env :: outer)) (hf : env.frame = some L) (hke : env.scope.kind = .function)
    (hh : A.handled = none) (hdp : A.depth ≤ 600) (hun : A.units ≤ 3000) (ok : r.Ok) (hm : ∀ q ∈ r.led w, q ∈ news) (t0 : 1 ≤ ts) (t1 : ts ≤ 5000)
    (h : ∀ h' tk tv, Fr h₀ L h' m → News h₀ L h' news → Q (.int (lvl r.cnt r.b r.nt ts) tv) { s with heap := h', toks := tk }) : wpAny (model PySem.Challenge.rw_rl0090_01.row.prog w) A (call (.ref 52) [.ref r.x, .int ts tt] []) Q E s :=
  use_pure (P := fun v => ∃ tv, v = .int (lvl r.cnt r.b r.nt ts) tv) (own := r.led w) (fun G hg ho hfr hR => ws_level G hg ok ho hfr t0 t1 fun h' tk tv st => hR h' tk _ st ⟨tv, rfl⟩) B F X N T hA hf hke hh hdp hun hm
    fun h' tk v ⟨tv, e⟩ F' N' => e ▸ h h' tk tv F' N'
def JoinP (C : Prop) (s : Shared) (Q : Flow → Shared → Prop) (f : Flow) (s₂ : Shared) : Prop := match f with
  | .next => (∃ tk, s₂ = { s with toks := tk }) ∧ C
  | f => Q f s₂
theorem if_join {prog : Program} {w : World} {A : Around} {t : Sem Flow} {Q : Flow → Shared → Prop} {E : Value → Shared → Prop} {s : Shared} (C : Prop) (h : wpAny (model prog w) A t (JoinP C s Q) E s) (k : ∀ tk, C → Q .next { s with toks := tk }) : wpAny (model prog w) A t Q E s := by
  refine wpAny_mono h (fun f s₂ q => ?_) fun _ _ e => e
  cases f with
  | next => obtain ⟨⟨tk, e⟩, c⟩ := q; rw [e]; exact k tk c
  | _ => exact q
set_option maxRecDepth 100000 in
set_option maxHeartbeats 8000000 in
theorem ws_less {w : World} {p : Program} {loose : List Str} {mean : ExcName → Option Value} {mg mb : Str → Option Value} {base g : Heap} {outer : List Env} {s : Shared} {R : Result → Shared → Prop} {gs : Option (List Code)}
    {r r' : WsR}
    (G : Gnd w p loose mean mg mb ⟨none, 500, some outer, gs, 2500⟩ base outer g) (hg : g.StaysIn s.heap) (ok : r.Ok) (ok' : r'.Ok) (hr : ∀ q ∈ r.led w ++ r'.led w, s.heap.get? q.1 = some q.2) (fr : ∀ q ∈ r.led w ++ r'.led w, g.get? q.1 = none)
    (hR : ∀ h' tk v, s.heap.StaysIn h' → (v = true ↔ LessSpec r.cnt r.b r.n r.nt r'.cnt r'.b r'.n r'.nt) → R (.ok (.ret (.bool v))) { s with heap := h', toks := tk }) :
    codeAny (model PySem.Challenge.rw_rl0090_01.row.prog w) ⟨none, 500, some outer, gs, 2500⟩ (.call (.ref 73) ⟨[.ref r.x, .ref r'.x], []⟩) R s := by
  have q1 := ok.n0
  have q2 := ok.n1
  have q3 := ok.nt0
  have q4 := ok.nt1
  have q5 := ok.b0
  have q6 := ok.b1
  have q7 := ok.c1
  have q1' := ok'.n0
  have q2' := ok'.n1
  have q3' := ok'.nt0
  have q4' := ok'.nt1
  have q5' := ok'.b0
  have q6' := ok'.b1
  have q7' := ok'.c1
  have lg : -1 ≤ lng r.cnt r.b ∧ lng r.cnt r.b ≤ 1000 := by unfold lng; split <;> omega
  have lg' : -1 ≤ lng r'.cnt r'.b ∧ lng r'.cnt r'.b ≤ 1000 := by unfold lng; split <;> omega
  have hsm := ok.sim
  have hsm' := ok'.sim
  dsimp only [WsR.led, List.cons_append, List.nil_append] at hr fr ⊢
  have X := G.X
  revert X
  w_top off
  k_fill
  intro X
  refine' callO (own := _) X G.T.nolimit hg hr fr ?ho ?cd ?room ?bind ?loc ?_ ?cell ?co ?gen ?kd
  case ho => k_is
  case cd => k_is
  case room => k_room
  case bind => exact BindsTo.of_eq rfl
  case loc => exact locs rfl
  case cell => decide
  case co => rfl
  case gen => rfl
  case kd => rfl
  intro g' L' h₁ st rest F N lt
  have X' := X.keeps st
  have T' := G.T.keeps st
  have B' := (G.keeps st).B
  clear X
  dsimp only
  show wpAny _ _ _ _ _ _
  k_fold
  k_lt lt
  have hMk9 := kstMark
  repeat' ((fail_if_success (with_reducible show wpAny _ _ (exec (Stmt.If (PySem.Expr.BoolOp _ _ _) _ _ _) _) _ _ _)); (fail_if_success (with_reducible show wpAny _ _ (pyIter _) _ _ _)); (first | ((k_here; (with_reducible show wpAny _ _ (call (Value.ref _) _ _) _ _ _); k_dflt (first | (refine' use_longest ?B ?F ?X ?N ?T ?hA ?hf ?hk ?hh ?hd ?hu ?ok ?hm ?_; (case hA => exact rfl); (case hf => exact rfl); (case hk => exact rfl); (case hh => exact rfl); (case B => k_asm); (case F => k_asm); (case X => k_asm); (case N => k_asm); (case T => k_asm); (case hd => exact Nat.le_of_ble_eq_true rfl); (case hu => exact Nat.le_of_ble_eq_true rfl); (case ok => assumption); (case hm => repeat' (first | exact List.forall_mem_nil _ | refine List.forall_mem_cons.mpr ⟨by k_mem, ?_⟩)); k_whole; intro h' tk' tv' F' N'; (try k_sweep)) | (refine' use_level ?B ?F ?X ?N ?T ?hA ?hf ?hk ?hh ?hd ?hu ?ok ?hm ?t0 ?t1 ?_; (case hA => exact rfl); (case hf => exact rfl); (case hk => exact rfl); (case hh => exact rfl); (case B => k_asm); (case F => k_asm); (case X => k_asm); (case N => k_asm); (case T => k_asm); (case hd => exact Nat.le_of_ble_eq_true rfl); (case hu => exact Nat.le_of_ble_eq_true rfl); (case ok => assumption); (case hm => repeat' (first | exact List.forall_mem_nil _ | refine List.forall_mem_cons.mpr ⟨by k_mem, ?_⟩)); (case t0 => omega); (case t1 => omega); k_whole; intro h' tk' tv' F' N'; (try k_sweep))))) | ((k_here; (with_reducible show wpAny _ _ (call (Value.builtin "len") [Value.ref _]) _ _ _); k_dflt (refine' len_tup_ints ?k1 ?k2 ?k3 ?_; (case k1 => exact News.isTup (by k_asm) (by k_mem)); (case k2 => assumption); (case k3 => omega); k_whole))) | ((k_here; (with_reducible show wpAny _ _ (call (Value.type _) [Value.ref _]) _ _ _); k_dflt (refine' kde_tupleOf ?k1 ?k2 ?k3 ?k4 ?k5 ?_; (case k1 => k_asm); (case k2 => k_asm); (case k3 => exact News.isList (by k_asm) (by k_mem)); (case k4 => (have hL9 := IntsAre.length (by assumption); simp only [List.size_toArray]; omega)); (case k5 => exact rfl); k_whole); intro D' h' F' N' l1; (try k_lt l1); (try k_sweep))) | (k_unfold; (try dsimp only)) | (k_end; wrow_close) | walk1 | (dsimp only; walk1) | (leave1; walk_say "STEP leave1"; try dsimp only) | fail "no step"))
  · dsimp only
    refine hR _ _ _ (stays_of rest hr (by k_asm) (by k_asm) ?_) ⟨fun h => (by cases h), fun h => absurd h.1 (by omega)⟩
    repeat' (first | exact List.forall_mem_nil _ | refine List.forall_mem_cons.mpr ⟨by k_mem, ?_⟩)
  refine if_join (¬ ((r.cnt.length : Int) ≤ 1 ∧ (r'.cnt.length : Int) ≤ 1)) ?_ fun tk9 hns => ?_
  · repeat' ((fail_if_success (with_reducible show wpAny _ _ (pyIter _) _ _ _)); (fail_if_success (with_reducible show wpAny _ _ (exec (Stmt.While _ _ _ _) _) _ _ _)); (fail_if_success (with_reducible show KswEnd _ _ _ _ _ _ _ _ _ _ _ _)); (first | ((k_here; (with_reducible show wpAny _ _ (call (Value.ref _) _ _) _ _ _); k_dflt (first | (refine' use_longest ?B ?F ?X ?N ?T ?hA ?hf ?hk ?hh ?hd ?hu ?ok ?hm ?_; (case hA => exact rfl); (case hf => exact rfl); (case hk => exact rfl); (case hh => exact rfl); (case B => k_asm); (case F => k_asm); (case X => k_asm); (case N => k_asm); (case T => k_asm); (case hd => exact Nat.le_of_ble_eq_true rfl); (case hu => exact Nat.le_of_ble_eq_true rfl); (case ok => assumption); (case hm => repeat' (first | exact List.forall_mem_nil _ | refine List.forall_mem_cons.mpr ⟨by k_mem, ?_⟩)); k_whole; intro h' tk' tv' F' N'; (try k_sweep)) | (refine' use_level ?B ?F ?X ?N ?T ?hA ?hf ?hk ?hh ?hd ?hu ?ok ?hm ?t0 ?t1 ?_; (case hA => exact rfl); (case hf => exact rfl); (case hk => exact rfl); (case hh => exact rfl); (case B => k_asm); (case F => k_asm); (case X => k_asm); (case N => k_asm); (case T => k_asm); (case hd => exact Nat.le_of_ble_eq_true rfl); (case hu => exact Nat.le_of_ble_eq_true rfl); (case ok => assumption); (case hm => repeat' (first | exact List.forall_mem_nil _ | refine List.forall_mem_cons.mpr ⟨by k_mem, ?_⟩)); (case t0 => omega); (case t1 => omega); k_whole; intro h' tk' tv' F' N'; (try k_sweep))))) | ((k_here; (with_reducible show wpAny _ _ (call (Value.builtin "len") [Value.ref _]) _ _ _); k_dflt (refine' len_tup_ints ?k1 ?k2 ?k3 ?_; (case k1 => exact News.isTup (by k_asm) (by k_mem)); (case k2 => assumption); (case k3 => omega); k_whole))) | ((k_here; (with_reducible show wpAny _ _ (call (Value.type _) [Value.ref _]) _ _ _); k_dflt (refine' kde_tupleOf ?k1 ?k2 ?k3 ?k4 ?k5 ?_; (case k1 => k_asm); (case k2 => k_asm); (case k3 => exact News.isList (by k_asm) (by k_mem)); (case k4 => (have hL9 := IntsAre.length (by assumption); simp only [List.size_toArray]; omega)); (case k5 => exact rfl); k_whole); intro D' h' F' N' l1; (try k_lt l1); (try k_sweep))) | (k_unfold; (try dsimp only)) | (k_end; wrow_close) | walk1 | (dsimp only; walk1) | (leave1; walk_say "STEP leave1"; try dsimp only) | fail "no step"))
    · show R _ _
      dsimp only
      refine hR _ _ _ (stays_of rest hr (by k_asm) (by k_asm) ?_) ?_
      · repeat' (first | exact List.forall_mem_nil _ | refine List.forall_mem_cons.mpr ⟨by k_mem, ?_⟩)
      · have hns : (r.cnt.length : Int) ≤ 1 ∧ (r'.cnt.length : Int) ≤ 1 := by
          simp_all
        unfold LessSpec
        rw [if_pos hns, decide_eq_true_iff]
        constructor
        · intro h; exact ⟨by omega, h⟩
        · intro h; exact h.2
    all_goals
      refine ⟨⟨_, rfl⟩, ?_⟩
      rintro ⟨c1, c2⟩
      have e1 : r.sim = true := by rw [hsm]; exact decide_eq_true c1
      have e2 : r'.sim = true := by rw [hsm']; exact decide_eq_true c2
      first
        | (rename r'.sim = false => z; rw [e2] at z; cases z)
        | (rename r.sim = false => z; rw [e1] at z; cases z)
  repeat' ((fail_if_success (with_reducible show wpAny _ _ (pyIter _) _ _ _)); (fail_if_success (with_reducible show wpAny _ _ (exec (Stmt.While _ _ _ _) _) _ _ _)); (fail_if_success (with_reducible show KswEnd _ _ _ _ _ _ _ _ _ _ _ _)); (first | ((k_here; (with_reducible show wpAny _ _ (call (Value.ref _) _ _) _ _ _); k_dflt (first | (refine' use_longest ?B ?F ?X ?N ?T ?hA ?hf ?hk ?hh ?hd ?hu ?ok ?hm ?_; (case hA => exact rfl); (case hf => exact rfl); (case hk => exact rfl); (case hh => exact rfl); (case B => k_asm); (case F => k_asm); (case X => k_asm); (case N => k_asm); (case T => k_asm); (case hd => exact Nat.le_of_ble_eq_true rfl); (case hu => exact Nat.le_of_ble_eq_true rfl); (case ok => assumption); (case hm => repeat' (first | exact List.forall_mem_nil _ | refine List.forall_mem_cons.mpr ⟨by k_mem, ?_⟩)); k_whole; intro h' tk' tv' F' N'; (try k_sweep)) | (refine' use_level ?B ?F ?X ?N ?T ?hA ?hf ?hk ?hh ?hd ?hu ?ok ?hm ?t0 ?t1 ?_; (case hA => exact rfl); (case hf => exact rfl); (case hk => exact rfl); (case hh => exact rfl); (case B => k_asm); (case F => k_asm); (case X => k_asm); (case N => k_asm); (case T => k_asm); (case hd => exact Nat.le_of_ble_eq_true rfl); (case hu => exact Nat.le_of_ble_eq_true rfl); (case ok => assumption); (case hm => repeat' (first | exact List.forall_mem_nil _ | refine List.forall_mem_cons.mpr ⟨by k_mem, ?_⟩)); (case t0 => omega); (case t1 => omega); k_whole; intro h' tk' tv' F' N'; (try k_sweep))))) | ((k_here; (with_reducible show wpAny _ _ (call (Value.builtin "len") [Value.ref _]) _ _ _); k_dflt (refine' len_tup_ints ?k1 ?k2 ?k3 ?_; (case k1 => exact News.isTup (by k_asm) (by k_mem)); (case k2 => assumption); (case k3 => omega); k_whole))) | ((k_here; (with_reducible show wpAny _ _ (call (Value.type _) [Value.ref _]) _ _ _); k_dflt (refine' kde_tupleOf ?k1 ?k2 ?k3 ?k4 ?k5 ?_; (case k1 => k_asm); (case k2 => k_asm); (case k3 => exact News.isList (by k_asm) (by k_mem)); (case k4 => (have hL9 := IntsAre.length (by assumption); simp only [List.size_toArray]; omega)); (case k5 => exact rfl); k_whole); intro D' h' F' N' l1; (try k_lt l1); (try k_sweep))) | (k_unfold; (try dsimp only)) | (k_end; wrow_close) | walk1 | (dsimp only; walk1) | (leave1; walk_say "STEP leave1"; try dsimp only) | fail "no step"))
  rename_i hr9 FC NC st9
  have hnn : r.n < r'.n := by omega
  refine' forRange (Led := fun _ : Unit => ?led) (ps := fun _ => []) (stored := []) (Inv := fun i _ => ∀ j : Nat, j < i → lvl r.cnt r.b r.nt (2 + (j : Int)) < lvl r'.cnt r'.b r'.nt (2 + (j : Int))) (Exit := fun _ => LessSpec r.cnt r.b r.n r.nt r'.cnt r'.b r'.n r'.nt)
    (c₀ := ()) rfl hr9 (small_one (by omega) (by omega) (by split <;> omega) (by split <;> omega)) (rangeSize_nat _ _) FC NC ?hk (fun j hj => absurd hj (Nat.not_lt_zero _)) ?turn ?stop ?done
  case hk => exact List.forall_mem_nil _
  case stop =>
    intro _ hI
    refine ⟨hnn, ?_⟩
    rw [if_neg hns]
    intro k hk
    exact hI k (by omega)
  case turn =>
    intro i t c u h tk I oI hi hInv hneI F2 N2
    dsimp only at hInv F2 N2
    clear FC NC
    have hneJ := hneI
    simp only [AllNe, and_true] at hneI
    have hi9 : (i : Int) < 1000 := by
      have := hi
      split at this <;> omega
    repeat' ((fail_if_success (with_reducible show wpAny _ _ (pyIter _) _ _ _)); (fail_if_success (with_reducible show wpAny _ _ (exec (Stmt.While _ _ _ _) _) _ _ _)); (fail_if_success (with_reducible show KswEnd _ _ _ _ _ _ _ _ _ _ _ _)); (first | ((k_here; (with_reducible show wpAny _ _ (call (Value.ref _) _ _) _ _ _); k_dflt (first | (refine' use_longest ?B ?F ?X ?N ?T ?hA ?hf ?hk ?hh ?hd ?hu ?ok ?hm ?_; (case hA => exact rfl); (case hf => exact rfl); (case hk => exact rfl); (case hh => exact rfl); (case B => k_asm); (case F => k_asm); (case X => k_asm); (case N => k_asm); (case T => k_asm); (case hd => exact Nat.le_of_ble_eq_true rfl); (case hu => exact Nat.le_of_ble_eq_true rfl); (case ok => assumption); (case hm => repeat' (first | exact List.forall_mem_nil _ | refine List.forall_mem_cons.mpr ⟨by k_mem, ?_⟩)); k_whole; intro h' tk' tv' F' N'; (try k_sweep)) | (refine' use_level ?B ?F ?X ?N ?T ?hA ?hf ?hk ?hh ?hd ?hu ?ok ?hm ?t0 ?t1 ?_; (case hA => exact rfl); (case hf => exact rfl); (case hk => exact rfl); (case hh => exact rfl); (case B => k_asm); (case F => k_asm); (case X => k_asm); (case N => k_asm); (case T => k_asm); (case hd => exact Nat.le_of_ble_eq_true rfl); (case hu => exact Nat.le_of_ble_eq_true rfl); (case ok => assumption); (case hm => repeat' (first | exact List.forall_mem_nil _ | refine List.forall_mem_cons.mpr ⟨by k_mem, ?_⟩)); (case t0 => omega); (case t1 => omega); k_whole; intro h' tk' tv' F' N'; (try k_sweep))))) | ((k_here; (with_reducible show wpAny _ _ (call (Value.builtin "len") [Value.ref _]) _ _ _); k_dflt (refine' len_tup_ints ?k1 ?k2 ?k3 ?_; (case k1 => exact News.isTup (by k_asm) (by k_mem)); (case k2 => assumption); (case k3 => omega); k_whole))) | ((k_here; (with_reducible show wpAny _ _ (call (Value.type _) [Value.ref _]) _ _ _); k_dflt (refine' kde_tupleOf ?k1 ?k2 ?k3 ?k4 ?k5 ?_; (case k1 => k_asm); (case k2 => k_asm); (case k3 => exact News.isList (by k_asm) (by k_mem)); (case k4 => (have hL9 := IntsAre.length (by assumption); simp only [List.size_toArray]; omega)); (case k5 => exact rfl); k_whole); intro D' h' F' N' l1; (try k_lt l1); (try k_sweep))) | (k_unfold; (try dsimp only)) | (k_end; wrow_close) | walk1 | (dsimp only; walk1) | (leave1; walk_say "STEP leave1"; try dsimp only) | fail "no step"))
    · dsimp only
      refine hR _ _ _ (stays_of rest hr (by k_asm) (by k_asm) ?_) ⟨fun h => (by cases h), fun h => ?_⟩
      · repeat' (first | exact List.forall_mem_nil _ | refine List.forall_mem_cons.mpr ⟨by k_mem, ?_⟩)
      · have h2 := h.2
        rw [if_neg hns] at h2
        have := h2 i (by omega)
        omega
    · refine' EndG.intro () (by k_asm) (by k_asm) ?hl ?hI ?hne ?hk ?hm ?hi
      case hk => exact List.forall_mem_nil _
      case hl => repeat' (first | exact List.forall_mem_nil _ | refine List.forall_mem_cons.mpr ⟨by k_mem, ?_⟩)
      case hI => k_mem
      case hne => first | exact hneJ | exact And.intro (by first | assumption | exact Ne.symm (by assumption) | exact Nat.ne_of_gt (by assumption) | exact Nat.ne_of_lt (by assumption)) hneJ.2 | (simp only [AllNe, and_true]; (repeat' apply And.intro) <;> omega)
      case hm => intro z z1 z2 z3; repeat (first | exact kstB_off z2 z3 rfl | refine ite_off (by with_reducible first | exact z1 | exact z2 _ List.mem_cons_self | exact z2 _ (List.mem_cons_of_mem _ List.mem_cons_self) | exact z2 _ (List.mem_cons_of_mem _ (List.mem_cons_of_mem _ List.mem_cons_self))) ?_)
      case hi =>
        intro j hj
        by_cases e : j = i
        · subst e; omega
        · exact hInv j (by omega)
  case done =>
    intro c u h tk hE F2 N2
    dsimp only at hE F2 N2
    clear FC NC
    repeat' ((fail_if_success (with_reducible show wpAny _ _ (pyIter _) _ _ _)); (fail_if_success (with_reducible show wpAny _ _ (exec (Stmt.While _ _ _ _) _) _ _ _)); (fail_if_success (with_reducible show KswEnd _ _ _ _ _ _ _ _ _ _ _ _)); (first | ((k_here; (with_reducible show wpAny _ _ (call (Value.ref _) _ _) _ _ _); k_dflt (first | (refine' use_longest ?B ?F ?X ?N ?T ?hA ?hf ?hk ?hh ?hd ?hu ?ok ?hm ?_; (case hA => exact rfl); (case hf => exact rfl); (case hk => exact rfl); (case hh => exact rfl); (case B => k_asm); (case F => k_asm); (case X => k_asm); (case N => k_asm); (case T => k_asm); (case hd => exact Nat.le_of_ble_eq_true rfl); (case hu => exact Nat.le_of_ble_eq_true rfl); (case ok => assumption); (case hm => repeat' (first | exact List.forall_mem_nil _ | refine List.forall_mem_cons.mpr ⟨by k_mem, ?_⟩)); k_whole; intro h' tk' tv' F' N'; (try k_sweep)) | (refine' use_level ?B ?F ?X ?N ?T ?hA ?hf ?hk ?hh ?hd ?hu ?ok ?hm ?t0 ?t1 ?_; (case hA => exact rfl); (case hf => exact rfl); (case hk => exact rfl); (case hh => exact rfl); (case B => k_asm); (case F => k_asm); (case X => k_asm); (case N => k_asm); (case T => k_asm); (case hd => exact Nat.le_of_ble_eq_true rfl); (case hu => exact Nat.le_of_ble_eq_true rfl); (case ok => assumption); (case hm => repeat' (first | exact List.forall_mem_nil _ | refine List.forall_mem_cons.mpr ⟨by k_mem, ?_⟩)); (case t0 => omega); (case t1 => omega); k_whole; intro h' tk' tv' F' N'; (try k_sweep))))) | ((k_here; (with_reducible show wpAny _ _ (call (Value.builtin "len") [Value.ref _]) _ _ _); k_dflt (refine' len_tup_ints ?k1 ?k2 ?k3 ?_; (case k1 => exact News.isTup (by k_asm) (by k_mem)); (case k2 => assumption); (case k3 => omega); k_whole))) | ((k_here; (with_reducible show wpAny _ _ (call (Value.type _) [Value.ref _]) _ _ _); k_dflt (refine' kde_tupleOf ?k1 ?k2 ?k3 ?k4 ?k5 ?_; (case k1 => k_asm); (case k2 => k_asm); (case k3 => exact News.isList (by k_asm) (by k_mem)); (case k4 => (have hL9 := IntsAre.length (by assumption); simp only [List.size_toArray]; omega)); (case k5 => exact rfl); k_whole); intro D' h' F' N' l1; (try k_lt l1); (try k_sweep))) | (k_unfold; (try dsimp only)) | (k_end; wrow_close) | walk1 | (dsimp only; walk1) | (leave1; walk_say "STEP leave1"; try dsimp only) | fail "no step"))
    dsimp only
    refine hR _ _ _ (stays_of rest hr (by k_asm) (by k_asm) ?_) ⟨fun _ => hE, fun _ => rfl⟩
    repeat' (first | exact List.forall_mem_nil _ | refine List.forall_mem_cons.mpr ⟨by k_mem, ?_⟩)

end
-- MParse
section
open PySem PySem.W PySem.Calls PyProof.Rows
theorem item_at {x : Str} {i : Int} (h0 : 0 ≤ i) (h1 : i < (x.length : Int)) : ∃ c, Txt.item x i = ⟨#[c]⟩ ∧ x.cps.toList.drop i.toNat = c :: x.cps.toList.drop (i + 1).toNat := by
  have hl : i.toNat < x.cps.size := by
    have : x.length = x.cps.size := rfl
    omega
  refine ⟨x.cps[i.toNat], ?_, ?_⟩
  · have e : seqIndex? i x.length = some i.toNat := by
      have hn : ¬ i < 0 := by omega
      simp [seqIndex?, hn, h0, h1]
    unfold Txt.item Txt.charAt
    rw [e]
    simp [hl]
  · have e : (i + 1).toNat = i.toNat + 1 := by omega
    rw [e]
    exact drop_step (by simp [hl])
theorem few1 {n : Nat} {i : Int} (h0 : 0 ≤ i) (h : i < (n : Int)) : n - (i + 1).toNat < n - i.toNat := by omega
theorem few2 {n : Nat} {i : Int} (h0 : 0 ≤ i) (h : i < (n : Int)) : n - (i + 1 + 1).toNat < n - i.toNat := by omega
theorem lid2 {n : Nat} {i : Int} (h : i < (n : Int)) (hn : n ≤ 1000) : i + 1 + 1 ≤ 2000 := by omega
theorem lid1 {n : Nat} {i : Int} (h : i < (n : Int)) (hn : n ≤ 1000) : i + 1 ≤ 2000 := by omega
theorem len_up1 {a : Nat} {i : Int} (h : (a : Int) ≤ i) : ((a + 1 : Nat) : Int) ≤ i + 1 := Int.add_le_add_right h 1
theorem len_up2 {a : Nat} {i : Int} (h : (a : Int) ≤ i) : ((a + 1 : Nat) : Int) ≤ i + 1 + 1 := Int.le_add_one (Int.add_le_add_right h 1)
theorem toNat_beyond {l : List Nat} {n : Nat} {i : Int} (e : l.length = n) (h : (n : Int) ≤ i) : l.length ≤ i.toNat := by omega
theorem quote_is : Str.ofString "\"" = ⟨#[34]⟩ := by decide +kernel
theorem cps_app (x y : Str) : (x ++ y).cps.toList = x.cps.toList ++ y.cps.toList := by rw [PySem.Str.cps_append, Array.toList_append]
set_option maxRecDepth 100000 in
set_option maxHeartbeats 8000000 in
theorem parse_ok {w : World} {p : Program} {loose : List Str} {mean : ExcName → Option Value} {mg mb : Str → Option Value} {base g : Heap} {outer : List Env} {s : Shared} {R : Result → Shared → Prop} {gs : Option (List Code)}
    {resp : Str} {tr : Tok}
    (G : Gnd w p loose mean mg mb ⟨none, 600, some outer, gs, 3000⟩ base outer g) (hg : g.StaysIn s.heap) (hlen : resp.length ≤ 1000) (h257 : (Txt.slice resp none (some 3) != Str.ofString "257") = false)
    (hR : ∀ h' tk d tv, s.heap.StaysIn h' → d.cps.toList = (if Txt.slice resp (some 3) (some 5) = Str.ofString " \"" then parseTail (resp.cps.toList.drop 5) else []) → R (.ok (.ret (.str d tv))) { s with heap := h', toks := tk }) :
    codeAny (model PySem.Challenge.rw_rl0090_01.row.prog w) ⟨none, 600, some outer, gs, 3000⟩ (.call (.ref 137) ⟨[.str resp tr], []⟩) R s := by
  have X := G.X
  revert X
  w_top off
  k_fill
  intro X
  refine' callO (own := []) X G.T.nolimit hg (List.forall_mem_nil _) (List.forall_mem_nil _) ?ho ?cd ?room ?bind ?loc ?_ ?cell ?co ?gen ?kd
  case ho => k_is
  case cd => k_is
  case room => k_room
  case bind => exact BindsTo.of_eq rfl
  case loc => exact locs rfl
  case cell => decide
  case co => rfl
  case gen => rfl
  case kd => rfl
  intro g' L' h₁ st rest F N lt
  have X' := X.keeps st
  have T' := G.T.keeps st
  have B' := (G.keeps st).B
  clear X
  dsimp only
  show wpAny _ _ _ _ _ _
  k_fold
  have hMk9 := kstMark
  repeat' ((fail_if_success (with_reducible show wpAny _ _ (pyIter _) _ _ _)); (fail_if_success (with_reducible show wpAny _ _ (exec (Stmt.While _ _ _ _) _) _ _ _)); (fail_if_success (with_reducible show KswEnd _ _ _ _ _ _ _ _ _ _ _ _)); (first | ((k_here; (with_reducible show wpAny _ _ (call (Value.builtin "len") [Value.ref _]) _ _ _); k_dflt (refine' len_tup_ints ?k1 ?k2 ?k3 ?_; (case k1 => exact News.isTup (by k_asm) (by k_mem)); (case k2 => assumption); (case k3 => omega); k_whole))) | ((k_here; (with_reducible show wpAny _ _ (call (Value.type _) [Value.ref _]) _ _ _); k_dflt (refine' kde_tupleOf ?k1 ?k2 ?k3 ?k4 ?k5 ?_; (case k1 => k_asm); (case k2 => k_asm); (case k3 => exact News.isList (by k_asm) (by k_mem)); (case k4 => (have hL9 := IntsAre.length (by assumption); simp only [List.size_toArray]; omega)); (case k5 => exact rfl); k_whole); intro D' h' F' N' l1; (try k_lt l1); (try k_sweep))) | (k_unfold; (try dsimp only)) | (k_end; wrow_close) | walk1 | (dsimp only; walk1) | (leave1; walk_say "STEP leave1"; try dsimp only) | fail "no step"))
  · dsimp only
    refine hR _ _ _ _ (stays_of rest (List.forall_mem_nil _) (by k_asm) (by k_asm) (List.forall_mem_nil _)) ?_
    rename ((Txt.slice resp (some 3) (some 5) != Str.ofString " \"") = true) => q
    rw [if_neg (by simpa using q)]
    rfl
  · rename_i FC NC
    have h35 : Txt.slice resp (some 3) (some 5) = Str.ofString " \"" := by
      rename ((Txt.slice resp (some 3) (some 5) != Str.ofString " \"") = false) => q
      simpa using q
    refine' ksw_while (Led := fun _ : Str × Int × Tok × Tok => []) (ps := fun c => [(Str.ofString "dirname", .str c.1 c.2.2.1), (Str.ofString "i", .int c.2.1 c.2.2.2)]) (Facts := fun _ => True) (stored := [Str.ofString "c"])
      (P := fun c => 5 ≤ c.2.1 ∧ c.2.1 ≤ 2000 ∧ (c.1.length : Int) ≤ c.2.1 ∧ c.1.cps.toList ++ parseTail (resp.cps.toList.drop c.2.1.toNat) = parseTail (resp.cps.toList.drop 5)) (μ := fun c => resp.length - c.2.1.toNat) (c₀ := (Str.ofString "", 5, _, _)) FC NC trivial ?hk ?hp ?turn
    case hk => repeat' (first | exact List.forall_mem_nil _ | exact rfl | refine List.forall_mem_cons.mpr ⟨?_, ?_⟩)
    case hp => exact ⟨Int.le_refl _, by dsimp only; omega, by show ((Str.ofString "").length : Int) ≤ 5; decide +kernel, rfl⟩
    case turn =>
      intro c u h tk _ hP F2 N2
      obtain ⟨d, i, td, ti⟩ := c
      obtain ⟨i5, i9, dl, hpar⟩ := hP
      dsimp only at i5 i9 dl hpar F2 N2
      have h0 : 0 ≤ i := Int.le_trans (by decide) i5
      clear FC NC
      repeat' ((fail_if_success (with_reducible show wpAny _ _ (pyIter _) _ _ _)); (fail_if_success (with_reducible show wpAny _ _ (exec (Stmt.While _ _ _ _) _) _ _ _)); (fail_if_success (with_reducible show KswEnd _ _ _ _ _ _ _ _ _ _ _ _)); (first | ((k_here; (with_reducible show wpAny _ _ (call (Value.builtin "len") [Value.ref _]) _ _ _); k_dflt (refine' len_tup_ints ?k1 ?k2 ?k3 ?_; (case k1 => exact News.isTup (by k_asm) (by k_mem)); (case k2 => assumption); (case k3 => omega); k_whole))) | ((k_here; (with_reducible show wpAny _ _ (call (Value.type _) [Value.ref _]) _ _ _); k_dflt (refine' kde_tupleOf ?k1 ?k2 ?k3 ?k4 ?k5 ?_; (case k1 => k_asm); (case k2 => k_asm); (case k3 => exact News.isList (by k_asm) (by k_mem)); (case k4 => (have hL9 := IntsAre.length (by assumption); simp only [List.size_toArray]; omega)); (case k5 => exact rfl); k_whole); intro D' h' F' N' l1; (try k_lt l1); (try k_sweep))) | (k_unfold; (try dsimp only)) | (k_end; wrow_close) | walk1 | (dsimp only; walk1) | (leave1; walk_say "STEP leave1"; try dsimp only) | fail "no step"))
      · dsimp only
        rename i < (resp.length : Int) => q1
        rename (Txt.item resp i == Str.ofString "\"") = true => q2
        rename (resp.length : Int) ≤ i + 1 => q3
        obtain ⟨c, e1, e2⟩ := item_at (x := resp) h0 q1
        rw [e1] at q2
        have e3 := sign_is quote_is q2
        refine hR _ _ _ _ (stays_of rest (List.forall_mem_nil _) (by k_asm) (by k_asm) (List.forall_mem_nil _)) ?_
        rw [if_pos h35, ← hpar, e2, List.drop_of_length_le (i := (i + 1).toNat) (toNat_beyond (n := resp.length) rfl q3), beq_iff_eq.mp e3, parse_q_nil]
        simp
      · dsimp only
        rename i < (resp.length : Int) => q1
        rename (Txt.item resp i == Str.ofString "\"") = true => q2
        rename ¬ (resp.length : Int) ≤ i + 1 => q3
        rename (Txt.item resp (i + 1) != Str.ofString "\"") = true => q4
        obtain ⟨c, e1, e2⟩ := item_at (x := resp) h0 q1
        obtain ⟨c', e1', e2'⟩ := item_at (x := resp) (i := i + 1) (Int.le_add_one h0) (Int.not_le.mp q3)
        rw [e1] at q2
        have e3 := sign_is quote_is q2
        rw [e1', bne, Bool.not_eq_true'] at q4
        have e3' := sign_is quote_is q4
        refine hR _ _ _ _ (stays_of rest (List.forall_mem_nil _) (by k_asm) (by k_asm) (List.forall_mem_nil _)) ?_
        rw [if_pos h35, ← hpar, e2, e2', beq_iff_eq.mp e3, parse_q_o (by simpa using e3')]
        simp
      · rename i < (resp.length : Int) => q1
        rename (Txt.item resp i == Str.ofString "\"") = true => q2
        rename ¬ (resp.length : Int) ≤ i + 1 => q3
        rename (Txt.item resp (i + 1) != Str.ofString "\"") = false => q4
        obtain ⟨c, e1, e2⟩ := item_at (x := resp) h0 q1
        obtain ⟨c', e1', e2'⟩ := item_at (x := resp) (i := i + 1) (Int.le_add_one h0) (Int.not_le.mp q3)
        rw [e1] at q2
        have e3 := sign_is quote_is q2
        rw [e1', bne, Bool.not_eq_false'] at q4
        have e3' := sign_is quote_is q4
        refine' ksw_end (d ++ Txt.item resp i, i + 1 + 1, _, _) (by k_asm) (by k_asm) ?hl trivial ?hk ?hm ?hp ?hu
        case hk => repeat' (first | exact List.forall_mem_nil _ | exact rfl | refine List.forall_mem_cons.mpr ⟨?_, ?_⟩)
        case hl => exact List.forall_mem_nil _
        case hm => intro z z2 z3; repeat (first | exact kstB_off z2 z3 rfl | refine ite_off (by with_reducible first | exact st_ne z3 | exact st_ne (st_tl z3) | exact z2 _ List.mem_cons_self | exact z2 _ (List.mem_cons_of_mem _ List.mem_cons_self) | exact z2 _ (List.mem_cons_of_mem _ (List.mem_cons_of_mem _ List.mem_cons_self)) | exact z2 _ (List.mem_cons_of_mem _ (List.mem_cons_of_mem _ (List.mem_cons_of_mem _ List.mem_cons_self))) | exact z2 _ (List.mem_cons_of_mem _ (List.mem_cons_of_mem _ (List.mem_cons_of_mem _ (List.mem_cons_of_mem _ List.mem_cons_self))))) ?_)
        case hu => exact few2 h0 q1
        case hp =>
          refine ⟨Int.le_add_one (Int.le_add_one i5), lid2 q1 hlen, ?_, ?_⟩
          · dsimp only
            rw [strLen_append, e1]
            exact len_up2 dl
          · dsimp only
            rw [← hpar, e2, e2', beq_iff_eq.mp e3, beq_iff_eq.mp e3', parse_q_q, cps_app, e1, beq_iff_eq.mp e3]
            simp
      · rename i < (resp.length : Int) => q1
        rename (Txt.item resp i == Str.ofString "\"") = false => q2
        obtain ⟨c, e1, e2⟩ := item_at (x := resp) h0 q1
        rw [e1] at q2
        have e3 := sign_is quote_is q2
        refine' ksw_end (d ++ Txt.item resp i, i + 1, _, _) (by k_asm) (by k_asm) ?hl trivial ?hk ?hm ?hp ?hu
        case hk => repeat' (first | exact List.forall_mem_nil _ | exact rfl | refine List.forall_mem_cons.mpr ⟨?_, ?_⟩)
        case hl => exact List.forall_mem_nil _
        case hm => intro z z2 z3; repeat (first | exact kstB_off z2 z3 rfl | refine ite_off (by with_reducible first | exact st_ne z3 | exact st_ne (st_tl z3) | exact z2 _ List.mem_cons_self | exact z2 _ (List.mem_cons_of_mem _ List.mem_cons_self) | exact z2 _ (List.mem_cons_of_mem _ (List.mem_cons_of_mem _ List.mem_cons_self)) | exact z2 _ (List.mem_cons_of_mem _ (List.mem_cons_of_mem _ (List.mem_cons_of_mem _ List.mem_cons_self))) | exact z2 _ (List.mem_cons_of_mem _ (List.mem_cons_of_mem _ (List.mem_cons_of_mem _ (List.mem_cons_of_mem _ List.mem_cons_self))))) ?_)
        case hu => exact few1 h0 q1
        case hp =>
          refine ⟨Int.le_add_one i5, lid1 q1 hlen, ?_, ?_⟩
          · dsimp only
            rw [strLen_append, e1]
            exact len_up1 dl
          · dsimp only
            rw [← hpar, e2, parse_o (by simpa using e3), cps_app, e1]
            simp
      · dsimp only
        rename ¬ i < (resp.length : Int) => q1
        refine hR _ _ _ _ (stays_of rest (List.forall_mem_nil _) (by k_asm) (by k_asm) (List.forall_mem_nil _)) ?_
        rw [if_pos h35, ← hpar, List.drop_of_length_le (i := i.toNat) (toNat_beyond (n := resp.length) rfl (Int.not_lt.mp q1))]
        simp [parseTail]
end
-- MCols
section
open PySem PySem.W PySem.Calls PyProof.Rows
structure CSt where
  vs : List Value
  nn : Nat
  cs : List Int
  col : Int
  tc : Tok
  st : Nat
  ts : Tok
def stName (n : Nat) : Str := if n = 0 then Str.ofString "lead" else if n = 1 then Str.ofString "half" else Str.ofString "done"
section
variable {size col : Int} {cp st : Nat}
theorem cs1 (h : (cp == 32) = true) : colStep size col 0 cp = (col + 1, 0) := by rw [beq_iff_eq.mp h]; rfl
theorem cs2 (h : (cp == 34) = true) : colStep size col 0 cp = (col, 1) := by rw [beq_iff_eq.mp h]; rfl
theorem cs3 (h : (cp == 32) = false) (h2 : (cp == 34) = false) : colStep size col 0 cp = (col, 2) := by
  have h := beq_eq_false_iff_ne.mp h
  have h2 := beq_eq_false_iff_ne.mp h2
  simp [colStep, h, h2]
theorem cs4 (h : (cp == 34) = true) : colStep size col 1 cp = (col.fdiv size * size + size, 0) := by rw [beq_iff_eq.mp h]; rfl
theorem cs5 (h : (cp == 34) = false) : colStep size col 1 cp = (col, 2) := by
  have h := beq_eq_false_iff_ne.mp h
  simp [colStep, h]
theorem cs6 : colStep size col 2 cp = (col, 2) := by simp [colStep]
theorem cs_le : (colStep size col st cp).2 ≤ 2 := by unfold colStep; (repeat' split) <;> (first | exact (by decide : (0 : Nat) ≤ 2) | exact (by decide : (1 : Nat) ≤ 2) | exact (by decide : (2 : Nat) ≤ 2))
/-- behind the ifs of a turn -/
def ColJ (g : Heap) (L : Addr) (s : Shared) (m : Str → Option Value) (news : List (Addr × Obj)) (cc : Int × Nat) (s₂ : Shared) : Prop :=
  ∃ h' tk tc ts, s₂ = { s with heap := h', toks := tk } ∧ Fr g L h' (kstB m [(Str.ofString "column", .int cc.1 tc), (Str.ofString "state", .str (stName cc.2) ts)]) ∧ News g L h' news
variable {g h' : Heap} {L : Addr} {s : Shared} {m m₂ : Str → Option Value} {news : List (Addr × Obj)} {cc : Int × Nat} {tk : Nat} {tc ts : Tok}
theorem ColJ.intro {c : Int} {n : Nat} (e : cc = (c, n)) (F : Fr g L h' m₂) (N : News g L h' news) (h1 : m₂ (Str.ofString "column") = some (.int c tc)) (h1' : m₂ (Str.ofString "state") = some (.str (stName n) ts)) (h2 : ∀ z, z ≠ Str.ofString "column" → z ≠ Str.ofString "state" → m₂ z = m z) :
    ColJ g L s m news cc { s with heap := h', toks := tk } := by
  subst e
  refine ⟨h', tk, tc, ts, rfl, ?_, N⟩
  have e : m₂ = kstB m [(Str.ofString "column", .int c tc), (Str.ofString "state", .str (stName n) ts)] := by
    funext z
    exact (kstB_eq (List.forall_mem_cons.mpr ⟨h1, List.forall_mem_cons.mpr ⟨h1', List.forall_mem_nil _⟩⟩) fun h => (h2 z (h _ List.mem_cons_self) (h _ (List.mem_cons_of_mem _ List.mem_cons_self))).symm).symm
  rw [← e]; exact F
theorem col_join {prog : Program} {w : World} {A : Around} {t : Sem Flow} {Q : Flow → Shared → Prop} {E : Value → Shared → Prop} (_F : Fr g L s.heap m) (_N : News g L s.heap news) (cc : Int × Nat)
    (h : wpAny (model prog w) A t (JoinX (ColJ g L s m news cc) Q) E s)
    (k : ∀ h' tk tc ts, Fr g L h' (kstB m [(Str.ofString "column", .int cc.1 tc), (Str.ofString "state", .str (stName cc.2) ts)]) → News g L h' news → Q .next { s with heap := h', toks := tk }) :
    wpAny (model prog w) A t Q E s := by
  refine wpAny_mono h (fun f s₂ q => ?_) fun _ _ e => e
  cases f with
  | next => obtain ⟨h', tk, tc, ts, e, F, N⟩ := q; rw [e]; exact k h' tk tc ts F N
  | _ => exact q
end
set_option maxRecDepth 100000 in
set_option maxHeartbeats 8000000 in
theorem law_cols {w : World} {p : Program} {loose : List Str} {mean : ExcName → Option Value} {mg mb : Str → Option Value} {base g : Heap} {outer : List Env} {s : Shared} {R : Result → Shared → Prop} {gs : Option (List Code)}
    {body : Str} {tb : Tok} {size : Int} {tz : Tok}
    (G : Gnd w p loose mean mg mb ⟨none, 600, some outer, gs, 3000⟩ base outer g) (hg : g.StaysIn s.heap) (hlen : body.length ≤ 1000) (z1 : 1 ≤ size) (z2 : size ≤ 100)
    (hR : ∀ h' tk c vs nn, s.heap.StaysIn h' → s.heap.get? c = none → h'.get? c = some (W.listOf vs.toArray nn) → IntsAre vs (0 :: colsFrom size body.cps.toList 0 0) → R (.ok (.ret (.ref c))) { s with heap := h', toks := tk }) :
    codeAny (model PySem.Challenge.rw_rl0090_01.row.prog w) ⟨none, 600, some outer, gs, 3000⟩ (.call (.ref 144) ⟨[.str body tb, .int size tz], []⟩) R s := by
  have X := G.X
  revert X
  w_top off
  k_fill
  intro X
  refine' callO (own := []) X G.T.nolimit hg (List.forall_mem_nil _) (List.forall_mem_nil _) ?ho ?cd ?room ?bind ?loc ?_ ?cell ?co ?gen ?kd
  case ho => k_is
  case cd => k_is
  case room => k_room
  case bind => exact BindsTo.of_eq rfl
  case loc => exact locs rfl
  case cell => decide
  case co => rfl
  case gen => rfl
  case kd => rfl
  intro g' L' h₁ st rest F N lt
  have X' := X.keeps st
  have T' := G.T.keeps st
  have B' := (G.keeps st).B
  clear X
  dsimp only
  show wpAny _ _ _ _ _ _
  k_fold
  have hMk9 := kstMark
  repeat' ((fail_if_success (with_reducible show wpAny _ _ (exec (Stmt.For _ _ _ _ _) _) _ _ _)); (first | ((k_here; (with_reducible show wpAny _ _ (call (Value.builtin "len") [Value.ref _]) _ _ _); k_dflt (refine' len_tup_ints ?k1 ?k2 ?k3 ?_; (case k1 => exact News.isTup (by k_asm) (by k_mem)); (case k2 => assumption); (case k3 => omega); k_whole))) | ((k_here; (with_reducible show wpAny _ _ (call (Value.type _) [Value.ref _]) _ _ _); k_dflt (refine' kde_tupleOf ?k1 ?k2 ?k3 ?k4 ?k5 ?_; (case k1 => k_asm); (case k2 => k_asm); (case k3 => exact News.isList (by k_asm) (by k_mem)); (case k4 => (have hL9 := IntsAre.length (by assumption); simp only [List.size_toArray]; omega)); (case k5 => exact rfl); k_whole); intro D' h' F' N' l1; (try k_lt l1); (try k_sweep))) | (k_unfold; (try dsimp only)) | (k_end; wrow_close) | walk1 | (dsimp only; walk1) | fail "no step"))
  refine For_invV g' rfl rfl ?_
  repeat' ((fail_if_success (with_reducible show wpAny _ _ (pyIter _) _ _ _)); (fail_if_success (with_reducible show wpAny _ _ (exec (Stmt.While _ _ _ _) _) _ _ _)); (fail_if_success (with_reducible show KswEnd _ _ _ _ _ _ _ _ _ _ _ _)); (first | ((k_here; (with_reducible show wpAny _ _ (call (Value.builtin "len") [Value.ref _]) _ _ _); k_dflt (refine' len_tup_ints ?k1 ?k2 ?k3 ?_; (case k1 => exact News.isTup (by k_asm) (by k_mem)); (case k2 => assumption); (case k3 => omega); k_whole))) | ((k_here; (with_reducible show wpAny _ _ (call (Value.type _) [Value.ref _]) _ _ _); k_dflt (refine' kde_tupleOf ?k1 ?k2 ?k3 ?k4 ?k5 ?_; (case k1 => k_asm); (case k2 => k_asm); (case k3 => exact News.isList (by k_asm) (by k_mem)); (case k4 => (have hL9 := IntsAre.length (by assumption); simp only [List.size_toArray]; omega)); (case k5 => exact rfl); k_whole); intro D' h' F' N' l1; (try k_lt l1); (try k_sweep))) | (k_unfold; (try dsimp only)) | (k_end; wrow_close) | walk1 | (dsimp only; walk1) | (leave1; walk_say "STEP leave1"; try dsimp only) | fail "no step"))
  rename_i cl a1 a2 a3 hC FC NC
  refine' forText (Led := fun c : CSt => [(cl, W.listOf c.vs.toArray c.nn)]) (ps := fun c => [(Str.ofString "column", .int c.col c.tc), (Str.ofString "state", .str (stName c.st) c.ts)]) (stored := [])
    (Inv := fun i c => IntsAre c.vs c.cs ∧ c.cs.length = i + 1 ∧ c.st ≤ 2 ∧ c.cs ++ colsFrom size (body.cps.toList.drop i) c.col c.st = 0 :: colsFrom size body.cps.toList 0 0)
    (Exit := fun c => IntsAre c.vs (0 :: colsFrom size body.cps.toList 0 0))
    (c₀ := ⟨[.int 0 _], 0, [0], 0, _, 0, _⟩) rfl FC NC ?hk ?hp ?turn ?stop ?done
  case hk => repeat' (first | exact List.forall_mem_nil _ | exact rfl | refine List.forall_mem_cons.mpr ⟨?_, ?_⟩)
  case hp => exact ⟨.cons _ _ .nil, rfl, by dsimp only; omega, rfl⟩
  case stop =>
    intro c ⟨h1, h2, h3, h4⟩
    rw [List.drop_of_length_le (by simp), colsFrom, List.append_nil] at h4
    rw [← h4]
    exact h1
  case done =>
    intro c u h tk hE F2 N2
    clear FC NC
    repeat' ((fail_if_success (with_reducible show wpAny _ _ (pyIter _) _ _ _)); (fail_if_success (with_reducible show wpAny _ _ (exec (Stmt.While _ _ _ _) _) _ _ _)); (fail_if_success (with_reducible show KswEnd _ _ _ _ _ _ _ _ _ _ _ _)); (first | ((k_here; (with_reducible show wpAny _ _ (call (Value.builtin "len") [Value.ref _]) _ _ _); k_dflt (refine' len_tup_ints ?k1 ?k2 ?k3 ?_; (case k1 => exact News.isTup (by k_asm) (by k_mem)); (case k2 => assumption); (case k3 => omega); k_whole))) | ((k_here; (with_reducible show wpAny _ _ (call (Value.type _) [Value.ref _]) _ _ _); k_dflt (refine' kde_tupleOf ?k1 ?k2 ?k3 ?k4 ?k5 ?_; (case k1 => k_asm); (case k2 => k_asm); (case k3 => exact News.isList (by k_asm) (by k_mem)); (case k4 => (have hL9 := IntsAre.length (by assumption); simp only [List.size_toArray]; omega)); (case k5 => exact rfl); k_whole); intro D' h' F' N' l1; (try k_lt l1); (try k_sweep))) | (k_unfold; (try dsimp only)) | (k_end; wrow_close) | walk1 | (dsimp only; walk1) | (leave1; walk_say "STEP leave1"; try dsimp only) | fail "no step"))
    dsimp only
    refine hR _ _ cl c.vs c.nn (stays_of rest (List.forall_mem_nil _) (by k_asm) (by k_asm) (List.forall_mem_nil _)) ?_ ((N2 _ (.head _)).1) hE
    refine Option.eq_none_iff_forall_ne_some.mpr fun o e => ?_
    have q := (N2 _ (.head _)).2.2
    rw [rest _ o e (List.forall_mem_nil _)] at q
    cases q
  case turn =>
    intro i cp t c u h tk I oI hcp hInv hneI F2 N2
    obtain ⟨vs, nn, cs, col, tc, st', ts⟩ := c
    obtain ⟨hI, hl, hst, hcs⟩ := hInv
    have hneJ := hneI
    simp only [AllNe, and_true] at hneI
    dsimp only at hneI F2 N2 hI hl hst hcs
    clear FC NC
    have hi9 : i < 1000 := by
      have := (Array.getElem?_eq_some_iff.mp hcp).1
      have e : body.length = body.cps.size := rfl
      omega
    rw [drop_step hcp, colsFrom] at hcs
    repeat' ((fail_if_success (with_reducible show wpAny _ _ (exec (Stmt.If (PySem.Expr.BoolOp _ _ _) _ _ _) _) _ _ _)); (first | ((k_here; (with_reducible show wpAny _ _ (call (Value.builtin "len") [Value.ref _]) _ _ _); k_dflt (refine' len_tup_ints ?k1 ?k2 ?k3 ?_; (case k1 => exact News.isTup (by k_asm) (by k_mem)); (case k2 => assumption); (case k3 => omega); k_whole))) | ((k_here; (with_reducible show wpAny _ _ (call (Value.type _) [Value.ref _]) _ _ _); k_dflt (refine' kde_tupleOf ?k1 ?k2 ?k3 ?k4 ?k5 ?_; (case k1 => k_asm); (case k2 => k_asm); (case k3 => exact News.isList (by k_asm) (by k_mem)); (case k4 => (have hL9 := IntsAre.length (by assumption); simp only [List.size_toArray]; omega)); (case k5 => exact rfl); k_whole); intro D' h' F' N' l1; (try k_lt l1); (try k_sweep))) | (k_unfold; (try dsimp only)) | (k_end; wrow_close) | walk1 | (dsimp only; walk1) | fail "no step"))
    rename Fr _ _ _ _ => F9
    rename News _ _ _ _ => N9
    refine col_join F9 N9 (colStep size col st' cp) ?_ ?_
    · have hs3 : st' = 0 ∨ st' = 1 ∨ st' = 2 := by clear hcs hi9 hneI hl; omega
      rcases hs3 with rfl | rfl | rfl
      · (try simp only [stName, if_true] at F9)
        repeat' ((fail_if_success (with_reducible show wpAny _ _ (pyIter _) _ _ _)); (fail_if_success (with_reducible show wpAny _ _ (exec (Stmt.While _ _ _ _) _) _ _ _)); (fail_if_success (with_reducible show KswEnd _ _ _ _ _ _ _ _ _ _ _ _)); (first | ((k_here; (with_reducible show wpAny _ _ (call (Value.builtin "len") [Value.ref _]) _ _ _); k_dflt (refine' len_tup_ints ?k1 ?k2 ?k3 ?_; (case k1 => exact News.isTup (by k_asm) (by k_mem)); (case k2 => assumption); (case k3 => omega); k_whole))) | ((k_here; (with_reducible show wpAny _ _ (call (Value.type _) [Value.ref _]) _ _ _); k_dflt (refine' kde_tupleOf ?k1 ?k2 ?k3 ?k4 ?k5 ?_; (case k1 => k_asm); (case k2 => k_asm); (case k3 => exact News.isList (by k_asm) (by k_mem)); (case k4 => (have hL9 := IntsAre.length (by assumption); simp only [List.size_toArray]; omega)); (case k5 => exact rfl); k_whole); intro D' h' F' N' l1; (try k_lt l1); (try k_sweep))) | (k_unfold; (try dsimp only)) | (k_end; wrow_close) | walk1 | (dsimp only; walk1) | (leave1; walk_say "STEP leave1"; try dsimp only) | fail "no step"))
        · rename ((({ cps := #[cp] } : Str) == Str.ofString " ") = true) => q1
          have eq1 := sign_is (c := 32) (by decide +kernel) q1
          refine' ColJ.intro (c := col + 1) (n := 0) (cs1 eq1) (by k_asm) (by k_asm) ?h1 ?h1' ?h2
          case h1 => exact rfl
          case h1' => exact rfl
          case h2 => intro z z1 z2; repeat (first | exact rfl | refine ite_off (by with_reducible first | exact z1 | exact z2) ?_)
        · rename ((({ cps := #[cp] } : Str) == Str.ofString " ") = false) => q1
          have eq1 := sign_is (c := 32) (by decide +kernel) q1
          rename ((({ cps := #[cp] } : Str) == Str.ofString "\"") = true) => q2
          have eq2 := sign_is (c := 34) (by decide +kernel) q2
          refine' ColJ.intro (c := col) (n := 1) (cs2 eq2) (by k_asm) (by k_asm) ?h1 ?h1' ?h2
          case h1 => exact rfl
          case h1' => exact rfl
          case h2 => intro z z1 z2; repeat (first | exact rfl | refine ite_off (by with_reducible first | exact z1 | exact z2) ?_)
        · rename ((({ cps := #[cp] } : Str) == Str.ofString " ") = false) => q1
          have eq1 := sign_is (c := 32) (by decide +kernel) q1
          rename ((({ cps := #[cp] } : Str) == Str.ofString "\"") = false) => q2
          have eq2 := sign_is (c := 34) (by decide +kernel) q2
          refine' ColJ.intro (c := col) (n := 2) (cs3 eq1 eq2) (by k_asm) (by k_asm) ?h1 ?h1' ?h2
          case h1 => exact rfl
          case h1' => exact rfl
          case h2 => intro z z1 z2; repeat (first | exact rfl | refine ite_off (by with_reducible first | exact z1 | exact z2) ?_)
      · (try simp only [stName, if_true, Nat.succ_ne_zero, if_false] at F9)
        repeat' ((fail_if_success (with_reducible show wpAny _ _ (pyIter _) _ _ _)); (fail_if_success (with_reducible show wpAny _ _ (exec (Stmt.While _ _ _ _) _) _ _ _)); (fail_if_success (with_reducible show KswEnd _ _ _ _ _ _ _ _ _ _ _ _)); (first | ((k_here; (with_reducible show wpAny _ _ (call (Value.builtin "len") [Value.ref _]) _ _ _); k_dflt (refine' len_tup_ints ?k1 ?k2 ?k3 ?_; (case k1 => exact News.isTup (by k_asm) (by k_mem)); (case k2 => assumption); (case k3 => omega); k_whole))) | ((k_here; (with_reducible show wpAny _ _ (call (Value.type _) [Value.ref _]) _ _ _); k_dflt (refine' kde_tupleOf ?k1 ?k2 ?k3 ?k4 ?k5 ?_; (case k1 => k_asm); (case k2 => k_asm); (case k3 => exact News.isList (by k_asm) (by k_mem)); (case k4 => (have hL9 := IntsAre.length (by assumption); simp only [List.size_toArray]; omega)); (case k5 => exact rfl); k_whole); intro D' h' F' N' l1; (try k_lt l1); (try k_sweep))) | (k_unfold; (try dsimp only)) | (k_end; wrow_close) | walk1 | (dsimp only; walk1) | (leave1; walk_say "STEP leave1"; try dsimp only) | fail "no step"))
        · rename ((({ cps := #[cp] } : Str) == Str.ofString "\"") = true) => q2
          have eq2 := sign_is (c := 34) (by decide +kernel) q2
          refine' ColJ.intro (c := col.fdiv size * size + size) (n := 0) (cs4 eq2) (by k_asm) (by k_asm) ?h1 ?h1' ?h2
          case h1 => exact rfl
          case h1' => exact rfl
          case h2 => intro z z1 z2; repeat (first | exact rfl | refine ite_off (by with_reducible first | exact z1 | exact z2) ?_)
        · rename ((({ cps := #[cp] } : Str) == Str.ofString "\"") = false) => q2
          have eq2 := sign_is (c := 34) (by decide +kernel) q2
          refine' ColJ.intro (c := col) (n := 2) (cs5 eq2) (by k_asm) (by k_asm) ?h1 ?h1' ?h2
          case h1 => exact rfl
          case h1' => exact rfl
          case h2 => intro z z1 z2; repeat (first | exact rfl | refine ite_off (by with_reducible first | exact z1 | exact z2) ?_)
      · (try simp only [stName, if_true, Nat.succ_ne_zero, if_false] at F9)
        repeat' ((fail_if_success (with_reducible show wpAny _ _ (pyIter _) _ _ _)); (fail_if_success (with_reducible show wpAny _ _ (exec (Stmt.While _ _ _ _) _) _ _ _)); (fail_if_success (with_reducible show KswEnd _ _ _ _ _ _ _ _ _ _ _ _)); (first | ((k_here; (with_reducible show wpAny _ _ (call (Value.builtin "len") [Value.ref _]) _ _ _); k_dflt (refine' len_tup_ints ?k1 ?k2 ?k3 ?_; (case k1 => exact News.isTup (by k_asm) (by k_mem)); (case k2 => assumption); (case k3 => omega); k_whole))) | ((k_here; (with_reducible show wpAny _ _ (call (Value.type _) [Value.ref _]) _ _ _); k_dflt (refine' kde_tupleOf ?k1 ?k2 ?k3 ?k4 ?k5 ?_; (case k1 => k_asm); (case k2 => k_asm); (case k3 => exact News.isList (by k_asm) (by k_mem)); (case k4 => (have hL9 := IntsAre.length (by assumption); simp only [List.size_toArray]; omega)); (case k5 => exact rfl); k_whole); intro D' h' F' N' l1; (try k_lt l1); (try k_sweep))) | (k_unfold; (try dsimp only)) | (k_end; wrow_close) | walk1 | (dsimp only; walk1) | (leave1; walk_say "STEP leave1"; try dsimp only) | fail "no step"))
        · refine' ColJ.intro (c := col) (n := 2) (cs6) (by k_asm) (by k_asm) ?h1 ?h1' ?h2
          case h1 => exact rfl
          case h1' => exact rfl
          case h2 => intro z z1 z2; repeat (first | exact rfl | refine ite_off (by with_reducible first | exact z1 | exact z2) ?_)
    · intro h8 tk8 tc8 ts8 F8 N8
      clear F9 N9
      have hle := @cs_le size col cp st'
      generalize colStep size col st' cp = cc at *
      obtain ⟨c', n'⟩ := cc
      dsimp only at hcs hle F8
      repeat' ((fail_if_success (with_reducible show wpAny _ _ (pyIter _) _ _ _)); (fail_if_success (with_reducible show wpAny _ _ (exec (Stmt.While _ _ _ _) _) _ _ _)); (fail_if_success (with_reducible show KswEnd _ _ _ _ _ _ _ _ _ _ _ _)); (first | ((k_here; (with_reducible show wpAny _ _ (call (Value.builtin "len") [Value.ref _]) _ _ _); k_dflt (refine' len_tup_ints ?k1 ?k2 ?k3 ?_; (case k1 => exact News.isTup (by k_asm) (by k_mem)); (case k2 => assumption); (case k3 => omega); k_whole))) | ((k_here; (with_reducible show wpAny _ _ (call (Value.type _) [Value.ref _]) _ _ _); k_dflt (refine' kde_tupleOf ?k1 ?k2 ?k3 ?k4 ?k5 ?_; (case k1 => k_asm); (case k2 => k_asm); (case k3 => exact News.isList (by k_asm) (by k_mem)); (case k4 => (have hL9 := IntsAre.length (by assumption); simp only [List.size_toArray]; omega)); (case k5 => exact rfl); k_whole); intro D' h' F' N' l1; (try k_lt l1); (try k_sweep))) | (k_unfold; (try dsimp only)) | (k_end; wrow_close) | walk1 | (dsimp only; walk1) | (leave1; walk_say "STEP leave1"; try dsimp only) | fail "no step"))
      rename News _ _ _ _ => NE
      simp only [List.push_toArray] at NE
      refine' EndG.intro ⟨_, _, cs ++ [c'], c', _, n', _⟩ (by k_asm) NE ?hl ?hI ?hne ?hk ?hm ?hi
      case hk => repeat' (first | exact List.forall_mem_nil _ | exact rfl | refine List.forall_mem_cons.mpr ⟨?_, ?_⟩)
      case hl => repeat' (first | exact List.forall_mem_nil _ | refine List.forall_mem_cons.mpr ⟨by k_mem, ?_⟩)
      case hI => k_mem
      case hne => exact hneJ
      case hm => intro z z1 z2 z3; repeat (first | exact kstB_off z2 z3 rfl | refine ite_off (by with_reducible exact z1) ?_ | refine (kstB_out z2 rfl).trans ?_)
      case hi => exact ⟨hI.append (.cons _ _ .nil), by rw [List.length_append, hl]; rfl, hle, by dsimp only; rw [List.append_assoc]; exact hcs⟩
end
-- MBis
section
open PySem PySem.W PySem.Calls PyProof.Rows
/-- the key, as a call by a contract -/
structure KeyOk (w : World) (p : Program) (loose : List Str) (mean : ExcName → Option Value) (mg mb : Str → Option Value) (kf : Addr) (own : List (Addr × Obj)) (xs : List Addr) (f : Nat → Int) : Prop where
  go : ∀ (base : Heap) (outer : List Env) (gs : Option (List Code)) (s : Shared) (g : Heap) (R : Result → Shared → Prop) (i : Nat), i < xs.length → Gnd w p loose mean mg mb ⟨none, 550, some outer, gs, 2800⟩ base outer g → g.StaysIn s.heap →
    (∀ q ∈ own, s.heap.get? q.1 = some q.2) → (∀ q ∈ own, g.get? q.1 = none) → (∀ h' tk tv, s.heap.StaysIn h' → R (.ok (.ret (.int (f i) tv))) { s with heap := h', toks := tk }) →
    codeAny (model PySem.Challenge.rw_rl0090_01.row.prog w) ⟨none, 550, some outer, gs, 2800⟩ (.call (.ref kf) ⟨[.ref (xs.getD i 0)], []⟩) R s
theorem use_key {w : World} {p : Program} {loose : List Str} {mean : ExcName → Option Value} {mg mb : Str → Option Value} {base h₀ : Heap} {outer : List Env} {s : Shared} {A A₀ : Around} {L : Addr} {m : Str → Option Value} {env : Env} {news : List (Addr × Obj)} {Q : Value → Shared → Prop} {E : Value → Shared → Prop} {kf : Addr} {own : List (Addr × Obj)} {xs : List Addr} {f : Nat → Int} {k : Int}
    (hkey : KeyOk w p loose mean mg mb kf own xs f) (h0 : 0 ≤ k) (h1 : k < (xs.length : Int)) (B : Below A₀ base outer h₀) (F : Fr h₀ L s.heap m) (X : Frag.In (hd.heap_39 w.params) h₀) (N : News h₀ L s.heap news) (T : Top p loose mean mg mb h₀) (hA : A.frames = some (env :: outer)) (hf : env.frame = some L) (hke : env.scope.kind = .function)
    (hh : A.handled = none) (hdp : A.depth ≤ 550) (hun : A.units ≤ 2800) (hm : ∀ q ∈ own, q ∈ news)
    (h : ∀ h' tk tv, Fr h₀ L h' m → News h₀ L h' news → Q (.int (f k.toNat) tv) { s with heap := h', toks := tk }) : wpAny (model PySem.Challenge.rw_rl0090_01.row.prog w) A (call (.ref kf) [.ref (xs.getD k.toNat 0)] []) Q E s :=
  use_pure (P := fun v => ∃ tv, v = .int (f k.toNat) tv) (own := own) (fun G hg ho hfr hR => hkey.go _ _ _ _ _ _ k.toNat (by omega) G hg ho hfr fun h' tk tv st => hR h' tk _ st ⟨tv, rfl⟩) B F X N T hA hf hke hh hdp hun hm
    fun h' tk v ⟨tv, e⟩ F' N' => e ▸ h h' tk tv F' N'
theorem item_refs {prog : Program} {w : World} {A : Around} {E : Value → Shared → Prop} {s : Shared} {h₀ : Heap} {L : Addr} {news : List (Addr × Obj)} {value slice : Expr} {l : Addr} {xs : List Addr} {nn : Nat} {k : Int} {u : Tok} {Q : Value → Shared → Prop}
    (N : News h₀ L s.heap news) (hm : (l, W.listOf (xs.map Value.ref).toArray nn) ∈ news) (h0 : 0 ≤ k) (h1 : k < (xs.length : Int)) (h2 : (xs.length : Int) ≤ 1000) (h : Q (.ref (xs.getD k.toNat 0)) s)
    (hs : subscripted slice false (.ref l) (.int k u) = operate [.ref l, .int k u] (getItem (.ref l) (.int k u)) := by with_unfolding_all rfl) (hg : ∀ r, letTemporaryGo value (.ref l) r = pure () := by intro _; with_unfolding_all rfl) :
    wpAny (model prog w) A (subscriptTail value slice (.ref l) (.int k u)) Q E s := by
  refine item_list (News.isList N hm) h0 (by omega) ?_ h hs hg
  have hk : k.toNat < xs.length := by omega
  simp [hk]
theorem len_refs {prog : Program} {w : World} {A : Around} {E : Value → Shared → Prop} {s : Shared} {h₀ : Heap} {L : Addr} {news : List (Addr × Obj)} {l : Addr} {xs : List Addr} {nn : Nat} {Q : Value → Shared → Prop}
    (N : News h₀ L s.heap news) (hm : (l, W.listOf (xs.map Value.ref).toArray nn) ∈ news) (h2 : (xs.length : Int) ≤ 1000)
    (h : Q (.int xs.length (s.toks + 1)) { s with toks := s.toks + 1 + 1 }) : wpAny (model prog w) A (call (.builtin "len") [.ref l]) Q E s := by
  have e : (xs.map Value.ref).toArray.size = xs.length := by simp
  exact len_list (News.isList N hm) (by rw [e]; omega) (by rw [e]; exact h)
/-- the state of a search: below lo A holds, from hi on B -/
structure BisP (n : Nat) (A B : Nat → Prop) (lo hi : Int) : Prop where
  h0 : 0 ≤ lo
  h1 : lo ≤ hi
  h2 : hi ≤ (n : Int)
  h3 : ∀ i : Nat, (i : Int) < lo → A i
  h4 : ∀ i : Nat, hi ≤ (i : Int) → i < n → B i
section
variable {n : Nat} {A B : Nat → Prop} {lo hi : Int}
theorem mid_in {lo hi : Int} (h0 : 0 ≤ lo) (h1 : lo < hi) : lo ≤ (lo + hi).fdiv 2 ∧ (lo + hi).fdiv 2 < hi := by
  rw [Int.fdiv_eq_ediv_of_nonneg _ (by decide)]; omega
theorem BisP.start (A B : Nat → Prop) : BisP n A B 0 (n : Int) := ⟨Int.le_refl _, Int.natCast_nonneg _, Int.le_refl _, fun _ h => absurd h (Int.not_lt.mpr (Int.natCast_nonneg _)), fun _ h k => absurd (Int.ofNat_le.mp h) (Nat.not_le.mpr k)⟩
theorem mid_n (h : BisP n A B lo hi) (hl : lo < hi) : ((lo + hi).fdiv 2).toNat < n := by
  have := mid_in h.h0 hl
  have := h.h0
  have := h.h2
  omega
theorem BisP.right (h : BisP n A B lo hi) (hl : lo < hi) (hm : ∀ i : Nat, i ≤ ((lo + hi).fdiv 2).toNat → A i) : BisP n A B ((lo + hi).fdiv 2 + 1) hi := by
  have q := mid_in h.h0 hl
  revert q hm
  generalize (lo + hi).fdiv 2 = m
  intro hm q
  exact ⟨Int.le_add_one (Int.le_trans h.h0 q.1), q.2, h.h2, fun i hi => hm i (by omega), h.h4⟩
theorem BisP.left (h : BisP n A B lo hi) (hl : lo < hi) (hm : ∀ i : Nat, ((lo + hi).fdiv 2).toNat ≤ i → i < n → B i) : BisP n A B lo ((lo + hi).fdiv 2) := by
  have q := mid_in h.h0 hl
  revert q hm
  generalize (lo + hi).fdiv 2 = m
  intro hm q
  exact ⟨h.h0, q.1, Int.le_trans (Int.le_of_lt q.2) h.h2, h.h3, fun i hi k => hm i (by omega) k⟩
theorem BisP.fewR (h0 : 0 ≤ lo) (hl : lo < hi) : (hi - ((lo + hi).fdiv 2 + 1)).toNat < (hi - lo).toNat := by
  have q := mid_in h0 hl
  omega
theorem BisP.fewL (h0 : 0 ≤ lo) (hl : lo < hi) : ((lo + hi).fdiv 2 - lo).toNat < (hi - lo).toNat := by
  have q := mid_in h0 hl
  omega
theorem BisP.last (h : BisP n A B lo hi) (hl : ¬ lo < hi) : ∃ r : Nat, lo = (r : Int) ∧ r ≤ n ∧ (∀ i, i < r → A i) ∧ ∀ i, r ≤ i → i < n → B i := by
  obtain ⟨h0, h1, h2, h3, h4⟩ := h
  obtain ⟨r, rfl⟩ := Int.eq_ofNat_of_zero_le h0
  obtain rfl : (r : Int) = hi := Int.le_antisymm h1 (Int.not_lt.mp hl)
  exact ⟨r, rfl, Int.ofNat_le.mp h2, fun i k => h3 i (Int.ofNat_lt.mpr k), fun i k => h4 i (Int.ofNat_le.mpr k)⟩
end
set_option maxRecDepth 100000 in
set_option maxHeartbeats 8000000 in
theorem bis_left {w : World} {p : Program} {loose : List Str} {mean : ExcName → Option Value} {mg mb : Str → Option Value} {base g : Heap} {outer : List Env} {s : Shared} {R : Result → Shared → Prop} {gs : Option (List Code)}
    {la kf : Addr} {xs : List Addr} {nn : Nat} {rest' : List (Addr × Obj)} {f : Nat → Int} {x : Int} {tx : Tok}
    (G : Gnd w p loose mean mg mb ⟨none, 450, some outer, gs, 2500⟩ base outer g) (hg : g.StaysIn s.heap) (hr : ∀ q ∈ (la, W.listOf (xs.map Value.ref).toArray nn) :: rest', s.heap.get? q.1 = some q.2) (fr : ∀ q ∈ (la, W.listOf (xs.map Value.ref).toArray nn) :: rest', g.get? q.1 = none)
    (hkey : KeyOk w p loose mean mg mb kf ((la, W.listOf (xs.map Value.ref).toArray nn) :: rest') xs f) (hkf : ∃ oc od fd sl, (kf, (⟨oc, od, .func fd, sl⟩ : Obj)) ∈ rest') (hn : (xs.length : Int) ≤ 1000) (mono : ∀ i j, i ≤ j → j < xs.length → f i ≤ f j)
    (hR : ∀ h' tk (r : Nat) tv, s.heap.StaysIn h' → r ≤ xs.length → (∀ i, i < r → f i < x) → (∀ i, r ≤ i → i < xs.length → x ≤ f i) → R (.ok (.ret (.int (r : Int) tv))) { s with heap := h', toks := tk }) :
    codeAny (model PySem.Challenge.rw_rl0090_01.row.prog w) ⟨none, 450, some outer, gs, 2500⟩ (.call (.ref 105) ⟨[.ref la, .int x tx], [(Str.ofString "key", .ref kf)]⟩) R s := by
  obtain ⟨koc, kod, kfd, ksl, hkm⟩ := hkf
  have X := G.X
  revert X
  w_top off
  k_fill
  intro X
  refine' callO (own := _) X G.T.nolimit hg hr fr ?ho ?cd ?room ?bind ?loc ?_ ?cell ?co ?gen ?kd
  case ho => k_is
  case cd => k_is
  case room => k_room
  case bind => (refine' kp_binds ?kx ?ke; (case kx => exact X.keeps hg); (case ke => exact fun _ => rfl))
  case loc => exact locs rfl
  case cell => decide
  case co => rfl
  case gen => rfl
  case kd => rfl
  intro g' L' h₁ st rest F N lt
  have X' := X.keeps st
  have T' := G.T.keeps st
  have B' := (G.keeps st).B
  clear X
  dsimp only
  show wpAny _ _ _ _ _ _
  k_fold
  k_lt lt
  have hMk9 := kstMark
  have mono' := HidP.mk mono
  clear mono
  repeat' ((fail_if_success (with_reducible show wpAny _ _ (pyIter _) _ _ _)); (fail_if_success (with_reducible show wpAny _ _ (exec (Stmt.While _ _ _ _) _) _ _ _)); (fail_if_success (with_reducible show KswEnd _ _ _ _ _ _ _ _ _ _ _ _)); (first | ((with_reducible show FnAt _ _); (k_dflt (exact FnAt.of (by k_asm) (List.mem_cons_of_mem _ (by assumption))))) | ((with_reducible show wpAny _ _ (callWith _ (Value.ref _) _ _ _) _ _ _); (k_here; k_dflt (refine' callWith_F ?k1 ?_; (case k1 => exact FnAt.of (by k_asm) (List.mem_cons_of_mem _ (by assumption))); k_whole))) | ((k_here; (with_reducible show wpAny _ _ (call (Value.ref _) _ _) _ _ _); k_dflt (refine' use_key ?key ?h0 ?h1 ?B ?F ?X ?N ?T ?hA ?hf ?hk ?hh ?hd ?hu ?hm ?_; (case hA => exact rfl); (case hf => exact rfl); (case hk => exact rfl); (case hh => exact rfl); (case key => with_reducible assumption); (case B => k_asm); (case F => k_asm); (case X => k_asm); (case N => k_asm); (case T => k_asm); (case hd => exact Nat.le_of_ble_eq_true rfl); (case hu => exact Nat.le_of_ble_eq_true rfl); (case h0 => omega); (case h1 => omega); (case hm => exact fun _ q => q); k_whole; intro h' tk' tv' F' N'; (try k_sweep)))) | ((k_here; (with_reducible show wpAny _ _ (subscriptTail _ _ (Value.ref _) (Value.int _ _)) _ _ _); k_dflt (refine' item_refs ?k1 ?k2 ?k3 ?k4 ?k5 ?_ ?k6 ?k7; (case k1 => k_asm); (case k2 => k_mem); (case k3 => omega); (case k4 => omega); (case k5 => omega); (case k6 => with_unfolding_all rfl); (case k7 => intro _; with_unfolding_all rfl); k_whole))) | ((k_here; (with_reducible show wpAny _ _ (subscriptTail _ _ (Value.ref _) (Value.int _ _)) _ _ _); k_dflt (refine' item_refs ?k1 ?k2 ?k3 ?k4 ?k5 ?_ ?k6 ?k7; (case k1 => k_asm); (case k2 => k_mem); (case k3 => omega); (case k4 => omega); (case k5 => omega); (case k6 => with_unfolding_all rfl); (case k7 => intro _; with_unfolding_all rfl); k_whole))) | ((k_here; (with_reducible show wpAny _ _ (call (Value.builtin "len") [Value.ref _]) _ _ _); k_dflt (refine' len_refs ?k1 ?k2 ?k3 ?_; (case k1 => k_asm); (case k2 => k_mem); (case k3 => omega); k_whole))) | ((k_here; (with_reducible show wpAny _ _ (call (Value.builtin "len") [Value.ref _]) _ _ _); k_dflt (refine' len_tup_ints ?k1 ?k2 ?k3 ?_; (case k1 => exact News.isTup (by k_asm) (by k_mem)); (case k2 => assumption); (case k3 => omega); k_whole))) | ((k_here; (with_reducible show wpAny _ _ (call (Value.type _) [Value.ref _]) _ _ _); k_dflt (refine' kde_tupleOf ?k1 ?k2 ?k3 ?k4 ?k5 ?_; (case k1 => k_asm); (case k2 => k_asm); (case k3 => exact News.isList (by k_asm) (by k_mem)); (case k4 => (have hL9 := IntsAre.length (by assumption); simp only [List.size_toArray]; omega)); (case k5 => exact rfl); k_whole); intro D' h' F' N' l1; (try k_lt l1); (try k_sweep))) | (k_unfold; (try dsimp only)) | (k_end; wrow_close) | walk1 | (dsimp only; walk1) | (leave1; walk_say "STEP leave1"; try dsimp only) | fail "no step"))
  rename_i FC NC
  have mono := mono'.out
  refine' ksw_while (Led := fun _ : Int × Int × Tok × Tok => (la, W.listOf (xs.map Value.ref).toArray nn) :: rest') (ps := fun c => [(Str.ofString "lo", .int c.1 c.2.2.1), (Str.ofString "hi", .int c.2.1 c.2.2.2)]) (Facts := fun _ => True) (stored := [Str.ofString "mid"])
    (P := fun c => BisP xs.length (fun i => f i < x) (fun i => x ≤ f i) c.1 c.2.1) (μ := fun c => (c.2.1 - c.1).toNat) (c₀ := (0, (xs.length : Int), _, _)) FC NC trivial ?hk ?hp ?turn
  case hk => repeat' (first | exact List.forall_mem_nil _ | exact rfl | refine List.forall_mem_cons.mpr ⟨?_, ?_⟩)
  case hp => exact BisP.start _ _
  case turn =>
    intro c u h tk _ hP F2 N2
    obtain ⟨lo, hi, tlo, thi⟩ := c
    dsimp only at hP F2 N2
    have h0 := hP.h0
    have h1 := hP.h1
    have h2 := hP.h2
    clear FC NC
    clear mono
    have mono := mono'
    have hmid : (lo + hi).fdiv 2 = (lo + hi) / 2 := Int.fdiv_eq_ediv_of_nonneg _ (by omega)
    repeat' ((fail_if_success (with_reducible show wpAny _ _ (pyIter _) _ _ _)); (fail_if_success (with_reducible show wpAny _ _ (exec (Stmt.While _ _ _ _) _) _ _ _)); (fail_if_success (with_reducible show KswEnd _ _ _ _ _ _ _ _ _ _ _ _)); (first | ((with_reducible show FnAt _ _); (k_dflt (exact FnAt.of (by k_asm) (List.mem_cons_of_mem _ (by assumption))))) | ((with_reducible show wpAny _ _ (callWith _ (Value.ref _) _ _ _) _ _ _); (k_here; k_dflt (refine' callWith_F ?k1 ?_; (case k1 => exact FnAt.of (by k_asm) (List.mem_cons_of_mem _ (by assumption))); k_whole))) | ((k_here; (with_reducible show wpAny _ _ (call (Value.ref _) _ _) _ _ _); k_dflt (refine' use_key ?key ?h0 ?h1 ?B ?F ?X ?N ?T ?hA ?hf ?hk ?hh ?hd ?hu ?hm ?_; (case hA => exact rfl); (case hf => exact rfl); (case hk => exact rfl); (case hh => exact rfl); (case key => with_reducible assumption); (case B => k_asm); (case F => k_asm); (case X => k_asm); (case N => k_asm); (case T => k_asm); (case hd => exact Nat.le_of_ble_eq_true rfl); (case hu => exact Nat.le_of_ble_eq_true rfl); (case h0 => omega); (case h1 => omega); (case hm => exact fun _ q => q); k_whole; intro h' tk' tv' F' N'; (try k_sweep)))) | ((k_here; (with_reducible show wpAny _ _ (subscriptTail _ _ (Value.ref _) (Value.int _ _)) _ _ _); k_dflt (refine' item_refs ?k1 ?k2 ?k3 ?k4 ?k5 ?_ ?k6 ?k7; (case k1 => k_asm); (case k2 => k_mem); (case k3 => omega); (case k4 => omega); (case k5 => omega); (case k6 => with_unfolding_all rfl); (case k7 => intro _; with_unfolding_all rfl); k_whole))) | ((k_here; (with_reducible show wpAny _ _ (subscriptTail _ _ (Value.ref _) (Value.int _ _)) _ _ _); k_dflt (refine' item_refs ?k1 ?k2 ?k3 ?k4 ?k5 ?_ ?k6 ?k7; (case k1 => k_asm); (case k2 => k_mem); (case k3 => omega); (case k4 => omega); (case k5 => omega); (case k6 => with_unfolding_all rfl); (case k7 => intro _; with_unfolding_all rfl); k_whole))) | ((k_here; (with_reducible show wpAny _ _ (call (Value.builtin "len") [Value.ref _]) _ _ _); k_dflt (refine' len_refs ?k1 ?k2 ?k3 ?_; (case k1 => k_asm); (case k2 => k_mem); (case k3 => omega); k_whole))) | ((k_here; (with_reducible show wpAny _ _ (call (Value.builtin "len") [Value.ref _]) _ _ _); k_dflt (refine' len_tup_ints ?k1 ?k2 ?k3 ?_; (case k1 => exact News.isTup (by k_asm) (by k_mem)); (case k2 => assumption); (case k3 => omega); k_whole))) | ((k_here; (with_reducible show wpAny _ _ (call (Value.type _) [Value.ref _]) _ _ _); k_dflt (refine' kde_tupleOf ?k1 ?k2 ?k3 ?k4 ?k5 ?_; (case k1 => k_asm); (case k2 => k_asm); (case k3 => exact News.isList (by k_asm) (by k_mem)); (case k4 => (have hL9 := IntsAre.length (by assumption); simp only [List.size_toArray]; omega)); (case k5 => exact rfl); k_whole); intro D' h' F' N' l1; (try k_lt l1); (try k_sweep))) | (k_unfold; (try dsimp only)) | (k_end; wrow_close) | walk1 | (dsimp only; walk1) | (leave1; walk_say "STEP leave1"; try dsimp only) | fail "no step"))
    · refine' ksw_end ((lo + hi).fdiv 2 + 1, hi, _, _) (by k_asm) (by k_asm) (fun _ q => q) trivial ?hk ?hm ?hp ?hu
      case hk => repeat' (first | exact List.forall_mem_nil _ | exact rfl | refine List.forall_mem_cons.mpr ⟨?_, ?_⟩)
      case hm => intro z z2 z3; repeat (first | exact kstB_off z2 z3 rfl | refine ite_off (by with_reducible first | exact st_ne z3 | exact st_ne (st_tl z3) | exact z2 _ List.mem_cons_self | exact z2 _ (List.mem_cons_of_mem _ List.mem_cons_self) | exact z2 _ (List.mem_cons_of_mem _ (List.mem_cons_of_mem _ List.mem_cons_self))) ?_)
      case hu => exact BisP.fewR h0 (by assumption)
      case hp => exact hP.right (by assumption) fun i hi' => Int.lt_of_le_of_lt (mono.out i _ hi' (mid_n hP (by assumption))) (by assumption)
    · refine' ksw_end (lo, (lo + hi).fdiv 2, _, _) (by k_asm) (by k_asm) (fun _ q => q) trivial ?hk ?hm ?hp ?hu
      case hk => repeat' (first | exact List.forall_mem_nil _ | exact rfl | refine List.forall_mem_cons.mpr ⟨?_, ?_⟩)
      case hm => intro z z2 z3; repeat (first | exact kstB_off z2 z3 rfl | refine ite_off (by with_reducible first | exact st_ne z3 | exact st_ne (st_tl z3) | exact z2 _ List.mem_cons_self | exact z2 _ (List.mem_cons_of_mem _ List.mem_cons_self) | exact z2 _ (List.mem_cons_of_mem _ (List.mem_cons_of_mem _ List.mem_cons_self))) ?_)
      case hu => exact BisP.fewL h0 (by assumption)
      case hp => exact hP.left (by assumption) fun i hi' hl' => Int.le_trans (Int.not_lt.mp (by assumption)) (mono.out _ i hi' hl')
    · dsimp only
      obtain ⟨r, e, q1, q2, q3⟩ := hP.last (by assumption)
      rw [e]
      exact hR _ _ r _ (stays_of rest hr (by k_asm) (by k_asm) (fun _ q => q)) q1 q2 q3
set_option maxRecDepth 100000 in
set_option maxHeartbeats 8000000 in
theorem bis_right {w : World} {p : Program} {loose : List Str} {mean : ExcName → Option Value} {mg mb : Str → Option Value} {base g : Heap} {outer : List Env} {s : Shared} {R : Result → Shared → Prop} {gs : Option (List Code)}
    {la kf : Addr} {xs : List Addr} {nn : Nat} {rest' : List (Addr × Obj)} {f : Nat → Int} {x : Int} {tx : Tok}
    (G : Gnd w p loose mean mg mb ⟨none, 450, some outer, gs, 2500⟩ base outer g) (hg : g.StaysIn s.heap) (hr : ∀ q ∈ (la, W.listOf (xs.map Value.ref).toArray nn) :: rest', s.heap.get? q.1 = some q.2) (fr : ∀ q ∈ (la, W.listOf (xs.map Value.ref).toArray nn) :: rest', g.get? q.1 = none)
    (hkey : KeyOk w p loose mean mg mb kf ((la, W.listOf (xs.map Value.ref).toArray nn) :: rest') xs f) (hkf : ∃ oc od fd sl, (kf, (⟨oc, od, .func fd, sl⟩ : Obj)) ∈ rest') (hn : (xs.length : Int) ≤ 1000) (mono : ∀ i j, i ≤ j → j < xs.length → f i ≤ f j)
    (hR : ∀ h' tk (r : Nat) tv, s.heap.StaysIn h' → r ≤ xs.length → (∀ i, i < r → f i ≤ x) → (∀ i, r ≤ i → i < xs.length → x < f i) → R (.ok (.ret (.int (r : Int) tv))) { s with heap := h', toks := tk }) :
    codeAny (model PySem.Challenge.rw_rl0090_01.row.prog w) ⟨none, 450, some outer, gs, 2500⟩ (.call (.ref 96) ⟨[.ref la, .int x tx], [(Str.ofString "key", .ref kf)]⟩) R s := by
  obtain ⟨koc, kod, kfd, ksl, hkm⟩ := hkf
  have X := G.X
  revert X
  w_top off
  k_fill
  intro X
  refine' callO (own := _) X G.T.nolimit hg hr fr ?ho ?cd ?room ?bind ?loc ?_ ?cell ?co ?gen ?kd
  case ho => k_is
  case cd => k_is
  case room => k_room
  case bind => (refine' kp_binds ?kx ?ke; (case kx => exact X.keeps hg); (case ke => exact fun _ => rfl))
  case loc => exact locs rfl
  case cell => decide
  case co => rfl
  case gen => rfl
  case kd => rfl
  intro g' L' h₁ st rest F N lt
  have X' := X.keeps st
  have T' := G.T.keeps st
  have B' := (G.keeps st).B
  clear X
  dsimp only
  show wpAny _ _ _ _ _ _
  k_fold
  k_lt lt
  have hMk9 := kstMark
  have mono' := HidP.mk mono
  clear mono
  repeat' ((fail_if_success (with_reducible show wpAny _ _ (pyIter _) _ _ _)); (fail_if_success (with_reducible show wpAny _ _ (exec (Stmt.While _ _ _ _) _) _ _ _)); (fail_if_success (with_reducible show KswEnd _ _ _ _ _ _ _ _ _ _ _ _)); (first | ((with_reducible show FnAt _ _); (k_dflt (exact FnAt.of (by k_asm) (List.mem_cons_of_mem _ (by assumption))))) | ((with_reducible show wpAny _ _ (callWith _ (Value.ref _) _ _ _) _ _ _); (k_here; k_dflt (refine' callWith_F ?k1 ?_; (case k1 => exact FnAt.of (by k_asm) (List.mem_cons_of_mem _ (by assumption))); k_whole))) | ((k_here; (with_reducible show wpAny _ _ (call (Value.ref _) _ _) _ _ _); k_dflt (refine' use_key ?key ?h0 ?h1 ?B ?F ?X ?N ?T ?hA ?hf ?hk ?hh ?hd ?hu ?hm ?_; (case hA => exact rfl); (case hf => exact rfl); (case hk => exact rfl); (case hh => exact rfl); (case key => with_reducible assumption); (case B => k_asm); (case F => k_asm); (case X => k_asm); (case N => k_asm); (case T => k_asm); (case hd => exact Nat.le_of_ble_eq_true rfl); (case hu => exact Nat.le_of_ble_eq_true rfl); (case h0 => omega); (case h1 => omega); (case hm => exact fun _ q => q); k_whole; intro h' tk' tv' F' N'; (try k_sweep)))) | ((k_here; (with_reducible show wpAny _ _ (subscriptTail _ _ (Value.ref _) (Value.int _ _)) _ _ _); k_dflt (refine' item_refs ?k1 ?k2 ?k3 ?k4 ?k5 ?_ ?k6 ?k7; (case k1 => k_asm); (case k2 => k_mem); (case k3 => omega); (case k4 => omega); (case k5 => omega); (case k6 => with_unfolding_all rfl); (case k7 => intro _; with_unfolding_all rfl); k_whole))) | ((k_here; (with_reducible show wpAny _ _ (subscriptTail _ _ (Value.ref _) (Value.int _ _)) _ _ _); k_dflt (refine' item_refs ?k1 ?k2 ?k3 ?k4 ?k5 ?_ ?k6 ?k7; (case k1 => k_asm); (case k2 => k_mem); (case k3 => omega); (case k4 => omega); (case k5 => omega); (case k6 => with_unfolding_all rfl); (case k7 => intro _; with_unfolding_all rfl); k_whole))) | ((k_here; (with_reducible show wpAny _ _ (call (Value.builtin "len") [Value.ref _]) _ _ _); k_dflt (refine' len_refs ?k1 ?k2 ?k3 ?_; (case k1 => k_asm); (case k2 => k_mem); (case k3 => omega); k_whole))) | ((k_here; (with_reducible show wpAny _ _ (call (Value.builtin "len") [Value.ref _]) _ _ _); k_dflt (refine' len_tup_ints ?k1 ?k2 ?k3 ?_; (case k1 => exact News.isTup (by k_asm) (by k_mem)); (case k2 => assumption); (case k3 => omega); k_whole))) | ((k_here; (with_reducible show wpAny _ _ (call (Value.type _) [Value.ref _]) _ _ _); k_dflt (refine' kde_tupleOf ?k1 ?k2 ?k3 ?k4 ?k5 ?_; (case k1 => k_asm); (case k2 => k_asm); (case k3 => exact News.isList (by k_asm) (by k_mem)); (case k4 => (have hL9 := IntsAre.length (by assumption); simp only [List.size_toArray]; omega)); (case k5 => exact rfl); k_whole); intro D' h' F' N' l1; (try k_lt l1); (try k_sweep))) | (k_unfold; (try dsimp only)) | (k_end; wrow_close) | walk1 | (dsimp only; walk1) | (leave1; walk_say "STEP leave1"; try dsimp only) | fail "no step"))
  rename_i FC NC
  have mono := mono'.out
  refine' ksw_while (Led := fun _ : Int × Int × Tok × Tok => (la, W.listOf (xs.map Value.ref).toArray nn) :: rest') (ps := fun c => [(Str.ofString "lo", .int c.1 c.2.2.1), (Str.ofString "hi", .int c.2.1 c.2.2.2)]) (Facts := fun _ => True) (stored := [Str.ofString "mid"])
    (P := fun c => BisP xs.length (fun i => f i ≤ x) (fun i => x < f i) c.1 c.2.1) (μ := fun c => (c.2.1 - c.1).toNat) (c₀ := (0, (xs.length : Int), _, _)) FC NC trivial ?hk ?hp ?turn
  case hk => repeat' (first | exact List.forall_mem_nil _ | exact rfl | refine List.forall_mem_cons.mpr ⟨?_, ?_⟩)
  case hp => exact BisP.start _ _
  case turn =>
    intro c u h tk _ hP F2 N2
    obtain ⟨lo, hi, tlo, thi⟩ := c
    dsimp only at hP F2 N2
    have h0 := hP.h0
    have h1 := hP.h1
    have h2 := hP.h2
    clear FC NC
    clear mono
    have mono := mono'
    have hmid : (lo + hi).fdiv 2 = (lo + hi) / 2 := Int.fdiv_eq_ediv_of_nonneg _ (by omega)
    repeat' ((fail_if_success (with_reducible show wpAny _ _ (pyIter _) _ _ _)); (fail_if_success (with_reducible show wpAny _ _ (exec (Stmt.While _ _ _ _) _) _ _ _)); (fail_if_success (with_reducible show KswEnd _ _ _ _ _ _ _ _ _ _ _ _)); (first | ((with_reducible show FnAt _ _); (k_dflt (exact FnAt.of (by k_asm) (List.mem_cons_of_mem _ (by assumption))))) | ((with_reducible show wpAny _ _ (callWith _ (Value.ref _) _ _ _) _ _ _); (k_here; k_dflt (refine' callWith_F ?k1 ?_; (case k1 => exact FnAt.of (by k_asm) (List.mem_cons_of_mem _ (by assumption))); k_whole))) | ((k_here; (with_reducible show wpAny _ _ (call (Value.ref _) _ _) _ _ _); k_dflt (refine' use_key ?key ?h0 ?h1 ?B ?F ?X ?N ?T ?hA ?hf ?hk ?hh ?hd ?hu ?hm ?_; (case hA => exact rfl); (case hf => exact rfl); (case hk => exact rfl); (case hh => exact rfl); (case key => with_reducible assumption); (case B => k_asm); (case F => k_asm); (case X => k_asm); (case N => k_asm); (case T => k_asm); (case hd => exact Nat.le_of_ble_eq_true rfl); (case hu => exact Nat.le_of_ble_eq_true rfl); (case h0 => omega); (case h1 => omega); (case hm => exact fun _ q => q); k_whole; intro h' tk' tv' F' N'; (try k_sweep)))) | ((k_here; (with_reducible show wpAny _ _ (subscriptTail _ _ (Value.ref _) (Value.int _ _)) _ _ _); k_dflt (refine' item_refs ?k1 ?k2 ?k3 ?k4 ?k5 ?_ ?k6 ?k7; (case k1 => k_asm); (case k2 => k_mem); (case k3 => omega); (case k4 => omega); (case k5 => omega); (case k6 => with_unfolding_all rfl); (case k7 => intro _; with_unfolding_all rfl); k_whole))) | ((k_here; (with_reducible show wpAny _ _ (subscriptTail _ _ (Value.ref _) (Value.int _ _)) _ _ _); k_dflt (refine' item_refs ?k1 ?k2 ?k3 ?k4 ?k5 ?_ ?k6 ?k7; (case k1 => k_asm); (case k2 => k_mem); (case k3 => omega); (case k4 => omega); (case k5 => omega); (case k6 => with_unfolding_all rfl); (case k7 => intro _; with_unfolding_all rfl); k_whole))) | ((k_here; (with_reducible show wpAny _ _ (call (Value.builtin "len") [Value.ref _]) _ _ _); k_dflt (refine' len_refs ?k1 ?k2 ?k3 ?_; (case k1 => k_asm); (case k2 => k_mem); (case k3 => omega); k_whole))) | ((k_here; (with_reducible show wpAny _ _ (call (Value.builtin "len") [Value.ref _]) _ _ _); k_dflt (refine' len_tup_ints ?k1 ?k2 ?k3 ?_; (case k1 => exact News.isTup (by k_asm) (by k_mem)); (case k2 => assumption); (case k3 => omega); k_whole))) | ((k_here; (with_reducible show wpAny _ _ (call (Value.type _) [Value.ref _]) _ _ _); k_dflt (refine' kde_tupleOf ?k1 ?k2 ?k3 ?k4 ?k5 ?_; (case k1 => k_asm); (case k2 => k_asm); (case k3 => exact News.isList (by k_asm) (by k_mem)); (case k4 => (have hL9 := IntsAre.length (by assumption); simp only [List.size_toArray]; omega)); (case k5 => exact rfl); k_whole); intro D' h' F' N' l1; (try k_lt l1); (try k_sweep))) | (k_unfold; (try dsimp only)) | (k_end; wrow_close) | walk1 | (dsimp only; walk1) | (leave1; walk_say "STEP leave1"; try dsimp only) | fail "no step"))
    · refine' ksw_end (lo, (lo + hi).fdiv 2, _, _) (by k_asm) (by k_asm) (fun _ q => q) trivial ?hk ?hm ?hp ?hu
      case hk => repeat' (first | exact List.forall_mem_nil _ | exact rfl | refine List.forall_mem_cons.mpr ⟨?_, ?_⟩)
      case hm => intro z z2 z3; repeat (first | exact kstB_off z2 z3 rfl | refine ite_off (by with_reducible first | exact st_ne z3 | exact st_ne (st_tl z3) | exact z2 _ List.mem_cons_self | exact z2 _ (List.mem_cons_of_mem _ List.mem_cons_self) | exact z2 _ (List.mem_cons_of_mem _ (List.mem_cons_of_mem _ List.mem_cons_self))) ?_)
      case hu => exact BisP.fewL h0 (by assumption)
      case hp => exact hP.left (by assumption) fun i hi' hl' => Int.lt_of_lt_of_le (by assumption) (mono.out _ i hi' hl')
    · refine' ksw_end ((lo + hi).fdiv 2 + 1, hi, _, _) (by k_asm) (by k_asm) (fun _ q => q) trivial ?hk ?hm ?hp ?hu
      case hk => repeat' (first | exact List.forall_mem_nil _ | exact rfl | refine List.forall_mem_cons.mpr ⟨?_, ?_⟩)
      case hm => intro z z2 z3; repeat (first | exact kstB_off z2 z3 rfl | refine ite_off (by with_reducible first | exact st_ne z3 | exact st_ne (st_tl z3) | exact z2 _ List.mem_cons_self | exact z2 _ (List.mem_cons_of_mem _ List.mem_cons_self) | exact z2 _ (List.mem_cons_of_mem _ (List.mem_cons_of_mem _ List.mem_cons_self))) ?_)
      case hu => exact BisP.fewR h0 (by assumption)
      case hp => exact hP.right (by assumption) fun i hi' => Int.le_trans (mono.out i _ hi' (mid_n hP (by assumption))) (Int.not_lt.mp (by assumption))
    · dsimp only
      obtain ⟨r, e, q1, q2, q3⟩ := hP.last (by assumption)
      rw [e]
      exact hR _ _ r _ (stays_of rest hr (by k_asm) (by k_asm) (fun _ q => q)) q1 q2 q3
end
-- MMath
section
/-- the sum of (j // ts) * l[j] over j < m -/
def psum (ts : Int) (l : List Int) : Nat → Int
  | 0 => 0
  | m + 1 => psum ts l m + (m : Int).fdiv ts * l.getD m 0
theorem fdiv_small {j : Nat} {ts : Int} (h : (j : Int) < ts) : (j : Int).fdiv ts = 0 := by
  rw [Int.fdiv_eq_ediv_of_nonneg _ (by omega)]
  exact Int.ediv_eq_zero_of_lt (by omega) h
theorem psum_small {ts : Int} {l : List Int} : ∀ {m : Nat}, (m : Int) ≤ ts → psum ts l m = 0
  | 0, _ => rfl
  | m + 1, h => by
    rw [psum, psum_small (by omega), fdiv_small (by omega)]
    simp
theorem lvlSum_eq {ts : Int} (h1 : 1 ≤ ts) {l : List Int} : ∀ k : Nat, lvlSum l ts k = psum ts l (ts.toNat + k)
  | 0 => by rw [lvlSum, Nat.add_zero, psum_small (by omega)]
  | k + 1 => by
    rw [lvlSum, lvlSum_eq h1 k]
    show _ = psum ts l (ts.toNat + k + 1)
    rw [psum]
    have e : ((ts.toNat + k : Nat) : Int) = ts + (k : Int) := by omega
    rw [e, show (ts + (k : Int)).toNat = ts.toNat + k by omega]
theorem psum_beyond {ts : Int} {l : List Int} {m : Nat} (h : l.length ≤ m) : psum ts l m = psum ts l l.length := by
  induction m with
  | zero => rw [Nat.le_zero.mp h]
  | succ m ih =>
    by_cases e : l.length = m + 1
    · rw [e]
    · rw [psum, ih (by omega)]
      have : l.getD m 0 = 0 := by simp [List.getD, List.getElem?_eq_none (show l.length ≤ m by omega)]
      rw [this]; simp
theorem lvl_eq {cnt : List Int} {b nt ts : Int} (h1 : 1 ≤ ts) {m : Nat} (hm : cnt.length ≤ m) : lvl cnt b nt ts = b + ts * (psum ts cnt m + nt) := by
  unfold lvl
  rw [lvlSum_eq h1, psum_beyond hm]
  by_cases h : (cnt.length : Int) ≤ ts
  · rw [psum_small (by omega), psum_small (by omega)]
  · rw [show ts.toNat + ((cnt.length : Int) - ts).toNat = cnt.length by omega]
theorem getD_bump {cnt : List Int} {b : Int} (hb : 0 ≤ b) (j : Nat) : (bump cnt b).getD j 0 = cnt.getD j 0 + (if j = b.toNat then 1 else 0) := by
  unfold bump
  by_cases h : (cnt.length : Int) ≤ b
  · rw [if_pos h]
    dsimp only
    have hl : b.toNat < (cnt ++ List.replicate (b - cnt.length + 1).toNat (0 : Int)).length := by simp; omega
    have hg : ∀ i, (cnt ++ List.replicate (b - cnt.length + 1).toNat (0 : Int)).getD i 0 = cnt.getD i 0 := by
      intro i
      by_cases hi : i < cnt.length
      · simp [List.getD, List.getElem?_append_left hi]
      · simp only [List.getD, List.getElem?_append_right (Nat.le_of_not_lt hi), List.getElem?_eq_none (Nat.le_of_not_lt hi)]
        rw [List.getElem?_replicate]
        split <;> simp
    by_cases e : j = b.toNat
    · subst e
      rw [if_pos rfl, hg]
      simp only [List.getD, List.getElem?_set_self hl, Option.getD_some]
    · rw [if_neg e]
      simp only [List.getD, List.getElem?_set_ne (Ne.symm e)]
      have := hg j
      simp only [List.getD] at this
      rw [this]; simp
  · rw [if_neg h]
    dsimp only
    have hl : b.toNat < cnt.length := by omega
    by_cases e : j = b.toNat
    · subst e
      rw [if_pos rfl]
      simp only [List.getD, List.getElem?_set_self hl, Option.getD_some]
    · rw [if_neg e]
      simp only [List.getD, List.getElem?_set_ne (Ne.symm e)]
      simp
theorem psum_bump {ts : Int} {cnt : List Int} {b : Int} (hb : 0 ≤ b) : ∀ m : Nat, psum ts (bump cnt b) m = psum ts cnt m + (if b.toNat < m then b.fdiv ts else 0)
  | 0 => by simp [psum]
  | m + 1 => by
    rw [psum, psum, psum_bump hb m, getD_bump hb, Int.mul_add]
    by_cases e : m = b.toNat
    · rw [if_pos e, if_neg (by omega), if_pos (by omega)]
      have : (m : Int) = b := by omega
      rw [this]; omega
    · rw [if_neg e]
      by_cases h : b.toNat < m
      · rw [if_pos h, if_pos (by omega)]; omega
      · rw [if_neg h, if_neg (by omega)]; omega
theorem lvl_tab {cnt : List Int} {b nt ts : Int} (h1 : 1 ≤ ts) (hb : 0 ≤ b) : lvl (bump cnt b) 0 (nt + 1) ts = (lvl cnt b nt ts).fdiv ts * ts + ts := by
  have hm : (bump cnt b).length ≤ cnt.length + b.toNat + 1 := by
    unfold bump
    split
    · simp; omega
    · simp; omega
  rw [lvl_eq h1 hm, lvl_eq h1 (m := cnt.length + b.toNat + 1) (by omega), psum_bump hb, if_pos (by omega)]
  generalize psum ts cnt (cnt.length + b.toNat + 1) = P
  rw [Int.fdiv_eq_ediv_of_nonneg _ (by omega), Int.fdiv_eq_ediv_of_nonneg _ (by omega), Int.add_mul_ediv_left _ _ (by omega)]
  generalize b / ts = q
  rw [Int.add_mul, Int.mul_add, Int.mul_add, Int.mul_add, Int.add_mul, Int.mul_comm q, Int.mul_comm P, Int.mul_comm nt]
  omega
theorem lvl_blank {cnt : List Int} {b nt ts : Int} : lvl cnt (b + 1) nt ts = lvl cnt b nt ts + 1 := by
  unfold lvl; omega
/-- the column behind the whole list -/
def lastCol (ts : Int) : List Nat → Int → Nat → Int
  | [], col, _ => col
  | c :: r, col, st => lastCol ts r (colStep ts col st c).1 (colStep ts col st c).2
theorem lastCol_done (ts : Int) : ∀ (l : List Nat) (col : Int), lastCol ts l col 2 = col
  | [], _ => rfl
  | c :: r, col => by
    have e : colStep ts col 2 c = (col, 2) := by simp [colStep]
    rw [lastCol, e]
    exact lastCol_done ts r col
/-- quotes become tabs -/
def tabs (l : List Nat) : List Nat := l.map fun c => if c = 34 then 9 else c
theorem scan_col {ts : Int} (h1 : 1 ≤ ts) : ∀ (k : Nat) (l : List Nat), l.length ≤ k → (∀ c ∈ l, c ≠ 9) → ∀ (cnt : List Int) (b n nt : Int), 0 ≤ b →
    lvl (scan (tabs (parseTail l)) cnt b n nt).cnt (scan (tabs (parseTail l)) cnt b n nt).b (scan (tabs (parseTail l)) cnt b n nt).nt ts = lastCol ts l (lvl cnt b nt ts) 0
  | _, [], _, _, cnt, b, n, nt, _ => by simp [parseTail, tabs, scan, lastCol]
  | 0, _ :: _, h, _, _, _, _, _, _ => by simp at h
  | k + 1, c :: r, h, h9, cnt, b, n, nt, hb => by
    have hr : r.length ≤ k := by simpa using h
    have h9r : ∀ c ∈ r, c ≠ 9 := fun c hc => h9 c (List.mem_cons_of_mem _ hc)
    by_cases q : c = 34
    · subst q
      have e1 : colStep ts (lvl cnt b nt ts) 0 34 = (lvl cnt b nt ts, 1) := by simp [colStep]
      rw [lastCol, e1]
      cases r with
      | nil => rw [parse_q_nil]; simp [tabs, scan, lastCol]
      | cons d r' =>
        by_cases q2 : d = 34
        · subst q2
          have e2 : colStep ts (lvl cnt b nt ts) 1 34 = ((lvl cnt b nt ts).fdiv ts * ts + ts, 0) := by simp [colStep]
          rw [parse_q_q, lastCol, e2]
          show lvl (scan (tabs (34 :: parseTail r')) cnt b n nt).cnt _ _ ts = _
          have e3 : tabs (34 :: parseTail r') = 9 :: tabs (parseTail r') := by simp [tabs]
          rw [e3, scan, if_neg (by decide), if_pos rfl, scan_col h1 k r' (by simp at hr; omega) (fun c hc => h9r c (List.mem_cons_of_mem _ hc)) _ _ _ _ (Int.le_refl 0), lvl_tab h1 hb]
        · have e2 : colStep ts (lvl cnt b nt ts) 1 d = (lvl cnt b nt ts, 2) := by simp [colStep, q2]
          rw [parse_q_o q2, lastCol, e2, lastCol_done]
          simp [tabs, scan]
    · rw [parse_o q]
      have e3 : tabs (c :: parseTail r) = c :: tabs (parseTail r) := by simp [tabs, q]
      rw [e3]
      by_cases q3 : c = 32
      · subst q3
        have e1 : colStep ts (lvl cnt b nt ts) 0 32 = (lvl cnt b nt ts + 1, 0) := by simp [colStep]
        rw [lastCol, e1, scan, if_pos rfl, scan_col h1 k r hr h9r _ _ _ _ (by omega), lvl_blank]
      · have e1 : colStep ts (lvl cnt b nt ts) 0 c = (lvl cnt b nt ts, 2) := by simp [colStep, q, q3]
        rw [lastCol, e1, lastCol_done, scan, if_neg q3, if_neg (h9 c List.mem_cons_self)]
end
-- MMath2
section
/-- what holds of every scan -/
structure Sound (cnt : List Int) (b n nt : Int) : Prop where
  pos : ∀ i, 0 ≤ cnt.getD i 0
  b0 : 0 ≤ b
  cells : nt = cnt.sum
  one : n = lvl cnt b nt 1
  last : cnt ≠ [] → 1 ≤ cnt.getD (cnt.length - 1) 0
theorem sum_set {l : List Int} {i : Nat} (h : i < l.length) (v : Int) : (l.set i v).sum = l.sum - l.getD i 0 + v := by
  induction l generalizing i with
  | nil => simp at h
  | cons a r ih =>
    cases i with
    | zero => simp; omega
    | succ i =>
      have := ih (i := i) (by simpa using h)
      simp only [List.set_cons_succ, List.sum_cons, this, List.getD_cons_succ]
      omega
theorem sum_zeros (k : Nat) : (List.replicate k (0 : Int)).sum = 0 := by
  induction k with
  | zero => rfl
  | succ k ih => rw [List.replicate_succ, List.sum_cons, ih]; rfl
theorem sum_bump {cnt : List Int} {b : Int} (hb : 0 ≤ b) : (bump cnt b).sum = cnt.sum + 1 := by
  unfold bump
  by_cases h : (cnt.length : Int) ≤ b
  · rw [if_pos h]
    dsimp only
    rw [sum_set (by simp; omega), List.sum_append, sum_zeros]
    omega
  · rw [if_neg h]
    dsimp only
    rw [sum_set (by omega)]
    omega
theorem bump_length {cnt : List Int} {b : Int} (hb : 0 ≤ b) : (bump cnt b).length = max cnt.length (b.toNat + 1) := by
  unfold bump
  split
  · simp only [List.length_set, List.length_append, List.length_replicate]; omega
  · simp only [List.length_set]; omega
theorem Sound.start : Sound [] 0 0 0 := ⟨by simp, by decide, rfl, by decide, by simp⟩
theorem Sound.blank {cnt : List Int} {b n nt : Int} (h : Sound cnt b n nt) : Sound cnt (b + 1) (n + 1) nt :=
  ⟨h.pos, by have := h.b0; omega, h.cells, by rw [lvl_blank, ← h.one], h.last⟩
theorem Sound.tab {cnt : List Int} {b n nt : Int} (h : Sound cnt b n nt) : Sound (bump cnt b) 0 (n + 1) (nt + 1) := by
  refine ⟨fun i => ?_, Int.le_refl 0, by rw [sum_bump h.b0, ← h.cells], ?_, fun _ => ?_⟩
  · rw [getD_bump h.b0]
    have := h.pos i
    split <;> omega
  · rw [lvl_tab (by decide) h.b0, ← h.one]
    simp
  · rw [bump_length h.b0, getD_bump h.b0]
    have hp := h.pos (max cnt.length (b.toNat + 1) - 1)
    by_cases e : max cnt.length (b.toNat + 1) - 1 = b.toNat
    · rw [if_pos e]; omega
    · rw [if_neg e]
      have hne : cnt ≠ [] := by
        intro q; subst q; simp at e
      have := h.last hne
      rw [show max cnt.length (b.toNat + 1) - 1 = cnt.length - 1 by omega]
      omega
theorem scan_sound : ∀ (l : List Nat) (cnt : List Int) (b n nt : Int), Sound cnt b n nt → Sound (scan l cnt b n nt).cnt (scan l cnt b n nt).b (scan l cnt b n nt).n (scan l cnt b n nt).nt
  | [], _, _, _, _, h => h
  | c :: r, cnt, b, n, nt, h => by
    rw [scan]
    split
    · exact scan_sound r _ _ _ _ h.blank
    · split
      · exact scan_sound r _ _ _ _ h.tab
      · exact h
/-- no run of blanks beyond five, the run at hand told -/
def runOk : Nat → List Nat → Bool
  | r, [] => decide (r ≤ 5)
  | r, c :: l => if c = 32 then runOk (r + 1) l else decide (r ≤ 5) && runOk 0 l
theorem runOk_le : ∀ {r : Nat} {l : List Nat}, runOk r l = true → r ≤ 5
  | r, [], h => by simpa [runOk] using h
  | r, c :: l, h => by
    rw [runOk] at h
    split at h
    · have := runOk_le h; omega
    · simp at h; exact h.1
theorem runOk_take : ∀ {r : Nat} {l : List Nat} (j : Nat), runOk r l = true → runOk r (l.take j) = true
  | r, l, 0, h => by simp [runOk, runOk_le h]
  | r, [], j + 1, h => by simpa using h
  | r, c :: l, j + 1, h => by
    rw [List.take_succ_cons, runOk]
    rw [runOk] at h
    split
    · rename_i q; rw [if_pos q] at h; exact runOk_take j h
    · rename_i q; rw [if_neg q] at h
      simp only [Bool.and_eq_true] at h ⊢
      exact ⟨h.1, runOk_take j h.2⟩
theorem scan_small : ∀ (l : List Nat) (cnt : List Int) (b n nt : Int) (r : Nat), b = (r : Int) → cnt.length ≤ 6 → runOk r l = true → (scan l cnt b n nt).cnt.length ≤ 6 ∧ (scan l cnt b n nt).b ≤ 5
  | [], cnt, b, n, nt, r, hb, hl, h => ⟨hl, by have := runOk_le h; show b ≤ 5; omega⟩
  | c :: l, cnt, b, n, nt, r, hb, hl, h => by
    have h5 := runOk_le h
    rw [runOk] at h
    rw [scan]
    by_cases q : c = 32
    · rw [if_pos q] at h ⊢
      exact scan_small l _ _ _ _ (r + 1) (by omega) hl h
    · rw [if_neg q] at h ⊢
      simp only [Bool.and_eq_true] at h
      split
      · refine scan_small l _ _ _ _ 0 rfl ?_ h.2
        rw [bump_length (by omega)]; omega
      · exact ⟨hl, by show b ≤ 5; omega⟩
/-- a parse of a list without long runs has none -/
theorem parse_run : ∀ (k : Nat) (l : List Nat), l.length ≤ k → ∀ r, runOk r l = true → runOk r (tabs (parseTail l)) = true
  | _, [], _, r, h => by simpa [parseTail, tabs] using h
  | 0, _ :: _, hk, _, _ => by simp at hk
  | k + 1, c :: l, hk, r, h => by
    have h5 := runOk_le h
    by_cases q : c = 34
    · subst q
      rw [runOk, if_neg (by decide)] at h
      simp only [Bool.and_eq_true] at h
      cases l with
      | nil => rw [parse_q_nil]; simp [tabs, runOk, h5]
      | cons d l' =>
        by_cases q2 : d = 34
        · subst q2
          rw [parse_q_q]
          have e : tabs (34 :: parseTail l') = 9 :: tabs (parseTail l') := by simp [tabs]
          rw [e, runOk, if_neg (by decide)]
          have h2 := h.2
          rw [runOk, if_neg (by decide)] at h2
          simp only [Bool.and_eq_true] at h2 ⊢
          exact ⟨h.1, parse_run k l' (by simp at hk; omega) 0 h2.2⟩
        · rw [parse_q_o q2]; simp [tabs, runOk, h5]
    · rw [parse_o q]
      have e : tabs (c :: parseTail l) = c :: tabs (parseTail l) := by simp [tabs, q]
      rw [e, runOk]
      rw [runOk] at h
      split
      · rename_i q1; rw [if_pos q1] at h; exact parse_run k l (by simp at hk; omega) _ h
      · rename_i q1; rw [if_neg q1] at h
        simp only [Bool.and_eq_true] at h ⊢
        exact ⟨h.1, parse_run k l (by simp at hk; omega) _ h.2⟩
end
-- MMath3
section
def dsum (l : List Int) : Nat → Int
  | 0 => 0
  | m + 1 => dsum l m + l.getD m 0
theorem dsum_cons (a : Int) (l : List Int) : ∀ m, dsum (a :: l) (m + 1) = a + dsum l m
  | 0 => by simp [dsum]
  | m + 1 => by rw [dsum, dsum_cons a l m, dsum]; simp only [List.getD_cons_succ]; omega
theorem sum_dsum : ∀ (l : List Int) (m : Nat), l.length ≤ m → l.sum = dsum l m
  | [], m, _ => by
    induction m with
    | zero => rfl
    | succ m ih => rw [dsum, ← ih (by simp)]; simp
  | a :: l, 0, h => by simp at h
  | a :: l, m + 1, h => by rw [dsum_cons, List.sum_cons, sum_dsum l m (by simpa using h)]
section
variable {cnt : List Int} {b nt : Int}
theorem lv1 (h : cnt.length ≤ 6) : lvl cnt b nt 1 = b + (cnt.getD 1 0 + 2 * cnt.getD 2 0 + 3 * cnt.getD 3 0 + 4 * cnt.getD 4 0 + 5 * cnt.getD 5 0 + nt) := by
  rw [lvl_eq (by decide) h]; simp only [psum]
  rw [show Int.fdiv ((0 : Nat) : Int) 1 = 0 by decide, show Int.fdiv ((1 : Nat) : Int) 1 = 1 by decide, show Int.fdiv ((2 : Nat) : Int) 1 = 2 by decide, show Int.fdiv ((3 : Nat) : Int) 1 = 3 by decide, show Int.fdiv ((4 : Nat) : Int) 1 = 4 by decide, show Int.fdiv ((5 : Nat) : Int) 1 = 5 by decide]
  omega
theorem lv2 (h : cnt.length ≤ 6) : lvl cnt b nt 2 = b + 2 * (cnt.getD 2 0 + cnt.getD 3 0 + 2 * cnt.getD 4 0 + 2 * cnt.getD 5 0 + nt) := by
  rw [lvl_eq (by decide) h]; simp only [psum]
  rw [show Int.fdiv ((0 : Nat) : Int) 2 = 0 by decide, show Int.fdiv ((1 : Nat) : Int) 2 = 0 by decide, show Int.fdiv ((2 : Nat) : Int) 2 = 1 by decide, show Int.fdiv ((3 : Nat) : Int) 2 = 1 by decide, show Int.fdiv ((4 : Nat) : Int) 2 = 2 by decide, show Int.fdiv ((5 : Nat) : Int) 2 = 2 by decide]
  omega
theorem lv3 (h : cnt.length ≤ 6) : lvl cnt b nt 3 = b + 3 * (cnt.getD 3 0 + cnt.getD 4 0 + cnt.getD 5 0 + nt) := by
  rw [lvl_eq (by decide) h]; simp only [psum]
  rw [show Int.fdiv ((0 : Nat) : Int) 3 = 0 by decide, show Int.fdiv ((1 : Nat) : Int) 3 = 0 by decide, show Int.fdiv ((2 : Nat) : Int) 3 = 0 by decide, show Int.fdiv ((3 : Nat) : Int) 3 = 1 by decide, show Int.fdiv ((4 : Nat) : Int) 3 = 1 by decide, show Int.fdiv ((5 : Nat) : Int) 3 = 1 by decide]
  omega
theorem lv4 (h : cnt.length ≤ 6) : lvl cnt b nt 4 = b + 4 * (cnt.getD 4 0 + cnt.getD 5 0 + nt) := by
  rw [lvl_eq (by decide) h]; simp only [psum]
  rw [show Int.fdiv ((0 : Nat) : Int) 4 = 0 by decide, show Int.fdiv ((1 : Nat) : Int) 4 = 0 by decide, show Int.fdiv ((2 : Nat) : Int) 4 = 0 by decide, show Int.fdiv ((3 : Nat) : Int) 4 = 0 by decide, show Int.fdiv ((4 : Nat) : Int) 4 = 1 by decide, show Int.fdiv ((5 : Nat) : Int) 4 = 1 by decide]
  omega
theorem lv5 (h : cnt.length ≤ 6) : lvl cnt b nt 5 = b + 5 * (cnt.getD 5 0 + nt) := by
  rw [lvl_eq (by decide) h]; simp only [psum]
  rw [show Int.fdiv ((0 : Nat) : Int) 5 = 0 by decide, show Int.fdiv ((1 : Nat) : Int) 5 = 0 by decide, show Int.fdiv ((2 : Nat) : Int) 5 = 0 by decide, show Int.fdiv ((3 : Nat) : Int) 5 = 0 by decide, show Int.fdiv ((4 : Nat) : Int) 5 = 0 by decide, show Int.fdiv ((5 : Nat) : Int) 5 = 1 by decide]
  omega
theorem lvB {t : Int} (h : (cnt.length : Int) ≤ t) : lvl cnt b nt t = b + t * nt := by
  unfold lvl
  rw [show ((cnt.length : Int) - t).toNat = 0 by omega, lvlSum, Int.zero_add]
theorem lv6 (h : cnt.length ≤ 6) : lvl cnt b nt 6 = b + 6 * nt := lvB (Int.ofNat_le.mpr h)
end
theorem getD_out {l : List Int} {i : Nat} (h : l.length ≤ i) : l.getD i 0 = 0 := by simp [List.getD, List.getElem?_eq_none h]
section
variable {b nt b' nt' c0 c1 c2 c3 c4 c5 d0 d1 d2 d3 d4 d5 : Int}
theorem q6 (h : b + 6 * nt = b' + 6 * nt') (b0 : 0 ≤ b) (b1 : b ≤ 5) (b2 : 0 ≤ b') (b3 : b' ≤ 5) : b = b' ∧ nt = nt' := by omega
theorem q5 (h : b + 5 * (c5 + nt) = b + 5 * (d5 + nt)) : c5 = d5 := by omega
theorem q4 (h : b + 4 * (c4 + c5 + nt) = b + 4 * (d4 + c5 + nt)) : c4 = d4 := by omega
theorem q3 (h : b + 3 * (c3 + c4 + c5 + nt) = b + 3 * (d3 + c4 + c5 + nt)) : c3 = d3 := by omega
theorem q2 (h : b + 2 * (c2 + c3 + 2 * c4 + 2 * c5 + nt) = b + 2 * (d2 + c3 + 2 * c4 + 2 * c5 + nt)) : c2 = d2 := by omega
theorem q1 (h : b + (c1 + 2 * c2 + 3 * c3 + 4 * c4 + 5 * c5 + nt) = b + (d1 + 2 * c2 + 3 * c3 + 4 * c4 + 5 * c5 + nt)) : c1 = d1 := by omega
theorem q0 (h : 0 + c0 + c1 + c2 + c3 + c4 + c5 = 0 + d0 + c1 + c2 + c3 + c4 + c5) : c0 = d0 := by omega
end
section
variable {c c' : List Int} {b n nt b' n' nt' : Int}
theorem equal_iff (S : Sound c b n nt) (S' : Sound c' b' n' nt') (l : c.length ≤ 6) (l' : c'.length ≤ 6) (h5 : b ≤ 5) (h5' : b' ≤ 5) :
    (c = c' ∧ b = b') ↔ ∀ ts : Int, 1 ≤ ts → ts ≤ 6 → lvl c b nt ts = lvl c' b' nt' ts := by
  constructor
  · rintro ⟨rfl, rfl⟩ ts _ _
    rw [S.cells, S'.cells]
  · intro h
    have h6 := h 6 (by decide) (by decide)
    rw [lv6 l, lv6 l'] at h6
    obtain ⟨rfl, rfl⟩ := q6 h6 S.b0 h5 S'.b0 h5'
    have g5 := h 5 (by decide) (by decide)
    rw [lv5 l, lv5 l'] at g5
    have g5 := q5 g5
    have g4 := h 4 (by decide) (by decide)
    rw [lv4 l, lv4 l', ← g5] at g4
    have g4 := q4 g4
    have g3 := h 3 (by decide) (by decide)
    rw [lv3 l, lv3 l', ← g5, ← g4] at g3
    have g3 := q3 g3
    have g2 := h 2 (by decide) (by decide)
    rw [lv2 l, lv2 l', ← g5, ← g4, ← g3] at g2
    have g2 := q2 g2
    have g1 := h 1 (by decide) (by decide)
    rw [lv1 l, lv1 l', ← g5, ← g4, ← g3, ← g2] at g1
    have g1 := q1 g1
    have g0 := S.cells.symm.trans S'.cells
    rw [sum_dsum c 6 l, sum_dsum c' 6 l'] at g0
    simp only [dsum] at g0
    rw [← g5, ← g4, ← g3, ← g2, ← g1] at g0
    have g0 := q0 g0
    have g : ∀ i, c.getD i 0 = c'.getD i 0
      | 0 => g0 | 1 => g1 | 2 => g2 | 3 => g3 | 4 => g4 | 5 => g5
      | i + 6 => by rw [getD_out (Nat.le_trans l (Nat.le_add_left _ _)), getD_out (Nat.le_trans l' (Nat.le_add_left _ _))]
    have hl : c.length = c'.length := by
      rcases Nat.lt_trichotomy c.length c'.length with q | q | q
      · have := S'.last (by intro e; rw [e] at q; simp at q)
        rw [← g, getD_out (Nat.le_sub_one_of_lt q)] at this
        exact absurd this (by decide)
      · exact q
      · have := S.last (by intro e; rw [e] at q; simp at q)
        rw [g, getD_out (Nat.le_sub_one_of_lt q)] at this
        exact absurd this (by decide)
    refine ⟨List.ext_getElem hl fun i h1 h2 => ?_, rfl⟩
    have := g i
    simpa [List.getD, h1, h2] using this
theorem far {b nt b' nt' t₀ t : Int} (h : b + t₀ * nt < b' + t₀ * nt') (d : nt ≤ nt') (ht : t₀ ≤ t) : b + t * nt < b' + t * nt' := by
  have := Int.mul_le_mul_of_nonneg_left d (show 0 ≤ t - t₀ by omega)
  rw [Int.sub_mul, Int.sub_mul] at this
  omega
theorem near {b nt b' nt' N : Int} (h : b + (N + 1) * nt < b' + (N + 1) * nt') (b0 : 0 ≤ b) (b1 : b' ≤ N) (hN : 0 ≤ N) : nt ≤ nt' := by
  refine Int.not_lt.mp fun q => ?_
  have := Int.mul_le_mul_of_nonneg_left (show nt' + 1 ≤ nt by omega) (show 0 ≤ N + 1 by omega)
  rw [Int.mul_add] at this
  omega
theorem lng_le {c : List Int} {b : Int} (l : c.length ≤ 6) (h5 : b ≤ 5) : lng c b ≤ 5 ∧ b ≤ lng c b ∧ (c.length : Int) - 1 ≤ lng c b := by unfold lng; split <;> omega
theorem less_iff (S : Sound c b n nt) (S' : Sound c' b' n' nt') (l : c.length ≤ 6) (l' : c'.length ≤ 6) (h5 : b ≤ 5) (h5' : b' ≤ 5) :
    LessSpec c b n nt c' b' n' nt' ↔ ∀ ts : Int, 1 ≤ ts → ts ≤ 6 → lvl c b nt ts < lvl c' b' nt' ts := by
  have b0 := S.b0
  have e1 := S.one
  have e1' := S'.one
  unfold LessSpec
  obtain ⟨q1, q2, q3⟩ := lng_le l h5
  obtain ⟨r1, r2, r3⟩ := lng_le l' h5'
  constructor
  · rintro ⟨hn, hr⟩ t t1 t6
    rw [e1, e1'] at hn
    by_cases hs : (c.length : Int) ≤ 1 ∧ (c'.length : Int) ≤ 1
    · rw [if_pos hs] at hr
      rw [lvB hs.1, lvB hs.2] at hn
      rw [lvB (Int.le_trans hs.1 t1), lvB (Int.le_trans hs.2 t1)]
      exact far hn hr t1
    · rw [if_neg hs] at hr
      obtain ⟨N, hN⟩ : ∃ N : Int, N = (if lng c' b' > lng c b then lng c' b' else lng c b) := ⟨_, rfl⟩
      rw [← hN] at hr
      have hN1 : lng c b ≤ N ∧ lng c' b' ≤ N := by split at hN <;> omega
      have H : ∀ t : Int, 2 ≤ t → t ≤ N + 1 → lvl c b nt t < lvl c' b' nt' t := by
        intro t t1 t2
        have := hr (t - 2).toNat (by omega)
        rwa [show (2 : Int) + ((t - 2).toNat : Int) = t by omega] at this
      clear hr hN
      by_cases h1 : t = 1
      · rw [h1]; exact hn
      · by_cases h2 : t ≤ N + 1
        · exact H t (by omega) h2
        · have h3 := H (N + 1) (by omega) (Int.le_refl _)
          rw [lvB (by omega), lvB (by omega)] at h3
          rw [lvB (by omega), lvB (by omega)]
          exact far h3 (near h3 b0 (by omega) (by omega)) (by omega)
  · intro h
    refine ⟨by rw [e1, e1']; exact h 1 (by decide) (by decide), ?_⟩
    by_cases hs : (c.length : Int) ≤ 1 ∧ (c'.length : Int) ≤ 1
    · rw [if_pos hs]
      have h6 := h 6 (by decide) (by decide)
      rw [lvB (by omega), lvB (by omega)] at h6
      exact near (N := 5) h6 b0 h5' (by decide)
    · rw [if_neg hs]
      intro k hk
      exact h _ (by omega) (by split at hk <;> omega)
end
end
-- MLB
section
open PySem PySem.W PySem.Calls PyProof.Rows
/-- the law's own statements and scope, out of the row -/
def lawPair : List Stmt × Scope := match PySem.Challenge.pw_rl0090_01.main.body.reverse with
  | (.FunctionDef _ _ b _ _ _ sc _ _ _) :: _ => (b, sc)
  | _ => ([], ⟨.function, [], false, false, []⟩)
abbrev lawBody : List Stmt := lawPair.1
abbrev lawScope : Scope := lawPair.2
abbrev lawEnv (L fa : Addr) : Env := envOfC (Str.ofString "law") lawScope L fa (.ref 148)
theorem fr_as {h₀ h : Heap} {L : Addr} {m : Str → Option Value} (ps : List (Str × Value)) (F : Fr h₀ L h m) (hk : ∀ q ∈ ps, m q.1 = some q.2) : Fr h₀ L h (kstB m ps) := by
  have e : kstB m ps = m := funext fun z => kstB_eq hk fun _ => rfl
  rw [e]; exact F
end
-- MRaise
section
open PySem PySem.W PySem.Calls PyProof.Rows
set_option maxRecDepth 100000 in
set_option maxHeartbeats 8000000 in
theorem parse_raise {w : World} {p : Program} {loose : List Str} {mean : ExcName → Option Value} {mg mb : Str → Option Value} {base g : Heap} {outer : List Env} {s : Shared} {R : Result → Shared → Prop} {gs : Option (List Code)}
    {resp : Str} {tr : Tok} {own : List (Addr × Obj)}
    (G : Gnd w p loose mean mg mb ⟨none, 600, some outer, gs, 3000⟩ base outer g) (hg : g.StaysIn s.heap) (hown : ∀ q ∈ own, s.heap.get? q.1 = some q.2) (hfr : ∀ q ∈ own, g.get? q.1 = none) (hlen : resp.length ≤ 1000) (h257 : (Txt.slice resp none (some 3) != Str.ofString "257") = true)
    (hR : ∀ h' tk e t, RaisedK base outer e (.ref 128) t [.str resp tr] own h' → g.UpToSlots h' → R (.error (.ref e)) { s with heap := h', toks := tk }) :
    codeAny (model PySem.Challenge.rw_rl0090_01.row.prog w) ⟨none, 600, some outer, gs, 3000⟩ (.call (.ref 137) ⟨[.str resp tr], []⟩) R s := by
  have X := G.X
  revert X
  w_top off
  k_fill
  intro X
  refine' callO (own := own) X G.T.nolimit hg hown hfr ?ho ?cd ?room ?bind ?loc ?_ ?cell ?co ?gen ?kd
  case ho => k_is
  case cd => k_is
  case room => k_room
  case bind => exact BindsTo.of_eq rfl
  case loc => exact locs rfl
  case cell => decide
  case co => rfl
  case gen => rfl
  case kd => rfl
  intro g' L' h₁ st rest F N lt
  have X' := X.keeps st
  have T' := G.T.keeps st
  have B' := (G.keeps st).B
  clear X
  dsimp only
  show wpAny _ _ _ _ _ _
  k_fold
  have hMk9 := kstMark
  repeat' ((fail_if_success (with_reducible show wpAny _ _ (pyIter _) _ _ _)); (fail_if_success (with_reducible show wpAny _ _ (exec (Stmt.While _ _ _ _) _) _ _ _)); (fail_if_success (with_reducible show KswEnd _ _ _ _ _ _ _ _ _ _ _ _)); (first | ((k_here; (with_reducible show wpAny _ _ (call (Value.builtin "len") [Value.ref _]) _ _ _); k_dflt (refine' len_tup_ints ?k1 ?k2 ?k3 ?_; (case k1 => exact News.isTup (by k_asm) (by k_mem)); (case k2 => assumption); (case k3 => omega); k_whole))) | ((k_here; (with_reducible show wpAny _ _ (call (Value.type _) [Value.ref _]) _ _ _); k_dflt (refine' kde_tupleOf ?k1 ?k2 ?k3 ?k4 ?k5 ?_; (case k1 => k_asm); (case k2 => k_asm); (case k3 => exact News.isList (by k_asm) (by k_mem)); (case k4 => (have hL9 := IntsAre.length (by assumption); simp only [List.size_toArray]; omega)); (case k5 => exact rfl); k_whole); intro D' h' F' N' l1; (try k_lt l1); (try k_sweep))) | (k_unfold; (try dsimp only)) | (k_end; wrow_close) | walk1 | (dsimp only; walk1) | (leave1; walk_say "STEP leave1"; try dsimp only) | fail "no step"))
  exact hR _ _ _ _ (by assumption) ((Heap.UpToSlots.of_keeps st).trans (by assumption))
end
-- MExc
section
open PySem PySem.W PySem.Calls PyProof.Rows PySem.Spec
set_option maxRecDepth 100000
section
variable {prog : Program} {w : World} {M : Model} {A : Around} {E : Value → Shared → Prop} {s : Shared} {K : Frag} {e t C : Addr} {oe : Obj} {ws : Array Value} {m : Str} {u : Tok}

theorem exc_type {h : Heap} (he : h.get? e = some oe) (hc : oe.cls = .ref C) : Looks M h (typeOf (.ref e)) (.ref C) := by
  obtain ⟨cl, d, dt, sl⟩ := oe
  dsimp only at hc
  subst hc
  intro A Q E s k q
  exact wpAny_bind (wpAny_loadPart (k _ _ he) (wpAny_pure q))

theorem exc_args {items : List Value} {Q : Value × List Value → Shared → Prop} (he : s.heap.get? e = some oe) (hd : oe.data = .fields ws) (h0 : ws[0]? = some (.ref t)) (ht : s.heap.TupAt t items) (hq : Q (.ref t, items) s) :
    wpAny M A (Builtin.BaseException.bexcArgs (.ref e)) Q E s := by
  obtain ⟨ot, k, hto, _, htd⟩ := ht
  unfold Builtin.BaseException.bexcArgs
  refine wpAny_bind (wpAny_field he hd h0 (wpAny_bind (wpAny_seqItems hto htd ?_)))
  have : items.toArray.toList = items := by simp
  show wpAny M A (pure (Value.ref t, items.toArray.toList)) Q E s
  rw [this]; exact wpAny_pure hq

theorem exc_entry {Q : Fin → Shared → Prop} (he : s.heap.get? e = some oe) (hd : oe.data = .fields ws) (h0 : ws[0]? = some (.ref t)) (ht : s.heap.TupAt t [.str m u]) (hq : Q (.done (.ret (.str m u))) s) :
    wpAny (model prog w) A (Builtin.«BaseException.__str__» ⟨[.ref e], []⟩) Q E s := by
  unfold Builtin.«BaseException.__str__»
  repeat (first | with_reducible refine exc_args he hd h0 ht ?_ | wp_step)
  exact hq

theorem exc_special {name : Str} {id : String} {args : List Value} {Q : Option Value → Shared → Prop} (X : K.In s.heap) (he : s.heap.get? e = some oe) (hc : oe.cls = .ref C) (hs : findIn K (.ref C) name = some (some (.builtin id)))
    (hb : ∀ self, bindSpecial (.builtin id) self = pure (.builtin id, [self])) (h : wpAny M A (call (.builtin id) (.ref e :: args)) (fun v => Q (some v)) E s) : wpAny M A (callSpecial? (.ref e) name args) Q E s :=
  wpAny_bind (wpAny_bind ((exc_type he hc).here ((looks_findIn X hs).here (wpAny_holding (wpAny_bind ((Looks.of_pure (hb _)).here (wpAny_bind (wpAny_mono h (fun _ _ z => wpAny_pure z) fun _ _ z => z))))))))

theorem exc_call {Q : Value → Shared → Prop} (X : K.In s.heap) (he : s.heap.get? e = some oe) (hc : oe.cls = .ref C) (hd : oe.data = .fields ws) (h0 : ws[0]? = some (.ref t)) (ht : s.heap.TupAt t [.str m u])
    (hm : mroIn K C (.type "BaseException") = some true) (q : Q (.str m u) s) : wpAny (model prog w) A (call (.builtin "BaseException.__str__") [.ref e]) Q E s := by
  refine wpAny_call (codeAny_call_builtin PySem.F.excStr_Exception.str.plain PySem.F.entry_bexc_str (check_slot (i := "BaseException.__str__") (owner := "BaseException") (n := "__str__") (by decide +kernel) (by decide +kernel) ((exc_type he hc).andThen (looks_mroIn X hm)) (PySem.F.args_bexc_str _) ?_))
  exact exc_entry he hd h0 ht q
open Builtin Builtin.Str in
theorem str_own {Q : Value → Shared → Prop} (hu : A.in1.in1.units < cLine) (X : K.In s.heap) (he : s.heap.get? e = some oe) (hc : oe.cls = .ref C) (hd : oe.data = .fields ws) (h0 : ws[0]? = some (.ref t)) (ht : s.heap.TupAt t [.str m u])
    (hs : findIn K (.ref C) "__str__" = some (some (.builtin "BaseException.__str__"))) (hm : mroIn K C (.type "BaseException") = some true) (q : Q (.str m u) s) : wpAny (model prog w) A (call (.type "str") [.ref e]) Q E s := by
  refine callType_codes (T := "str") (Bi := Builtin.«object.__init__») (Q₁ := fun r s₁ => ∃ y v, r = .str y v ∧ Q r s₁) PySem.F.called_str (PySem.F.typeCall_str_1 _) PySem.F.entry_object_init ?_ ?_
  · refine codeAny_of_tree ?_
    show wpAny _ A.in1.in1 (do checkBuiltinCall "str.__new__" ⟨[.type "str", .ref e], []⟩; again (.builtin "str.__new__" ⟨[.type "str", .ref e], []⟩)) _ _ s
    refine wpAny_bind (wpAny_of_eq (PySem.F.newCall_str_1 _) (wpAny_pure ⟨plainId_quiet (by decide +kernel) _, codeAny_builtin PySem.F.entry_str_new ?_⟩))
    rw [Around.under_plainId (by decide +kernel) _]
    rw [str_new_tree]
    refine wpAny_bind (wpAny_pure ?_)
    refine wpAny_bind (wpAny_of_eq isSubtype_str_str ?_)
    have key : wpAny (model prog w) A.in1.in1 (PySem.Builtin.Str.strOf (.ref e)) (fun r s₁ => ∃ y v, r = .str y v ∧ Q r s₁) E s := by
      unfold PySem.Builtin.Str.strOf
      rw [show isExactStr (.ref e) = false from rfl]
      refine wpAny_bind (m := cRoomFor _ _) (wpAny_cRoomFor hu ?_)
      refine wpAny_bind (m := callSpecial? (.ref e) (Str.ofString "__str__")) (exc_special X he hc hs PySem.F.excStr_Exception.str.bind (exc_call X he hc hd h0 ht hm ?_))
      exact wpAny_pure ⟨_, _, rfl, q⟩
    exact wpAny_bind (wpAny_mono key (fun r s₁ hr => wpAny_pure hr) fun _ _ y => y)
  · rintro obj s₁ ⟨y, v, rfl, hq⟩
    exact ⟨typeIs_str _ _ _, PySem.F.args_object_init_2 _ _, object_init_meets PySem.F.called_str.init.lookup PySem.F.called_str.made (by decide) prog w A.in1 _ s₁ ⟨typeIs_str _ _ _, rfl, hq⟩⟩
end
section
variable {prog : Program} {w : World} {A₀ : Around} {E : Value → Shared → Prop} {s' : Shared} {h₀ h : Heap} {outer : List Env} {L a e t : Addr} {m : Str → Option Value} {name : Str} {scope : Scope} {cd : Value} {cl : List (Str × Addr)}
  {vs : List Value} {n : Str} {b₀ : Stmt} {suite : List Stmt} {pos np : Pos} {rest : List ExceptHandler} {Q : Flow → Shared → Prop} {news : List (Addr × Obj)} {KF : Frag} {C : Addr} {bmB : List Value} {newId : String}
  {p : Program} {loose : List Str} {mean : ExcName → Option Value} {mg mb : Str → Option Value} {x : Str}
/-- an own exception caught by its name, the frame one with cells -/
theorem caughtX (K : Below A₀ h₀ outer h₀) (F : Fr h₀ L h m) (hsm : h.UpToSlots s'.heap) (R : RaisedK h₀ (envX name scope L a cd cl :: outer) e (.ref C) t vs news s'.heap)
    (X : KF.In h₀) (T : TopRead p loose mg mb h₀) (ex : nsIn KF mainGlobals x = some (some (.ref C))) (q : excIn KF C bmB newId = true) (hbase : bmB.contains (.type "BaseException") = true)
    (k : ∀ h' news₂ tk, Fr h₀ L h' (fun y => if y = n then some (.ref e) else m y) → News h₀ L h' news₂ → Got news₂ e t (.ref C) vs → News h₀ L h' news →
      wpAny (model prog w) ((A₀.deeper (envX name scope L a cd cl)).mark (some (.ref e))) (execs (b₀ :: suite) (envX name scope L a cd cl))
        (fun f s₄ => wpAny (model prog w) (A₀.deeper (envX name scope L a cd cl)) (do bindName (envX name scope L a cd cl) n .none; unbindBehindTheSuite (envX name scope L a cd cl) n pos) (fun _ s₅ => Q f s₅) E s₄)
        (AsSuiteRaised (model prog w) ((A₀.deeper (envX name scope L a cd cl)).mark (some (.ref e))) (envX name scope L a cd cl) n pos (notedBy (model prog w) ((A₀.deeper (envX name scope L a cd cl)).mark (some (.ref e))) (envX name scope L a cd cl) (cameBackBy (model prog w) (A₀.deeper (envX name scope L a cd cl)) (envX name scope L a cd cl) E)))
        { s' with heap := h', toks := tk })
    (hk : scope.kind = .function) (hlo : (envX name scope L a cd cl).kindOf n = some .local) (hx : (envX name scope L a cd cl).kindOf x = some .globalImplicit) (hd : (x == ("__debug__" : Str)) = false) :
    wpAny (model prog w) (A₀.deeper (envX name scope L a cd cl)) (noteFrame (.ref e) (envX name scope L a cd cl))
      (fun _ s₂ => wpAny (model prog w) (A₀.deeper (envX name scope L a cd cl)) (setFlight (.ref e) none) (fun _ s₃ =>
        wpAny (model prog w) (A₀.deeper (envX name scope L a cd cl)) (handleBy (.ref e) (envX name scope L a cd cl) (.ExceptHandler (some (.Name x np)) (some n) (b₀ :: suite) pos :: rest)) Q E s₃) E s₂) E s' := by
  obtain ⟨⟨B, hB, hl, hfl, hnew⟩, htup⟩ := R
  have hL : B.get? L = none := by
    obtain ⟨_, ⟨L', _, hf, hn', _⟩, _⟩ := hfl.2.2.1
    obtain rfl : L = L' := Option.some.inj hf
    exact hn'
  refine wpAny_looks_onW (Around.frames_deeper K.stack) rfl hfl fun h₄ hheld₄ hsm₄ => ?_
  refine wpAny_landsW hheld₄ fun h₅ hheld hsm₅' => ?_
  have hsm₅ := hsm₄.trans hsm₅'
  have hheld' := flyingW_base hB hheld
  have F₅ := F.of_stays hheld'.1 (hsm.trans hsm₅)
  obtain ⟨ob, hob, hobc⟩ := hheld'.there
  refine wpAny_handleBy_cons (codeAny_handlers_test (nameX_K F₅ X T ex ?_ hk hx hd)) (by intro q; cases q)
  obtain ⟨bm, N, nm, qn, bs, hdct, sn, sub, ab, col, dd, k0, k1, k2, k3, k5, mN, hC, hN, hni, TL⟩ := ((own_of_in X T ex q).keeps F₅.keep).obj
  refine wpAny_excMatches_sub_self hC hob hobc (TL.hasType hbase) (codeAny_handlers_suite_as ?_)
  refine lands_againW hheld fun h₆ hfl₆ hsm₆ => ?_
  have hfl₆' := flyingW_base hB hfl₆
  have F₆ := F.of_stays hfl₆'.1 ((hsm.trans hsm₅).trans hsm₆)
  obtain ⟨oe, ws, hoe, hoec, hoed, hoe0⟩ := hfl₆'.first
  obtain ⟨ot, nt, hot, hotc, hotd⟩ := (htup.of_slots hsm₅).of_slots hsm₆
  have N₆ := News.more F₆ (News.more F₆ News.nil hot (fun es n q => by rw [hotd] at q; cases q) (fresh_of_stays hB hnew)) hoe (fun es n q => by rw [hoed] at q; cases q) hfl₆'.2.1
  have Nl : News h₀ L h₆ news := fun q hq => ⟨hfl₆.1 _ _ (hl q hq).1, (fun z => by have := (hl q hq).1; rw [z, hL] at this; cases this), (hl q hq).2⟩
  refine storeX_L F₆ (news := _ ++ news) (fun q hq => (List.mem_append.mp hq).elim (N₆ q) (Nl q)) (fun h₇ F₇ N₇ => ?_) hk hlo
  exact k h₇ _ _ F₇ (fun q hq => N₇ q (List.mem_append_left _ hq)) ⟨oe, ot, ws, nt, .head _, .tail _ (.head _), hoec, hoed, hoe0, hotc, hotd⟩ fun q hq => N₇ q (List.mem_append_right _ hq)
end
end
-- MText
section
open PySem PySem.W PySem.Calls PyProof.Rows PySem.Builtin PySem.Builtin.Str
theorem idx_to (n : Nat) {k : Int} (h0 : 0 ≤ k) : strSliceIndices none (some k) 1 n = strSliceIndices none (some (min k n)) 1 n := by
  have h1 : ¬ k < 0 := Int.not_lt.mpr h0
  have h3 : ¬ (min k (n : Int)) < 0 := Int.not_lt.mpr (Int.le_min.mpr ⟨h0, Int.natCast_nonneg n⟩)
  have e : max 0 (min k (n : Int)) = max 0 (min (min k (n : Int)) (n : Int)) := by rw [Int.min_assoc, Int.min_self]
  simp only [strSliceIndices, h1, h3, if_false, show (1 : Int) > 0 by decide, if_true, e]
theorem idx_mid (n : Nat) {i j : Int} (h0 : 0 ≤ i) (h1 : 0 ≤ j) : strSliceIndices (some i) (some j) 1 n = strSliceIndices (some (min i n)) (some (min j n)) 1 n := by
  have q1 : ¬ i < 0 := Int.not_lt.mpr h0
  have q2 : ¬ j < 0 := Int.not_lt.mpr h1
  have q3 : ¬ (min i (n : Int)) < 0 := Int.not_lt.mpr (Int.le_min.mpr ⟨h0, Int.natCast_nonneg n⟩)
  have q4 : ¬ (min j (n : Int)) < 0 := Int.not_lt.mpr (Int.le_min.mpr ⟨h1, Int.natCast_nonneg n⟩)
  have e : max 0 (min i (n : Int)) = max 0 (min (min i (n : Int)) (n : Int)) := by rw [Int.min_assoc, Int.min_self]
  have e' : max 0 (min j (n : Int)) = max 0 (min (min j (n : Int)) (n : Int)) := by rw [Int.min_assoc, Int.min_self]
  simp only [strSliceIndices, q1, q2, q3, q4, if_false, show (1 : Int) > 0 by decide, if_true, e, e']
theorem min_cut {α : Type} (l : List α) {n : Nat} (hn : l.length = n) {k : Int} : l.take (min k (n : Int)).toNat = l.take k.toNat := by
  by_cases h : k ≤ (n : Int)
  · rw [Int.min_eq_left h]
  · have h2 : (n : Int) ≤ k := Int.le_of_lt (Int.not_le.mp h)
    rw [Int.min_eq_right h2, Int.toNat_natCast, List.take_of_length_le (Nat.le_of_eq hn), List.take_of_length_le]
    rw [hn]; exact Int.ofNat_le.mp (Int.le_trans h2 (Int.self_le_toNat k))
theorem min_ends {n : Nat} {k : Int} (h0 : 0 ≤ k) : 0 ≤ min k (n : Int) ∧ min k (n : Int) ≤ n := ⟨Int.le_min.mpr ⟨h0, Int.natCast_nonneg n⟩, Int.min_le_right _ _⟩
theorem slice_to (x : Str) {k : Int} (h0 : 0 ≤ k) : (Txt.slice x none (some k)).cps.toList = x.cps.toList.take k.toNat := by
  have e : Txt.slice x none (some k) = Txt.slice x none (some (min k (x.length : Int))) := by
    unfold Txt.slice
    rw [idx_to _ h0]
  rw [e, beq_iff_eq.mp (slice_closes_to (x := x) (j := min k (x.length : Int)) (min_ends h0))]
  show (List.take _ (List.drop _ _)) = _
  rw [show (0 : Int).toNat = 0 from rfl, List.drop_zero, Int.sub_zero]
  exact min_cut _ rfl
theorem drop_cut {α : Type} (l : List α) {i j n : Int} (h0 : 0 ≤ i) (h1 : i ≤ j) (hi : i ≤ n) (hn : (l.length : Int) = n) : (l.drop i.toNat).take (min j n - i).toNat = (l.drop i.toNat).take (j - i).toNat := by
  by_cases h : j ≤ n
  · rw [Int.min_eq_left h]
  · rw [Int.min_eq_right (Int.le_of_lt (Int.not_le.mp h))]
    have hl : (l.drop i.toNat).length ≤ (n - i).toNat := by rw [List.length_drop]; clear h h1; omega
    have hm : (n - i).toNat ≤ (j - i).toNat := by clear hn hl; omega
    rw [List.take_of_length_le hl, List.take_of_length_le (Nat.le_trans hl hm)]
theorem slice_mid (x : Str) {i j : Int} (h0 : 0 ≤ i) (h1 : i ≤ j) : (Txt.slice x (some i) (some j)).cps.toList = (x.cps.toList.drop i.toNat).take (j - i).toNat := by
  have hj := Int.le_trans h0 h1
  have e : Txt.slice x (some i) (some j) = Txt.slice x (some (min i (x.length : Int))) (some (min j (x.length : Int))) := by
    unfold Txt.slice
    rw [idx_mid _ h0 hj]
  rw [e, beq_iff_eq.mp (slice_closes (x := x) (i := min i (x.length : Int)) (j := min j (x.length : Int)) ⟨(min_ends h0).1, Int.le_min.mpr ⟨Int.le_trans (Int.min_le_left _ _) h1, Int.min_le_right _ _⟩, (min_ends hj).2⟩)]
  show (List.take _ (List.drop _ _)) = _
  by_cases h : i ≤ (x.length : Int)
  · rw [Int.min_eq_left h]
    exact drop_cut _ h0 h1 h rfl
  · have h2 : (x.length : Int) ≤ i := Int.le_of_lt (Int.not_le.mp h)
    have h3 : x.cps.toList.length ≤ i.toNat := Int.ofNat_le.mp (Int.le_trans h2 (Int.self_le_toNat i))
    rw [Int.min_eq_right h2, Int.toNat_natCast, List.drop_of_length_le (i := x.length) (l := x.cps.toList) (Nat.le_refl _), List.drop_of_length_le h3]
    simp
theorem tabs_append (a b : List Nat) : tabs (a ++ b) = tabs a ++ tabs b := by simp [tabs]
theorem tabs_free {l : List Nat} (h : 34 ∉ l) : tabs l = l := by
  unfold tabs
  conv => rhs; rw [← List.map_id l]
  refine List.map_congr_left fun c hc => ?_
  have : ¬ c = 34 := by intro e; subst e; exact h hc
  rw [if_neg this]; rfl
theorem tabs_join : ∀ parts : List Str, (∀ p ∈ parts, 34 ∉ p.cps.toList) → tabs (Str.join ⟨#[34]⟩ parts).cps.toList = (Str.join ⟨#[9]⟩ parts).cps.toList
  | [], _ => rfl
  | [p], h => tabs_free (h p (List.mem_singleton.mpr rfl))
  | p :: q :: r, h => by
    have ih := tabs_join (q :: r) fun a ha => h a (List.mem_cons_of_mem _ ha)
    show tabs (p ++ ⟨#[34]⟩ ++ Str.join ⟨#[34]⟩ (q :: r)).cps.toList = (p ++ ⟨#[9]⟩ ++ Str.join ⟨#[9]⟩ (q :: r)).cps.toList
    simp only [Str.cps_append, Array.toList_append]
    rw [tabs_append, tabs_append, ih, tabs_free (h p (List.mem_cons_self ..))]
    rfl
theorem replace_tabs (x : Str) : (Txt.replace x ⟨#[34]⟩ ⟨#[9]⟩).cps.toList = tabs x.cps.toList := by
  rw [StrLaws.replace_one, ← tabs_join _ (fun p hp => StrLaws.split_free x 34 p hp), StrLaws.join_split]
theorem quote_str : Str.ofString "\"" = ⟨#[34]⟩ := by decide +kernel
theorem tab_str : Str.ofString "\t" = ⟨#[9]⟩ := by decide +kernel
end
-- MLawA
section
open PySem PySem.W PySem.Calls PyProof.Rows
abbrev stmtAt (l : List Stmt) (i : Nat) : Stmt := l.getD i (.Pass ⟨0, 0, 0, 0⟩)
theorem four_of {vs : List Value} {ns : List Int} (h : IntsAre vs ns) (hl : ns.length = 4) : ∃ a ta b tb c tc d td, vs = [Value.int a ta, Value.int b tb, Value.int c tc, Value.int d td] := by
  rcases h with _ | ⟨a, ta, h⟩
  · cases hl
  rcases h with _ | ⟨b, tb, h⟩
  · cases hl
  rcases h with _ | ⟨c, tc, h⟩
  · cases hl
  rcases h with _ | ⟨d, td, h⟩
  · cases hl
  rcases h with _ | ⟨e, te, h⟩
  · exact ⟨a, ta, b, tb, c, tc, d, td, rfl⟩
  · simp at hl
set_option maxRecDepth 100000 in
set_option maxHeartbeats 8000000 in
theorem law_row {w : World} {p : Program} {loose : List Str} {mean : ExcName → Option Value} {mg mb : Str → Option Value} {h₀ : Heap} {L fa ls : Addr} {s : Shared} {Q : Flow → Shared → Prop} {E : Value → Shared → Prop}
    {u : Str → Option Value} {vs : List Value} {ns : List Int} {rest : List (Addr × Obj)}
    (X' : Frag.In (hd.heap_39 w.params) h₀) (T' : Top p loose mean mg mb h₀) (B' : Below callerA h₀ [] h₀)
    (hl : h₀.IsList ls vs.toArray) (hI : IntsAre vs ns) (h63 : ¬ ((63 : Nat) : Int) < (ns.length : Int))
    (F : Fr h₀ L s.heap (kstB u [(Str.ofString "script", .ref ls)]))
    (N : News h₀ L s.heap rest)
    (hQ : ∀ h' tk lr n a b c d ta tb tc td, Fr h₀ L h' (fun y => if y = Str.ofString "row" then some (.ref lr) else kstB u [(Str.ofString "script", .ref ls)] y) →
      News h₀ L h' ((lr, W.listOf #[Value.int a ta, Value.int b tb, Value.int c tc, Value.int d td] n) :: rest) → (∀ q ∈ rest, q.1 < lr) → Q .next { s with heap := h', toks := tk }) :
    wpAny (model PySem.Challenge.rw_rl0090_01.row.prog w) (callerA.deeper (lawEnv L fa)) (exec (stmtAt lawBody 0) (lawEnv L fa)) Q E s := by
  revert X'
  w_top off
  k_fill
  intro X'
  have hsc : lawScope = lawScope := rfl
  conv at hsc => rhs; whnf
  have hb : stmtAt lawBody 0 = stmtAt lawBody 0 := rfl
  conv at hb => rhs; whnf
  rw [hb]
  show wpAny _ (callerA.deeper (envOfC (Str.ofString "law") lawScope L fa (.ref 148))) (exec _ (envOfC (Str.ofString "law") lawScope L fa (.ref 148))) _ _ _
  rw [hsc]
  clear hsc hb
  have hMk9 := kstMark
  by_cases h4 : 4 ≤ ns.length
  · iterate 14 (first | (k_unfold; (try dsimp only)) | (k_end; wrow_close) | walk1 | (dsimp only; walk1) | skip)
    rename IntsAre _ (List.take 4 ns) => hW
    rename (List.take 4 ns).length = min 4 ns.length => hWl
    rename (List.take 4 ns).length ≤ ns.length => hWk
    clear hWk
    obtain ⟨a, ta, b, tb, c, tc, d, td, rfl⟩ := four_of hW (hWl.trans (Nat.min_eq_left h4))
    clear hW hWl
    repeat' ((fail_if_success (rename IntsAre _ (List.take 4 ns) => hW)); (first | (k_unfold; (try dsimp only)) | (k_end; wrow_close) | walk1 | (dsimp only; walk1) | fail "no step"))
    rename IntsAre _ (List.take 4 ns) => hW
    rename (List.take 4 ns).length = min 4 ns.length => hWl
    rename (List.take 4 ns).length ≤ ns.length => hWk
    clear hWk
    obtain ⟨a', ta', b', tb', c', tc', d', td', rfl⟩ := four_of hW (hWl.trans (Nat.min_eq_left h4))
    clear hW hWl
    clear hI
    repeat' (first | (k_unfold; (try dsimp only)) | (k_end; wrow_close) | walk1 | (dsimp only; walk1) | fail "no step")
    rename News _ _ _ _ => NE
    refine hQ _ _ _ _ _ _ _ _ _ _ _ _ (by k_asm) (List.forall_mem_cons.mpr ⟨NE _ (.head _), fun q hq => NE q (by ((repeat (first | assumption | refine List.mem_cons_of_mem _ ?_))))⟩) (by (first | assumption | exact kst_ltOf (by assumption) | exact kst_ltOf (And.right (by assumption)) | exact kst_ltOf (And.right (And.right (by assumption))) | exact kst_ltOf (And.right (And.right (And.right (by assumption)))) | exact kst_ltOf (And.right (And.right (And.right (And.right (by assumption))))) | exact kst_ltOf (And.right (And.right (And.right (And.right (And.right (by assumption))))))))
  rcases hI with _ | ⟨a, ta, hI⟩
  · iterate 60 (first | (k_unfold; (try dsimp only)) | (k_end; wrow_close) | walk1 | (dsimp only; walk1) | skip)
    rename News _ _ _ _ => NE
    refine hQ _ _ _ _ _ _ _ _ _ _ _ _ (by k_asm) (List.forall_mem_cons.mpr ⟨NE _ (.head _), fun q hq => NE q (by ((repeat (first | assumption | refine List.mem_cons_of_mem _ ?_))))⟩) (by (first | assumption | exact kst_ltOf (by assumption) | exact kst_ltOf (And.right (by assumption)) | exact kst_ltOf (And.right (And.right (by assumption))) | exact kst_ltOf (And.right (And.right (And.right (by assumption)))) | exact kst_ltOf (And.right (And.right (And.right (And.right (by assumption))))) | exact kst_ltOf (And.right (And.right (And.right (And.right (And.right (by assumption))))))))
  rcases hI with _ | ⟨b, tb, hI⟩
  · iterate 60 (first | (k_unfold; (try dsimp only)) | (k_end; wrow_close) | walk1 | (dsimp only; walk1) | skip)
    rename News _ _ _ _ => NE
    refine hQ _ _ _ _ _ _ _ _ _ _ _ _ (by k_asm) (List.forall_mem_cons.mpr ⟨NE _ (.head _), fun q hq => NE q (by ((repeat (first | assumption | refine List.mem_cons_of_mem _ ?_))))⟩) (by (first | assumption | exact kst_ltOf (by assumption) | exact kst_ltOf (And.right (by assumption)) | exact kst_ltOf (And.right (And.right (by assumption))) | exact kst_ltOf (And.right (And.right (And.right (by assumption)))) | exact kst_ltOf (And.right (And.right (And.right (And.right (by assumption))))) | exact kst_ltOf (And.right (And.right (And.right (And.right (And.right (by assumption))))))))
  rcases hI with _ | ⟨c, tc, hI⟩
  · iterate 60 (first | (k_unfold; (try dsimp only)) | (k_end; wrow_close) | walk1 | (dsimp only; walk1) | skip)
    rename News _ _ _ _ => NE
    refine hQ _ _ _ _ _ _ _ _ _ _ _ _ (by k_asm) (List.forall_mem_cons.mpr ⟨NE _ (.head _), fun q hq => NE q (by ((repeat (first | assumption | refine List.mem_cons_of_mem _ ?_))))⟩) (by (first | assumption | exact kst_ltOf (by assumption) | exact kst_ltOf (And.right (by assumption)) | exact kst_ltOf (And.right (And.right (by assumption))) | exact kst_ltOf (And.right (And.right (And.right (by assumption)))) | exact kst_ltOf (And.right (And.right (And.right (And.right (by assumption))))) | exact kst_ltOf (And.right (And.right (And.right (And.right (And.right (by assumption))))))))
  rcases hI with _ | ⟨d, td, hI⟩
  · iterate 60 (first | (k_unfold; (try dsimp only)) | (k_end; wrow_close) | walk1 | (dsimp only; walk1) | skip)
    rename News _ _ _ _ => NE
    refine hQ _ _ _ _ _ _ _ _ _ _ _ _ (by k_asm) (List.forall_mem_cons.mpr ⟨NE _ (.head _), fun q hq => NE q (by ((repeat (first | assumption | refine List.mem_cons_of_mem _ ?_))))⟩) (by (first | assumption | exact kst_ltOf (by assumption) | exact kst_ltOf (And.right (by assumption)) | exact kst_ltOf (And.right (And.right (by assumption))) | exact kst_ltOf (And.right (And.right (And.right (by assumption)))) | exact kst_ltOf (And.right (And.right (And.right (And.right (by assumption))))) | exact kst_ltOf (And.right (And.right (And.right (And.right (And.right (by assumption))))))))
  · exact absurd (by simp) h4
end
-- MLawB
section
open PySem PySem.W PySem.Calls PyProof.Rows
def menu : List Str := [Str.ofString " ", Str.ofString "\"\"", Str.ofString " \"\"", Str.ofString "  \"\"", Str.ofString "\"\"", Str.ofString " \"\"", Str.ofString "\"", Str.ofString "x"]
def piece (k : Int) : Str := menu.getD (k.fmod 8).toNat Str.empty
theorem item_piece {prog : Program} {w : World} {A : Around} {E : Value → Shared → Prop} {s : Shared} {value slice : PySem.Expr} {l : Addr} {k : Int} {u t0 t1 t2 t3 t4 t5 t6 t7 : Tok} {Q : Value → Shared → Prop}
    (ht : IsTup s.heap l #[.str (Str.ofString " ") t0, .str (Str.ofString "\"\"") t1, .str (Str.ofString " \"\"") t2, .str (Str.ofString "  \"\"") t3, .str (Str.ofString "\"\"") t4, .str (Str.ofString " \"\"") t5, .str (Str.ofString "\"") t6, .str (Str.ofString "x") t7])
    (h : ∀ t', Q (.str (piece k) t') s)
    (hs : subscripted slice false (.ref l) (.int (k.fmod 8) u) = operate [.ref l, .int (k.fmod 8) u] (getItem (.ref l) (.int (k.fmod 8) u)) := by with_unfolding_all rfl) :
    wpAny (model prog w) A (subscriptTail value slice (.ref l) (.int (k.fmod 8) u)) Q E s := by
  have h0 : 0 ≤ k.fmod 8 := Int.fmod_nonneg_of_pos _ (by decide)
  have h1 : k.fmod 8 < 8 := Int.fmod_lt_of_pos _ (by decide)
  exact KTb.item_tup (ws := menu) ht (by unfold menu; repeat constructor) h0 h1 (by omega) (fun t' _ => h t') hs
theorem piece_len (k : Int) : (piece k).length ≤ 4 := by
  have h0 : 0 ≤ k.fmod 8 := Int.fmod_nonneg_of_pos _ (by decide)
  have h1 : k.fmod 8 < 8 := Int.fmod_lt_of_pos _ (by decide)
  have : ∀ j, j < 8 → (menu.getD j Str.empty).length ≤ 4 := by decide +kernel
  exact this _ (by omega)
set_option maxRecDepth 100000 in
set_option maxHeartbeats 8000000 in
theorem law_total {w : World} {p : Program} {loose : List Str} {mean : ExcName → Option Value} {mg mb : Str → Option Value} {h₀ : Heap} {L fa lr : Addr} {s : Shared} {Q : Flow → Shared → Prop} {E : Value → Shared → Prop}
    {u : Str → Option Value} {n : Nat} {a b c d : Int} {ta tb tc td : Tok} {rest : List (Addr × Obj)}
    (X' : Frag.In (hd.heap_39 w.params) h₀) (T' : Top p loose mean mg mb h₀) (B' : Below callerA h₀ [] h₀)
    (F : Fr h₀ L s.heap (kstB u [(Str.ofString "row", .ref lr)]))
    (N : News h₀ L s.heap ((lr, W.listOf #[Value.int a ta, Value.int b tb, Value.int c tc, Value.int d td] n) :: rest)) (l0 : ∀ q ∈ rest, q.1 < lr)
    (hQ : ∀ h' tk t, Fr h₀ L h' (fun y => if y = Str.ofString "total" then some (.int (a + (b + (c + (d + 0)))) t) else kstB u [(Str.ofString "row", .ref lr)] y) →
      News h₀ L h' ((lr, W.listOf #[Value.int a ta, Value.int b tb, Value.int c tc, Value.int d td] n) :: rest) → Q .next { s with heap := h', toks := tk }) :
    wpAny (model PySem.Challenge.rw_rl0090_01.row.prog w) (callerA.deeper (lawEnv L fa)) (exec (stmtAt lawBody 1) (lawEnv L fa)) Q E s := by
  revert X'
  w_top off
  k_fill
  intro X'
  have hsc : lawScope = lawScope := rfl
  conv at hsc => rhs; whnf
  have hb : stmtAt lawBody 1 = stmtAt lawBody 1 := rfl
  conv at hb => rhs; whnf
  rw [hb]
  show wpAny _ (callerA.deeper (envOfC (Str.ofString "law") lawScope L fa (.ref 148))) (exec _ (envOfC (Str.ofString "law") lawScope L fa (.ref 148))) _ _ _
  rw [hsc]
  clear hsc hb
  have hMk9 := kstMark
  repeat' (first | ((k_here; (with_reducible show wpAny _ _ (subscriptTail _ _ (Value.ref _) (Value.int (Int.fmod _ 8) _)) _ _ _); k_dflt (refine' item_piece ?k1 ?_; (case k1 => exact News.isTup (by k_asm) (by k_mem))); intro t9')) | (k_unfold; (try dsimp only)) | (k_end; wrow_close) | walk1 | (dsimp only; walk1) | fail "no step")
  rename News _ _ _ _ => NE
  exact hQ _ _ _ (by k_asm) NE
set_option maxRecDepth 100000 in
set_option maxHeartbeats 8000000 in
theorem law_body {w : World} {p : Program} {loose : List Str} {mean : ExcName → Option Value} {mg mb : Str → Option Value} {h₀ : Heap} {L fa lr : Addr} {s : Shared} {Q : Flow → Shared → Prop} {E : Value → Shared → Prop}
    {u : Str → Option Value} {n : Nat} {a b c d : Int} {ta tb tc td : Tok} {a1 a2 a3 : Addr} {o1 o2 o3 : Obj}
    (X' : Frag.In (hd.heap_39 w.params) h₀) (T' : Top p loose mean mg mb h₀) (B' : Below callerA h₀ [] h₀)
    (F : Fr h₀ L s.heap (kstB u [(Str.ofString "row", .ref lr)]))
    (N : News h₀ L s.heap ((lr, W.listOf #[Value.int a ta, Value.int b tb, Value.int c tc, Value.int d td] n) :: [(a1, o1), (a2, o2), (a3, o3)])) (l1 : @LT.lt Nat _ a1 lr) (l2 : @LT.lt Nat _ a2 lr) (l3 : @LT.lt Nat _ a3 lr)
    (hQ : ∀ h' tk t, Fr h₀ L h' (fun y => if y = Str.ofString "body" then some (.str (Txt.join (Str.ofString "") [piece a, piece b, piece c, piece d]) t) else kstB u [(Str.ofString "row", .ref lr)] y) →
      News h₀ L h' [(a1, o1), (a2, o2), (a3, o3)] → Q .next { s with heap := h', toks := tk }) :
    wpAny (model PySem.Challenge.rw_rl0090_01.row.prog w) (callerA.deeper (lawEnv L fa)) (exec (stmtAt lawBody 2) (lawEnv L fa)) Q E s := by
  revert X'
  w_top off
  k_fill
  intro X'
  have hsc : lawScope = lawScope := rfl
  conv at hsc => rhs; whnf
  have hb : stmtAt lawBody 2 = stmtAt lawBody 2 := rfl
  conv at hb => rhs; whnf
  rw [hb]
  show wpAny _ (callerA.deeper (envOfC (Str.ofString "law") lawScope L fa (.ref 148))) (exec _ (envOfC (Str.ofString "law") lawScope L fa (.ref 148))) _ _ _
  rw [hsc]
  clear hsc hb
  have hMk9 := kstMark
  have hpa := piece_len a
  have hpb := piece_len b
  have hpc := piece_len c
  have hpd := piece_len d
  repeat' (first | ((k_here; (with_reducible show wpAny _ _ (subscriptTail _ _ (Value.ref _) (Value.int (Int.fmod _ 8) _)) _ _ _); k_dflt (refine' item_piece ?k1 ?_; (case k1 => exact News.isTup (by k_asm) (by k_mem))); intro t9')) | (k_unfold; (try dsimp only)) | (k_end; wrow_close) | walk1 | (dsimp only; walk1) | fail "no step")
  rename News _ _ _ _ => NE
  exact hQ _ _ _ (by k_asm) (List.forall_mem_cons.mpr ⟨NE _ (by k_mem), List.forall_mem_cons.mpr ⟨NE _ (by k_mem), List.forall_mem_cons.mpr ⟨NE _ (by k_mem), List.forall_mem_nil _⟩⟩⟩)
end
-- MUse
section
open PySem PySem.W PySem.Calls PyProof.Rows
set_option maxRecDepth 100000
/-- a Whitespace is made -/
theorem use_ws {w : World} {p : Program} {loose : List Str} {mean : ExcName → Option Value} {mg mb : Str → Option Value} {base h₀ : Heap} {outer : List Env} {s : Shared} {A A₀ : Around} {L : Addr} {m : Str → Option Value} {env : Env} {news : List (Addr × Obj)} {Q : Value → Shared → Prop} {E : Value → Shared → Prop} {raw : Str} {tr : Tok}
    (B : Below A₀ base outer h₀) (F : Fr h₀ L s.heap m) (X : Frag.In (hd.heap_39 w.params) h₀) (N : News h₀ L s.heap news) (T : Top p loose mean mg mb h₀) (hA : (A.under (.builtin "type.__call__" ⟨.ref 83 :: [.str raw tr], []⟩)).frames = some (env :: outer)) (hf : env.frame = some L) (hke : env.scope.kind = .function)
    (hh : (A.under (.builtin "type.__call__" ⟨.ref 83 :: [.str raw tr], []⟩)).handled = none) (hdp : (A.under (.builtin "type.__call__" ⟨.ref 83 :: [.str raw tr], []⟩)).depth ≤ 600) (hun : (A.under (.builtin "type.__call__" ⟨.ref 83 :: [.str raw tr], []⟩)).units ≤ 3000) (hraw : raw.cps.size ≤ 1000)
    (h : ∀ h' tk (r : WsR), r.Ok → r.raw = raw → Fr h₀ L h' m → News h₀ L h' (r.led w ++ news) → (∀ q ∈ news, @LT.lt Nat _ q.1 r.dx) → Q (.ref r.x) { s with heap := h', toks := tk }) :
    wpAny (model PySem.Challenge.rw_rl0090_01.row.prog w) A (call (.ref 83) [.str raw tr] []) Q E s := by
  revert X
  w_top off
  k_fill
  intro X
  refine call_cls (fI := 38) F X N (by k_is) (by k_is) (by k_is) fun x dx h' F' N' l1 l2 => ?_
  have G : Gnd w p loose mean mg mb (A.under (.builtin "type.__call__" ⟨.ref 83 :: [.str raw tr], []⟩)) base (env :: outer) (hideAll h' (((x, instObj 83 dx) :: (dx, dictOf [] 0) :: news).map (·.1))) := Gnd.of (s := { s with heap := h' }) X T B F' N' hA hf hke
  have mx : (x, instObj 83 dx) ∈ (x, instObj 83 dx) :: (dx, dictOf [] 0) :: news := .head _
  have mdx : (dx, dictOf [] 0) ∈ (x, instObj 83 dx) :: (dx, dictOf [] 0) :: news := .tail _ (.head _)
  refine code_le (ws_init (s := { s with heap := h' }) (G.frames hA.symm) (stays_hide _) (N' _ mx).1 (N' _ mdx).1 l2 (hideAll_none _ (List.mem_map_of_mem mx)) (hideAll_none _ (List.mem_map_of_mem mdx)) hraw fun h'' tk r ex edx eraw ok hled keep hD hD2 => ?_) hh.symm hdp hA.symm rfl hun
  obtain ⟨oL, esL, epL, eL, dL, rL⟩ := F'.ns
  have hLx : dx ≠ L := (N' _ mdx).2.1
  have hL : h''.get? L = some oL := keep _ _ eL (Ne.symm hLx)
  have hb : ∀ b o, h₀.get? b = some o → h''.get? b = some o := fun b o e => keep b o (F'.keep b o e) fun q => by
    have := (N' _ mdx).2.2
    rw [← q, e] at this; cases this
  have F'' : Fr h₀ L h'' m := ⟨⟨oL, esL, epL, hL, dL, rL⟩, hb, F'.above⟩
  have none₀ : ∀ b, h'.get? b = none → h₀.get? b = none := fun b e => Option.eq_none_iff_forall_ne_some.mpr fun o q => by
    rw [F'.keep b o q] at e; cases e
  have neL : ∀ b, h'.get? b = none → b ≠ L := fun b e q => by rw [q, eL] at e; cases e
  refine ⟨rfl, ?_⟩
  rw [← ex]
  refine h h'' tk r ok eraw F'' (fun q hq => ?_) (fun q hq => edx ▸ l1 q hq)
  rcases List.mem_append.mp hq with hq | hq
  · refine ⟨hled q hq, ?_⟩
    simp only [WsR.led, List.mem_cons, List.not_mem_nil, or_false] at hq
    rcases hq with rfl | rfl | rfl | rfl
    · rw [ex]; exact (N' _ mx).2
    · rw [edx]; exact (N' _ mdx).2
    · exact ⟨neL _ hD, none₀ _ hD⟩
    · exact ⟨neL _ hD2, none₀ _ hD2⟩
  · have n := N' q (.tail _ (.tail _ hq))
    exact ⟨keep _ _ n.1 (Nat.ne_of_lt (l1 q hq)), n.2⟩
end
-- MLawC
section
open PySem PySem.W PySem.Calls PyProof.Rows
set_option maxRecDepth 100000 in
set_option maxHeartbeats 8000000 in
theorem law_reply {w : World} {p : Program} {loose : List Str} {mean : ExcName → Option Value} {mg mb : Str → Option Value} {h₀ : Heap} {L fa : Addr} {s : Shared} {Q : Flow → Shared → Prop} {E : Value → Shared → Prop}
    {u : Str → Option Value} {body : Str} {tB : Tok} {rest : List (Addr × Obj)}
    (X' : Frag.In (hd.heap_39 w.params) h₀) (T' : Top p loose mean mg mb h₀) (B' : Below callerA h₀ [] h₀)
    (F : Fr h₀ L s.heap (kstB u [(Str.ofString "body", .str body tB)])) (hbl : body.length ≤ 16)
    (N : News h₀ L s.heap rest)
    (hQ : ∀ h' tk t, Fr h₀ L h' (fun y => if y = Str.ofString "reply" then some (.str (Str.ofString "257 \"" ++ body) t) else kstB u [(Str.ofString "body", .str body tB)] y) → News h₀ L h' rest → Q .next { s with heap := h', toks := tk }) :
    wpAny (model PySem.Challenge.rw_rl0090_01.row.prog w) (callerA.deeper (lawEnv L fa)) (exec (stmtAt lawBody 3) (lawEnv L fa)) Q E s := by
  revert X'
  w_top off
  k_fill
  intro X'
  have hsc : lawScope = lawScope := rfl
  conv at hsc => rhs; whnf
  have hb : stmtAt lawBody 3 = stmtAt lawBody 3 := rfl
  conv at hb => rhs; whnf
  rw [hb]
  show wpAny _ (callerA.deeper (envOfC (Str.ofString "law") lawScope L fa (.ref 148))) (exec _ (envOfC (Str.ofString "law") lawScope L fa (.ref 148))) _ _ _
  rw [hsc]
  clear hsc hb
  have hMk9 := kstMark
  repeat' (first | ((with_reducible show wpAny _ _ (call (Value.builtin "str.replace") _ _) _ _ _); (k_here; k_dflt (refine' SC.replaceW ?u ?v ?uv ?yz ?hx ?hz ?_; (case u => (show @Ne Nat _ _; first | exact Nat.succ_ne_zero _ | exact Nat.ne_of_gt (by assumption) | omega)); (case v => (show @Ne Nat _ _; first | exact Nat.succ_ne_zero _ | exact Nat.ne_of_gt (by assumption) | omega)); (case uv => (show @Ne Nat _ _; first | exact Nat.ne_of_lt (Nat.lt_succ_self _) | omega)); (case yz => decide +kernel); (case hx => omega); (case hz => decide +kernel)); intro t8 k8)) | ((k_here; (with_reducible show wpAny _ _ (call (Value.ref _) [Value.str _ _] []) _ _ _); k_dflt (refine' use_ws ?B ?F ?X ?N ?T ?hA ?hf ?hk ?hh ?hd ?hu ?hr ?_; (case hA => exact rfl); (case hf => exact rfl); (case hk => exact rfl); (case hh => exact rfl); (case B => k_asm); (case F => k_asm); (case X => k_asm); (case N => k_asm); (case T => k_asm); (case hd => exact Nat.le_of_ble_eq_true rfl); (case hu => exact Nat.le_of_ble_eq_true rfl); (case hr => assumption); k_whole; intro h' tk' r' ok' er' F' N' l1'))) | (k_unfold; (try dsimp only)) | (k_end; wrow_close) | walk1 | (dsimp only; walk1) | fail "no step")
  rename News _ _ _ _ => NE
  exact hQ _ _ _ (by k_asm) NE
def goalA (T : Int) : Str := Txt.mul (Str.ofString " ") (T.fmod 3) ++ Txt.mul (Str.ofString "\"\"") ((T.fdiv 3).fmod 2) ++ Txt.mul (Str.ofString " ") ((T.fdiv 6).fmod 3)
def goalB (g : Str) (T : Int) : Str := g ++ Txt.mul (Str.ofString "\"\"") ((T.fdiv 18).fmod 2) ++ Txt.mul (Str.ofString " ") ((T.fdiv 36).fmod 2)
set_option maxRecDepth 100000 in
set_option maxHeartbeats 8000000 in
theorem law_goal {w : World} {p : Program} {loose : List Str} {mean : ExcName → Option Value} {mg mb : Str → Option Value} {h₀ : Heap} {L fa : Addr} {s : Shared} {Q : Flow → Shared → Prop} {E : Value → Shared → Prop}
    {u : Str → Option Value} {T : Int} {tT : Tok} {rest : List (Addr × Obj)}
    (X' : Frag.In (hd.heap_39 w.params) h₀) (T' : Top p loose mean mg mb h₀) (B' : Below callerA h₀ [] h₀)
    (F : Fr h₀ L s.heap (kstB u [(Str.ofString "total", .int T tT)]))
    (N : News h₀ L s.heap rest)
    (hQ : ∀ h' tk t, Fr h₀ L h' (fun y => if y = Str.ofString "goal" then some (.str (goalA T) t) else kstB u [(Str.ofString "total", .int T tT)] y) → News h₀ L h' rest → Q .next { s with heap := h', toks := tk }) :
    wpAny (model PySem.Challenge.rw_rl0090_01.row.prog w) (callerA.deeper (lawEnv L fa)) (exec (stmtAt lawBody 4) (lawEnv L fa)) Q E s := by
  revert X'
  w_top off
  k_fill
  intro X'
  have hsc : lawScope = lawScope := rfl
  conv at hsc => rhs; whnf
  have hb : stmtAt lawBody 4 = stmtAt lawBody 4 := rfl
  conv at hb => rhs; whnf
  rw [hb]
  show wpAny _ (callerA.deeper (envOfC (Str.ofString "law") lawScope L fa (.ref 148))) (exec _ (envOfC (Str.ofString "law") lawScope L fa (.ref 148))) _ _ _
  rw [hsc]
  clear hsc hb
  have hMk9 := kstMark
  repeat' (first | ((with_reducible show wpAny _ _ (call (Value.builtin "str.replace") _ _) _ _ _); (k_here; k_dflt (refine' SC.replaceW ?u ?v ?uv ?yz ?hx ?hz ?_; (case u => (show @Ne Nat _ _; first | exact Nat.succ_ne_zero _ | exact Nat.ne_of_gt (by assumption) | omega)); (case v => (show @Ne Nat _ _; first | exact Nat.succ_ne_zero _ | exact Nat.ne_of_gt (by assumption) | omega)); (case uv => (show @Ne Nat _ _; first | exact Nat.ne_of_lt (Nat.lt_succ_self _) | omega)); (case yz => decide +kernel); (case hx => omega); (case hz => decide +kernel)); intro t8 k8)) | ((k_here; (with_reducible show wpAny _ _ (call (Value.ref _) [Value.str _ _] []) _ _ _); k_dflt (refine' use_ws ?B ?F ?X ?N ?T ?hA ?hf ?hk ?hh ?hd ?hu ?hr ?_; (case hA => exact rfl); (case hf => exact rfl); (case hk => exact rfl); (case hh => exact rfl); (case B => k_asm); (case F => k_asm); (case X => k_asm); (case N => k_asm); (case T => k_asm); (case hd => exact Nat.le_of_ble_eq_true rfl); (case hu => exact Nat.le_of_ble_eq_true rfl); (case hr => assumption); k_whole; intro h' tk' r' ok' er' F' N' l1'))) | (k_unfold; (try dsimp only)) | (k_end; wrow_close) | walk1 | (dsimp only; walk1) | fail "no step")
  rename News _ _ _ _ => NE
  exact hQ _ _ _ (by k_asm) NE
set_option maxRecDepth 100000 in
set_option maxHeartbeats 8000000 in
theorem law_goal2 {w : World} {p : Program} {loose : List Str} {mean : ExcName → Option Value} {mg mb : Str → Option Value} {h₀ : Heap} {L fa : Addr} {s : Shared} {Q : Flow → Shared → Prop} {E : Value → Shared → Prop}
    {u : Str → Option Value} {g : Str} {T : Int} {tG tT : Tok} {rest : List (Addr × Obj)}
    (X' : Frag.In (hd.heap_39 w.params) h₀) (T' : Top p loose mean mg mb h₀) (B' : Below callerA h₀ [] h₀)
    (F : Fr h₀ L s.heap (kstB u [(Str.ofString "total", .int T tT), (Str.ofString "goal", .str g tG)])) (hgl : g.length ≤ 16)
    (N : News h₀ L s.heap rest)
    (hQ : ∀ h' tk t, @LT.lt Nat _ 0 tk → Fr h₀ L h' (fun y => if y = Str.ofString "goal" then some (.str (goalB g T) t) else kstB u [(Str.ofString "total", .int T tT), (Str.ofString "goal", .str g tG)] y) → News h₀ L h' rest → Q .next { s with heap := h', toks := tk }) :
    wpAny (model PySem.Challenge.rw_rl0090_01.row.prog w) (callerA.deeper (lawEnv L fa)) (exec (stmtAt lawBody 5) (lawEnv L fa)) Q E s := by
  revert X'
  w_top off
  k_fill
  intro X'
  have hsc : lawScope = lawScope := rfl
  conv at hsc => rhs; whnf
  have hb : stmtAt lawBody 5 = stmtAt lawBody 5 := rfl
  conv at hb => rhs; whnf
  rw [hb]
  show wpAny _ (callerA.deeper (envOfC (Str.ofString "law") lawScope L fa (.ref 148))) (exec _ (envOfC (Str.ofString "law") lawScope L fa (.ref 148))) _ _ _
  rw [hsc]
  clear hsc hb
  have hMk9 := kstMark
  repeat' (first | ((with_reducible show wpAny _ _ (call (Value.builtin "str.replace") _ _) _ _ _); (k_here; k_dflt (refine' SC.replaceW ?u ?v ?uv ?yz ?hx ?hz ?_; (case u => (show @Ne Nat _ _; first | exact Nat.succ_ne_zero _ | exact Nat.ne_of_gt (by assumption) | omega)); (case v => (show @Ne Nat _ _; first | exact Nat.succ_ne_zero _ | exact Nat.ne_of_gt (by assumption) | omega)); (case uv => (show @Ne Nat _ _; first | exact Nat.ne_of_lt (Nat.lt_succ_self _) | omega)); (case yz => decide +kernel); (case hx => omega); (case hz => decide +kernel)); intro t8 k8)) | ((k_here; (with_reducible show wpAny _ _ (call (Value.ref _) [Value.str _ _] []) _ _ _); k_dflt (refine' use_ws ?B ?F ?X ?N ?T ?hA ?hf ?hk ?hh ?hd ?hu ?hr ?_; (case hA => exact rfl); (case hf => exact rfl); (case hk => exact rfl); (case hh => exact rfl); (case B => k_asm); (case F => k_asm); (case X => k_asm); (case N => k_asm); (case T => k_asm); (case hd => exact Nat.le_of_ble_eq_true rfl); (case hu => exact Nat.le_of_ble_eq_true rfl); (case hr => assumption); k_whole; intro h' tk' r' ok' er' F' N' l1'))) | (k_unfold; (try dsimp only)) | (k_end; wrow_close) | walk1 | (dsimp only; walk1) | fail "no step")
  rename News _ _ _ _ => NE
  exact hQ _ _ _ (Nat.succ_pos _) (by k_asm) NE
set_option maxRecDepth 100000 in
set_option maxHeartbeats 8000000 in
theorem law_lead {w : World} {p : Program} {loose : List Str} {mean : ExcName → Option Value} {mg mb : Str → Option Value} {h₀ : Heap} {L fa : Addr} {s : Shared} {Q : Flow → Shared → Prop} {E : Value → Shared → Prop}
    {u : Str → Option Value} {g : Str} {tG : Tok} {rest : List (Addr × Obj)}
    (X' : Frag.In (hd.heap_39 w.params) h₀) (T' : Top p loose mean mg mb h₀) (B' : Below callerA h₀ [] h₀)
    (F : Fr h₀ L s.heap (kstB u [(Str.ofString "goal", .str g tG)])) (hrl : (Txt.replace g (Str.ofString "\"\"") (Str.ofString "\t")).length ≤ 900) (hgl : g.length ≤ 16) (hgs : (Txt.replace g (Str.ofString "\"\"") (Str.ofString "\t") ++ Str.ofString "x").cps.size ≤ 1000)
    (N : News h₀ L s.heap rest) (htk : @LT.lt Nat _ 0 s.toks)
    (hQ : ∀ h' tk (r : WsR), r.Ok → r.raw = Txt.replace g (Str.ofString "\"\"") (Str.ofString "\t") ++ Str.ofString "x" → (∀ q ∈ rest, @LT.lt Nat _ q.1 r.dx) → Fr h₀ L h' (fun y => if y = Str.ofString "lead" then some (.ref r.x) else kstB u [(Str.ofString "goal", .str g tG)] y) → News h₀ L h' (r.led w ++ rest) → Q .next { s with heap := h', toks := tk }) :
    wpAny (model PySem.Challenge.rw_rl0090_01.row.prog w) (callerA.deeper (lawEnv L fa)) (exec (stmtAt lawBody 6) (lawEnv L fa)) Q E s := by
  revert X'
  w_top off
  k_fill
  intro X'
  have hsc : lawScope = lawScope := rfl
  conv at hsc => rhs; whnf
  have hb : stmtAt lawBody 6 = stmtAt lawBody 6 := rfl
  conv at hb => rhs; whnf
  rw [hb]
  show wpAny _ (callerA.deeper (envOfC (Str.ofString "law") lawScope L fa (.ref 148))) (exec _ (envOfC (Str.ofString "law") lawScope L fa (.ref 148))) _ _ _
  rw [hsc]
  clear hsc hb
  have hMk9 := kstMark
  repeat' (first | ((with_reducible show wpAny _ _ (call (Value.builtin "str.replace") _ _) _ _ _); (k_here; k_dflt (refine' SC.replaceW ?u ?v ?uv ?yz ?hx ?hz ?_; (case u => (show @Ne Nat _ _; first | exact Nat.succ_ne_zero _ | exact Nat.ne_of_gt (by assumption) | omega)); (case v => (show @Ne Nat _ _; first | exact Nat.succ_ne_zero _ | exact Nat.ne_of_gt (by assumption) | omega)); (case uv => (show @Ne Nat _ _; first | exact Nat.ne_of_lt (Nat.lt_succ_self _) | omega)); (case yz => decide +kernel); (case hx => omega); (case hz => decide +kernel)); intro t8 k8)) | ((k_here; (with_reducible show wpAny _ _ (call (Value.ref _) [Value.str _ _] []) _ _ _); k_dflt (refine' use_ws ?B ?F ?X ?N ?T ?hA ?hf ?hk ?hh ?hd ?hu ?hr ?_; (case hA => exact rfl); (case hf => exact rfl); (case hk => exact rfl); (case hh => exact rfl); (case B => k_asm); (case F => k_asm); (case X => k_asm); (case N => k_asm); (case T => k_asm); (case hd => exact Nat.le_of_ble_eq_true rfl); (case hu => exact Nat.le_of_ble_eq_true rfl); (case hr => assumption); k_whole; intro h' tk' r' ok' er' F' N' l1'))) | (k_unfold; (try dsimp only)) | (k_end; wrow_close) | walk1 | (dsimp only; walk1) | fail "no step")
  rename News _ _ _ _ => NE
  exact hQ _ _ _ (by assumption) (by assumption) (by assumption) (by k_asm) NE
set_option maxRecDepth 100000 in
set_option maxHeartbeats 8000000 in
theorem law_refused {w : World} {p : Program} {loose : List Str} {mean : ExcName → Option Value} {mg mb : Str → Option Value} {h₀ : Heap} {L fa : Addr} {s : Shared} {Q : Flow → Shared → Prop} {E : Value → Shared → Prop}
    {u : Str → Option Value} {x : Addr} {rest : List (Addr × Obj)}
    (X' : Frag.In (hd.heap_39 w.params) h₀) (T' : Top p loose mean mg mb h₀) (B' : Below callerA h₀ [] h₀)
    (F : Fr h₀ L s.heap (kstB u [(Str.ofString "lead", .ref x)]))
    (N : News h₀ L s.heap rest)
    (hQ : ∀ h' tk l, (∀ q ∈ rest, q.1 < l) → Fr h₀ L h' (fun y => if y = Str.ofString "refused" then some (.ref l) else kstB u [(Str.ofString "lead", .ref x)] y) → News h₀ L h' ((l, W.listOf #[] 0) :: rest) → Q .next { s with heap := h', toks := tk }) :
    wpAny (model PySem.Challenge.rw_rl0090_01.row.prog w) (callerA.deeper (lawEnv L fa)) (exec (stmtAt lawBody 7) (lawEnv L fa)) Q E s := by
  revert X'
  w_top off
  k_fill
  intro X'
  have hsc : lawScope = lawScope := rfl
  conv at hsc => rhs; whnf
  have hb : stmtAt lawBody 7 = stmtAt lawBody 7 := rfl
  conv at hb => rhs; whnf
  rw [hb]
  show wpAny _ (callerA.deeper (envOfC (Str.ofString "law") lawScope L fa (.ref 148))) (exec _ (envOfC (Str.ofString "law") lawScope L fa (.ref 148))) _ _ _
  rw [hsc]
  clear hsc hb
  have hMk9 := kstMark
  repeat' (first | ((with_reducible show wpAny _ _ (call (Value.builtin "str.replace") _ _) _ _ _); (k_here; k_dflt (refine' SC.replaceW ?u ?v ?uv ?yz ?hx ?hz ?_; (case u => (show @Ne Nat _ _; first | exact Nat.succ_ne_zero _ | exact Nat.ne_of_gt (by assumption) | omega)); (case v => (show @Ne Nat _ _; first | exact Nat.succ_ne_zero _ | exact Nat.ne_of_gt (by assumption) | omega)); (case uv => (show @Ne Nat _ _; first | exact Nat.ne_of_lt (Nat.lt_succ_self _) | omega)); (case yz => decide +kernel); (case hx => omega); (case hz => decide +kernel)); intro t8 k8)) | ((k_here; (with_reducible show wpAny _ _ (call (Value.ref _) [Value.str _ _] []) _ _ _); k_dflt (refine' use_ws ?B ?F ?X ?N ?T ?hA ?hf ?hk ?hh ?hd ?hu ?hr ?_; (case hA => exact rfl); (case hf => exact rfl); (case hk => exact rfl); (case hh => exact rfl); (case B => k_asm); (case F => k_asm); (case X => k_asm); (case N => k_asm); (case T => k_asm); (case hd => exact Nat.le_of_ble_eq_true rfl); (case hu => exact Nat.le_of_ble_eq_true rfl); (case hr => assumption); k_whole; intro h' tk' r' ok' er' F' N' l1'))) | (k_unfold; (try dsimp only)) | (k_end; wrow_close) | walk1 | (dsimp only; walk1) | fail "no step")
  rename News _ _ _ _ => NE
  exact hQ _ _ _ (by assumption) (by k_asm) NE
set_option maxRecDepth 100000 in
set_option maxHeartbeats 8000000 in
theorem law_leads {w : World} {p : Program} {loose : List Str} {mean : ExcName → Option Value} {mg mb : Str → Option Value} {h₀ : Heap} {L fa : Addr} {s : Shared} {Q : Flow → Shared → Prop} {E : Value → Shared → Prop}
    {u : Str → Option Value} {x : Addr} {rest : List (Addr × Obj)}
    (X' : Frag.In (hd.heap_39 w.params) h₀) (T' : Top p loose mean mg mb h₀) (B' : Below callerA h₀ [] h₀)
    (F : Fr h₀ L s.heap (kstB u [(Str.ofString "lead", .ref x)]))
    (N : News h₀ L s.heap rest)
    (hQ : ∀ h' tk l, (∀ q ∈ rest, q.1 < l) → Fr h₀ L h' (fun y => if y = Str.ofString "leads" then some (.ref l) else kstB u [(Str.ofString "lead", .ref x)] y) → News h₀ L h' ((l, W.listOf #[] 0) :: rest) → Q .next { s with heap := h', toks := tk }) :
    wpAny (model PySem.Challenge.rw_rl0090_01.row.prog w) (callerA.deeper (lawEnv L fa)) (exec (stmtAt lawBody 8) (lawEnv L fa)) Q E s := by
  revert X'
  w_top off
  k_fill
  intro X'
  have hsc : lawScope = lawScope := rfl
  conv at hsc => rhs; whnf
  have hb : stmtAt lawBody 8 = stmtAt lawBody 8 := rfl
  conv at hb => rhs; whnf
  rw [hb]
  show wpAny _ (callerA.deeper (envOfC (Str.ofString "law") lawScope L fa (.ref 148))) (exec _ (envOfC (Str.ofString "law") lawScope L fa (.ref 148))) _ _ _
  rw [hsc]
  clear hsc hb
  have hMk9 := kstMark
  repeat' (first | ((with_reducible show wpAny _ _ (call (Value.builtin "str.replace") _ _) _ _ _); (k_here; k_dflt (refine' SC.replaceW ?u ?v ?uv ?yz ?hx ?hz ?_; (case u => (show @Ne Nat _ _; first | exact Nat.succ_ne_zero _ | exact Nat.ne_of_gt (by assumption) | omega)); (case v => (show @Ne Nat _ _; first | exact Nat.succ_ne_zero _ | exact Nat.ne_of_gt (by assumption) | omega)); (case uv => (show @Ne Nat _ _; first | exact Nat.ne_of_lt (Nat.lt_succ_self _) | omega)); (case yz => decide +kernel); (case hx => omega); (case hz => decide +kernel)); intro t8 k8)) | ((k_here; (with_reducible show wpAny _ _ (call (Value.ref _) [Value.str _ _] []) _ _ _); k_dflt (refine' use_ws ?B ?F ?X ?N ?T ?hA ?hf ?hk ?hh ?hd ?hu ?hr ?_; (case hA => exact rfl); (case hf => exact rfl); (case hk => exact rfl); (case hh => exact rfl); (case B => k_asm); (case F => k_asm); (case X => k_asm); (case N => k_asm); (case T => k_asm); (case hd => exact Nat.le_of_ble_eq_true rfl); (case hu => exact Nat.le_of_ble_eq_true rfl); (case hr => assumption); k_whole; intro h' tk' r' ok' er' F' N' l1'))) | (k_unfold; (try dsimp only)) | (k_end; wrow_close) | walk1 | (dsimp only; walk1) | fail "no step")
  rename News _ _ _ _ => NE
  exact hQ _ _ _ (by assumption) (by k_asm) NE
end
-- MTry
section
open PySem PySem.W PySem.Calls PyProof.Rows
def forBody (s : Stmt) : List Stmt := match s with | .For _ _ b _ _ => b | _ => []
abbrev loop1 : List Stmt := forBody (stmtAt lawBody 9)
theorem use_parse {w : World} {p : Program} {loose : List Str} {mean : ExcName → Option Value} {mg mb : Str → Option Value} {base h₀ : Heap} {outer : List Env} {s : Shared} {A A₀ : Around} {L : Addr} {m : Str → Option Value} {env : Env} {news : List (Addr × Obj)} {Q : Value → Shared → Prop} {E : Value → Shared → Prop} {resp : Str} {tr : Tok}
    (B : Below A₀ base outer h₀) (F : Fr h₀ L s.heap m) (X : Frag.In (hd.heap_39 w.params) h₀) (N : News h₀ L s.heap news) (T : Top p loose mean mg mb h₀) (hA : A.frames = some (env :: outer)) (hf : env.frame = some L) (hke : env.scope.kind = .function)
    (hh : A.handled = none) (hdp : A.depth ≤ 600) (hun : A.units ≤ 3000) (hlen : resp.length ≤ 1000) (h257 : (Txt.slice resp none (some 3) != Str.ofString "257") = false)
    (h : ∀ h' tk d tv, d.cps.toList = (if Txt.slice resp (some 3) (some 5) = Str.ofString " \"" then parseTail (resp.cps.toList.drop 5) else []) → Fr h₀ L h' m → News h₀ L h' news → Q (.str d tv) { s with heap := h', toks := tk }) : wpAny (model PySem.Challenge.rw_rl0090_01.row.prog w) A (call (.ref 137) [.str resp tr] []) Q E s :=
  use_pure (P := fun v => ∃ d tv, v = .str d tv ∧ d.cps.toList = (if Txt.slice resp (some 3) (some 5) = Str.ofString " \"" then parseTail (resp.cps.toList.drop 5) else [])) (own := []) (fun G hg ho hfr hR => parse_ok G hg hlen h257 fun h' tk d tv st hd => hR h' tk _ st ⟨d, tv, rfl, hd⟩) B F X N T hA hf hke hh hdp hun (List.forall_mem_nil _)
    fun h' tk v ⟨d, tv, e, hd⟩ F' N' => e ▸ h h' tk d tv hd F' N'
theorem use_raise {w : World} {p : Program} {loose : List Str} {mean : ExcName → Option Value} {mg mb : Str → Option Value} {base h₀ : Heap} {outer : List Env} {s : Shared} {A A₀ : Around} {L : Addr} {m : Str → Option Value} {env : Env} {news : List (Addr × Obj)} {Q : Value → Shared → Prop} {E : Value → Shared → Prop} {resp : Str} {tr : Tok}
    (B : Below A₀ base outer h₀) (F : Fr h₀ L s.heap m) (X : Frag.In (hd.heap_39 w.params) h₀) (N : News h₀ L s.heap news) (T : Top p loose mean mg mb h₀) (hA : A.frames = some (env :: outer)) (hf : env.frame = some L) (hke : env.scope.kind = .function)
    (hh : A.handled = none) (hdp : A.depth ≤ 600) (hun : A.units ≤ 3000) (hlen : resp.length ≤ 1000) (h257 : (Txt.slice resp none (some 3) != Str.ofString "257") = true)
    (h : ∀ h' tk e t hm, RaisedK base (env :: outer) e (.ref 128) t [.str resp tr] news h' → Fr h₀ L hm m → hm.UpToSlots h' → E (.ref e) { s with heap := h', toks := tk }) : wpAny (model PySem.Challenge.rw_rl0090_01.row.prog w) A (call (.ref 137) [.str resp tr] []) Q E s := by
  have G : Gnd w p loose mean mg mb A base (env :: outer) (hideAll s.heap (news.map (·.1))) := Gnd.of X T B F N hA hf hke
  obtain ⟨FG, _, _, _⟩ := groundX (R := fun _ _ => True) B F N hA hf hke
  refine wpAny_call (code_le (parse_raise (own := news) (G.frames hA.symm) (stays_hide _) (fun q hq => (N q hq).1) (fun q hq => hideAll_none _ (List.mem_map_of_mem hq)) hlen h257 fun h' tk e t R hu => ?_) hh.symm hdp hA.symm rfl hun)
  exact h h' tk e t _ R FG hu
theorem str257 : Str.ofString "257" = ⟨#[50, 53, 55]⟩ := by decide +kernel
theorem str_bq : Str.ofString " \"" = ⟨#[32, 34]⟩ := by decide +kernel
theorem str_ext {a b : Str} (h : a.cps.toList = b.cps.toList) : a = b := by
  cases a with
  | mk x => cases b with
    | mk y => exact congrArg Str.mk (Array.ext' h)
section
variable {reply body : Str} (hre : reply.cps.toList = [50, 53, 55, 32, 34] ++ body.cps.toList)
include hre
theorem slice_ok {k : Int} (h : 3 ≤ k) : (Txt.slice (Txt.slice reply none (some k)) none (some 3) != Str.ofString "257") = false := by
  have : Txt.slice (Txt.slice reply none (some k)) none (some 3) = Str.ofString "257" := by
    refine str_ext ?_
    have hm : (3 : Int).toNat ≤ k.toNat := Int.toNat_le_toNat h
    rw [slice_to _ (by decide), slice_to _ (Int.le_trans (by decide) h), hre, List.take_take, str257, Nat.min_eq_left hm]
    rfl
  rw [this]; decide +kernel
theorem slice_name {k : Int} (h : 3 ≤ k) {d : Str} (hd : d.cps.toList = (if Txt.slice (Txt.slice reply none (some k)) (some 3) (some 5) = Str.ofString " \"" then parseTail ((Txt.slice reply none (some k)).cps.toList.drop 5) else [])) : d.cps.toList = parseTail (body.cps.toList.take (k.toNat - 5)) := by
  rw [hd]
  have h0 : 0 ≤ k := Int.le_trans (by decide) h
  by_cases h5 : 5 ≤ k
  · rw [if_pos ?_, slice_to _ h0, hre]
    · congr 1
      rw [List.drop_take]
      rfl
    · refine str_ext ?_
      have hm : ((5 : Int) - 3).toNat ≤ k.toNat - (3 : Int).toNat := Nat.sub_le_sub_right (Int.toNat_le_toNat h5) 3
      rw [slice_mid _ (by decide) (by decide), slice_to _ h0, hre, str_bq, List.drop_take, List.take_take, Nat.min_eq_left hm]
      rfl
  · have hk : k.toNat ≤ (4 : Int).toNat := Int.toNat_le_toNat (Int.le_of_lt_add_one (b := 4) (Int.not_le.mp h5))
    rw [if_neg ?_]
    · rw [show k.toNat - 5 = 0 from Nat.sub_eq_zero_of_le (Nat.le_succ_of_le hk), List.take_zero]
      simp [parseTail]
    · intro e
      have e2 : ((Txt.slice (Txt.slice reply none (some k)) (some 3) (some 5)).cps.toList).length = 2 := by rw [e]; decide +kernel
      rw [slice_mid _ (by decide) (by decide), slice_to _ h0, List.length_take, List.length_drop, List.length_take] at e2
      have e3 := Nat.le_trans (Nat.le_of_eq e2.symm) (Nat.min_le_right _ _)
      exact absurd (Nat.le_trans e3 (Nat.sub_le_sub_right (Nat.le_trans (Nat.min_le_left _ _) hk) 3)) (by decide)
end
set_option maxRecDepth 100000 in
set_option maxHeartbeats 8000000 in
theorem try_ok {w : World} {p : Program} {loose : List Str} {mean : ExcName → Option Value} {mg mb : Str → Option Value} {h₀ : Heap} {L fa : Addr} {s : Shared} {Q : Flow → Shared → Prop} {E : Value → Shared → Prop}
    {u : Str → Option Value} {reply body : Str} {tr t : Tok} {k : Int} {news : List (Addr × Obj)}
    (X' : Frag.In (hd.heap_39 w.params) h₀) (T' : Top p loose mean mg mb h₀) (B' : Below callerA h₀ [] h₀)
    (hre : reply.cps.toList = [50, 53, 55, 32, 34] ++ body.cps.toList) (hlen : reply.length ≤ 900) (k3 : 3 ≤ k) (k9 : k ≤ 1000)
    (F : Fr h₀ L s.heap (kstB u [(Str.ofString "k", .int k t), (Str.ofString "reply", .str reply tr)])) (N : News h₀ L s.heap news)
    (hQ : ∀ h' tk d td, @LT.lt Nat _ 0 tk → d.cps.toList = parseTail (body.cps.toList.take (k.toNat - 5)) → Fr h₀ L h' (fun y => if y = Str.ofString "name" then some (.str d td) else kstB u [(Str.ofString "k", .int k t), (Str.ofString "reply", .str reply tr)] y) → News h₀ L h' news → Q .next { s with heap := h', toks := tk }) :
    wpAny (model PySem.Challenge.rw_rl0090_01.row.prog w) (callerA.deeper (lawEnv L fa)) (exec (stmtAt loop1 0) (lawEnv L fa)) Q E s := by
  revert X'
  w_top off
  k_fill
  intro X'
  have hsc : lawScope = lawScope := rfl
  conv at hsc => rhs; whnf
  have hb : stmtAt loop1 0 = stmtAt loop1 0 := rfl
  conv at hb => rhs; whnf
  rw [hb]
  show wpAny _ (callerA.deeper (envOfC (Str.ofString "law") lawScope L fa (.ref 148))) (exec _ (envOfC (Str.ofString "law") lawScope L fa (.ref 148))) _ _ _
  rw [hsc]
  clear hsc hb
  have h257 := slice_ok hre k3
  have hl2 : (Txt.slice reply none (some k)).length ≤ reply.length := Txt.slice_le _ _ _
  have hMk9 := kstMark
  refine wpAny_Try_except ?_
  k_fold
  repeat' ((fail_if_success (with_reducible show wpAny _ _ (pyIter _) _ _ _)); (fail_if_success (with_reducible show wpAny _ _ (exec (Stmt.While _ _ _ _) _) _ _ _)); (fail_if_success (with_reducible show KswEnd _ _ _ _ _ _ _ _ _ _ _ _)); (first | ((k_here; (with_reducible show wpAny _ _ (call (Value.ref _) [Value.str _ _] []) _ _ _); k_dflt (refine' use_parse ?B ?F ?X ?N ?T ?hA ?hf ?hk ?hh ?hd ?hu ?hl ?h7 ?_; (case hA => exact rfl); (case hf => exact rfl); (case hk => exact rfl); (case hh => exact rfl); (case B => k_asm); (case F => k_asm); (case X => k_asm); (case N => k_asm); (case T => k_asm); (case hd => exact Nat.le_of_ble_eq_true rfl); (case hu => exact Nat.le_of_ble_eq_true rfl); (case hl => omega); (case h7 => assumption); k_whole; intro h' tk' d' td' hd' F' N'))) | ((with_reducible show wpAny _ _ (execs (_ :: _) _) _ _ _); ((with_reducible refine wpAny_execs_cons ?_); try dsimp only)) | ((with_reducible show wpAny _ _ (execs [] _) _ _ _); (refine wpAny_execs_nil ?_; try dsimp only)) | ((k_here; (with_reducible show wpAny _ _ (call (Value.builtin "len") [Value.ref _]) _ _ _); k_dflt (refine' len_tup_ints ?k1 ?k2 ?k3 ?_; (case k1 => exact News.isTup (by k_asm) (by k_mem)); (case k2 => assumption); (case k3 => omega); k_whole))) | ((k_here; (with_reducible show wpAny _ _ (call (Value.type _) [Value.ref _]) _ _ _); k_dflt (refine' kde_tupleOf ?k1 ?k2 ?k3 ?k4 ?k5 ?_; (case k1 => k_asm); (case k2 => k_asm); (case k3 => exact News.isList (by k_asm) (by k_mem)); (case k4 => (have hL9 := IntsAre.length (by assumption); simp only [List.size_toArray]; omega)); (case k5 => exact rfl); k_whole); intro D' h' F' N' l1; (try k_lt l1); (try k_sweep))) | (k_unfold; (try dsimp only)) | (k_end; wrow_close) | walk1 | (dsimp only; walk1) | (leave1; walk_say "STEP leave1"; try dsimp only) | fail "no step"))
  rename News _ _ _ _ => NE
  exact hQ _ _ _ _ (Nat.succ_pos _) (slice_name hre k3 (by assumption)) (by k_asm) NE
end
-- MTryB
section
open PySem PySem.W PySem.Calls PyProof.Rows
theorem name_goesX {M : Model} {A : Around} {E : Value → Shared → Prop} {s : Shared} {h₀ : Heap} {L a : Addr} {m : Str → Option Value} {name n : Str} {scope : Scope} {cd : Value} {cl : List (Str × Addr)} {news : List (Addr × Obj)} {pos : Pos} {Q : Unit → Shared → Prop} (F : Fr h₀ L s.heap m) (N : News h₀ L s.heap news)
    (h : ∀ h' v, Fr h₀ L h' (fun x => if x = n then v else m x) → News h₀ L h' news → Q () { s with heap := h', toks := s.toks + 1 })
    (hk : scope.kind = .function) (hl : (envX name scope L a cd cl).kindOf n = some .local) :
    wpAny M A (do bindName (envX name scope L a cd cl) n .none; unbindBehindTheSuite (envX name scope L a cd cl) n pos) Q E s :=
  wpAny_nameGoes_keeps hl F.ns (by show (scope.kind == .class || (scope.kind == .module && L != mainGlobals)) = false; rw [hk]; rfl) fun h' v hn hs => h h' v (F.set hn hs) (N.set hs)
local macro_rules | `(tactic| k_all) => `(tactic| assumption)
set_option maxRecDepth 100000 in
theorem use_str {w : World} {h₀ : Heap} {L : Addr} {s : Shared} {A : Around} {m : Str → Option Value} {n₂ : List (Addr × Obj)} {e t : Addr} {x : Str} {u : Tok} {Q : Value → Shared → Prop} {E : Value → Shared → Prop}
    (hu : A.in1.in1.units < cLine) (X : Frag.In (hd.heap_39 w.params) h₀) (F : Fr h₀ L s.heap m) (N₂ : News h₀ L s.heap n₂) (G : Got n₂ e t (.ref 128) [.str x u]) (q : Q (.str x u) s) :
    wpAny (model PySem.Challenge.rw_rl0090_01.row.prog w) A (call (.type "str") [.ref e]) Q E s := by
  obtain ⟨oe, ot, ws, nt, me, mt, ec, ed, e0, tc, td⟩ := G
  revert X
  w_top off
  k_fill
  intro X
  exact str_own hu (X.keeps F.keep) (N₂ _ me).1 ec ed e0 ⟨ot, nt, (N₂ _ mt).1, tc, td⟩ (by k_is) (by k_is) q
set_option maxRecDepth 100000 in
set_option maxHeartbeats 8000000 in
theorem try_bad {w : World} {p : Program} {loose : List Str} {mean : ExcName → Option Value} {mg mb : Str → Option Value} {h₀ : Heap} {L fa : Addr} {s : Shared} {Q : Flow → Shared → Prop} {E : Value → Shared → Prop}
    {u : Str → Option Value} {reply : Str} {tr t : Tok} {k : Int} {rf : Addr} {ps : List Addr} {n : Nat} {rest : List (Addr × Obj)}
    (X' : Frag.In (hd.heap_39 w.params) h₀) (T' : Top p loose mean mg mb h₀) (B' : Below callerA h₀ [] h₀)
    (h257 : (Txt.slice (Txt.slice reply none (some k)) none (some 3) != Str.ofString "257") = true) (hlen : reply.length ≤ 900) (k0 : 0 ≤ k) (k9 : k ≤ 1000)
    (F : Fr h₀ L s.heap (kstB u [(Str.ofString "k", .int k t), (Str.ofString "reply", .str reply tr), (Str.ofString "refused", .ref rf)])) (N : News h₀ L s.heap ((rf, W.listOf (ps.map Value.ref).toArray n) :: rest)) (hne : ∀ q ∈ rest, q.1 ≠ rf) (hps : ps.length ≤ 900)
    (hQ : ∀ h' tk tp t1 t2 tn ve we n', @LT.lt Nat _ 0 tk → @LT.lt Nat _ rf tp → (∀ q ∈ rest, @LT.lt Nat _ q.1 tp) →
      Fr h₀ L h' (fun x => if x = Str.ofString "error" then ve else if x = Str.ofString "name" then some (.str (Str.ofString "") tn) else if x = Str.ofString "error" then some we else kstB u [(Str.ofString "k", .int k t), (Str.ofString "reply", .str reply tr), (Str.ofString "refused", .ref rf)] x) →
      News h₀ L h' ((tp, { cls := .type "tuple", data := .seq #[.int k t1, .str (Txt.slice reply none (some k)) t2] }) :: (rf, W.listOf ((ps ++ [tp]).map Value.ref).toArray n') :: rest) → Q .next { s with heap := h', toks := tk }) :
    wpAny (model PySem.Challenge.rw_rl0090_01.row.prog w) (callerA.deeper (lawEnv L fa)) (exec (stmtAt loop1 0) (lawEnv L fa)) Q E s := by
  revert X'
  w_top off
  k_fill
  intro X'
  have hsc : lawScope = lawScope := rfl
  conv at hsc => rhs; whnf
  have hb : stmtAt loop1 0 = stmtAt loop1 0 := rfl
  conv at hb => rhs; whnf
  rw [hb]
  show wpAny _ (callerA.deeper (envOfC (Str.ofString "law") lawScope L fa (.ref 148))) (exec _ (envOfC (Str.ofString "law") lawScope L fa (.ref 148))) _ _ _
  rw [hsc]
  clear hsc hb
  have hl2 : (Txt.slice reply none (some k)).length ≤ reply.length := Txt.slice_le _ _ _
  have hMk9 := kstMark
  refine wpAny_Try_except ?_
  k_fold
  repeat' (first | ((k_here; (with_reducible show wpAny _ _ (call (Value.type "str") [Value.ref _]) _ _ _); k_dflt (refine' use_str ?u ?X ?F ?N ?G ?_; (case G => assumption); (case N => assumption); (case u => ((simp only [Around.in1_units, Around.deeper_units, Around.mark_units, callerA]); decide +kernel)); (case X => k_asm); (case F => k_asm); k_whole))) | ((k_here; (with_reducible show wpAny _ _ (call (Value.builtin _) [Value.ref _, _]) _ _ _); k_dflt (refine' append_K ?k1 ?k2 ?k3 ?_ ?z; (case k1 => k_asm); (case k2 => k_asm); (case k3 => k_upd); (case z => (rw [sizeLine_eq]; simp only [List.size_toArray, List.length_map]; omega)); k_whole); intro h' F' N'; (try k_sweep))) | ((with_reducible show wpAny _ _ (do bindName (envX _ _ _ _ _ _) _ Value.none; unbindBehindTheSuite (envX _ _ _ _ _ _) _ _) _ _ _); (k_here; k_dflt (refine' name_goesX ?F ?N ?_ ?e1 ?e2; (case F => k_asm); (case N => k_asm); (case e1 => rfl); (case e2 => rfl); k_whole); intro h' v' F' N')) | ((with_reducible show wpAny _ _ (noteFrame (Value.ref _) _) _ _ _); (k_here; (rename RaisedK _ _ _ _ _ _ _ _ => rkX); k_dflt (refine' caughtX (cl := cellsFrom _ _ _) (bmB := [.type "Exception", .type "BaseException", .type "object"]) (newId := "Exception.__new__") ?K ?F ?U rkX ?X (topRead_of ?T) ?ex ?q ?hb ?_ ?e1 ?e2 ?e3 ?e4; (case K => assumption); (case F => assumption); (case U => assumption); (case X => k_asm); (case T => k_asm); (case ex => k_is); (case q => k_exc); (case hb => rfl); (case e1 => rfl); (case e2 => rfl); (case e3 => rfl); (case e4 => rfl); k_whole); intro h' n₂ tk' F' N₂ G' N')) | ((k_here; (with_reducible show wpAny _ _ (call (Value.ref _) [Value.str _ _] []) _ _ _); k_dflt (refine' use_raise ?B ?F ?X ?N ?T ?hA ?hf ?hk ?hh ?hd ?hu ?hl ?h7 ?_; (case hA => exact rfl); (case hf => exact rfl); (case hk => exact rfl); (case hh => exact rfl); (case B => k_asm); (case F => k_asm); (case X => k_asm); (case N => k_asm); (case T => k_asm); (case hd => exact Nat.le_of_ble_eq_true rfl); (case hu => exact Nat.le_of_ble_eq_true rfl); (case hl => omega); (case h7 => assumption); k_whole; intro h' tk' e' t' hm' R' F' hu'))) | ((with_reducible show wpAny _ _ (execs (_ :: _) _) _ _ _); ((with_reducible refine wpAny_execs_cons ?_); try dsimp only)) | ((with_reducible show wpAny _ _ (execs [] _) _ _ _); (refine wpAny_execs_nil ?_; try dsimp only)) | (k_unfold; (try dsimp only)) | (k_end; wrow_close) | walk1 | (dsimp only; walk1) | fail "no step")
  rename News _ _ _ _ => NE
  rename Fr _ _ _ _ => FE
  have e9 : ∀ tp : Addr, (ps.map Value.ref).toArray.push (Value.ref tp) = ((ps ++ [tp]).map Value.ref).toArray := fun tp => by simp
  rw [e9] at NE
  exact hQ _ _ _ _ _ _ _ _ _ (Nat.succ_pos _) (And.left (by assumption)) (kst_ltOf (And.right (by assumption))) FE NE
end
-- MLoop1
section
open PySem PySem.W PySem.Calls PyProof.Rows
local macro_rules | `(tactic| k_all) => `(tactic| assumption)
set_option maxRecDepth 100000 in
set_option maxHeartbeats 8000000 in
theorem law_add {w : World} {p : Program} {loose : List Str} {mean : ExcName → Option Value} {mg mb : Str → Option Value} {h₀ : Heap} {L fa : Addr} {s : Shared} {Q : Flow → Shared → Prop} {E : Value → Shared → Prop}
    {u : Str → Option Value} {d : Str} {td : Tok} {ld : Addr} {xs : List Addr} {n : Nat} {rest : List (Addr × Obj)}
    (X' : Frag.In (hd.heap_39 w.params) h₀) (T' : Top p loose mean mg mb h₀) (B' : Below callerA h₀ [] h₀)
    (F : Fr h₀ L s.heap (kstB u [(Str.ofString "name", .str d td), (Str.ofString "leads", .ref ld)])) (hdl : d.length ≤ 900) (hds : (Txt.replace d (Str.ofString "\"") (Str.ofString "\t")).cps.size ≤ 1000) (htk : @LT.lt Nat _ 0 s.toks) (hxs : xs.length ≤ 900)
    (N : News h₀ L s.heap ((ld, W.listOf (xs.map Value.ref).toArray n) :: rest)) (hne : ∀ q ∈ rest, q.1 ≠ ld)
    (hQ : ∀ h' tk (r : WsR), r.Ok → r.raw = Txt.replace d (Str.ofString "\"") (Str.ofString "\t") → @LT.lt Nat _ ld r.dx → (∀ q ∈ rest, @LT.lt Nat _ q.1 r.dx) → Fr h₀ L h' (kstB u [(Str.ofString "name", .str d td), (Str.ofString "leads", .ref ld)]) → News h₀ L h' (r.led w ++ (ld, W.listOf ((xs ++ [r.x]).map Value.ref).toArray (n + 1)) :: rest) → Q .next { s with heap := h', toks := tk }) :
    wpAny (model PySem.Challenge.rw_rl0090_01.row.prog w) (callerA.deeper (lawEnv L fa)) (exec (stmtAt loop1 1) (lawEnv L fa)) Q E s := by
  revert X'
  w_top off
  k_fill
  intro X'
  have hsc : lawScope = lawScope := rfl
  conv at hsc => rhs; whnf
  have hb : stmtAt loop1 1 = stmtAt loop1 1 := rfl
  conv at hb => rhs; whnf
  rw [hb]
  show wpAny _ (callerA.deeper (envOfC (Str.ofString "law") lawScope L fa (.ref 148))) (exec _ (envOfC (Str.ofString "law") lawScope L fa (.ref 148))) _ _ _
  rw [hsc]
  clear hsc hb
  have hMk9 := kstMark
  repeat' (first | ((k_here; (with_reducible show wpAny _ _ (call (Value.ref _) [Value.str _ _] []) _ _ _); k_dflt (refine' use_ws ?B ?F ?X ?N ?T ?hA ?hf ?hk ?hh ?hd ?hu ?hr ?_; (case hA => exact rfl); (case hf => exact rfl); (case hk => exact rfl); (case hh => exact rfl); (case B => k_asm); (case F => k_asm); (case X => k_asm); (case N => k_asm); (case T => k_asm); (case hd => exact Nat.le_of_ble_eq_true rfl); (case hu => exact Nat.le_of_ble_eq_true rfl); (case hr => assumption); k_whole; intro h' tk' r' ok' er' F' N' l1'; (have l2' := l1' _ (.head _)); (have o1' := WsR.Ok.h1 ok'); (have o2' := WsR.Ok.h2 ok'); (have o3' := WsR.Ok.h3 ok'); (dsimp only [WsR.led, List.cons_append, List.nil_append] at N'); (dsimp only at l2')))) | ((k_here; (with_reducible show wpAny _ _ (call (Value.builtin _) [Value.ref _, _]) _ _ _); k_dflt (refine' append_K ?k1 ?k2 ?k3 ?_ ?z; (case k1 => k_asm); (case k2 => k_asm); (case k3 => k_upd); (case z => (rw [sizeLine_eq]; simp only [List.size_toArray, List.length_map]; omega)); k_whole); intro h' F' N'; (try k_sweep))) | ((with_reducible show wpAny _ _ (call (Value.builtin "str.replace") _ _) _ _ _); (k_here; k_dflt (refine' SC.replaceW ?u ?v ?uv ?yz ?hx ?hz ?_; (case u => (show @Ne Nat _ _; first | exact Nat.succ_ne_zero _ | exact Nat.ne_of_gt (by assumption) | omega)); (case v => (show @Ne Nat _ _; first | exact Nat.succ_ne_zero _ | exact Nat.ne_of_gt (by assumption) | omega)); (case uv => (show @Ne Nat _ _; first | exact Nat.ne_of_lt (Nat.lt_succ_self _) | omega)); (case yz => decide +kernel); (case hx => omega); (case hz => decide +kernel)); intro t8 k8)) | (k_unfold; (try dsimp only)) | (k_end; wrow_close) | walk1 | (dsimp only; walk1) | fail "no step")
  rename News _ _ _ _ => NE
  have e9 : ∀ tp : Addr, (xs.map Value.ref).toArray.push (Value.ref tp) = ((xs ++ [tp]).map Value.ref).toArray := fun tp => by simp
  rw [e9] at NE
  exact hQ _ _ _ (by assumption) (by assumption) (by assumption) (fun q hq => by have l9 := (by assumption : ∀ q ∈ (ld, _) :: rest, @LT.lt Nat _ q.1 _); exact l9 q (.tail _ hq)) (by k_asm) NE
end
-- MLoopA
section
open PySem PySem.W PySem.Calls PyProof.Rows
set_option maxRecDepth 100000
theorem kst_self {m : Str → Option Value} {ps : List (Str × Value)} (hk : ∀ q ∈ ps, m q.1 = some q.2) : kstB m ps = m := funext fun z => kstB_eq hk fun _ => rfl
theorem slice_bad {reply body : Str} (hre : reply.cps.toList = [50, 53, 55, 32, 34] ++ body.cps.toList) {k : Int} (h0 : 0 ≤ k) (h : k < 3) : (Txt.slice (Txt.slice reply none (some k)) none (some 3) != Str.ofString "257") = true := by
  rw [bne_iff_ne]
  intro e
  have e2 : ((Txt.slice (Txt.slice reply none (some k)) none (some 3)).cps.toList).length = 3 := by rw [e]; decide +kernel
  rw [slice_to _ (by decide), slice_to _ h0, List.length_take, List.length_take] at e2
  omega
abbrev tupO (reply : Str) (j : Nat) (t1 t2 : Tok) : Obj := { cls := .type "tuple", data := .seq #[.int ((j : Nat) : Int) t1, .str (Txt.slice reply none (some ((j : Nat) : Int))) t2] }
/-- the state of the first loop -/
structure L1 where
  ps : List Addr
  tps : List (Addr × Obj)
  nR : Nat
  ws : List WsR
  nL : Nat
def L1.more (w : World) (c : L1) : List (Addr × Obj) := c.tps ++ c.ws.flatMap (WsR.led w)
def L1.led (w : World) (rf ld : Addr) (base : List (Addr × Obj)) (c : L1) : List (Addr × Obj) :=
  (rf, W.listOf (c.ps.map Value.ref).toArray c.nR) :: (ld, W.listOf ((c.ws.map WsR.x).map Value.ref).toArray c.nL) :: (c.more w ++ base)
structure L1.Inv (w : World) (reply body : Str) (rf ld : Addr) (base : List (Addr × Obj)) (i : Nat) (c : L1) : Prop where
  len : c.ws.length = i
  ws : ∀ (j : Nat) (r : WsR), c.ws[j]? = some r → r.Ok ∧ r.raw.cps.toList = tabs (parseTail (body.cps.toList.take (j - 5)))
  pl : c.ps.length = min i 3
  tup : ∀ (j : Nat) (p : Addr), c.ps[j]? = some p → ∃ t1 t2, (p, tupO reply j t1 t2) ∈ c.tps
  ap : ∀ q ∈ c.more w ++ base, q.1 ≠ rf ∧ q.1 ≠ ld
theorem L1.start {w : World} {reply body : Str} {rf ld : Addr} {base : List (Addr × Obj)} (hb : ∀ q ∈ base, q.1 ≠ rf ∧ q.1 ≠ ld) : L1.Inv w reply body rf ld base 0 ⟨[], [], 0, [], 0⟩ :=
  ⟨rfl, fun j r h => by simp at h, rfl, fun j p h => by simp at h, fun q hq => hb q (by simpa [L1.more] using hq)⟩
theorem L1.Inv.next {w : World} {reply body : Str} {rf ld : Addr} {base : List (Addr × Obj)} {i n n' : Nat} {c : L1} {r : WsR} (h : L1.Inv w reply body rf ld base i c) (h3 : 3 ≤ i) (ok : r.Ok) (hr : r.raw.cps.toList = tabs (parseTail (body.cps.toList.take (i - 5))))
    (ap : ∀ q ∈ r.led w, q.1 ≠ rf ∧ q.1 ≠ ld) : L1.Inv w reply body rf ld base (i + 1) ⟨c.ps, c.tps, n, c.ws ++ [r], n'⟩ := by
  refine ⟨by simp [h.len], fun j r' hj => ?_, by rw [h.pl]; omega, h.tup, fun q hq => ?_⟩
  · by_cases e : j < c.ws.length
    · exact h.ws j r' (by rw [List.getElem?_append_left e] at hj; exact hj)
    · by_cases e2 : j = c.ws.length
      · subst e2
        simp at hj
        subst hj
        rw [h.len]; exact ⟨ok, hr⟩
      · exfalso
        have : (c.ws ++ [r])[j]? = none := List.getElem?_eq_none (by simp; omega)
        rw [this] at hj; cases hj
  · simp only [L1.more, List.flatMap_append, List.flatMap_cons, List.flatMap_nil, List.append_nil, List.mem_append] at hq
    rcases hq with (hq | hq | hq) | hq
    · exact h.ap q (by simp only [L1.more, List.mem_append]; exact .inl (.inl hq))
    · exact h.ap q (by simp only [L1.more, List.mem_append]; exact .inl (.inr hq))
    · exact ap q hq
    · exact h.ap q (by simp only [L1.more, List.mem_append]; exact .inr hq)
theorem L1.Inv.nextB {w : World} {reply body : Str} {rf ld : Addr} {base : List (Addr × Obj)} {i n n' : Nat} {c : L1} {r : WsR} {tp : Addr} {t1 t2 : Tok} (h : L1.Inv w reply body rf ld base i c) (h3 : i < 3) (ok : r.Ok) (hr : r.raw.cps.toList = tabs (parseTail (body.cps.toList.take (i - 5))))
    (ap : ∀ q ∈ r.led w, q.1 ≠ rf ∧ q.1 ≠ ld) (ap' : tp ≠ rf ∧ tp ≠ ld) : L1.Inv w reply body rf ld base (i + 1) ⟨c.ps ++ [tp], (tp, tupO reply i t1 t2) :: c.tps, n, c.ws ++ [r], n'⟩ := by
  refine ⟨by simp [h.len], fun j r' hj => ?_, by rw [List.length_append, h.pl]; simp; omega, fun j p hj => ?_, fun q hq => ?_⟩
  · by_cases e : j < c.ws.length
    · exact h.ws j r' (by rw [List.getElem?_append_left e] at hj; exact hj)
    · by_cases e2 : j = c.ws.length
      · subst e2
        simp at hj
        subst hj
        rw [h.len]; exact ⟨ok, hr⟩
      · exfalso
        have : (c.ws ++ [r])[j]? = none := List.getElem?_eq_none (by simp; omega)
        rw [this] at hj; cases hj
  · have hl : c.ps.length = i := by rw [h.pl]; omega
    by_cases e : j < c.ps.length
    · obtain ⟨u1, u2, hm⟩ := h.tup j p (by rw [List.getElem?_append_left e] at hj; exact hj)
      exact ⟨u1, u2, .tail _ hm⟩
    · by_cases e2 : j = c.ps.length
      · subst e2
        simp at hj
        subst hj
        rw [hl]
        exact ⟨t1, t2, .head _⟩
      · exfalso
        have : (c.ps ++ [tp])[j]? = none := List.getElem?_eq_none (by simp; omega)
        rw [this] at hj; cases hj
  · simp only [L1.more, List.flatMap_append, List.flatMap_cons, List.flatMap_nil, List.append_nil, List.mem_append, List.mem_cons] at hq
    rcases hq with ((hq | hq) | hq | hq) | hq
    · subst hq; exact ap'
    · exact h.ap q (by simp only [L1.more, List.mem_append]; exact .inl (.inl hq))
    · exact h.ap q (by simp only [L1.more, List.mem_append]; exact .inl (.inr hq))
    · exact ap q (by simp only [WsR.led, List.mem_cons]; exact hq)
    · exact h.ap q (by simp only [L1.more, List.mem_append]; exact .inr hq)
theorem led_above {w : World} {r : WsR} (ok : r.Ok) {a : Addr} (h : @LT.lt Nat _ a r.dx) : ∀ q ∈ r.led w, q.1 ≠ a := by
  have o1 := ok.h1
  have o2 := ok.h2
  have o3 := ok.h3
  intro q hq
  simp only [WsR.led, List.mem_cons, List.not_mem_nil, or_false] at hq
  rcases hq with rfl | rfl | rfl | rfl <;> (dsimp only; show @Ne Nat _ _; (first | assumption | exact Ne.symm (by assumption) | exact Nat.ne_of_gt (by assumption) | exact Nat.ne_of_lt (by assumption) | exact Nat.ne_of_lt (Nat.lt_succ_self _) | exact Nat.ne_of_gt (Nat.lt_succ_self _) | exact Nat.ne_of_lt (Nat.lt_of_succ_lt (by assumption)) | exact Nat.ne_of_gt (Nat.lt_of_succ_lt (by assumption)) | exact Nat.ne_of_lt (Nat.lt_succ_of_lt (by assumption)) | exact Nat.ne_of_gt (Nat.lt_succ_of_lt (by assumption)) | exact Nat.ne_of_lt (Nat.lt_succ_of_lt (Nat.lt_succ_of_lt (by assumption))) | omega))
theorem replace_len (d : Str) : (Txt.replace d (Str.ofString "\"") (Str.ofString "\t")).cps.size = d.cps.size := by
  rw [quote_str, tab_str]
  have := congrArg List.length (replace_tabs d)
  simpa [tabs] using this
theorem parse_len : ∀ (k : Nat) (l : List Nat), l.length ≤ k → (parseTail l).length ≤ l.length
  | _, [], _ => by simp [parseTail]
  | 0, _ :: _, h => by simp at h
  | k + 1, c :: r, h => by
    have hr : r.length ≤ k := by simpa using h
    by_cases q : c = 34
    · subst q
      cases r with
      | nil => simp [parse_q_nil]
      | cons d r' =>
        by_cases q2 : d = 34
        · subst q2
          rw [parse_q_q]
          have := parse_len k r' (by simp at hr; omega)
          simp; omega
        · rw [parse_q_o q2]; simp
    · rw [parse_o q]
      have := parse_len k r hr
      simp; omega
end
-- MLoopB
section
open PySem PySem.W PySem.Calls PyProof.Rows
set_option maxRecDepth 100000 in
set_option maxHeartbeats 8000000 in
theorem loop1_turn {w : World} {p : Program} {loose : List Str} {mean : ExcName → Option Value} {mg mb : Str → Option Value} {h₀ : Heap} {L fa : Addr} {s : Shared} {Q : Flow → Shared → Prop} {E : Value → Shared → Prop} {m : Str → Option Value}
    {reply body : Str} {tr t : Tok} {rf ld : Addr} {base : List (Addr × Obj)} {i : Nat} {c : L1} {I : Addr} {oI : Obj}
    (X' : Frag.In (hd.heap_39 w.params) h₀) (T' : Top p loose mean mg mb h₀) (B' : Below callerA h₀ [] h₀)
    (hre : reply.cps.toList = [50, 53, 55, 32, 34] ++ body.cps.toList) (hlen : reply.length ≤ 30) (hi : i ≤ 30) (hrl : rf ≠ ld)
    (m1 : m (Str.ofString "k") = some (.int (i : Int) t)) (m2 : m (Str.ofString "reply") = some (.str reply tr)) (m3 : m (Str.ofString "refused") = some (.ref rf)) (m4 : m (Str.ofString "leads") = some (.ref ld))
    (hInv : L1.Inv w reply body rf ld base i c) (hI : AllNe I (c.led w rf ld base))
    (F : Fr h₀ L s.heap m) (N : News h₀ L s.heap ((I, oI) :: c.led w rf ld base))
    (hQ : ∀ h' tk m' c', L1.Inv w reply body rf ld base (i + 1) c' → Fr h₀ L h' m' → News h₀ L h' ((I, oI) :: c'.led w rf ld base) → AllNe I (c'.led w rf ld base) →
      (∀ z, z ≠ Str.ofString "name" → z ≠ Str.ofString "error" → m' z = m z) → Q .next { s with heap := h', toks := tk }) :
    wpAny (model PySem.Challenge.rw_rl0090_01.row.prog w) (callerA.deeper (lawEnv L fa)) (execs [stmtAt loop1 0, stmtAt loop1 1] (lawEnv L fa)) Q E s := by
  have hIr : I ≠ rf := fun e => of_allNe hI _ (.head _) e.symm
  have hIl : I ≠ ld := fun e => of_allNe hI _ (.tail _ (.head _)) e.symm
  have hIm : ∀ q ∈ c.more w ++ base, q.1 ≠ I := fun q hq => of_allNe hI q (.tail _ (.tail _ hq))
  refine wpAny_execs_cons ?_
  by_cases h3 : i < 3
  · -- refused
    have hk : ∀ q ∈ [(Str.ofString "k", Value.int (i : Int) t), (Str.ofString "reply", .str reply tr), (Str.ofString "refused", .ref rf)], m q.1 = some q.2 := by
      exact List.forall_mem_cons.mpr ⟨m1, List.forall_mem_cons.mpr ⟨m2, List.forall_mem_cons.mpr ⟨m3, List.forall_mem_nil _⟩⟩⟩
    refine try_bad (ps := c.ps) (n := c.nR) (rest := (ld, W.listOf ((c.ws.map WsR.x).map Value.ref).toArray c.nL) :: (I, oI) :: (c.more w ++ base)) X' T' B' (slice_bad hre (by omega) (by omega)) (by omega) (by omega) (by omega) (fr_as _ F hk) (fun q hq => N q ?_) ?_ (by rw [hInv.pl]; omega) ?_
    · simp only [L1.led, List.mem_cons] at hq ⊢; ((repeat' (refine Or.elim hq (fun hq => ?_) (fun hq => ?_))) <;> (repeat (first | exact hq | exact absurd hq List.not_mem_nil | exact Or.inl hq | exact Or.inl (Or.inl hq) | exact Or.inl (Or.inr hq) | exact Or.inl (Or.inr (Or.inl hq)) | exact Or.inl (Or.inr (Or.inr hq)) | exact Or.inl (Or.inr (Or.inr (Or.inl hq))) | exact Or.inl (Or.inr (Or.inr (Or.inr hq))) | exact Or.inl (Or.inr (Or.inr (Or.inr (Or.inl hq)))) | exact Or.inl (Or.inr (Or.inr (Or.inr (Or.inr hq)))) | exact Or.inl (Or.inr (Or.inr (Or.inr (Or.inr (Or.inl hq))))) | exact Or.inl (Or.inr (Or.inr (Or.inr (Or.inr (Or.inr hq))))) | exact Or.inl (Or.inr (Or.inr (Or.inr (Or.inr (Or.inr (Or.inl hq)))))) | exact Or.inl (Or.inr (Or.inr (Or.inr (Or.inr (Or.inr (Or.inr hq)))))) | exact Or.inl (Or.inr (Or.inr (Or.inr (Or.inr (Or.inr (Or.inr (Or.inl hq))))))) | exact Or.inl (Or.inr (Or.inr (Or.inr (Or.inr (Or.inr (Or.inr (Or.inr hq))))))) | exact Or.inl (Or.inr (Or.inr (Or.inr (Or.inr (Or.inr (Or.inr (Or.inr (Or.inl hq)))))))) | exact Or.inl (Or.inr (Or.inr (Or.inr (Or.inr (Or.inr (Or.inr (Or.inr (Or.inr hq)))))))) | exact Or.inl (Or.inr (Or.inr (Or.inr (Or.inr (Or.inr (Or.inr (Or.inr (Or.inr (Or.inl hq))))))))) | exact Or.inl (Or.inl (Or.inr hq)) | exact Or.inl (Or.inl (Or.inr (Or.inl hq))) | exact Or.inl (Or.inl (Or.inr (Or.inr hq))) | exact Or.inl (Or.inl (Or.inr (Or.inr (Or.inl hq)))) | exact Or.inl (Or.inl (Or.inr (Or.inr (Or.inr hq)))) | exact Or.inl (Or.inl (Or.inr (Or.inr (Or.inr (Or.inl hq))))) | exact Or.inl (Or.inl (Or.inr (Or.inr (Or.inr (Or.inr hq))))) | exact Or.inl (Or.inl (Or.inr (Or.inr (Or.inr (Or.inr (Or.inl hq)))))) | exact Or.inl (Or.inl (Or.inr (Or.inr (Or.inr (Or.inr (Or.inr hq)))))) | exact Or.inl (Or.inl (Or.inr (Or.inr (Or.inr (Or.inr (Or.inr (Or.inl hq))))))) | refine Or.inr ?_)))
    · intro q hq
      simp only [List.mem_cons] at hq
      rcases hq with rfl | rfl | hq
      · exact hrl.symm
      · exact hIr
      · exact (hInv.ap q hq).1
    · intro h₁ tk₁ tp t1 t2 tn ve we n₁ htk l1 l2 F1 N1
      rw [kst_self hk] at F1
      dsimp only
      refine wpAny_execs_cons ?_
      have hk1 : ∀ q ∈ [(Str.ofString "name", Value.str (Str.ofString "") tn), (Str.ofString "leads", .ref ld)], (fun x => if x = Str.ofString "error" then ve else if x = Str.ofString "name" then some (Value.str (Str.ofString "") tn) else if x = Str.ofString "error" then some we else m x) q.1 = some q.2 := by
        refine List.forall_mem_cons.mpr ⟨?_, List.forall_mem_cons.mpr ⟨?_, List.forall_mem_nil _⟩⟩
        · dsimp only; rw [if_neg (by decide +kernel)]; exact if_pos rfl
        · dsimp only; rw [if_neg (by decide +kernel), if_neg (by decide +kernel), if_neg (by decide +kernel)]; exact m4
      refine law_add (n := c.nL) (xs := c.ws.map WsR.x) (rest := (tp, tupO reply i t1 t2) :: (rf, W.listOf ((c.ps ++ [tp]).map Value.ref).toArray n₁) :: (I, oI) :: (c.more w ++ base)) X' T' B' (fr_as _ F1 hk1) (by decide +kernel) (by decide +kernel) htk (by rw [List.length_map, hInv.len]; omega) (fun q hq => N1 q ?_) ?_ ?_
      · simp only [List.mem_cons] at hq ⊢; ((repeat' (refine Or.elim hq (fun hq => ?_) (fun hq => ?_))) <;> (repeat (first | exact hq | exact absurd hq List.not_mem_nil | exact Or.inl hq | exact Or.inl (Or.inl hq) | exact Or.inl (Or.inr hq) | exact Or.inl (Or.inr (Or.inl hq)) | exact Or.inl (Or.inr (Or.inr hq)) | exact Or.inl (Or.inr (Or.inr (Or.inl hq))) | exact Or.inl (Or.inr (Or.inr (Or.inr hq))) | exact Or.inl (Or.inr (Or.inr (Or.inr (Or.inl hq)))) | exact Or.inl (Or.inr (Or.inr (Or.inr (Or.inr hq)))) | exact Or.inl (Or.inr (Or.inr (Or.inr (Or.inr (Or.inl hq))))) | exact Or.inl (Or.inr (Or.inr (Or.inr (Or.inr (Or.inr hq))))) | exact Or.inl (Or.inr (Or.inr (Or.inr (Or.inr (Or.inr (Or.inl hq)))))) | exact Or.inl (Or.inr (Or.inr (Or.inr (Or.inr (Or.inr (Or.inr hq)))))) | exact Or.inl (Or.inr (Or.inr (Or.inr (Or.inr (Or.inr (Or.inr (Or.inl hq))))))) | exact Or.inl (Or.inr (Or.inr (Or.inr (Or.inr (Or.inr (Or.inr (Or.inr hq))))))) | exact Or.inl (Or.inr (Or.inr (Or.inr (Or.inr (Or.inr (Or.inr (Or.inr (Or.inl hq)))))))) | exact Or.inl (Or.inr (Or.inr (Or.inr (Or.inr (Or.inr (Or.inr (Or.inr (Or.inr hq)))))))) | exact Or.inl (Or.inr (Or.inr (Or.inr (Or.inr (Or.inr (Or.inr (Or.inr (Or.inr (Or.inl hq))))))))) | exact Or.inl (Or.inl (Or.inr hq)) | exact Or.inl (Or.inl (Or.inr (Or.inl hq))) | exact Or.inl (Or.inl (Or.inr (Or.inr hq))) | exact Or.inl (Or.inl (Or.inr (Or.inr (Or.inl hq)))) | exact Or.inl (Or.inl (Or.inr (Or.inr (Or.inr hq)))) | exact Or.inl (Or.inl (Or.inr (Or.inr (Or.inr (Or.inl hq))))) | exact Or.inl (Or.inl (Or.inr (Or.inr (Or.inr (Or.inr hq))))) | exact Or.inl (Or.inl (Or.inr (Or.inr (Or.inr (Or.inr (Or.inl hq)))))) | exact Or.inl (Or.inl (Or.inr (Or.inr (Or.inr (Or.inr (Or.inr hq)))))) | exact Or.inl (Or.inl (Or.inr (Or.inr (Or.inr (Or.inr (Or.inr (Or.inl hq))))))) | refine Or.inr ?_)))
      · intro q hq
        simp only [List.mem_cons] at hq
        have l2' := l2 _ (.head _)
        rcases hq with rfl | rfl | rfl | hq
        · dsimp only at l2' ⊢; show @Ne Nat _ _; omega
        · exact hrl
        · exact hIl
        · exact (hInv.ap q hq).2
      · intro h₂ tk₂ r ok er l3 l4 F2 N2
        rw [kst_self hk1] at F2
        have er2 : r.raw.cps.toList = tabs (parseTail (body.cps.toList.take (i - 5))) := by
          rw [er, show i - 5 = 0 by omega, List.take_zero]; decide +kernel
        have l5 := l4 _ (.head _)
        have l6 := l4 _ (.tail _ (.head _))
        have l7 := l4 _ (.tail _ (.tail _ (.head _)))
        have l8 := l2 _ (.head _)
        have l9 := l2 _ (.tail _ (.head _))
        dsimp only at l5 l6 l7 l8 l9
        refine wpAny_execs_nil ?_
        refine hQ h₂ tk₂ _ ⟨c.ps ++ [tp], (tp, tupO reply i t1 t2) :: c.tps, n₁, c.ws ++ [r], c.nL + 1⟩ (hInv.nextB h3 ok er2 (fun q hq => ⟨led_above ok l6 q hq, led_above ok l3 q hq⟩) ⟨?_, ?_⟩) F2 (fun q hq => N2 q ?_) (allNe_of fun q hq => ?_) fun z z1 z2 => ?_
        · show @Ne Nat _ _; omega
        · show @Ne Nat _ _; omega
        · simp only [L1.led, L1.more, List.flatMap_append, List.flatMap_cons, List.flatMap_nil, List.append_nil, List.map_append, List.map_cons, List.map_nil, List.mem_cons, List.mem_append] at hq ⊢
          ((repeat' (refine Or.elim hq (fun hq => ?_) (fun hq => ?_))) <;> (repeat (first | exact hq | exact absurd hq List.not_mem_nil | exact Or.inl hq | exact Or.inl (Or.inl hq) | exact Or.inl (Or.inr hq) | exact Or.inl (Or.inr (Or.inl hq)) | exact Or.inl (Or.inr (Or.inr hq)) | exact Or.inl (Or.inr (Or.inr (Or.inl hq))) | exact Or.inl (Or.inr (Or.inr (Or.inr hq))) | exact Or.inl (Or.inr (Or.inr (Or.inr (Or.inl hq)))) | exact Or.inl (Or.inr (Or.inr (Or.inr (Or.inr hq)))) | exact Or.inl (Or.inr (Or.inr (Or.inr (Or.inr (Or.inl hq))))) | exact Or.inl (Or.inr (Or.inr (Or.inr (Or.inr (Or.inr hq))))) | exact Or.inl (Or.inr (Or.inr (Or.inr (Or.inr (Or.inr (Or.inl hq)))))) | exact Or.inl (Or.inr (Or.inr (Or.inr (Or.inr (Or.inr (Or.inr hq)))))) | exact Or.inl (Or.inr (Or.inr (Or.inr (Or.inr (Or.inr (Or.inr (Or.inl hq))))))) | exact Or.inl (Or.inr (Or.inr (Or.inr (Or.inr (Or.inr (Or.inr (Or.inr hq))))))) | exact Or.inl (Or.inr (Or.inr (Or.inr (Or.inr (Or.inr (Or.inr (Or.inr (Or.inl hq)))))))) | exact Or.inl (Or.inr (Or.inr (Or.inr (Or.inr (Or.inr (Or.inr (Or.inr (Or.inr hq)))))))) | exact Or.inl (Or.inr (Or.inr (Or.inr (Or.inr (Or.inr (Or.inr (Or.inr (Or.inr (Or.inl hq))))))))) | exact Or.inl (Or.inl (Or.inr hq)) | exact Or.inl (Or.inl (Or.inr (Or.inl hq))) | exact Or.inl (Or.inl (Or.inr (Or.inr hq))) | exact Or.inl (Or.inl (Or.inr (Or.inr (Or.inl hq)))) | exact Or.inl (Or.inl (Or.inr (Or.inr (Or.inr hq)))) | exact Or.inl (Or.inl (Or.inr (Or.inr (Or.inr (Or.inl hq))))) | exact Or.inl (Or.inl (Or.inr (Or.inr (Or.inr (Or.inr hq))))) | exact Or.inl (Or.inl (Or.inr (Or.inr (Or.inr (Or.inr (Or.inl hq)))))) | exact Or.inl (Or.inl (Or.inr (Or.inr (Or.inr (Or.inr (Or.inr hq)))))) | exact Or.inl (Or.inl (Or.inr (Or.inr (Or.inr (Or.inr (Or.inr (Or.inl hq))))))) | refine Or.inr ?_)))
        · simp only [L1.led, L1.more, List.flatMap_append, List.flatMap_cons, List.flatMap_nil, List.append_nil, List.mem_cons, List.mem_append, List.cons_append] at hq
          rcases hq with rfl | rfl | rfl | hq
          · exact hIr.symm
          · exact hIl.symm
          · show @Ne Nat _ _; dsimp only; omega
          · rcases hq with (hq | hq | hq) | hq
            · exact hIm q (by simp only [L1.more, List.mem_append]; exact .inl (.inl hq))
            · exact hIm q (by simp only [L1.more, List.mem_append]; exact .inl (.inr hq))
            · exact led_above ok l7 q (by simp only [WsR.led, List.mem_cons]; exact hq)
            · exact hIm q (by simp only [L1.more, List.mem_append]; exact .inr hq)
        · show (if z = Str.ofString "error" then ve else if z = Str.ofString "name" then some (Value.str (Str.ofString "") tn) else if z = Str.ofString "error" then some we else m z) = m z
          rw [if_neg z2, if_neg z1, if_neg z2]
  · -- read
    have hk : ∀ q ∈ [(Str.ofString "k", Value.int (i : Int) t), (Str.ofString "reply", .str reply tr)], m q.1 = some q.2 := by
      exact List.forall_mem_cons.mpr ⟨m1, List.forall_mem_cons.mpr ⟨m2, List.forall_mem_nil _⟩⟩
    refine try_ok X' T' B' hre (by omega) (by omega) (by omega) (fr_as _ F hk) N ?_
    intro h₁ tk₁ d td htk hd F1 N1
    rw [kst_self hk] at F1
    dsimp only
    have hbl : body.cps.toList.length + 5 = reply.length := by
      have := congrArg List.length hre
      simp at this
      show _ = reply.cps.size
      simp; omega
    have hdl : d.cps.size ≤ 30 := by
      have h1 := congrArg List.length hd
      have h2 := parse_len _ (body.cps.toList.take ((i : Int).toNat - 5)) (Nat.le_refl _)
      rw [List.length_take] at h2
      have h3 : d.cps.toList.length = d.cps.size := by simp
      omega
    refine wpAny_execs_cons ?_
    have hk1 : ∀ q ∈ [(Str.ofString "name", Value.str d td), (Str.ofString "leads", .ref ld)], (fun x => if x = Str.ofString "name" then some (Value.str d td) else m x) q.1 = some q.2 := by
      refine List.forall_mem_cons.mpr ⟨?_, List.forall_mem_cons.mpr ⟨?_, List.forall_mem_nil _⟩⟩
      · exact if_pos rfl
      · dsimp only; rw [if_neg (by decide +kernel)]; exact m4
    refine law_add (n := c.nL) (xs := c.ws.map WsR.x) (rest := (rf, W.listOf (c.ps.map Value.ref).toArray c.nR) :: (I, oI) :: (c.more w ++ base)) X' T' B' (fr_as _ F1 hk1) (by show d.cps.size ≤ 900; omega) (by rw [replace_len]; omega) htk (by rw [List.length_map, hInv.len]; omega) (fun q hq => N1 q ?_) ?_ ?_
    · simp only [L1.led, List.mem_cons] at hq ⊢; ((repeat' (refine Or.elim hq (fun hq => ?_) (fun hq => ?_))) <;> (repeat (first | exact hq | exact absurd hq List.not_mem_nil | exact Or.inl hq | exact Or.inl (Or.inl hq) | exact Or.inl (Or.inr hq) | exact Or.inl (Or.inr (Or.inl hq)) | exact Or.inl (Or.inr (Or.inr hq)) | exact Or.inl (Or.inr (Or.inr (Or.inl hq))) | exact Or.inl (Or.inr (Or.inr (Or.inr hq))) | exact Or.inl (Or.inr (Or.inr (Or.inr (Or.inl hq)))) | exact Or.inl (Or.inr (Or.inr (Or.inr (Or.inr hq)))) | exact Or.inl (Or.inr (Or.inr (Or.inr (Or.inr (Or.inl hq))))) | exact Or.inl (Or.inr (Or.inr (Or.inr (Or.inr (Or.inr hq))))) | exact Or.inl (Or.inr (Or.inr (Or.inr (Or.inr (Or.inr (Or.inl hq)))))) | exact Or.inl (Or.inr (Or.inr (Or.inr (Or.inr (Or.inr (Or.inr hq)))))) | exact Or.inl (Or.inr (Or.inr (Or.inr (Or.inr (Or.inr (Or.inr (Or.inl hq))))))) | exact Or.inl (Or.inr (Or.inr (Or.inr (Or.inr (Or.inr (Or.inr (Or.inr hq))))))) | exact Or.inl (Or.inr (Or.inr (Or.inr (Or.inr (Or.inr (Or.inr (Or.inr (Or.inl hq)))))))) | exact Or.inl (Or.inr (Or.inr (Or.inr (Or.inr (Or.inr (Or.inr (Or.inr (Or.inr hq)))))))) | exact Or.inl (Or.inr (Or.inr (Or.inr (Or.inr (Or.inr (Or.inr (Or.inr (Or.inr (Or.inl hq))))))))) | exact Or.inl (Or.inl (Or.inr hq)) | exact Or.inl (Or.inl (Or.inr (Or.inl hq))) | exact Or.inl (Or.inl (Or.inr (Or.inr hq))) | exact Or.inl (Or.inl (Or.inr (Or.inr (Or.inl hq)))) | exact Or.inl (Or.inl (Or.inr (Or.inr (Or.inr hq)))) | exact Or.inl (Or.inl (Or.inr (Or.inr (Or.inr (Or.inl hq))))) | exact Or.inl (Or.inl (Or.inr (Or.inr (Or.inr (Or.inr hq))))) | exact Or.inl (Or.inl (Or.inr (Or.inr (Or.inr (Or.inr (Or.inl hq)))))) | exact Or.inl (Or.inl (Or.inr (Or.inr (Or.inr (Or.inr (Or.inr hq)))))) | exact Or.inl (Or.inl (Or.inr (Or.inr (Or.inr (Or.inr (Or.inr (Or.inl hq))))))) | refine Or.inr ?_)))
    · intro q hq
      simp only [List.mem_cons] at hq
      rcases hq with rfl | rfl | hq
      · exact hrl
      · exact hIl
      · exact (hInv.ap q hq).2
    · intro h₂ tk₂ r ok er l3 l4 F2 N2
      rw [kst_self hk1] at F2
      have er2 : r.raw.cps.toList = tabs (parseTail (body.cps.toList.take (i - 5))) := by
        rw [er, quote_str, tab_str, replace_tabs, hd, show (i : Int).toNat = i by omega]
      have l6 := l4 _ (.head _)
      have l7 := l4 _ (.tail _ (.head _))
      dsimp only at l6 l7
      refine wpAny_execs_nil ?_
      refine hQ h₂ tk₂ _ ⟨c.ps, c.tps, c.nR, c.ws ++ [r], c.nL + 1⟩ (hInv.next (by omega) ok er2 (fun q hq => ⟨led_above ok l6 q hq, led_above ok l3 q hq⟩)) F2 (fun q hq => N2 q ?_) (allNe_of fun q hq => ?_) fun z z1 z2 => ?_
      · simp only [L1.led, L1.more, List.flatMap_append, List.flatMap_cons, List.flatMap_nil, List.append_nil, List.map_append, List.map_cons, List.map_nil, List.mem_cons, List.mem_append] at hq ⊢
        ((repeat' (refine Or.elim hq (fun hq => ?_) (fun hq => ?_))) <;> (repeat (first | exact hq | exact absurd hq List.not_mem_nil | exact Or.inl hq | exact Or.inl (Or.inl hq) | exact Or.inl (Or.inr hq) | exact Or.inl (Or.inr (Or.inl hq)) | exact Or.inl (Or.inr (Or.inr hq)) | exact Or.inl (Or.inr (Or.inr (Or.inl hq))) | exact Or.inl (Or.inr (Or.inr (Or.inr hq))) | exact Or.inl (Or.inr (Or.inr (Or.inr (Or.inl hq)))) | exact Or.inl (Or.inr (Or.inr (Or.inr (Or.inr hq)))) | exact Or.inl (Or.inr (Or.inr (Or.inr (Or.inr (Or.inl hq))))) | exact Or.inl (Or.inr (Or.inr (Or.inr (Or.inr (Or.inr hq))))) | exact Or.inl (Or.inr (Or.inr (Or.inr (Or.inr (Or.inr (Or.inl hq)))))) | exact Or.inl (Or.inr (Or.inr (Or.inr (Or.inr (Or.inr (Or.inr hq)))))) | exact Or.inl (Or.inr (Or.inr (Or.inr (Or.inr (Or.inr (Or.inr (Or.inl hq))))))) | exact Or.inl (Or.inr (Or.inr (Or.inr (Or.inr (Or.inr (Or.inr (Or.inr hq))))))) | exact Or.inl (Or.inr (Or.inr (Or.inr (Or.inr (Or.inr (Or.inr (Or.inr (Or.inl hq)))))))) | exact Or.inl (Or.inr (Or.inr (Or.inr (Or.inr (Or.inr (Or.inr (Or.inr (Or.inr hq)))))))) | exact Or.inl (Or.inr (Or.inr (Or.inr (Or.inr (Or.inr (Or.inr (Or.inr (Or.inr (Or.inl hq))))))))) | exact Or.inl (Or.inl (Or.inr hq)) | exact Or.inl (Or.inl (Or.inr (Or.inl hq))) | exact Or.inl (Or.inl (Or.inr (Or.inr hq))) | exact Or.inl (Or.inl (Or.inr (Or.inr (Or.inl hq)))) | exact Or.inl (Or.inl (Or.inr (Or.inr (Or.inr hq)))) | exact Or.inl (Or.inl (Or.inr (Or.inr (Or.inr (Or.inl hq))))) | exact Or.inl (Or.inl (Or.inr (Or.inr (Or.inr (Or.inr hq))))) | exact Or.inl (Or.inl (Or.inr (Or.inr (Or.inr (Or.inr (Or.inl hq)))))) | exact Or.inl (Or.inl (Or.inr (Or.inr (Or.inr (Or.inr (Or.inr hq)))))) | exact Or.inl (Or.inl (Or.inr (Or.inr (Or.inr (Or.inr (Or.inr (Or.inl hq))))))) | refine Or.inr ?_)))
      · simp only [L1.led, L1.more, List.flatMap_append, List.flatMap_cons, List.flatMap_nil, List.append_nil, List.mem_cons, List.mem_append, List.cons_append] at hq
        rcases hq with rfl | rfl | hq
        · exact hIr.symm
        · exact hIl.symm
        · rcases hq with (hq | hq | hq) | hq
          · exact hIm q (by simp only [L1.more, List.mem_append]; exact .inl (.inl hq))
          · exact hIm q (by simp only [L1.more, List.mem_append]; exact .inl (.inr hq))
          · exact led_above ok l7 q (by simp only [WsR.led, List.mem_cons]; exact hq)
          · exact hIm q (by simp only [L1.more, List.mem_append]; exact .inr hq)
      · show (if z = Str.ofString "name" then some (Value.str d td) else m z) = m z
        rw [if_neg z1]
end
-- MLoopC
section
open PySem PySem.W PySem.Calls PyProof.Rows
set_option maxRecDepth 100000 in
set_option maxHeartbeats 8000000 in
theorem law_loop1 {w : World} {p : Program} {loose : List Str} {mean : ExcName → Option Value} {mg mb : Str → Option Value} {h₀ : Heap} {L fa : Addr} {s : Shared} {Q : Flow → Shared → Prop} {E : Value → Shared → Prop}
    {u : Str → Option Value} {reply body : Str} {tr : Tok} {rf ld : Addr} {base : List (Addr × Obj)}
    (X' : Frag.In (hd.heap_39 w.params) h₀) (T' : Top p loose mean mg mb h₀) (B' : Below callerA h₀ [] h₀)
    (F : Fr h₀ L s.heap (kstB u [(Str.ofString "reply", .str reply tr), (Str.ofString "refused", .ref rf), (Str.ofString "leads", .ref ld)])) (hre : reply.cps.toList = [50, 53, 55, 32, 34] ++ body.cps.toList) (hlen : reply.length ≤ 29) (hrl : rf ≠ ld)
    (N : News h₀ L s.heap ((rf, W.listOf #[] 0) :: (ld, W.listOf #[] 0) :: base)) (hb : ∀ q ∈ base, q.1 ≠ rf ∧ q.1 ≠ ld)
    (hE : PassesOwn (model PySem.Challenge.rw_rl0090_01.row.prog w) (callerA.deeper (lawEnv L fa)) (lawEnv L fa) E)
    (hQ : ∀ h' tk m' c, L1.Inv w reply body rf ld base (reply.length + 1) c → Fr h₀ L h' m' → News h₀ L h' (c.led w rf ld base) →
      (∀ z, z ≠ Str.ofString "k" → z ≠ Str.ofString "name" → z ≠ Str.ofString "error" → m' z = kstB u [(Str.ofString "reply", .str reply tr), (Str.ofString "refused", .ref rf), (Str.ofString "leads", .ref ld)] z) → Q .next { s with heap := h', toks := tk }) :
    wpAny (model PySem.Challenge.rw_rl0090_01.row.prog w) (callerA.deeper (lawEnv L fa)) (exec (stmtAt lawBody 9) (lawEnv L fa)) Q E s := by
  revert X'
  w_top off
  k_fill
  intro X'
  have hsc : lawScope = lawScope := rfl
  conv at hsc => rhs; whnf
  have hb : stmtAt lawBody 9 = stmtAt lawBody 9 := rfl
  conv at hb => rhs; whnf
  rw [hb]
  show wpAny _ (callerA.deeper (envOfC (Str.ofString "law") lawScope L fa (.ref 148))) (exec _ (envOfC (Str.ofString "law") lawScope L fa (.ref 148))) _ _ _
  rw [hsc]
  clear hsc hb
  have hMk9 := kstMark
  refine For_invV h₀ rfl rfl ?_ (hE := hE)
  repeat' ((fail_if_success (with_reducible show wpAny _ _ (pyIter _) _ _ _)); (fail_if_success (with_reducible show wpAny _ _ (exec (Stmt.While _ _ _ _) _) _ _ _)); (fail_if_success (with_reducible show KswEnd _ _ _ _ _ _ _ _ _ _ _ _)); (first | ((k_here; (with_reducible show wpAny _ _ (call (Value.builtin "len") [Value.ref _]) _ _ _); k_dflt (refine' len_tup_ints ?k1 ?k2 ?k3 ?_; (case k1 => exact News.isTup (by k_asm) (by k_mem)); (case k2 => assumption); (case k3 => omega); k_whole))) | ((k_here; (with_reducible show wpAny _ _ (call (Value.type _) [Value.ref _]) _ _ _); k_dflt (refine' kde_tupleOf ?k1 ?k2 ?k3 ?k4 ?k5 ?_; (case k1 => k_asm); (case k2 => k_asm); (case k3 => exact News.isList (by k_asm) (by k_mem)); (case k4 => (have hL9 := IntsAre.length (by assumption); simp only [List.size_toArray]; omega)); (case k5 => exact rfl); k_whole); intro D' h' F' N' l1; (try k_lt l1); (try k_sweep))) | (k_unfold; (try dsimp only)) | (k_end; wrow_close) | walk1 | (dsimp only; walk1) | (leave1; walk_say "STEP leave1"; try dsimp only) | fail "no step"))
  rename_i hR FC NC hst
  have hreply : kstB u [(Str.ofString "reply", .str reply tr), (Str.ofString "refused", .ref rf), (Str.ofString "leads", .ref ld)] (Str.ofString "reply") = some (.str reply tr) := rfl
  refine' forRange (Led := fun c : L1 => c.led w rf ld base) (ps := fun _ => []) (stored := [Str.ofString "name", Str.ofString "error"])
    (Inv := fun i c => L1.Inv w reply body rf ld base i c) (Exit := fun c => L1.Inv w reply body rf ld base (reply.length + 1) c) (n := reply.length + 1) (c₀ := ⟨[], [], 0, [], 0⟩) rfl hR (small_one (by omega) (by omega) (by omega) (by omega)) ?hn FC NC ?hk (L1.start hb) ?turn ?stop ?done
  case hk => exact List.forall_mem_nil _
  case hn => rw [rangeSize_nat]; omega
  case stop => exact fun c hc => hc
  case turn =>
    intro i t c u9 h tk I oI hi hInv hneI F2 N2
    show wpAny _ (callerA.deeper (lawEnv L fa)) (execs [stmtAt loop1 0, stmtAt loop1 1] (lawEnv L fa)) _ _ _
    refine loop1_turn (s := { s with heap := h, toks := tk }) (t := t) (tr := tr) X' T' B' hre (by omega) (by omega) hrl ?m1 ?m2 ?m3 ?m4 hInv hneI F2 N2 ?_
    case m1 => show some (Value.int (0 + (i : Int)) t) = _; rw [Int.zero_add]
    case m2 => exact rfl
    case m3 => exact rfl
    case m4 => exact rfl
    intro h' tk' m' c' hI' F' N' hne' hm'
    refine EndG.intro c' F' N' (fun q hq => .tail _ hq) (.head _) hne' (List.forall_mem_nil _) (fun z z1 z2 z3 => ?_) hI'
    simp only [List.contains_cons, List.contains_nil, Bool.or_false, Bool.or_eq_false_iff, beq_eq_false_iff_ne, ne_eq] at z3
    rw [hm' z z3.1 z3.2, if_neg z1]
    show (if [Str.ofString "name", Str.ofString "error"].contains z = true then u9 z else _) = _
    rw [if_neg (by simp [z3.1, z3.2])]
  case done =>
    intro c u9 h tk hE2 F2 N2
    refine hQ h tk _ c hE2 F2 N2 fun z z1 z2 z3 => ?_
    rw [if_neg z1]
    show (if [Str.ofString "name", Str.ofString "error"].contains z = true then u9 z else _) = _
    rw [if_neg (by simp [z2, z3])]
end
-- MCmp
section
open PySem PySem.W PySem.Calls PyProof.Rows
set_option maxRecDepth 100000 in
set_option maxHeartbeats 8000000 in
theorem law_cmp {w : World} {p : Program} {loose : List Str} {mean : ExcName → Option Value} {mg mb : Str → Option Value} {h₀ : Heap} {L fa : Addr} {s : Shared} {Q : Flow → Shared → Prop} {E : Value → Shared → Prop}
    {u : Str → Option Value} {rf p0 p1 p2 : Addr} {n : Nat} {a0 b0 a1 b1 a2 b2 : Tok} {rest : List (Addr × Obj)}
    (X' : Frag.In (hd.heap_39 w.params) h₀) (T' : Top p loose mean mg mb h₀) (B' : Below callerA h₀ [] h₀)
    (F : Fr h₀ L s.heap (kstB u [(Str.ofString "refused", .ref rf)]))
    (N : News h₀ L s.heap ((rf, W.listOf #[Value.ref p0, Value.ref p1, Value.ref p2] n) :: (p0, { cls := .type "tuple", data := .seq #[.int 0 a0, .str (Str.ofString "") b0] }) :: (p1, { cls := .type "tuple", data := .seq #[.int 1 a1, .str (Str.ofString "2") b1] }) :: (p2, { cls := .type "tuple", data := .seq #[.int 2 a2, .str (Str.ofString "25") b2] }) :: rest))
    (hQ : ∀ h' tk, Fr h₀ L h' (kstB u [(Str.ofString "refused", .ref rf)]) → News h₀ L h' ((rf, W.listOf #[Value.ref p0, Value.ref p1, Value.ref p2] n) :: (p0, { cls := .type "tuple", data := .seq #[.int 0 a0, .str (Str.ofString "") b0] }) :: (p1, { cls := .type "tuple", data := .seq #[.int 1 a1, .str (Str.ofString "2") b1] }) :: (p2, { cls := .type "tuple", data := .seq #[.int 2 a2, .str (Str.ofString "25") b2] }) :: rest) → Q .next { s with heap := h', toks := tk }) :
    wpAny (model PySem.Challenge.rw_rl0090_01.row.prog w) (callerA.deeper (lawEnv L fa)) (exec (stmtAt lawBody 10) (lawEnv L fa)) Q E s := by
  revert X'
  w_top off
  k_fill
  intro X'
  have hsc : lawScope = lawScope := rfl
  conv at hsc => rhs; whnf
  have hb : stmtAt lawBody 10 = stmtAt lawBody 10 := rfl
  conv at hb => rhs; whnf
  rw [hb]
  show wpAny _ (callerA.deeper (envOfC (Str.ofString "law") lawScope L fa (.ref 148))) (exec _ (envOfC (Str.ofString "law") lawScope L fa (.ref 148))) _ _ _
  rw [hsc]
  clear hsc hb
  have hMk9 := kstMark
  repeat' (first | (k_unfold; (try dsimp only)) | (k_end; wrow_close) | walk1 | (dsimp only; walk1) | fail "no step")
  rename News _ _ _ _ => NE
  exact hQ _ _ (by k_asm) (fun q hq => NE q (by repeat (first | assumption | refine List.mem_cons_of_mem _ ?_)))
end
-- MKey
section
open PySem PySem.W PySem.Calls PyProof.Rows
set_option maxRecDepth 100000
abbrev loop2 : List Stmt := forBody (stmtAt lawBody 13)
def lamIn (s : Stmt) : Arguments × Expr × Scope × Pos := match s with
  | .Expr (.Call _ [.Call _ _ [kw] _] _ _) _ => (match kw.value with | .Lambda a b sc p => (a, b, sc, p) | _ => (⟨[], [], none, [], [], none, []⟩, .Name "" ⟨0, 0, 0, 0⟩, ⟨.function, [], false, false, []⟩, ⟨0, 0, 0, 0⟩))
  | _ => (⟨[], [], none, [], [], none, []⟩, .Name "" ⟨0, 0, 0, 0⟩, ⟨.function, [], false, false, []⟩, ⟨0, 0, 0, 0⟩)
abbrev lam1 := lamIn (stmtAt loop2 2)
abbrev lam2 := lamIn (stmtAt loop2 3)
abbrev lamScope : Scope := lam1.2.2.1
def lamArgs (p0 : Pos) : Arguments := { posonlyargs := [], args := [{ arg := Str.ofString "one", annotation := none, pos := p0 }], vararg := none, kwonlyargs := [], kw_defaults := [], kwarg := none, defaults := [] }
def lamBody (p1 p2 p3 p4 : Pos) : Expr := .Call (.Attribute (.Name (Str.ofString "one") p1) (Str.ofString "indent_level") p2) [.Name (Str.ofString "size") p3] [] p4
section
variable {prog : Program} {w : World} {p : Program} {loose : List Str} {mean : ExcName → Option Value} {mg mb : Str → Option Value} {A A₀ : Around} {base h₀ g : Heap} {outer : List Env} {s : Shared} {R : Result → Shared → Prop} {own : List (Addr × Obj)}
/-- a call of a made lambda, the objects «own» in its ledger -/
theorem callOL {name qual : Str} {params : Arguments} {body : Expr} {scope : Scope} {cl : List (Str × Addr)} {pm ctv : Value} {c' : Addr} {f : Addr} {args : Args} {binds : List (Str × Value)}
    (hlim : g.NoLimit) (hg : g.StaysIn s.heap) (hown : ∀ q ∈ own, s.heap.get? q.1 = some q.2) (hfr : ∀ q ∈ own, g.get? q.1 = none)
    (ho : (f, kla_obj name qual params body scope cl pm c' ctv) ∈ own) (hcd : s.heap.CodeRec (.ref c') qual) (hroom : A.depth < recursionLimit)
    (hbind : bindArgs (kla_fn name qual params body scope cl pm (.ref c') ctv) args = pure binds) (hloc : ∀ y ∈ binds, scope.names.lookup y.1 = some .local)
    (h : ∀ g' L' h₁, g.StaysIn g' → (∀ b o, s.heap.get? b = some o → (∀ q ∈ own, q.1 ≠ b) → g'.get? b = some o) → Fr g' L' h₁ (fun y => binds.reverse.lookup y) → News g' L' h₁ own → (∀ q ∈ own, q.1 < L') →
      wpAny (model prog w) (A.deeper (envX qual scope L' f (.ref c') cl)) (eval body (envX qual scope L' f (.ref c') cl))
        (fun v s' => R (.ok (.ret v)) s')
        (fun e s' => wpAny (model prog w) (A.deeper (envX qual scope L' f (.ref c') cl)) (leaving (envX qual scope L' f (.ref c') cl) e) (fun _ s'' => R (.error e) s'') (fun e' s'' => R (.error e') s'') s')
        { s with heap := h₁, toks := s.toks + binds.length })
    (hco : scope.isCoroutine = false) (hgen : scope.isGenerator = false) (hk : scope.kind = .function)
    (hcell : ∀ x ∈ scope.names, x.2 ≠ .cell) : codeAny (model prog w) A (.call (.ref f) args) R s := by
  have nm : ∀ b o, g.get? b = some o → b ∉ own.map (·.1) := fun b o e q => by
    obtain ⟨q', hq, rfl⟩ := List.mem_map.mp q
    rw [hfr q' hq] at e; cases e
  have st : g.StaysIn (hideAll s.heap (own.map (·.1))) := fun b o e => hideAll_get _ (hg b o e) (nm b o e)
  refine kla_callFunE hroom (hown _ ho) rfl hco hgen rfl hcd ?_
  rw [hbind]
  refine wpAny_pure (wpAny_newFunctionEnv hcell hloc (fun h₁ hns hsb => ⟨(hlim.keeps hg).fresh _ hsb, ?_⟩) hk)
  show codeAny _ _ (.expr body (envX qual scope s.heap.objs.size f (.ref c') cl)) _ _
  have hk₁ : ∀ b o, s.heap.get? b = some o → h₁.get? b = some o := fun b o e => hsb.extBut b o (Nat.ne_of_lt (Heap.lt_size e)) (Heap.get?_push_of_some _ e)
  exact kla_codeExpr (h _ s.heap.objs.size h₁ st (fun b o e hb => hideAll_get _ e fun q => by obtain ⟨q', hq, e'⟩ := List.mem_map.mp q; exact hb q' hq e')
    ⟨hns, fun b o e => hk₁ b o (of_hideAll _ e), Nat.le_of_eq (hideAll_size _ _)⟩ (fun q hq => ⟨hk₁ _ _ (hown q hq), Nat.ne_of_lt (Heap.lt_size (hown q hq)), hideAll_none _ (List.mem_map_of_mem hq)⟩) (fun q hq => Heap.lt_size (hown q hq)))
end
set_option maxHeartbeats 8000000 in
theorem key_go1 {w : World} {p : Program} {loose : List Str} {mean : ExcName → Option Value} {mg mb : Str → Option Value} {base g : Heap} {outer : List Env} {s : Shared} {R : Result → Shared → Prop} {gs : Option (List Code)}
    {kf c' cz : Addr} {ctv pm : Value} {oc oz : Obj} {qual : Str} {vs : Array Value} {r : WsR} {ts : Int} {tz tq : Tok}
    (G : Gnd w p loose mean mg mb ⟨none, 550, some outer, gs, 2800⟩ base outer g) (hg : g.StaysIn s.heap)
    (hr : ∀ q ∈ (kf, kla_obj (Str.ofString "<lambda>") qual (lamArgs ⟨165, 56, 165, 59⟩) (lamBody ⟨165, 61, 165, 64⟩ ⟨165, 61, 165, 77⟩ ⟨165, 78, 165, 82⟩ ⟨165, 61, 165, 83⟩) lamScope [(Str.ofString "size", cz)] pm c' ctv) :: (c', oc) :: (cz, oz) :: r.led w, s.heap.get? q.1 = some q.2)
    (fr : ∀ q ∈ (kf, kla_obj (Str.ofString "<lambda>") qual (lamArgs ⟨165, 56, 165, 59⟩) (lamBody ⟨165, 61, 165, 64⟩ ⟨165, 61, 165, 77⟩ ⟨165, 78, 165, 82⟩ ⟨165, 61, 165, 83⟩) lamScope [(Str.ofString "size", cz)] pm c' ctv) :: (c', oc) :: (cz, oz) :: r.led w, g.get? q.1 = none)
    (hoc : oc.data = .fields vs) (hq : vs[1]? = some (.str qual tq)) (hoz : oz.data = .cell (some (.int ts tz))) (ok : r.Ok) (t0 : 1 ≤ ts) (t1 : ts ≤ 100)
    (hR : ∀ h' tk tv, s.heap.StaysIn h' → R (.ok (.ret (.int (lvl r.cnt r.b r.nt ts) tv))) { s with heap := h', toks := tk }) :
    codeAny (model PySem.Challenge.rw_rl0090_01.row.prog w) ⟨none, 550, some outer, gs, 2800⟩ (.call (.ref kf) ⟨[.ref r.x], []⟩) R s := by
  have o1 := ok.h1
  have o2 := ok.h2
  have o3 := ok.h3
  dsimp only [WsR.led] at hr fr
  have X := G.X
  revert X
  w_top off
  k_fill
  intro X
  have hsc : lamScope = lamScope := rfl
  conv at hsc => rhs; whnf
  refine' callOL (own := _) G.T.nolimit hg hr fr (.head _) ⟨c', oc, vs, tq, rfl, hr _ (.tail _ (.head _)), hoc, hq⟩ ?room ?bind ?loc ?_ ?co ?gen ?kd ?cell
  case room => k_room
  case bind => exact rfl
  case loc => exact locs rfl
  case cell => decide
  case co => rfl
  case gen => rfl
  case kd => rfl
  intro g' L' h₁ st rest F N lt
  have X' := X.keeps st
  have T' := G.T.keeps st
  have B' := (G.keeps st).B
  clear X
  dsimp only
  rw [hsc]
  clear hsc
  show wpAny _ _ _ _ _ _
  unfold lamBody
  k_lt lt
  have hMk9 := kstMark
  repeat' (first | ((with_reducible show wpAny _ _ (eval (Expr.Name _ _) _) _ _ _); (k_here; k_dflt (refine' nameX_F ?N ?c ?m ?d ?_ ?a ?b; (case a => rfl); (case b => rfl); (case N => k_asm); (case c => rfl); (case m => k_mem); (case d => k_asm); k_whole))) | ((k_here; (with_reducible show wpAny _ _ (call (Value.ref _) _ _) _ _ _); k_dflt ((refine' use_level ?B ?F ?X ?N ?T ?hA ?hf ?hk ?hh ?hd ?hu ?ok ?hm ?t0 ?t1 ?_; (case hA => exact rfl); (case hf => exact rfl); (case hk => exact rfl); (case hh => exact rfl); (case B => k_asm); (case F => k_asm); (case X => k_asm); (case N => k_asm); (case T => k_asm); (case hd => exact Nat.le_of_ble_eq_true rfl); (case hu => exact Nat.le_of_ble_eq_true rfl); (case ok => assumption); (case hm => repeat' (first | exact List.forall_mem_nil _ | refine List.forall_mem_cons.mpr ⟨by k_mem, ?_⟩)); (case t0 => omega); (case t1 => omega); k_whole; intro h' tk' tv' F' N')))) | (k_unfold; (try dsimp only)) | (k_end; wrow_close) | walk1 | (dsimp only; walk1) | fail "no step")
  exact hR _ _ _ (stays_of rest hr (by k_asm) (by k_asm) (fun _ q => q))
set_option maxHeartbeats 8000000 in
theorem key_go2 {w : World} {p : Program} {loose : List Str} {mean : ExcName → Option Value} {mg mb : Str → Option Value} {base g : Heap} {outer : List Env} {s : Shared} {R : Result → Shared → Prop} {gs : Option (List Code)}
    {kf c' cz : Addr} {ctv pm : Value} {oc oz : Obj} {qual : Str} {vs : Array Value} {r : WsR} {ts : Int} {tz tq : Tok}
    (G : Gnd w p loose mean mg mb ⟨none, 550, some outer, gs, 2800⟩ base outer g) (hg : g.StaysIn s.heap)
    (hr : ∀ q ∈ (kf, kla_obj (Str.ofString "<lambda>") qual (lamArgs ⟨166, 58, 166, 61⟩) (lamBody ⟨166, 63, 166, 66⟩ ⟨166, 63, 166, 79⟩ ⟨166, 80, 166, 84⟩ ⟨166, 63, 166, 85⟩) lamScope [(Str.ofString "size", cz)] pm c' ctv) :: (c', oc) :: (cz, oz) :: r.led w, s.heap.get? q.1 = some q.2)
    (fr : ∀ q ∈ (kf, kla_obj (Str.ofString "<lambda>") qual (lamArgs ⟨166, 58, 166, 61⟩) (lamBody ⟨166, 63, 166, 66⟩ ⟨166, 63, 166, 79⟩ ⟨166, 80, 166, 84⟩ ⟨166, 63, 166, 85⟩) lamScope [(Str.ofString "size", cz)] pm c' ctv) :: (c', oc) :: (cz, oz) :: r.led w, g.get? q.1 = none)
    (hoc : oc.data = .fields vs) (hq : vs[1]? = some (.str qual tq)) (hoz : oz.data = .cell (some (.int ts tz))) (ok : r.Ok) (t0 : 1 ≤ ts) (t1 : ts ≤ 100)
    (hR : ∀ h' tk tv, s.heap.StaysIn h' → R (.ok (.ret (.int (lvl r.cnt r.b r.nt ts) tv))) { s with heap := h', toks := tk }) :
    codeAny (model PySem.Challenge.rw_rl0090_01.row.prog w) ⟨none, 550, some outer, gs, 2800⟩ (.call (.ref kf) ⟨[.ref r.x], []⟩) R s := by
  have o1 := ok.h1
  have o2 := ok.h2
  have o3 := ok.h3
  dsimp only [WsR.led] at hr fr
  have X := G.X
  revert X
  w_top off
  k_fill
  intro X
  have hsc : lamScope = lamScope := rfl
  conv at hsc => rhs; whnf
  refine' callOL (own := _) G.T.nolimit hg hr fr (.head _) ⟨c', oc, vs, tq, rfl, hr _ (.tail _ (.head _)), hoc, hq⟩ ?room ?bind ?loc ?_ ?co ?gen ?kd ?cell
  case room => k_room
  case bind => exact rfl
  case loc => exact locs rfl
  case cell => decide
  case co => rfl
  case gen => rfl
  case kd => rfl
  intro g' L' h₁ st rest F N lt
  have X' := X.keeps st
  have T' := G.T.keeps st
  have B' := (G.keeps st).B
  clear X
  dsimp only
  rw [hsc]
  clear hsc
  show wpAny _ _ _ _ _ _
  unfold lamBody
  k_lt lt
  have hMk9 := kstMark
  repeat' (first | ((with_reducible show wpAny _ _ (eval (Expr.Name _ _) _) _ _ _); (k_here; k_dflt (refine' nameX_F ?N ?c ?m ?d ?_ ?a ?b; (case a => rfl); (case b => rfl); (case N => k_asm); (case c => rfl); (case m => k_mem); (case d => k_asm); k_whole))) | ((k_here; (with_reducible show wpAny _ _ (call (Value.ref _) _ _) _ _ _); k_dflt ((refine' use_level ?B ?F ?X ?N ?T ?hA ?hf ?hk ?hh ?hd ?hu ?ok ?hm ?t0 ?t1 ?_; (case hA => exact rfl); (case hf => exact rfl); (case hk => exact rfl); (case hh => exact rfl); (case B => k_asm); (case F => k_asm); (case X => k_asm); (case N => k_asm); (case T => k_asm); (case hd => exact Nat.le_of_ble_eq_true rfl); (case hu => exact Nat.le_of_ble_eq_true rfl); (case ok => assumption); (case hm => repeat' (first | exact List.forall_mem_nil _ | refine List.forall_mem_cons.mpr ⟨by k_mem, ?_⟩)); (case t0 => omega); (case t1 => omega); k_whole; intro h' tk' tv' F' N')))) | (k_unfold; (try dsimp only)) | (k_end; wrow_close) | walk1 | (dsimp only; walk1) | fail "no step")
  exact hR _ _ _ (stays_of rest hr (by k_asm) (by k_asm) (fun _ q => q))

/-- the level of the i-th Whitespace -/
def lvAt (ws : List WsR) (ts : Int) (i : Nat) : Int := match ws[i]? with
  | some r => lvl r.cnt r.b r.nt ts
  | none => 0
theorem key_ok1 {w : World} {p : Program} {loose : List Str} {mean : ExcName → Option Value} {mg mb : Str → Option Value} {kf c' cz : Addr} {ctv pm : Value} {oc oz : Obj} {qual : Str} {vs : Array Value} {ws : List WsR} {ts : Int} {tz tq : Tok} {own : List (Addr × Obj)}
    (h1 : (kf, kla_obj (Str.ofString "<lambda>") qual lam1.1 lam1.2.1 lamScope [(Str.ofString "size", cz)] pm c' ctv) ∈ own) (h2 : (c', oc) ∈ own) (h3 : (cz, oz) ∈ own)
    (hoc : oc.data = .fields vs) (hq : vs[1]? = some (.str qual tq)) (hoz : oz.data = .cell (some (.int ts tz))) (t0 : 1 ≤ ts) (t1 : ts ≤ 100)
    (hws : ∀ r ∈ ws, r.Ok ∧ ∀ q ∈ r.led w, q ∈ own) : KeyOk w p loose mean mg mb kf own (ws.map WsR.x) (lvAt ws ts) := by
  refine ⟨fun base outer gs s g R i hi G hg hown hfr hR => ?_⟩
  have hl : i < ws.length := by simpa using hi
  have e1 : (ws.map WsR.x).getD i 0 = (ws[i]).x := by simp [List.getD, hl]
  have e2 : lvAt ws ts i = lvl (ws[i]).cnt (ws[i]).b (ws[i]).nt ts := by simp [lvAt, hl]
  obtain ⟨ok, hled⟩ := hws _ (List.getElem_mem hl)
  rw [e1]
  rw [e2] at hR
  have sub : ∀ q ∈ (kf, kla_obj (Str.ofString "<lambda>") qual lam1.1 lam1.2.1 lamScope [(Str.ofString "size", cz)] pm c' ctv) :: (c', oc) :: (cz, oz) :: (ws[i]).led w, q ∈ own := by
    intro q hq'
    rcases List.mem_cons.mp hq' with rfl | hq'
    · exact h1
    rcases List.mem_cons.mp hq' with rfl | hq'
    · exact h2
    rcases List.mem_cons.mp hq' with rfl | hq'
    · exact h3
    · exact hled q hq'
  exact key_go1 G hg (fun q hq' => hown q (sub q hq')) (fun q hq' => hfr q (sub q hq')) hoc hq hoz ok t0 t1 hR
theorem key_ok2 {w : World} {p : Program} {loose : List Str} {mean : ExcName → Option Value} {mg mb : Str → Option Value} {kf c' cz : Addr} {ctv pm : Value} {oc oz : Obj} {qual : Str} {vs : Array Value} {ws : List WsR} {ts : Int} {tz tq : Tok} {own : List (Addr × Obj)}
    (h1 : (kf, kla_obj (Str.ofString "<lambda>") qual lam2.1 lam2.2.1 lamScope [(Str.ofString "size", cz)] pm c' ctv) ∈ own) (h2 : (c', oc) ∈ own) (h3 : (cz, oz) ∈ own)
    (hoc : oc.data = .fields vs) (hq : vs[1]? = some (.str qual tq)) (hoz : oz.data = .cell (some (.int ts tz))) (t0 : 1 ≤ ts) (t1 : ts ≤ 100)
    (hws : ∀ r ∈ ws, r.Ok ∧ ∀ q ∈ r.led w, q ∈ own) : KeyOk w p loose mean mg mb kf own (ws.map WsR.x) (lvAt ws ts) := by
  refine ⟨fun base outer gs s g R i hi G hg hown hfr hR => ?_⟩
  have hl : i < ws.length := by simpa using hi
  have e1 : (ws.map WsR.x).getD i 0 = (ws[i]).x := by simp [List.getD, hl]
  have e2 : lvAt ws ts i = lvl (ws[i]).cnt (ws[i]).b (ws[i]).nt ts := by simp [lvAt, hl]
  obtain ⟨ok, hled⟩ := hws _ (List.getElem_mem hl)
  rw [e1]
  rw [e2] at hR
  have sub : ∀ q ∈ (kf, kla_obj (Str.ofString "<lambda>") qual lam2.1 lam2.2.1 lamScope [(Str.ofString "size", cz)] pm c' ctv) :: (c', oc) :: (cz, oz) :: (ws[i]).led w, q ∈ own := by
    intro q hq'
    rcases List.mem_cons.mp hq' with rfl | hq'
    · exact h1
    rcases List.mem_cons.mp hq' with rfl | hq'
    · exact h2
    rcases List.mem_cons.mp hq' with rfl | hq'
    · exact h3
    · exact hled q hq'
  exact key_go2 G hg (fun q hq' => hown q (sub q hq')) (fun q hq' => hfr q (sub q hq')) hoc hq hoz ok t0 t1 hR
theorem key_eq1 {w : World} {p : Program} {loose : List Str} {mean : ExcName → Option Value} {mg mb : Str → Option Value} {kf c' cz : Addr} {ctv pm : Value} {oc oz : Obj} {qual nm : Str} {vs : Array Value} {ws : List WsR} {ts : Int} {tz tq : Tok} {own : List (Addr × Obj)} {Ag : Arguments} {Bd : Expr} {Sc : Scope} {cl : List (Str × Addr)}
    (h1 : (kf, kla_obj nm qual Ag Bd Sc cl pm c' ctv) ∈ own) (hnm : nm = Str.ofString "<lambda>") (hA : Ag = lam1.1) (hB : Bd = lam1.2.1) (hS : Sc = lamScope) (hcl : cl = [(Str.ofString "size", cz)]) (h2 : (c', oc) ∈ own) (h3 : (cz, oz) ∈ own)
    (hoc : oc.data = .fields vs) (hq : vs[1]? = some (.str qual tq)) (hoz : oz.data = .cell (some (.int ts tz))) (t0 : 1 ≤ ts) (t1 : ts ≤ 100)
    (hws : ∀ r ∈ ws, r.Ok ∧ ∀ q ∈ r.led w, q ∈ own) : KeyOk w p loose mean mg mb kf own (ws.map WsR.x) (lvAt ws ts) := by
  subst hnm hA hB hS hcl
  exact key_ok1 h1 h2 h3 hoc hq hoz t0 t1 hws
theorem key_eq2 {w : World} {p : Program} {loose : List Str} {mean : ExcName → Option Value} {mg mb : Str → Option Value} {kf c' cz : Addr} {ctv pm : Value} {oc oz : Obj} {qual nm : Str} {vs : Array Value} {ws : List WsR} {ts : Int} {tz tq : Tok} {own : List (Addr × Obj)} {Ag : Arguments} {Bd : Expr} {Sc : Scope} {cl : List (Str × Addr)}
    (h1 : (kf, kla_obj nm qual Ag Bd Sc cl pm c' ctv) ∈ own) (hnm : nm = Str.ofString "<lambda>") (hA : Ag = lam2.1) (hB : Bd = lam2.2.1) (hS : Sc = lamScope) (hcl : cl = [(Str.ofString "size", cz)]) (h2 : (c', oc) ∈ own) (h3 : (cz, oz) ∈ own)
    (hoc : oc.data = .fields vs) (hq : vs[1]? = some (.str qual tq)) (hoz : oz.data = .cell (some (.int ts tz))) (t0 : 1 ≤ ts) (t1 : ts ≤ 100)
    (hws : ∀ r ∈ ws, r.Ok ∧ ∀ q ∈ r.led w, q ∈ own) : KeyOk w p loose mean mg mb kf own (ws.map WsR.x) (lvAt ws ts) := by
  subst hnm hA hB hS hcl
  exact key_ok2 h1 h2 h3 hoc hq hoz t0 t1 hws
end
-- MLoopT
section
open PySem PySem.W PySem.Calls PyProof.Rows
set_option maxRecDepth 100000
def EndT {σ : Type} (h₀ : Heap) (L : Addr) (Led : σ → List (Addr × Obj)) (Inv : (Str → Option Value) → σ → Prop) (I : Addr) (oI : Obj) (s₁ s₂ : Shared) : Prop :=
  ∃ h' tk m' news' c, s₂ = { s₁ with heap := h', toks := tk } ∧ Fr h₀ L h' m' ∧ News h₀ L h' news' ∧ (∀ q ∈ Led c, q ∈ news') ∧ (I, oI) ∈ news' ∧ AllNe I (Led c) ∧ Inv m' c
def PostT {σ : Type} (h₀ : Heap) (L : Addr) (Led : σ → List (Addr × Obj)) (Inv : (Str → Option Value) → σ → Prop) (I : Addr) (oI : Obj) (s₁ : Shared) (f : Flow) (s₂ : Shared) : Prop :=
  f = .next ∧ EndT h₀ L Led Inv I oI s₁ s₂
section
variable {prog : Program} {w : World} {A : Around} {E : Value → Shared → Prop} {s : Shared} {env : Env} {h₀ : Heap} {target : Expr} {body : List Stmt} {Q : Flow → Shared → Prop}
theorem EndT.intro {σ : Type} {L : Addr} {Led : σ → List (Addr × Obj)} {Inv : (Str → Option Value) → σ → Prop} {I : Addr} {oI : Obj} {s₁ : Shared} {h' : Heap} {tk : Nat} {m' : Str → Option Value} {news' : List (Addr × Obj)} (c : σ)
    (F : Fr h₀ L h' m') (N : News h₀ L h' news') (hl : ∀ q ∈ Led c, q ∈ news') (hI : (I, oI) ∈ news') (hne : AllNe I (Led c)) (hi : Inv m' c) : EndT h₀ L Led Inv I oI s₁ { s₁ with heap := h', toks := tk } :=
  ⟨h', tk, m', news', c, rfl, F, N, hl, hI, hne, hi⟩
theorem loopT {σ : Type} {I : Addr} {n : Nat} {P : Nat → Value → Prop} {St : Nat → Heap → Prop} {m₀ : Str → Option Value} (Led : σ → List (Addr × Obj)) (Inv : Nat → (Str → Option Value) → σ → Prop) (c₀ : σ)
    (W : Walks prog w A I [I] [I] n P St) (live : ∀ i h, St i h → ∃ o, h.get? I = some o) (hLI : env.locals ≠ I) (hwr : h₀.get? I = none) (hne : ∀ q ∈ Led c₀, q.1 ≠ I) (hst : St 0 s.heap) (F : Fr h₀ env.locals s.heap m₀) (N : News h₀ env.locals s.heap (Led c₀))
    (hgo : ∀ (s' : Shared) v (Q' : Unit → Shared → Prop), Q' () s' → wpAny (model prog w) A (letOwnedTupleGo target (.ref I) v) Q' E s') (hp : Inv 0 m₀ c₀)
    (turn : ∀ i v (c : σ) (m : Str → Option Value) (s₁ : Shared) oI, i < n → P i v → Inv i m c → AllNe I (Led c) → Fr h₀ env.locals s₁.heap m → News h₀ env.locals s₁.heap ((I, oI) :: Led c) →
      wpAny (model prog w) A (assign target env v) (fun _ s₃ => wpAny (model prog w) A (execs body env) (PostT h₀ env.locals Led (Inv (i + 1)) I oI s₁) E s₃) E s₁)
    (done : ∀ (c : σ) (m : Str → Option Value) h tk, Inv n m c → Fr h₀ env.locals h m → News h₀ env.locals h (Led c) → Q .next { s with heap := h, toks := tk }) :
    LoopAtT prog w A h₀ env target body Q E (.ref I) s := by
  let J : Nat → (Str → Option Value) → List (Addr × Obj) → Prop := fun i m nx => ∃ c : σ, nx = Led c ∧ Inv i m c
  refine ⟨I, [I], [I], n, P, St, m₀, Led c₀, J, rfl, W, fun hm => hLI (List.mem_singleton.mp hm), fun b hb => List.mem_singleton.mp hb ▸ hwr, fun q hq hI => hne q hq (List.mem_singleton.mp hI), hst, F, N, fun i s' v Q' _ q => hgo s' v Q' q, ⟨c₀, rfl, hp⟩, ?_, ?_⟩
  · rintro i v m₁ news₁ s₁ own hin hP ⟨c, rfl, hJ⟩ hoff hsub _ hown hst' F₁ N₁
    obtain ⟨oI, hoI⟩ := live _ _ hst'
    have hm : (I, oI) ∈ own := hown I (List.mem_singleton.mpr rfl) hwr oI hoI
    have N₂ : News h₀ env.locals s₁.heap ((I, oI) :: Led c) := fun q hq => N₁ q (by
      rcases List.mem_cons.mp hq with rfl | hq
      · exact List.mem_append_left _ hm
      · exact List.mem_append_right _ hq)
    have hn2 : AllNe I (Led c) := allNe_of fun q hq e => hoff q hq (List.mem_singleton.mpr e)
    refine wpAny_mono (turn i v c m₁ s₁ oI hin hP hJ hn2 F₁ N₂) (fun _ s₃ q => wpAny_mono q (fun f s₂ q => ?_) fun _ _ e => e) fun _ _ e => e
    obtain ⟨rfl, h', tk, m', news', c', e, F', N', hl, hI, hne', hi'⟩ := q
    refine ⟨rfl, h', tk, m', Led c', e, F', fun q hq => ?_, fun q hq hI' => of_allNe hne' q hq (List.mem_singleton.mp hI'), c', rfl, hi'⟩
    rcases List.mem_append.mp hq with h3 | h3
    · have := N₁ q (List.mem_append_left _ h3)
      obtain ⟨a, o⟩ := q
      have e1 : a = I := List.mem_singleton.mp (hsub _ h3)
      subst e1
      have e2 : o = oI := by have q1 := this.1; have q2 := hoI; exact Option.some.inj (q1.symm.trans q2)
      subst e2
      exact N' _ hI
    · exact N' q (hl q h3)
  · rintro h' tk m' news' F' N' hoff ⟨c, rfl, hJ⟩
    exact done c m' h' tk hJ F' N'
/-- over a range by ones, any target -/
theorem forRangeT {σ : Type} {r : Addr} {a₀ b₀ : Int} {t₀ u₀ v₀ : Tok} {n : Nat} {m₀ : Str → Option Value} (Led : σ → List (Addr × Obj)) (Inv : Nat → (Str → Option Value) → σ → Prop) (c₀ : σ)
    (hh : A.handled = none) (hr : IsRange s.heap r a₀ b₀ 1 t₀ u₀ v₀) (hsmall : Builtin.Range.small a₀ b₀ 1 = true) (hn : Builtin.Range.rangeSize a₀ b₀ 1 = (n : Int)) (F : Fr h₀ env.locals s.heap m₀) (N : News h₀ env.locals s.heap (Led c₀))
    (hgo : ∀ (s' : Shared) I v (Q' : Unit → Shared → Prop), Q' () s' → wpAny (model prog w) A (letOwnedTupleGo target (.ref I) v) Q' E s') (hp : Inv 0 m₀ c₀)
    (turn : ∀ i t (c : σ) (m : Str → Option Value) (s₁ : Shared) I oI, i < n → Inv i m c → AllNe I (Led c) → Fr h₀ env.locals s₁.heap m → News h₀ env.locals s₁.heap ((I, oI) :: Led c) →
      wpAny (model prog w) A (assign target env (.int (a₀ + (i : Int)) t)) (fun _ s₃ => wpAny (model prog w) A (execs body env) (PostT h₀ env.locals Led (Inv (i + 1)) I oI s₁) E s₃) E s₁)
    (done : ∀ (c : σ) (m : Str → Option Value) h tk, Inv n m c → Fr h₀ env.locals h m → News h₀ env.locals h (Led c) → Q .next { s with heap := h, toks := tk }) :
    wpAny (model prog w) A (pyIter (.ref r)) (fun it s₂ => LoopAtT prog w A h₀ env target body Q E it s₂) E s := by
  refine wpAny_pyIter_range hr hsmall ?_
  have W : Walks prog w A s.heap.objs.size [s.heap.objs.size] [s.heap.objs.size] n (fun i v => ∃ t, v = .int (a₀ + i * 1) t)
      (fun i h => IsRangeIter h s.heap.objs.size (a₀ + (i : Nat) * 1) ((n : Int) - (i : Nat)) 1) := Walks.range hh _ a₀ 1 n
  refine loopT Led Inv c₀ W (fun i h st => ⟨_, st⟩) (Nat.ne_of_lt F.ns.lt) (next_is_new F) (fun q hq => Nat.ne_of_lt (Heap.lt_size (N q hq).1)) (by show IsRangeIter _ _ _ _ _; rw [hn]; simpa using Heap.get?_push_size _ rfl) (F.push _) (fun q hq => ⟨Heap.get?_push_of_some _ (N q hq).1, (N q hq).2⟩) (fun s' v Q' q => hgo s' _ v Q' q) hp ?_ done
  rintro i v c m s₁ oI hi ⟨t, rfl⟩ hInv hne F₁ N₁
  have e1 : a₀ + (i : Int) * 1 = a₀ + (i : Int) := by omega
  rw [e1]
  exact turn i t c m s₁ _ oI hi hInv hne F₁ N₁
end
theorem news_sub {h₀ h : Heap} {L : Addr} {A B : List (Addr × Obj)} (N : News h₀ L h B) (hs : ∀ q ∈ A, q ∈ B) : News h₀ L h A := fun q hq => N q (hs q hq)
end
-- MUse2
section
open PySem PySem.W PySem.Calls PyProof.Rows
set_option maxRecDepth 100000
theorem use_cols {w : World} {p : Program} {loose : List Str} {mean : ExcName → Option Value} {mg mb : Str → Option Value} {base h₀ : Heap} {outer : List Env} {s : Shared} {A A₀ : Around} {L : Addr} {m : Str → Option Value} {env : Env} {news : List (Addr × Obj)} {Q : Value → Shared → Prop} {E : Value → Shared → Prop} {body : Str} {size : Int} {tb tz : Tok}
    (B : Below A₀ base outer h₀) (F : Fr h₀ L s.heap m) (X : Frag.In (hd.heap_39 w.params) h₀) (N : News h₀ L s.heap news) (T : Top p loose mean mg mb h₀) (hA : A.frames = some (env :: outer)) (hf : env.frame = some L) (hke : env.scope.kind = .function)
    (hh : A.handled = none) (hdp : A.depth ≤ 600) (hun : A.units ≤ 3000) (hlen : body.length ≤ 1000) (z1 : 1 ≤ size) (z2 : size ≤ 100)
    (h : ∀ h' tk c vs nn, IntsAre vs (0 :: colsFrom size body.cps.toList 0 0) → (∀ q ∈ news, @Ne Nat q.1 c) → Fr h₀ L h' m → News h₀ L h' ((c, W.listOf vs.toArray nn) :: news) → Q (.ref c) { s with heap := h', toks := tk }) :
    wpAny (model PySem.Challenge.rw_rl0090_01.row.prog w) A (call (.ref 144) [.str body tb, .int size tz] []) Q E s := by
  have G : Gnd w p loose mean mg mb A base (env :: outer) (hideAll s.heap (news.map (·.1))) := Gnd.of X T B F N hA hf hke
  refine wpAny_call (code_le (law_cols (G.frames hA.symm) (stays_hide _) hlen z1 z2 fun h' tk c vs nn st hc hc' hI => ?_) hh.symm hdp hA.symm rfl hun)
  obtain ⟨oL, esL, epL, eL, dL, rL⟩ := F.ns
  have F' := fr_stay F st
  have N' := news_stay N st
  refine h h' tk c vs nn hI (fun q hq e => ?_) F' (fun q hq => ?_)
  · have := (N q hq).1
    rw [e, hc] at this; cases this
  · rcases List.mem_cons.mp hq with rfl | hq
    · refine ⟨hc', fun e => ?_, Option.eq_none_iff_forall_ne_some.mpr fun o e => ?_⟩
      · dsimp only at e; rw [e, eL] at hc; cases hc
      · dsimp only at e; rw [F.keep _ o e] at hc; cases hc
    · exact N' q hq
theorem use_bisl {w : World} {p : Program} {loose : List Str} {mean : ExcName → Option Value} {mg mb : Str → Option Value} {base h₀ : Heap} {outer : List Env} {s : Shared} {A A₀ : Around} {L : Addr} {m : Str → Option Value} {env : Env} {Q : Value → Shared → Prop} {E : Value → Shared → Prop}
    {la kf : Addr} {xs : List Addr} {nn : Nat} {news rest' : List (Addr × Obj)} {f : Nat → Int} {x : Int} {tx : Tok}
    (hkey : KeyOk w p loose mean mg mb kf ((la, W.listOf (xs.map Value.ref).toArray nn) :: rest') xs f) (hkf : ∃ oc od fd sl, (kf, (⟨oc, od, .func fd, sl⟩ : Obj)) ∈ rest') (hn : (xs.length : Int) ≤ 1000) (mono : ∀ i j, i ≤ j → j < xs.length → f i ≤ f j)
    (B : Below A₀ base outer h₀) (F : Fr h₀ L s.heap m) (X : Frag.In (hd.heap_39 w.params) h₀) (N : News h₀ L s.heap news) (T : Top p loose mean mg mb h₀) (hA : A.frames = some (env :: outer)) (hf : env.frame = some L) (hke : env.scope.kind = .function)
    (hh : A.handled = none) (hdp : A.depth ≤ 450) (hun : A.units ≤ 2500) (hm : ∀ q ∈ (la, W.listOf (xs.map Value.ref).toArray nn) :: rest', q ∈ news)
    (h : ∀ h' tk (r : Nat) tv, r ≤ xs.length → (∀ i, i < r → f i < x) → (∀ i, r ≤ i → i < xs.length → x ≤ f i) → Fr h₀ L h' m → News h₀ L h' news → Q (.int (r : Int) tv) { s with heap := h', toks := tk }) :
    wpAny (model PySem.Challenge.rw_rl0090_01.row.prog w) A (call (.ref 105) [.ref la, .int x tx] [(Str.ofString "key", .ref kf)]) Q E s :=
  use_pure (D := 450) (U := 2500) (P := fun v => ∃ (r : Nat) (tv : Tok), v = .int (r : Int) tv ∧ r ≤ xs.length ∧ (∀ i, i < r → f i < x) ∧ (∀ i, r ≤ i → i < xs.length → x ≤ f i)) (own := (la, W.listOf (xs.map Value.ref).toArray nn) :: rest')
    (fun G hg ho hfr hR => bis_left G hg ho hfr hkey hkf hn mono fun h' tk r tv st e1 e2 e3 => hR h' tk _ st ⟨r, tv, rfl, e1, e2, e3⟩) B F X N T hA hf hke hh hdp hun hm
    fun h' tk v ⟨r, tv, e, e1, e2, e3⟩ F' N' => e ▸ h h' tk r tv e1 e2 e3 F' N'
theorem use_bisr {w : World} {p : Program} {loose : List Str} {mean : ExcName → Option Value} {mg mb : Str → Option Value} {base h₀ : Heap} {outer : List Env} {s : Shared} {A A₀ : Around} {L : Addr} {m : Str → Option Value} {env : Env} {Q : Value → Shared → Prop} {E : Value → Shared → Prop}
    {la kf : Addr} {xs : List Addr} {nn : Nat} {news rest' : List (Addr × Obj)} {f : Nat → Int} {x : Int} {tx : Tok}
    (hkey : KeyOk w p loose mean mg mb kf ((la, W.listOf (xs.map Value.ref).toArray nn) :: rest') xs f) (hkf : ∃ oc od fd sl, (kf, (⟨oc, od, .func fd, sl⟩ : Obj)) ∈ rest') (hn : (xs.length : Int) ≤ 1000) (mono : ∀ i j, i ≤ j → j < xs.length → f i ≤ f j)
    (B : Below A₀ base outer h₀) (F : Fr h₀ L s.heap m) (X : Frag.In (hd.heap_39 w.params) h₀) (N : News h₀ L s.heap news) (T : Top p loose mean mg mb h₀) (hA : A.frames = some (env :: outer)) (hf : env.frame = some L) (hke : env.scope.kind = .function)
    (hh : A.handled = none) (hdp : A.depth ≤ 450) (hun : A.units ≤ 2500) (hm : ∀ q ∈ (la, W.listOf (xs.map Value.ref).toArray nn) :: rest', q ∈ news)
    (h : ∀ h' tk (r : Nat) tv, r ≤ xs.length → (∀ i, i < r → f i ≤ x) → (∀ i, r ≤ i → i < xs.length → x < f i) → Fr h₀ L h' m → News h₀ L h' news → Q (.int (r : Int) tv) { s with heap := h', toks := tk }) :
    wpAny (model PySem.Challenge.rw_rl0090_01.row.prog w) A (call (.ref 96) [.ref la, .int x tx] [(Str.ofString "key", .ref kf)]) Q E s :=
  use_pure (D := 450) (U := 2500) (P := fun v => ∃ (r : Nat) (tv : Tok), v = .int (r : Int) tv ∧ r ≤ xs.length ∧ (∀ i, i < r → f i ≤ x) ∧ (∀ i, r ≤ i → i < xs.length → x < f i)) (own := (la, W.listOf (xs.map Value.ref).toArray nn) :: rest')
    (fun G hg ho hfr hR => bis_right G hg ho hfr hkey hkf hn mono fun h' tk r tv st e1 e2 e3 => hR h' tk _ st ⟨r, tv, rfl, e1, e2, e3⟩) B F X N T hA hf hke hh hdp hun hm
    fun h' tk v ⟨r, tv, e, e1, e2, e3⟩ F' N' => e ▸ h h' tk r tv e1 e2 e3 F' N'
end
-- MLoop2a
section
open PySem PySem.W PySem.Calls PyProof.Rows
theorem cols_len (size : Int) : ∀ (l : List Nat) (c : Int) (st : Nat), (colsFrom size l c st).length = l.length
  | [], _, _ => rfl
  | x :: r, c, st => by rw [colsFrom, List.length_cons, List.length_cons, cols_len size r]
theorem cols_last (size : Int) : ∀ (l : List Nat) (c : Int) (st : Nat), (c :: colsFrom size l c st).getLastD 0 = lastCol size l c st
  | [], _, _ => rfl
  | x :: r, c, st => by rw [colsFrom, lastCol, ← cols_last size r]; rfl
theorem item_lastI {prog : Program} {w : World} {A : Around} {E : Value → Shared → Prop} {s : Shared} {value slice : PySem.Expr} {l : Addr} {vs : List Value} {ns : List Int} {u : Tok} {ops : List Value} {Q : Value → Shared → Prop}
    (hl : s.heap.IsList l vs.toArray) (hI : IntsAre vs ns) (hne : ns ≠ []) (hz : ns.length ≤ 1000) (h : ∀ t, Q (.int (ns.getLastD 0) t) s)
    (hs : subscripted slice false (.ref l) (.int (-1) u) = operate ops (getItem (.ref l) (.int (-1) u))) :
    wpAny (model prog w) A (subscriptTail value slice (.ref l) (.int (-1) u)) Q E s := by
  have hlen := hI.length
  have hp : 0 < ns.length := List.length_pos_iff.mpr hne
  have hk : vs.length - 1 < vs.length := by omega
  obtain ⟨t, e⟩ := hI.int_at (vs.length - 1) vs[vs.length - 1] (List.getElem?_eq_getElem hk)
  have e3 : ns.getD (vs.length - 1) 0 = ns.getLastD 0 := by
    rw [hlen]
    cases ns with
    | nil => exact absurd rfl hne
    | cons a r => simp [List.getLastD, List.getLast_eq_getElem, List.getD]
  refine tail_any hl.typeIs slot_list_getitem.lookup (wpAny_getItem_list_neg hl (by decide) (by simp; omega) (by decide) (x := .int (ns.getLastD 0) t) ?_ (h t)) hs
  have e2 : ((-1 : Int) + (vs.toArray.size : Int)).toNat = vs.length - 1 := by simp; omega
  rw [e2, ← e3, ← e]
  simp [hk]
local macro_rules | `(tactic| k_all) => `(tactic| assumption)
set_option maxRecDepth 100000 in
set_option maxHeartbeats 8000000 in
theorem st0 {w : World} {p : Program} {loose : List Str} {mean : ExcName → Option Value} {mg mb : Str → Option Value} {h₀ : Heap} {L fa : Addr} {s : Shared} {Q : Flow → Shared → Prop} {E : Value → Shared → Prop}
    {u : Str → Option Value} {body : Str} {tB : Tok} {oW oZ : Obj} {size : Int} {tz : Tok} {rest : List (Addr × Obj)}
    (X' : Frag.In (hd.heap_39 w.params) h₀) (T' : Top p loose mean mg mb h₀) (B' : Below callerA h₀ [] h₀)
    (F : Fr h₀ L s.heap (kstB u [(Str.ofString "body", .str body tB)])) (hbl : body.cps.size ≤ 20) (hbl2 : body.length ≤ 20) (z1 : 1 ≤ size) (z2 : size ≤ 6)
    (N : News h₀ L s.heap ((L + 1, oW) :: (L + 1 + 1, oZ) :: rest)) (hZ : oZ.data = .cell (some (.int size tz)))
    (hQ : ∀ h' tk cl vs n, IntsAre vs ([0, 0, 0, 0, 0] ++ 0 :: colsFrom size body.cps.toList 0 0) → (∀ q ∈ (L + 1, oW) :: (L + 1 + 1, oZ) :: rest, @LT.lt Nat _ q.1 cl) → Fr h₀ L h' (fun y => if y = Str.ofString "columns" then some (.ref cl) else kstB u [(Str.ofString "body", .str body tB)] y) → News h₀ L h' ((cl, W.listOf vs.toArray n) :: (L + 1, oW) :: (L + 1 + 1, oZ) :: rest) → Q .next { s with heap := h', toks := tk }) :
    wpAny (model PySem.Challenge.rw_rl0090_01.row.prog w) (callerA.deeper (lawEnv L fa)) (exec (stmtAt loop2 0) (lawEnv L fa)) Q E s := by
  revert X'
  w_top off
  k_fill
  intro X'
  have hsc : lawScope = lawScope := rfl
  conv at hsc => rhs; whnf
  have hb : stmtAt loop2 0 = stmtAt loop2 0 := rfl
  conv at hb => rhs; whnf
  rw [hb]
  show wpAny _ (callerA.deeper (envOfC (Str.ofString "law") lawScope L fa (.ref 148))) (exec _ (envOfC (Str.ofString "law") lawScope L fa (.ref 148))) _ _ _
  rw [hsc]
  clear hsc hb
  have hMk9 := kstMark
  repeat' (first | ((k_here; (with_reducible show wpAny _ _ (subscriptTail _ _ (Value.ref _) (Value.int (-1) _)) _ _ _); k_dflt (refine' item_lastI ?l ?i ?e ?z ?_ ?s; (case l => exact News.isList (by k_asm) (by k_mem)); (case i => assumption); (case e => exact List.cons_ne_nil _ _); (case z => (simp only [List.length_cons, List.length_nil, cols_len, Array.length_toList]; omega)); (case s => with_unfolding_all rfl)); intro t9')) | ((k_here; (with_reducible show wpAny _ _ (call (Value.ref _) [Value.str _ _, Value.int _ _] []) _ _ _); k_dflt (refine' use_cols ?B ?F ?X ?N ?T ?hA ?hf ?hk ?hh ?hd ?hu ?hl ?z1 ?z2 ?_; (case hA => exact rfl); (case hf => exact rfl); (case hk => exact rfl); (case hh => exact rfl); (case B => k_asm); (case F => k_asm); (case X => k_asm); (case N => k_asm); (case T => k_asm); (case hd => exact Nat.le_of_ble_eq_true rfl); (case hu => exact Nat.le_of_ble_eq_true rfl); (case hl => omega); (case z1 => omega); (case z2 => omega); k_whole; intro h' tk' c' vs' nn' hI' hn' F' N'; (have hn1' := hn' _ (List.Mem.head _)); (dsimp only at hn1'); (show wpAny _ _ _ _ _ _)))) | ((k_here; (with_reducible show wpAny _ _ (binaryOp _ (Value.ref _) (Value.ref _)) _ _ _); k_dflt (refine' kmk_add_ints ?F ?N ?a ?b ?i ?j ?_ ?z; (case F => k_asm); (case N => k_asm); (case a => kmk_list); (case b => kmk_list); (case i => l_ints); (case j => l_ints); (case z => (simp only [sizeLine_eq, List.length_cons, List.length_nil, cols_len, Array.length_toList]; omega))); intro D' ws' h' F' N' l1 hI'; (try k_lt l1); (try k_sweep))) | (k_unfold; (try dsimp only)) | (k_end; wrow_close) | walk1 | (dsimp only; walk1) | fail "no step")
  rename News _ _ _ _ => NE
  rename IntsAre _ ([0, 0, 0, 0, 0] ++ _) => hJ
  obtain ⟨l1, l2, l3, l4, l5⟩ := (by assumption : _ < _ ∧ _ < _ ∧ L + 1 < _ ∧ L + 1 + 1 < _ ∧ AllLt _ rest)
  refine hQ _ _ _ _ 0 hJ (List.forall_mem_cons.mpr ⟨l3, List.forall_mem_cons.mpr ⟨l4, kst_ltOf l5⟩⟩) (by k_asm) (fun q hq => NE q ?_)
  rcases List.mem_cons.mp hq with rfl | hq
  · exact .head _
  · exact .tail _ (.tail _ (.tail _ hq))
set_option maxRecDepth 100000 in
set_option maxHeartbeats 8000000 in
theorem st1 {w : World} {p : Program} {loose : List Str} {mean : ExcName → Option Value} {mg mb : Str → Option Value} {h₀ : Heap} {L fa : Addr} {s : Shared} {Q : Flow → Shared → Prop} {E : Value → Shared → Prop}
    {u : Str → Option Value} {goal : Str} {tG : Tok} {oW oZ : Obj} {size : Int} {tz : Tok} {v9 : Option Value} {rest : List (Addr × Obj)}
    (X' : Frag.In (hd.heap_39 w.params) h₀) (T' : Top p loose mean mg mb h₀) (B' : Below callerA h₀ [] h₀)
    (F : Fr h₀ L s.heap (kstB u [(Str.ofString "goal", .str goal tG)])) (hbl : goal.cps.size ≤ 20) (hbl2 : goal.length ≤ 20) (z1 : 1 ≤ size) (z2 : size ≤ 6)
    (N : News h₀ L s.heap ((L + 1, oW) :: (L + 1 + 1, oZ) :: rest)) (hZ : oZ.data = .cell (some (.int size tz))) (hW : oW.data = .cell v9) (hr1 : ∀ q ∈ rest, q.1 ≠ L + 1)
    (hQ : ∀ h' tk oW' tx, oW'.data = .cell (some (.int (lastCol size goal.cps.toList 0 0) tx)) → Fr h₀ L h' (kstB u [(Str.ofString "goal", .str goal tG)]) → News h₀ L h' ((L + 1, oW') :: (L + 1 + 1, oZ) :: rest) → Q .next { s with heap := h', toks := tk }) :
    wpAny (model PySem.Challenge.rw_rl0090_01.row.prog w) (callerA.deeper (lawEnv L fa)) (exec (stmtAt loop2 1) (lawEnv L fa)) Q E s := by
  revert X'
  w_top off
  k_fill
  intro X'
  have hsc : lawScope = lawScope := rfl
  conv at hsc => rhs; whnf
  have hb : stmtAt loop2 1 = stmtAt loop2 1 := rfl
  conv at hb => rhs; whnf
  rw [hb]
  show wpAny _ (callerA.deeper (envOfC (Str.ofString "law") lawScope L fa (.ref 148))) (exec _ (envOfC (Str.ofString "law") lawScope L fa (.ref 148))) _ _ _
  rw [hsc]
  clear hsc hb
  have hMk9 := kstMark
  repeat' (first | ((k_here; (with_reducible show wpAny _ _ (subscriptTail _ _ (Value.ref _) (Value.int (-1) _)) _ _ _); k_dflt (refine' item_lastI ?l ?i ?e ?z ?_ ?s; (case l => exact News.isList (by k_asm) (by k_mem)); (case i => assumption); (case e => exact List.cons_ne_nil _ _); (case z => (simp only [List.length_cons, List.length_nil, cols_len, Array.length_toList]; omega)); (case s => with_unfolding_all rfl)); intro t9')) | ((k_here; (with_reducible show wpAny _ _ (call (Value.ref _) [Value.str _ _, Value.int _ _] []) _ _ _); k_dflt (refine' use_cols ?B ?F ?X ?N ?T ?hA ?hf ?hk ?hh ?hd ?hu ?hl ?z1 ?z2 ?_; (case hA => exact rfl); (case hf => exact rfl); (case hk => exact rfl); (case hh => exact rfl); (case B => k_asm); (case F => k_asm); (case X => k_asm); (case N => k_asm); (case T => k_asm); (case hd => exact Nat.le_of_ble_eq_true rfl); (case hu => exact Nat.le_of_ble_eq_true rfl); (case hl => omega); (case z1 => omega); (case z2 => omega); k_whole; intro h' tk' c' vs' nn' hI' hn' F' N'; (have hn1' := hn' _ (List.Mem.head _)); (dsimp only at hn1'); (show wpAny _ _ _ _ _ _)))) | ((k_here; (with_reducible show wpAny _ _ (binaryOp _ (Value.ref _) (Value.ref _)) _ _ _); k_dflt (refine' kmk_add_ints ?F ?N ?a ?b ?i ?j ?_ ?z; (case F => k_asm); (case N => k_asm); (case a => kmk_list); (case b => kmk_list); (case i => l_ints); (case j => l_ints); (case z => (simp only [sizeLine_eq, List.length_cons, List.length_nil, cols_len, Array.length_toList]; omega))); intro D' ws' h' F' N' l1 hI'; (try k_lt l1); (try k_sweep))) | (k_unfold; (try dsimp only)) | (k_end; wrow_close) | walk1 | (dsimp only; walk1) | fail "no step")
  rename News _ _ _ _ => NE
  rename Obj.data _ = Data.cell (some (Value.int (List.getLastD _ _) _)) => hd9
  rw [cols_last] at hd9
  exact hQ _ _ _ _ hd9 (by k_asm) (fun q hq => NE q (.tail _ hq))
end
-- MLoop2b
section
open PySem PySem.W PySem.Calls PyProof.Rows
abbrev lawQ : Str := (Str.ofString "law" ++ Str.ofString ".<locals>.") ++ Str.ofString "<lambda>"
local macro_rules | `(tactic| k_all) => `(tactic| assumption)
set_option maxRecDepth 100000 in
set_option maxHeartbeats 8000000 in
theorem st2n {w : World} {p : Program} {loose : List Str} {mean : ExcName → Option Value} {mg mb : Str → Option Value} {h₀ : Heap} {L fa : Addr} {s : Shared} {Q : Flow → Shared → Prop} {E : Value → Shared → Prop}
    {u : Str → Option Value} {oW oZ : Obj} {size x : Int} {tz tx : Tok} {lw ld : Addr} {va : List Value} {ws : List WsR} {na nL : Nat} {rest : List (Addr × Obj)}
    (X' : Frag.In (hd.heap_39 w.params) h₀) (T' : Top p loose mean mg mb h₀) (B' : Below callerA h₀ [] h₀)
    (F : Fr h₀ L s.heap (kstB u [(Str.ofString "lows", .ref lw), (Str.ofString "leads", .ref ld)])) (C : CodeHd h₀ 148 146) (z1 : 1 ≤ size) (z2 : size ≤ 6)
    (N : News h₀ L s.heap ((146, tabObj #[]) :: (L + 1, oW) :: (L + 1 + 1, oZ) :: (lw, W.listOf va.toArray na) :: (ld, W.listOf ((ws.map WsR.x).map Value.ref).toArray nL) :: rest)) (hZ : oZ.data = .cell (some (.int size tz))) (hW : oW.data = .cell (some (.int x tx)))
    (hr1 : ∀ q ∈ rest, q.1 ≠ 146) (hr2 : ∀ q ∈ rest, q.1 ≠ lw) (e1 : @LT.lt Nat _ 146 L) (e2 : @LT.lt Nat _ (L + 2) lw) (e3 : @LT.lt Nat _ (L + 2) ld) (e4 : @Ne Nat ld lw) (hva : va.length ≤ 10) (hwl : ws.length ≤ 100)
    (hws : ∀ r ∈ ws, r.Ok ∧ ∀ q ∈ r.led w, q ∈ rest) (hmono : HidP (∀ i j, i ≤ j → j < ws.length → lvAt ws size i ≤ lvAt ws size j))
    (hQ : ∀ h' tk r tv c1 oc vsc tqc, oc.data = .fields vsc → vsc[1]? = some (.str lawQ tqc) → (∀ q ∈ (146, tabObj #[]) :: (L + 1, oW) :: (L + 1 + 1, oZ) :: (lw, W.listOf va.toArray na) :: (ld, W.listOf ((ws.map WsR.x).map Value.ref).toArray nL) :: rest, @LT.lt Nat _ q.1 c1) → (r : Nat) ≤ ws.length → HidP (∀ i, i < r → lvAt ws size i < x) → HidP (∀ i, r ≤ i → i < ws.length → x ≤ lvAt ws size i) → Fr h₀ L h' (kstB u [(Str.ofString "lows", .ref lw), (Str.ofString "leads", .ref ld)]) →
      News h₀ L h' ((146, tabObj #[rawInt 165, rawInt 49, Value.ref c1]) :: (c1, oc) :: (L + 1, oW) :: (L + 1 + 1, oZ) :: (lw, W.listOf (va ++ [Value.int (r : Int) tv]).toArray (na + 1)) :: (ld, W.listOf ((ws.map WsR.x).map Value.ref).toArray nL) :: rest) → Q .next { s with heap := h', toks := tk }) :
    wpAny (model PySem.Challenge.rw_rl0090_01.row.prog w) (callerA.deeper (lawEnv L fa)) (exec (stmtAt loop2 2) (lawEnv L fa)) Q E s := by
  revert X'
  w_top off
  k_fill
  intro X'
  have hsc : lawScope = lawScope := rfl
  conv at hsc => rhs; whnf
  have hb : stmtAt loop2 2 = stmtAt loop2 2 := rfl
  conv at hb => rhs; whnf
  rw [hb]
  show wpAny _ (callerA.deeper (envOfC (Str.ofString "law") lawScope L fa (.ref 148))) (exec _ (envOfC (Str.ofString "law") lawScope L fa (.ref 148))) _ _ _
  rw [hsc]
  clear hsc hb
  have hMk9 := kstMark
  repeat' ((fail_if_success (show wpAny _ _ (call (Value.ref 105) _ _) _ _ _)); (first | ((k_here; (with_reducible show wpAny _ _ (call (Value.builtin _) [Value.ref _, _]) _ _ _); k_dflt (refine' append_K ?k1 ?k2 ?k3 ?_ ?z; (case k1 => k_asm); (case k2 => k_asm); (case k3 => k_upd); (case z => (rw [sizeLine_eq]; simp only [List.size_toArray, List.length_map]; omega)); k_whole); intro h' F' N'; (try k_sweep))) | (k_unfold; (try dsimp only)) | (k_end; wrow_close) | walk1 | (dsimp only; walk1) | fail "no step"))
  show wpAny _ _ (call (Value.ref 105) [Value.ref _, Value.int _ _] [(Str.ofString "key", Value.ref _)]) _ _ _
  refine' use_bisl ?key ?kf ?hn ?mono ?B ?F ?X ?N ?T ?hA ?hf ?hk ?hh ?hd ?hu ?hm ?_
  case hA => exact rfl
  case hf => exact rfl
  case hk => exact rfl
  case hh => exact rfl
  case B => k_asm
  case F => k_asm
  case X => k_asm
  case N => k_asm
  case T => k_asm
  case hd => exact Nat.le_of_ble_eq_true rfl
  case hu => exact Nat.le_of_ble_eq_true rfl
  case hm => exact List.forall_mem_cons.mpr ⟨by k_mem, fun q hq => hq⟩
  case kf => exact ⟨_, _, _, _, .head _⟩
  case key =>
    refine' key_eq1 (List.mem_cons_of_mem _ ?h1) ?hnm ?hA ?hB ?hS ?hcl (List.mem_cons_of_mem _ ?h2) (List.mem_cons_of_mem _ ?h3) ?hoc ?hq ?hoz ?t0 ?t1 ?hws
    case h1 => k_mem
    case hnm => exact rfl
    case hA => exact rfl
    case hB => exact rfl
    case hS => exact rfl
    case hcl => exact rfl
    case h2 => k_mem
    case h3 => k_mem
    case hoc => assumption
    case hq => assumption
    case hoz => assumption
    case t0 => omega
    case t1 => omega
    case hws => exact fun r hr => ⟨(hws r hr).1, fun q hq => by repeat (first | exact (hws r hr).2 q hq | refine List.mem_cons_of_mem _ ?_)⟩
  case hn => (simp only [List.length_map]; omega)
  case mono => (simp only [List.length_map]; exact hmono.out)
  intro h9 tk9 r9 tv9 q1 q2 q3 F9 N9
  replace q2 := HidP.mk q2
  replace q3 := HidP.mk q3
  repeat' (first | ((k_here; (with_reducible show wpAny _ _ (call (Value.builtin _) [Value.ref _, _]) _ _ _); k_dflt (refine' append_K ?k1 ?k2 ?k3 ?_ ?z; (case k1 => k_asm); (case k2 => k_asm); (case k3 => k_upd); (case z => (rw [sizeLine_eq]; simp only [List.size_toArray, List.length_map]; omega)); k_whole); intro h' F' N'; (try k_sweep))) | (k_unfold; (try dsimp only)) | (k_end; wrow_close) | walk1 | (dsimp only; walk1) | fail "no step")
  rename News _ _ _ _ => NE
  simp only [List.push_toArray, List.append_toArray, List.nil_append, List.cons_append] at NE
  have q3' := q3.out
  simp only [List.length_map] at q1 q3'
  obtain ⟨l1, l2, l3, l4, l5, l6⟩ := (by assumption : @LT.lt Nat _ 146 _ ∧ @LT.lt Nat _ (L + 1) _ ∧ @LT.lt Nat _ (L + 1 + 1) _ ∧ @LT.lt Nat _ lw _ ∧ @LT.lt Nat _ ld _ ∧ AllLt _ rest)
  refine hQ _ _ r9 tv9 _ _ _ _ (by assumption) (by assumption) (List.forall_mem_cons.mpr ⟨l1, List.forall_mem_cons.mpr ⟨l2, List.forall_mem_cons.mpr ⟨l3, List.forall_mem_cons.mpr ⟨l4, List.forall_mem_cons.mpr ⟨l5, kst_ltOf l6⟩⟩⟩⟩⟩) q1 q2 (HidP.mk q3') (by k_asm) (fun q hq => NE q ?_)
  rcases List.mem_cons.mp hq with rfl | hq
  · exact .tail _ (.tail _ (.head _))
  rcases List.mem_cons.mp hq with rfl | hq
  · exact .tail _ (.head _)
  · exact .tail _ (.tail _ (.tail _ hq))
end
-- MLoop2c
section
open PySem PySem.W PySem.Calls PyProof.Rows
local macro_rules | `(tactic| k_all) => `(tactic| assumption)
set_option maxRecDepth 100000 in
set_option maxHeartbeats 8000000 in
theorem st3n {w : World} {p : Program} {loose : List Str} {mean : ExcName → Option Value} {mg mb : Str → Option Value} {h₀ : Heap} {L fa : Addr} {s : Shared} {Q : Flow → Shared → Prop} {E : Value → Shared → Prop}
    {u : Str → Option Value} {oW oZ : Obj} {size x : Int} {tz tx : Tok} {lw ld : Addr} {va : List Value} {ws : List WsR} {na nL : Nat} {rest : List (Addr × Obj)} {c1 : Addr}
    (X' : Frag.In (hd.heap_39 w.params) h₀) (T' : Top p loose mean mg mb h₀) (B' : Below callerA h₀ [] h₀)
    (F : Fr h₀ L s.heap (kstB u [(Str.ofString "highs", .ref lw), (Str.ofString "leads", .ref ld)])) (C : CodeHd h₀ 148 146) (z1 : 1 ≤ size) (z2 : size ≤ 6)
    (N : News h₀ L s.heap ((146, tabObj #[rawInt 165, rawInt 49, Value.ref c1]) :: (L + 1, oW) :: (L + 1 + 1, oZ) :: (lw, W.listOf va.toArray na) :: (ld, W.listOf ((ws.map WsR.x).map Value.ref).toArray nL) :: rest)) (hZ : oZ.data = .cell (some (.int size tz))) (hW : oW.data = .cell (some (.int x tx)))
    (hr1 : ∀ q ∈ rest, q.1 ≠ 146) (hr2 : ∀ q ∈ rest, q.1 ≠ lw) (e1 : @LT.lt Nat _ 146 L) (e2 : @LT.lt Nat _ (L + 2) lw) (e3 : @LT.lt Nat _ (L + 2) ld) (e4 : @Ne Nat ld lw) (hva : va.length ≤ 10) (hwl : ws.length ≤ 100)
    (hws : ∀ r ∈ ws, r.Ok ∧ ∀ q ∈ r.led w, q ∈ rest) (hmono : HidP (∀ i j, i ≤ j → j < ws.length → lvAt ws size i ≤ lvAt ws size j))
    (hQ : ∀ h' tk r tv c2 oc vsc tqc, oc.data = .fields vsc → vsc[1]? = some (.str lawQ tqc) → (∀ q ∈ (146, tabObj #[rawInt 165, rawInt 49, Value.ref c1]) :: (L + 1, oW) :: (L + 1 + 1, oZ) :: (lw, W.listOf va.toArray na) :: (ld, W.listOf ((ws.map WsR.x).map Value.ref).toArray nL) :: rest, @LT.lt Nat _ q.1 c2) → (r : Nat) ≤ ws.length → HidP (∀ i, i < r → lvAt ws size i ≤ x) → HidP (∀ i, r ≤ i → i < ws.length → x < lvAt ws size i) → Fr h₀ L h' (kstB u [(Str.ofString "highs", .ref lw), (Str.ofString "leads", .ref ld)]) →
      News h₀ L h' ((146, tabObj #[rawInt 165, rawInt 49, Value.ref c1, rawInt 166, rawInt 51, Value.ref c2]) :: (c2, oc) :: (L + 1, oW) :: (L + 1 + 1, oZ) :: (lw, W.listOf (va ++ [Value.int (r : Int) tv]).toArray (na + 1)) :: (ld, W.listOf ((ws.map WsR.x).map Value.ref).toArray nL) :: rest) → Q .next { s with heap := h', toks := tk }) :
    wpAny (model PySem.Challenge.rw_rl0090_01.row.prog w) (callerA.deeper (lawEnv L fa)) (exec (stmtAt loop2 3) (lawEnv L fa)) Q E s := by
  revert X'
  w_top off
  k_fill
  intro X'
  have hsc : lawScope = lawScope := rfl
  conv at hsc => rhs; whnf
  have hb : stmtAt loop2 3 = stmtAt loop2 3 := rfl
  conv at hb => rhs; whnf
  rw [hb]
  show wpAny _ (callerA.deeper (envOfC (Str.ofString "law") lawScope L fa (.ref 148))) (exec _ (envOfC (Str.ofString "law") lawScope L fa (.ref 148))) _ _ _
  rw [hsc]
  clear hsc hb
  have hMk9 := kstMark
  repeat' ((fail_if_success (show wpAny _ _ (call (Value.ref 96) _ _) _ _ _)); (first | ((k_here; (with_reducible show wpAny _ _ (call (Value.builtin _) [Value.ref _, _]) _ _ _); k_dflt (refine' append_K ?k1 ?k2 ?k3 ?_ ?z; (case k1 => k_asm); (case k2 => k_asm); (case k3 => k_upd); (case z => (rw [sizeLine_eq]; simp only [List.size_toArray, List.length_map]; omega)); k_whole); intro h' F' N'; (try k_sweep))) | (k_unfold; (try dsimp only)) | (k_end; wrow_close) | walk1 | (dsimp only; walk1) | fail "no step"))
  show wpAny _ _ (call (Value.ref 96) [Value.ref _, Value.int _ _] [(Str.ofString "key", Value.ref _)]) _ _ _
  refine' use_bisr ?key ?kf ?hn ?mono ?B ?F ?X ?N ?T ?hA ?hf ?hk ?hh ?hd ?hu ?hm ?_
  case hA => exact rfl
  case hf => exact rfl
  case hk => exact rfl
  case hh => exact rfl
  case B => k_asm
  case F => k_asm
  case X => k_asm
  case N => k_asm
  case T => k_asm
  case hd => exact Nat.le_of_ble_eq_true rfl
  case hu => exact Nat.le_of_ble_eq_true rfl
  case hm => exact List.forall_mem_cons.mpr ⟨by k_mem, fun q hq => hq⟩
  case kf => exact ⟨_, _, _, _, .head _⟩
  case key =>
    refine' key_eq2 (List.mem_cons_of_mem _ ?h1) ?hnm ?hA ?hB ?hS ?hcl (List.mem_cons_of_mem _ ?h2) (List.mem_cons_of_mem _ ?h3) ?hoc ?hq ?hoz ?t0 ?t1 ?hws
    case h1 => k_mem
    case hnm => exact rfl
    case hA => exact rfl
    case hB => exact rfl
    case hS => exact rfl
    case hcl => exact rfl
    case h2 => k_mem
    case h3 => k_mem
    case hoc => assumption
    case hq => assumption
    case hoz => assumption
    case t0 => omega
    case t1 => omega
    case hws => exact fun r hr => ⟨(hws r hr).1, fun q hq => by repeat (first | exact (hws r hr).2 q hq | refine List.mem_cons_of_mem _ ?_)⟩
  case hn => (simp only [List.length_map]; omega)
  case mono => (simp only [List.length_map]; exact hmono.out)
  intro h9 tk9 r9 tv9 q1 q2 q3 F9 N9
  replace q2 := HidP.mk q2
  replace q3 := HidP.mk q3
  repeat' (first | ((k_here; (with_reducible show wpAny _ _ (call (Value.builtin _) [Value.ref _, _]) _ _ _); k_dflt (refine' append_K ?k1 ?k2 ?k3 ?_ ?z; (case k1 => k_asm); (case k2 => k_asm); (case k3 => k_upd); (case z => (rw [sizeLine_eq]; simp only [List.size_toArray, List.length_map]; omega)); k_whole); intro h' F' N'; (try k_sweep))) | (k_unfold; (try dsimp only)) | (k_end; wrow_close) | walk1 | (dsimp only; walk1) | fail "no step")
  rename News _ _ _ _ => NE
  simp only [List.push_toArray, List.append_toArray, List.nil_append, List.cons_append] at NE
  have q3' := q3.out
  simp only [List.length_map] at q1 q3'
  obtain ⟨l1, l2, l3, l4, l5, l6⟩ := (by assumption : @LT.lt Nat _ 146 _ ∧ @LT.lt Nat _ (L + 1) _ ∧ @LT.lt Nat _ (L + 1 + 1) _ ∧ @LT.lt Nat _ lw _ ∧ @LT.lt Nat _ ld _ ∧ AllLt _ rest)
  refine hQ _ _ r9 tv9 _ _ _ _ (by assumption) (by assumption) (List.forall_mem_cons.mpr ⟨l1, List.forall_mem_cons.mpr ⟨l2, List.forall_mem_cons.mpr ⟨l3, List.forall_mem_cons.mpr ⟨l4, List.forall_mem_cons.mpr ⟨l5, kst_ltOf l6⟩⟩⟩⟩⟩) q1 q2 (HidP.mk q3') (by k_asm) (fun q hq => NE q ?_)
  rcases List.mem_cons.mp hq with rfl | hq
  · exact .tail _ (.tail _ (.head _))
  rcases List.mem_cons.mp hq with rfl | hq
  · exact .tail _ (.head _)
  · exact .tail _ (.tail _ (.tail _ hq))
end
-- MLoop2d
section
open PySem PySem.W PySem.Calls PyProof.Rows
local macro_rules | `(tactic| k_all) => `(tactic| assumption)
set_option maxRecDepth 100000 in
set_option maxHeartbeats 8000000 in
theorem st2h {w : World} {p : Program} {loose : List Str} {mean : ExcName → Option Value} {mg mb : Str → Option Value} {h₀ : Heap} {L fa : Addr} {s : Shared} {Q : Flow → Shared → Prop} {E : Value → Shared → Prop}
    {u : Str → Option Value} {oW oZ : Obj} {size x : Int} {tz tx : Tok} {lw ld : Addr} {va : List Value} {ws : List WsR} {na nL : Nat} {rest : List (Addr × Obj)} {c1 c2 : Addr} {oc : Obj} {vsc : Array Value} {tqc : Tok}
    (X' : Frag.In (hd.heap_39 w.params) h₀) (T' : Top p loose mean mg mb h₀) (B' : Below callerA h₀ [] h₀)
    (F : Fr h₀ L s.heap (kstB u [(Str.ofString "lows", .ref lw), (Str.ofString "leads", .ref ld)])) (C : CodeHd h₀ 148 146) (z1 : 1 ≤ size) (z2 : size ≤ 6)
    (N : News h₀ L s.heap ((146, tabObj #[rawInt 165, rawInt 49, Value.ref c1, rawInt 166, rawInt 51, Value.ref c2]) :: (c1, oc) :: (L + 1, oW) :: (L + 1 + 1, oZ) :: (lw, W.listOf va.toArray na) :: (ld, W.listOf ((ws.map WsR.x).map Value.ref).toArray nL) :: rest)) (hZ : oZ.data = .cell (some (.int size tz))) (hW : oW.data = .cell (some (.int x tx)))
    (hr1 : ∀ q ∈ rest, q.1 ≠ 146) (hr2 : ∀ q ∈ rest, q.1 ≠ lw) (e1 : @LT.lt Nat _ 146 L) (e2 : @LT.lt Nat _ (L + 2) lw) (e3 : @LT.lt Nat _ (L + 2) ld) (e4 : @Ne Nat ld lw) (hva : va.length ≤ 10) (hwl : ws.length ≤ 100)
    (hws : ∀ r ∈ ws, r.Ok ∧ ∀ q ∈ r.led w, q ∈ rest) (hmono : HidP (∀ i j, i ≤ j → j < ws.length → lvAt ws size i ≤ lvAt ws size j))
    (hoc : oc.data = .fields vsc) (hqc : vsc[1]? = some (.str lawQ tqc)) (e5 : @Ne Nat c1 146) (e6 : @Ne Nat c1 lw)
    (hQ : ∀ h' tk r tv, (r : Nat) ≤ ws.length → HidP (∀ i, i < r → lvAt ws size i < x) → HidP (∀ i, r ≤ i → i < ws.length → x ≤ lvAt ws size i) → Fr h₀ L h' (kstB u [(Str.ofString "lows", .ref lw), (Str.ofString "leads", .ref ld)]) →
      News h₀ L h' ((146, tabObj #[rawInt 165, rawInt 49, Value.ref c1, rawInt 166, rawInt 51, Value.ref c2]) :: (c1, oc) :: (L + 1, oW) :: (L + 1 + 1, oZ) :: (lw, W.listOf (va ++ [Value.int (r : Int) tv]).toArray (na + 1)) :: (ld, W.listOf ((ws.map WsR.x).map Value.ref).toArray nL) :: rest) → Q .next { s with heap := h', toks := tk }) :
    wpAny (model PySem.Challenge.rw_rl0090_01.row.prog w) (callerA.deeper (lawEnv L fa)) (exec (stmtAt loop2 2) (lawEnv L fa)) Q E s := by
  revert X'
  w_top off
  k_fill
  intro X'
  have hsc : lawScope = lawScope := rfl
  conv at hsc => rhs; whnf
  have hb : stmtAt loop2 2 = stmtAt loop2 2 := rfl
  conv at hb => rhs; whnf
  rw [hb]
  show wpAny _ (callerA.deeper (envOfC (Str.ofString "law") lawScope L fa (.ref 148))) (exec _ (envOfC (Str.ofString "law") lawScope L fa (.ref 148))) _ _ _
  rw [hsc]
  clear hsc hb
  have hMk9 := kstMark
  repeat' ((fail_if_success (show wpAny _ _ (call (Value.ref 105) _ _) _ _ _)); (first | ((k_here; (with_reducible show wpAny _ _ (call (Value.builtin _) [Value.ref _, _]) _ _ _); k_dflt (refine' append_K ?k1 ?k2 ?k3 ?_ ?z; (case k1 => k_asm); (case k2 => k_asm); (case k3 => k_upd); (case z => (rw [sizeLine_eq]; simp only [List.size_toArray, List.length_map]; omega)); k_whole); intro h' F' N'; (try k_sweep))) | (k_unfold; (try dsimp only)) | (k_end; wrow_close) | walk1 | (dsimp only; walk1) | fail "no step"))
  show wpAny _ _ (call (Value.ref 105) [Value.ref _, Value.int _ _] [(Str.ofString "key", Value.ref _)]) _ _ _
  refine' use_bisl ?key ?kf ?hn ?mono ?B ?F ?X ?N ?T ?hA ?hf ?hk ?hh ?hd ?hu ?hm ?_
  case hA => exact rfl
  case hf => exact rfl
  case hk => exact rfl
  case hh => exact rfl
  case B => k_asm
  case F => k_asm
  case X => k_asm
  case N => k_asm
  case T => k_asm
  case hd => exact Nat.le_of_ble_eq_true rfl
  case hu => exact Nat.le_of_ble_eq_true rfl
  case hm => exact List.forall_mem_cons.mpr ⟨by k_mem, fun q hq => hq⟩
  case kf => exact ⟨_, _, _, _, .head _⟩
  case key =>
    refine' key_eq1 (List.mem_cons_of_mem _ ?h1) ?hnm ?hA ?hB ?hS ?hcl (List.mem_cons_of_mem _ ?h2) (List.mem_cons_of_mem _ ?h3) ?hoc ?hq ?hoz ?t0 ?t1 ?hws
    case h1 => k_mem
    case hnm => exact rfl
    case hA => exact rfl
    case hB => exact rfl
    case hS => exact rfl
    case hcl => exact rfl
    case h2 => k_mem
    case h3 => k_mem
    case hoc => assumption
    case hq => assumption
    case hoz => assumption
    case t0 => omega
    case t1 => omega
    case hws => exact fun r hr => ⟨(hws r hr).1, fun q hq => by repeat (first | exact (hws r hr).2 q hq | refine List.mem_cons_of_mem _ ?_)⟩
  case hn => (simp only [List.length_map]; omega)
  case mono => (simp only [List.length_map]; exact hmono.out)
  intro h9 tk9 r9 tv9 q1 q2 q3 F9 N9
  replace q2 := HidP.mk q2
  replace q3 := HidP.mk q3
  repeat' (first | ((k_here; (with_reducible show wpAny _ _ (call (Value.builtin _) [Value.ref _, _]) _ _ _); k_dflt (refine' append_K ?k1 ?k2 ?k3 ?_ ?z; (case k1 => k_asm); (case k2 => k_asm); (case k3 => k_upd); (case z => (rw [sizeLine_eq]; simp only [List.size_toArray, List.length_map]; omega)); k_whole); intro h' F' N'; (try k_sweep))) | (k_unfold; (try dsimp only)) | (k_end; wrow_close) | walk1 | (dsimp only; walk1) | fail "no step")
  rename News _ _ _ _ => NE
  rename_i FE
  simp only [List.push_toArray] at NE
  have q3' := q3.out
  simp only [List.length_map] at q1 q3'
  refine hQ _ _ r9 tv9 q1 q2 (HidP.mk q3') (by k_asm) (fun q hq => NE q (.tail _ hq))
set_option maxRecDepth 100000 in
set_option maxHeartbeats 8000000 in
theorem st3h {w : World} {p : Program} {loose : List Str} {mean : ExcName → Option Value} {mg mb : Str → Option Value} {h₀ : Heap} {L fa : Addr} {s : Shared} {Q : Flow → Shared → Prop} {E : Value → Shared → Prop}
    {u : Str → Option Value} {oW oZ : Obj} {size x : Int} {tz tx : Tok} {lw ld : Addr} {va : List Value} {ws : List WsR} {na nL : Nat} {rest : List (Addr × Obj)} {c1 c2 : Addr} {oc : Obj} {vsc : Array Value} {tqc : Tok}
    (X' : Frag.In (hd.heap_39 w.params) h₀) (T' : Top p loose mean mg mb h₀) (B' : Below callerA h₀ [] h₀)
    (F : Fr h₀ L s.heap (kstB u [(Str.ofString "highs", .ref lw), (Str.ofString "leads", .ref ld)])) (C : CodeHd h₀ 148 146) (z1 : 1 ≤ size) (z2 : size ≤ 6)
    (N : News h₀ L s.heap ((146, tabObj #[rawInt 165, rawInt 49, Value.ref c1, rawInt 166, rawInt 51, Value.ref c2]) :: (c2, oc) :: (L + 1, oW) :: (L + 1 + 1, oZ) :: (lw, W.listOf va.toArray na) :: (ld, W.listOf ((ws.map WsR.x).map Value.ref).toArray nL) :: rest)) (hZ : oZ.data = .cell (some (.int size tz))) (hW : oW.data = .cell (some (.int x tx)))
    (hr1 : ∀ q ∈ rest, q.1 ≠ 146) (hr2 : ∀ q ∈ rest, q.1 ≠ lw) (e1 : @LT.lt Nat _ 146 L) (e2 : @LT.lt Nat _ (L + 2) lw) (e3 : @LT.lt Nat _ (L + 2) ld) (e4 : @Ne Nat ld lw) (hva : va.length ≤ 10) (hwl : ws.length ≤ 100)
    (hws : ∀ r ∈ ws, r.Ok ∧ ∀ q ∈ r.led w, q ∈ rest) (hmono : HidP (∀ i j, i ≤ j → j < ws.length → lvAt ws size i ≤ lvAt ws size j))
    (hoc : oc.data = .fields vsc) (hqc : vsc[1]? = some (.str lawQ tqc)) (e5 : @Ne Nat c2 146) (e6 : @Ne Nat c2 lw)
    (hQ : ∀ h' tk r tv, (r : Nat) ≤ ws.length → HidP (∀ i, i < r → lvAt ws size i ≤ x) → HidP (∀ i, r ≤ i → i < ws.length → x < lvAt ws size i) → Fr h₀ L h' (kstB u [(Str.ofString "highs", .ref lw), (Str.ofString "leads", .ref ld)]) →
      News h₀ L h' ((146, tabObj #[rawInt 165, rawInt 49, Value.ref c1, rawInt 166, rawInt 51, Value.ref c2]) :: (c2, oc) :: (L + 1, oW) :: (L + 1 + 1, oZ) :: (lw, W.listOf (va ++ [Value.int (r : Int) tv]).toArray (na + 1)) :: (ld, W.listOf ((ws.map WsR.x).map Value.ref).toArray nL) :: rest) → Q .next { s with heap := h', toks := tk }) :
    wpAny (model PySem.Challenge.rw_rl0090_01.row.prog w) (callerA.deeper (lawEnv L fa)) (exec (stmtAt loop2 3) (lawEnv L fa)) Q E s := by
  revert X'
  w_top off
  k_fill
  intro X'
  have hsc : lawScope = lawScope := rfl
  conv at hsc => rhs; whnf
  have hb : stmtAt loop2 3 = stmtAt loop2 3 := rfl
  conv at hb => rhs; whnf
  rw [hb]
  show wpAny _ (callerA.deeper (envOfC (Str.ofString "law") lawScope L fa (.ref 148))) (exec _ (envOfC (Str.ofString "law") lawScope L fa (.ref 148))) _ _ _
  rw [hsc]
  clear hsc hb
  have hMk9 := kstMark
  repeat' ((fail_if_success (show wpAny _ _ (call (Value.ref 96) _ _) _ _ _)); (first | ((k_here; (with_reducible show wpAny _ _ (call (Value.builtin _) [Value.ref _, _]) _ _ _); k_dflt (refine' append_K ?k1 ?k2 ?k3 ?_ ?z; (case k1 => k_asm); (case k2 => k_asm); (case k3 => k_upd); (case z => (rw [sizeLine_eq]; simp only [List.size_toArray, List.length_map]; omega)); k_whole); intro h' F' N'; (try k_sweep))) | (k_unfold; (try dsimp only)) | (k_end; wrow_close) | walk1 | (dsimp only; walk1) | fail "no step"))
  show wpAny _ _ (call (Value.ref 96) [Value.ref _, Value.int _ _] [(Str.ofString "key", Value.ref _)]) _ _ _
  refine' use_bisr ?key ?kf ?hn ?mono ?B ?F ?X ?N ?T ?hA ?hf ?hk ?hh ?hd ?hu ?hm ?_
  case hA => exact rfl
  case hf => exact rfl
  case hk => exact rfl
  case hh => exact rfl
  case B => k_asm
  case F => k_asm
  case X => k_asm
  case N => k_asm
  case T => k_asm
  case hd => exact Nat.le_of_ble_eq_true rfl
  case hu => exact Nat.le_of_ble_eq_true rfl
  case hm => exact List.forall_mem_cons.mpr ⟨by k_mem, fun q hq => hq⟩
  case kf => exact ⟨_, _, _, _, .head _⟩
  case key =>
    refine' key_eq2 (List.mem_cons_of_mem _ ?h1) ?hnm ?hA ?hB ?hS ?hcl (List.mem_cons_of_mem _ ?h2) (List.mem_cons_of_mem _ ?h3) ?hoc ?hq ?hoz ?t0 ?t1 ?hws
    case h1 => k_mem
    case hnm => exact rfl
    case hA => exact rfl
    case hB => exact rfl
    case hS => exact rfl
    case hcl => exact rfl
    case h2 => k_mem
    case h3 => k_mem
    case hoc => assumption
    case hq => assumption
    case hoz => assumption
    case t0 => omega
    case t1 => omega
    case hws => exact fun r hr => ⟨(hws r hr).1, fun q hq => by repeat (first | exact (hws r hr).2 q hq | refine List.mem_cons_of_mem _ ?_)⟩
  case hn => (simp only [List.length_map]; omega)
  case mono => (simp only [List.length_map]; exact hmono.out)
  intro h9 tk9 r9 tv9 q1 q2 q3 F9 N9
  replace q2 := HidP.mk q2
  replace q3 := HidP.mk q3
  repeat' (first | ((k_here; (with_reducible show wpAny _ _ (call (Value.builtin _) [Value.ref _, _]) _ _ _); k_dflt (refine' append_K ?k1 ?k2 ?k3 ?_ ?z; (case k1 => k_asm); (case k2 => k_asm); (case k3 => k_upd); (case z => (rw [sizeLine_eq]; simp only [List.size_toArray, List.length_map]; omega)); k_whole); intro h' F' N'; (try k_sweep))) | (k_unfold; (try dsimp only)) | (k_end; wrow_close) | walk1 | (dsimp only; walk1) | fail "no step")
  rename News _ _ _ _ => NE
  rename_i FE
  simp only [List.push_toArray] at NE
  have q3' := q3.out
  simp only [List.length_map] at q1 q3'
  refine hQ _ _ r9 tv9 q1 q2 (HidP.mk q3') (by k_asm) (fun q hq => NE q (.tail _ hq))
end
-- MLoop2e
section
open PySem PySem.W PySem.Calls PyProof.Rows
theorem item_lastV {prog : Program} {w : World} {A : Around} {E : Value → Shared → Prop} {s : Shared} {value slice : PySem.Expr} {l : Addr} {vi : List Value} {v : Value} {u : Tok} {ops : List Value} {Q : Value → Shared → Prop}
    (hl : s.heap.IsList l (vi ++ [v]).toArray) (h : Q v s)
    (hs : subscripted slice false (.ref l) (.int (-1) u) = operate ops (getItem (.ref l) (.int (-1) u))) :
    wpAny (model prog w) A (subscriptTail value slice (.ref l) (.int (-1) u)) Q E s :=
  tail_any hl.typeIs slot_list_getitem.lookup (wpAny_getItem_list_neg hl (by decide) (by simp; omega) (by decide) (by
    have e : ((-1 : Int) + ((vi ++ [v]).toArray.size : Int)).toNat = vi.length := by simp; omega
    rw [e]; simp) h) hs
theorem len_carried {prog : Program} {w : World} {A : Around} {E : Value → Shared → Prop} {s : Shared} {l : Addr} {ys : List Value} {ns : List Int} {Q : Value → Shared → Prop}
    (hl : s.heap.IsList l ys.toArray) (hc : CarriedAll ys (ns.map PyData.int)) (hz : ns.length ≤ 1000)
    (h : Q (.int ns.length (s.toks + 1)) { s with toks := s.toks + 1 + 1 }) : wpAny (model prog w) A (call (.builtin "len") [.ref l]) Q E s := by
  have e : ys.toArray.size = ns.length := by simp [(IntsAre.ofCarried hc).length]
  exact len_list hl (by rw [e]; omega) (by rw [e]; exact h)
local macro_rules | `(tactic| k_all) => `(tactic| assumption)
set_option maxRecDepth 100000 in
set_option maxHeartbeats 8000000 in
theorem st4 {w : World} {p : Program} {loose : List Str} {mean : ExcName → Option Value} {mg mb : Str → Option Value} {h₀ : Heap} {L fa : Addr} {s : Shared} {Q : Flow → Shared → Prop} {E : Value → Shared → Prop}
    {u : Str → Option Value} {oW oZ : Obj} {x : Int} {tx tv : Tok} {lw cl : Addr} {va vs : List Value} {cs : List Int} {r na n : Nat} {rest : List (Addr × Obj)}
    (X' : Frag.In (hd.heap_39 w.params) h₀) (T' : Top p loose mean mg mb h₀) (B' : Below callerA h₀ [] h₀)
    (F : Fr h₀ L s.heap (kstB u [(Str.ofString "lows", .ref lw), (Str.ofString "columns", .ref cl)])) (hcs : IntsAre vs cs) (hcl : cs.length ≤ 40)
    (N : News h₀ L s.heap ((cl, W.listOf vs.toArray n) :: (L + 1, oW) :: (L + 1 + 1, oZ) :: (lw, W.listOf (va ++ [Value.int (r : Int) tv]).toArray na) :: rest)) (hW : oW.data = .cell (some (.int x tx))) (hr : r = (cs.filter fun c => decide (c < x)).length)
    (hQ : ∀ h' tk, Fr h₀ L h' (kstB u [(Str.ofString "lows", .ref lw), (Str.ofString "columns", .ref cl)]) → News h₀ L h' ((cl, W.listOf vs.toArray n) :: (L + 1, oW) :: (L + 1 + 1, oZ) :: (lw, W.listOf (va ++ [Value.int (r : Int) tv]).toArray na) :: rest) → Q .next { s with heap := h', toks := tk }) :
    wpAny (model PySem.Challenge.rw_rl0090_01.row.prog w) (callerA.deeper (lawEnv L fa)) (exec (stmtAt loop2 4) (lawEnv L fa)) Q E s := by
  revert X'
  w_top off
  k_fill
  intro X'
  have hsc : lawScope = lawScope := rfl
  conv at hsc => rhs; whnf
  have hb : stmtAt loop2 4 = stmtAt loop2 4 := rfl
  conv at hb => rhs; whnf
  rw [hb]
  show wpAny _ (callerA.deeper (envOfC (Str.ofString "law") lawScope L fa (.ref 148))) (exec _ (envOfC (Str.ofString "law") lawScope L fa (.ref 148))) _ _ _
  rw [hsc]
  clear hsc hb
  have hMk9 := kstMark
  have hfl : (cs.filter fun c => decide (c < x)).length ≤ cs.length := List.length_filter_le _ _
  repeat' (first | ((k_here; (with_reducible show wpAny _ _ (subscriptTail _ _ (Value.ref _) (Value.int (-1) _)) _ _ _); k_dflt (refine' item_lastV ?l ?_ ?s; (case l => exact News.isList (by k_asm) (by k_mem)); (case s => with_unfolding_all rfl)))) | ((k_here; (with_reducible show wpAny _ _ (call (Value.builtin "len") [Value.ref _]) _ _ _); k_dflt (refine' len_carried ?k1 ?k2 ?k3 ?_; (case k1 => assumption); (case k2 => assumption); (case k3 => omega); k_whole))) | (k_unfold; (try dsimp only)) | (k_end; wrow_close) | walk1 | (dsimp only; walk1) | fail "no step")
  all_goals (try k_data)
  all_goals first | (exfalso; omega) | (exact hQ _ _ (by k_asm) (by assumption))
set_option maxRecDepth 100000 in
set_option maxHeartbeats 8000000 in
theorem st5 {w : World} {p : Program} {loose : List Str} {mean : ExcName → Option Value} {mg mb : Str → Option Value} {h₀ : Heap} {L fa : Addr} {s : Shared} {Q : Flow → Shared → Prop} {E : Value → Shared → Prop}
    {u : Str → Option Value} {oW oZ : Obj} {x : Int} {tx tv : Tok} {lw cl : Addr} {va vs : List Value} {cs : List Int} {r na n : Nat} {rest : List (Addr × Obj)}
    (X' : Frag.In (hd.heap_39 w.params) h₀) (T' : Top p loose mean mg mb h₀) (B' : Below callerA h₀ [] h₀)
    (F : Fr h₀ L s.heap (kstB u [(Str.ofString "highs", .ref lw), (Str.ofString "columns", .ref cl)])) (hcs : IntsAre vs cs) (hcl : cs.length ≤ 40)
    (N : News h₀ L s.heap ((cl, W.listOf vs.toArray n) :: (L + 1, oW) :: (L + 1 + 1, oZ) :: (lw, W.listOf (va ++ [Value.int (r : Int) tv]).toArray na) :: rest)) (hW : oW.data = .cell (some (.int x tx))) (hr : r = (cs.filter fun c => decide (c ≤ x)).length)
    (hQ : ∀ h' tk, Fr h₀ L h' (kstB u [(Str.ofString "highs", .ref lw), (Str.ofString "columns", .ref cl)]) → News h₀ L h' ((cl, W.listOf vs.toArray n) :: (L + 1, oW) :: (L + 1 + 1, oZ) :: (lw, W.listOf (va ++ [Value.int (r : Int) tv]).toArray na) :: rest) → Q .next { s with heap := h', toks := tk }) :
    wpAny (model PySem.Challenge.rw_rl0090_01.row.prog w) (callerA.deeper (lawEnv L fa)) (exec (stmtAt loop2 5) (lawEnv L fa)) Q E s := by
  revert X'
  w_top off
  k_fill
  intro X'
  have hsc : lawScope = lawScope := rfl
  conv at hsc => rhs; whnf
  have hb : stmtAt loop2 5 = stmtAt loop2 5 := rfl
  conv at hb => rhs; whnf
  rw [hb]
  show wpAny _ (callerA.deeper (envOfC (Str.ofString "law") lawScope L fa (.ref 148))) (exec _ (envOfC (Str.ofString "law") lawScope L fa (.ref 148))) _ _ _
  rw [hsc]
  clear hsc hb
  have hMk9 := kstMark
  have hfl : (cs.filter fun c => decide (c ≤ x)).length ≤ cs.length := List.length_filter_le _ _
  repeat' (first | ((k_here; (with_reducible show wpAny _ _ (subscriptTail _ _ (Value.ref _) (Value.int (-1) _)) _ _ _); k_dflt (refine' item_lastV ?l ?_ ?s; (case l => exact News.isList (by k_asm) (by k_mem)); (case s => with_unfolding_all rfl)))) | ((k_here; (with_reducible show wpAny _ _ (call (Value.builtin "len") [Value.ref _]) _ _ _); k_dflt (refine' len_carried ?k1 ?k2 ?k3 ?_; (case k1 => assumption); (case k2 => assumption); (case k3 => omega); k_whole))) | (k_unfold; (try dsimp only)) | (k_end; wrow_close) | walk1 | (dsimp only; walk1) | fail "no step")
  all_goals (try k_data)
  all_goals first | (exfalso; omega) | (exact hQ _ _ (by k_asm) (by assumption))
end
-- MMath4
section
open PySem PySem.W PySem.Calls PyProof.Rows
theorem colStep_le {ts col : Int} {st c : Nat} (h1 : 1 ≤ ts) : col ≤ (colStep ts col st c).1 := by
  unfold colStep
  split
  · dsimp only; omega
  split
  · exact Int.le_refl _
  split
  · dsimp only
    rw [Int.fdiv_eq_ediv_of_nonneg _ (by omega)]
    have := Int.emod_add_mul_ediv col ts
    have h2 := Int.emod_lt_of_pos col (show 0 < ts by omega)
    rw [Int.mul_comm] at this
    omega
  · exact Int.le_refl _
theorem lastCol_ge {ts : Int} (h1 : 1 ≤ ts) : ∀ (l : List Nat) (col : Int) (st : Nat), col ≤ lastCol ts l col st
  | [], _, _ => Int.le_refl _
  | c :: r, col, st => by rw [lastCol]; exact Int.le_trans (colStep_le h1) (lastCol_ge h1 r _ _)
theorem lastCol_mono {ts : Int} (h1 : 1 ≤ ts) : ∀ (l : List Nat) (col : Int) (st i j : Nat), i ≤ j → lastCol ts (l.take i) col st ≤ lastCol ts (l.take j) col st
  | [], _, _, _, _, _ => by simp
  | c :: r, col, st, 0, j, _ => by rw [List.take_zero]; exact lastCol_ge h1 _ _ _
  | c :: r, col, st, i + 1, 0, h => by omega
  | c :: r, col, st, i + 1, j + 1, h => by rw [List.take_succ_cons, List.take_succ_cons, lastCol, lastCol]; exact lastCol_mono h1 r _ _ i j (by omega)
theorem cols_at (ts : Int) : ∀ (l : List Nat) (c : Int) (st j : Nat), j ≤ l.length → (c :: colsFrom ts l c st).getD j 0 = lastCol ts (l.take j) c st
  | l, c, st, 0, _ => by simp [lastCol]
  | [], c, st, j + 1, h => by simp at h
  | x :: r, c, st, j + 1, h => by
    rw [List.getD_cons_succ, colsFrom, List.take_succ_cons, lastCol]
    exact cols_at ts r _ _ j (by simpa using h)
theorem count_split {p : Int → Bool} : ∀ (cs : List Int) (r : Nat), r ≤ cs.length → (∀ i, i < r → p (cs.getD i 0) = true) → (∀ i, r ≤ i → i < cs.length → p (cs.getD i 0) = false) → (cs.filter p).length = r
  | [], r, h, _, _ => by simp at h ⊢; exact h.symm
  | a :: cs, 0, _, _, h2 => by
    have ha : p a = false := h2 0 (Nat.le_refl _) (by simp)
    rw [List.filter_cons, ha]
    exact count_split cs 0 (Nat.zero_le _) (fun i hi => absurd hi (Nat.not_lt_zero _)) (fun i _ hi => h2 (i + 1) (by omega) (by simpa using hi))
  | a :: cs, r + 1, h, h1, h2 => by
    have ha : p a = true := h1 0 (by omega)
    rw [List.filter_cons, ha, if_pos rfl, List.length_cons]
    rw [count_split cs r (by simpa using h) (fun i hi => h1 (i + 1) (by omega)) (fun i hi hl => h2 (i + 1) (by omega) (by simpa using hl))]
theorem scan_stop : ∀ (l : List Nat) (cnt : List Int) (b n nt : Int), scan (l ++ [120]) cnt b n nt = scan l cnt b n nt
  | [], _, _, _, _ => rfl
  | c :: r, cnt, b, n, nt => by
    rw [List.cons_append, scan, scan]
    split
    · exact scan_stop r _ _ _ _
    split
    · exact scan_stop r _ _ _ _
    · rfl
/-- a Whitespace that has read the text l -/
structure Reads6 (r : WsR) (l : List Nat) : Prop where
  ok : r.Ok
  run : runOk 0 l = true
  tab : ∀ c ∈ l, c ≠ 9
  scan : Mine.scan r.raw.cps.toList [] 0 0 0 = Mine.scan (tabs (parseTail l)) [] 0 0 0
section
variable {r r' : WsR} {l l' : List Nat}
theorem Reads6.col (h : Reads6 r l) {ts : Int} (h1 : 1 ≤ ts) : lvl r.cnt r.b r.nt ts = lastCol ts l 0 0 := by
  have e := h.ok.read
  rw [h.scan] at e
  have e1 : r.cnt = (Mine.scan (tabs (parseTail l)) [] 0 0 0).cnt := congrArg Scan.cnt e
  have e2 : r.b = (Mine.scan (tabs (parseTail l)) [] 0 0 0).b := congrArg Scan.b e
  have e3 : r.nt = (Mine.scan (tabs (parseTail l)) [] 0 0 0).nt := congrArg Scan.nt e
  rw [e1, e2, e3, scan_col h1 l.length l (Nat.le_refl _) h.tab [] 0 0 0 (Int.le_refl _)]
  have : lvl [] 0 0 ts = 0 := by
    unfold lvl
    have : ((([] : List Int).length : Int) - ts).toNat = 0 := by simp; omega
    rw [this]
    simp [lvlSum]
  rw [this]
theorem Reads6.sound (h : Reads6 r l) : Sound r.cnt r.b r.n r.nt ∧ r.cnt.length ≤ 6 ∧ r.b ≤ 5 := by
  have e := h.ok.read
  rw [h.scan] at e
  have e1 : r.cnt = (Mine.scan (tabs (parseTail l)) [] 0 0 0).cnt := congrArg Scan.cnt e
  have e2 : r.b = (Mine.scan (tabs (parseTail l)) [] 0 0 0).b := congrArg Scan.b e
  have e3 : r.nt = (Mine.scan (tabs (parseTail l)) [] 0 0 0).nt := congrArg Scan.nt e
  have e4 : r.n = (Mine.scan (tabs (parseTail l)) [] 0 0 0).n := congrArg Scan.n e
  rw [e1, e2, e3, e4]
  have hs := scan_small (tabs (parseTail l)) [] 0 0 0 0 rfl (by simp) (parse_run l.length l (Nat.le_refl _) 0 h.run)
  exact ⟨scan_sound _ _ _ _ _ Sound.start, hs.1, hs.2⟩
theorem Reads6.less (h : Reads6 r l) (h' : Reads6 r' l') : LessSpec r.cnt r.b r.n r.nt r'.cnt r'.b r'.n r'.nt ↔ ∀ ts : Int, 1 ≤ ts → ts ≤ 6 → lastCol ts l 0 0 < lastCol ts l' 0 0 := by
  obtain ⟨s1, s2, s3⟩ := h.sound
  obtain ⟨s1', s2', s3'⟩ := h'.sound
  rw [less_iff s1 s1' s2 s2' s3 s3']
  constructor
  · intro k ts a b; rw [← h.col a, ← h'.col a]; exact k ts a b
  · intro k ts a b; rw [h.col a, h'.col a]; exact k ts a b
theorem Reads6.equal (h : Reads6 r l) (h' : Reads6 r' l') : (r.cnt = r'.cnt ∧ r.b = r'.b) ↔ ∀ ts : Int, 1 ≤ ts → ts ≤ 6 → lastCol ts l 0 0 = lastCol ts l' 0 0 := by
  obtain ⟨s1, s2, s3⟩ := h.sound
  obtain ⟨s1', s2', s3'⟩ := h'.sound
  rw [equal_iff s1 s1' s2 s2' s3 s3']
  constructor
  · intro k ts a b; rw [← h.col a, ← h'.col a]; exact k ts a b
  · intro k ts a b; rw [h.col a, h'.col a]; exact k ts a b
end
end
-- MLoop2f
section
open PySem PySem.W PySem.Calls PyProof.Rows
set_option maxRecDepth 100000
set_option maxHeartbeats 8000000 in
theorem loop2_turn0 {w : World} {p : Program} {loose : List Str} {mean : ExcName → Option Value} {mg mb : Str → Option Value} {h₀ : Heap} {L fa : Addr} {s : Shared} {Q : Flow → Shared → Prop} {E : Value → Shared → Prop} {m : Str → Option Value}
    {body goal : Str} {tB tG : Tok} {oW oZ : Obj} {size : Int} {tz : Tok} {v9 : Option Value} {lw hw ld : Addr} {va vb : List Value} {ws : List WsR} {na nb nL : Nat} {rest : List (Addr × Obj)}
    (X' : Frag.In (hd.heap_39 w.params) h₀) (T' : Top p loose mean mg mb h₀) (B' : Below callerA h₀ [] h₀) (C : CodeHd h₀ 148 146)
    (hbl : body.cps.size ≤ 20) (hgl : goal.cps.size ≤ 20) (z1 : 1 ≤ size) (z2 : size ≤ 6)
    (m1 : m (Str.ofString "body") = some (.str body tB)) (m2 : m (Str.ofString "goal") = some (.str goal tG)) (m3 : m (Str.ofString "lows") = some (.ref lw)) (m4 : m (Str.ofString "highs") = some (.ref hw)) (m5 : m (Str.ofString "leads") = some (.ref ld))
    (hZ : oZ.data = .cell (some (.int size tz))) (hW : oW.data = .cell v9)
    (e0 : @LT.lt Nat _ 146 L) (e1 : @LT.lt Nat _ (L + 2) lw) (e2 : @LT.lt Nat _ (L + 2) hw) (e3 : @LT.lt Nat _ (L + 2) ld) (e4 : @Ne Nat lw hw) (e5 : @Ne Nat ld lw) (e6 : @Ne Nat ld hw)
    (hva : va.length ≤ 10) (hvb : vb.length ≤ 10) (hwl : ws.length ≤ 30)
    (hr : ∀ q ∈ rest, ∀ a ∈ [146, L + 1, L + 1 + 1, lw, hw], @Ne Nat q.1 a)
    
    (hws : ∀ r ∈ ws, r.Ok ∧ ∀ q ∈ r.led w, q ∈ rest) (hmono : HidP (∀ i j, i ≤ j → j < ws.length → lvAt ws size i ≤ lvAt ws size j))
    (hcl : ([0, 0, 0, 0, 0] ++ 0 :: colsFrom size body.cps.toList 0 0).length = ws.length) (hca : HidP (∀ i, i < ws.length → ([0, 0, 0, 0, 0] ++ 0 :: colsFrom size body.cps.toList 0 0).getD i 0 = lvAt ws size i))
    (F : Fr h₀ L s.heap m) (N : News h₀ L s.heap ((146, tabObj #[]) :: (L + 1, oW) :: (L + 1 + 1, oZ) :: (lw, W.listOf va.toArray na) :: (hw, W.listOf vb.toArray nb) :: (ld, W.listOf ((ws.map WsR.x).map Value.ref).toArray nL) :: rest))
    (hQ : ∀ h' tk m' c1 c2 o1 o2 vs1 vs2 t1 t2 oW1 tx r tv q tw, o1.data = .fields vs1 → vs1[1]? = some (.str lawQ t1) → o2.data = .fields vs2 → vs2[1]? = some (.str lawQ t2) →
      (∀ a ∈ [146, L + 1, L + 1 + 1, lw, hw], @Ne Nat c1 a) → (∀ a ∈ [146, L + 1, L + 1 + 1, lw, hw], @Ne Nat c2 a) → (∀ q ∈ rest, @Ne Nat q.1 c1 ∧ @Ne Nat q.1 c2) → oW1.data = .cell (some (.int (lastCol size goal.cps.toList 0 0) tx)) →
      (r : Nat) ≤ ws.length → (∀ i, i < r → lvAt ws size i < lastCol size goal.cps.toList 0 0) → (∀ i, r ≤ i → i < ws.length → lastCol size goal.cps.toList 0 0 ≤ lvAt ws size i) →
      (q : Nat) ≤ ws.length → (∀ i, i < q → lvAt ws size i ≤ lastCol size goal.cps.toList 0 0) → (∀ i, q ≤ i → i < ws.length → lastCol size goal.cps.toList 0 0 < lvAt ws size i) →
      (∀ z, z ≠ Str.ofString "columns" → m' z = m z) → Fr h₀ L h' m' → News h₀ L h' ((146, tabObj #[rawInt 165, rawInt 49, Value.ref c1, rawInt 166, rawInt 51, Value.ref c2]) :: (c1, o1) :: (c2, o2) :: (L + 1, oW1) :: (L + 1 + 1, oZ) :: (lw, W.listOf (va ++ [Value.int (r : Int) tv]).toArray (na + 1)) :: (hw, W.listOf (vb ++ [Value.int (q : Int) tw]).toArray (nb + 1)) :: (ld, W.listOf ((ws.map WsR.x).map Value.ref).toArray nL) :: rest) → Q .next { s with heap := h', toks := tk }) :
    wpAny (model PySem.Challenge.rw_rl0090_01.row.prog w) (callerA.deeper (lawEnv L fa)) (execs [stmtAt loop2 0, stmtAt loop2 1, stmtAt loop2 2, stmtAt loop2 3, stmtAt loop2 4, stmtAt loop2 5] (lawEnv L fa)) Q E s := by
  have f2 : ∀ (mm : Str → Option Value) (x y : Str) (v u : Value), mm x = some v → mm y = some u → ∀ q ∈ [(x, v), (y, u)], mm q.1 = some q.2 := fun mm x y v u h1 h2 => List.forall_mem_cons.mpr ⟨h1, List.forall_mem_cons.mpr ⟨h2, List.forall_mem_nil _⟩⟩
  have hbl2 : body.length ≤ 20 := hbl
  have hgl2 : goal.length ≤ 20 := hgl
  have hcl2 : colsFrom size body.cps.toList 0 0 = colsFrom size body.cps.toList 0 0 := rfl
  -- columns
  refine wpAny_execs_cons ?_
  have hk0 : ∀ q ∈ [(Str.ofString "body", Value.str body tB)], m q.1 = some q.2 := List.forall_mem_cons.mpr ⟨m1, List.forall_mem_nil _⟩
  refine st0 (oW := oW) (oZ := oZ) (rest := (146, tabObj #[]) :: (lw, W.listOf va.toArray na) :: (hw, W.listOf vb.toArray nb) :: (ld, W.listOf ((ws.map WsR.x).map Value.ref).toArray nL) :: rest) X' T' B' (fr_as _ F hk0) hbl hbl2 z1 z2 (news_sub N (by ((repeat' (first | (refine List.forall_mem_cons.mpr ⟨by k_mem, ?_⟩) | exact List.forall_mem_nil _ | exact fun q hq => by repeat (first | exact hq | refine List.mem_cons_of_mem _ ?_)))))) hZ ?_
  intro h1 tk1 cl vs n hcs hlt F1 N1
  rw [kst_self hk0] at F1
  dsimp only
  -- wish
  refine wpAny_execs_cons ?_
  obtain ⟨M1, hM1⟩ : ∃ M1 : Str → Option Value, M1 = (fun y => if y = Str.ofString "columns" then some (Value.ref cl) else m y) := ⟨_, rfl⟩
  rw [← hM1] at F1
  have n0 : ∀ z, z ≠ Str.ofString "columns" → M1 z = m z := fun z hz => by rw [hM1]; exact if_neg hz
  have nc : M1 (Str.ofString "columns") = some (.ref cl) := by rw [hM1]; exact if_pos rfl
  have n2 := (n0 _ (by decide +kernel)).trans m2
  have n3 := (n0 _ (by decide +kernel)).trans m3
  have n4 := (n0 _ (by decide +kernel)).trans m4
  have n5 := (n0 _ (by decide +kernel)).trans m5
  have hk1 : ∀ q ∈ [(Str.ofString "goal", Value.str goal tG)], M1 q.1 = some q.2 := List.forall_mem_cons.mpr ⟨n2, List.forall_mem_nil _⟩
  have clt : ∀ a, a ∈ [146, L + 1, L + 1 + 1, lw, hw, ld] → @LT.lt Nat _ a cl := by
    intro a ha
    simp only [List.mem_cons, List.not_mem_nil, or_false] at ha
    rcases ha with rfl | rfl | rfl | rfl | rfl | rfl
    · exact hlt (146, tabObj #[]) (by k_mem)
    · exact hlt (L + 1, oW) (by k_mem)
    · exact hlt (L + 1 + 1, oZ) (by k_mem)
    · exact hlt (a, W.listOf va.toArray na) (by k_mem)
    · exact hlt (a, W.listOf vb.toArray nb) (by k_mem)
    · exact hlt (a, W.listOf ((ws.map WsR.x).map Value.ref).toArray nL) (by k_mem)
  have c146 := clt 146 (by simp)
  have cL1 := clt (L + 1) (by simp)
  have cL2 := clt (L + 1 + 1) (by simp)
  have clw := clt lw (by simp)
  have chw := clt hw (by simp)
  have hrA : ∀ a, a ∈ [146, L + 1, L + 1 + 1, lw, hw] → ∀ q ∈ rest, q.1 ≠ a := fun a ha q hq => hr q hq a ha
  refine st1 (oW := oW) (oZ := oZ) (rest := (cl, W.listOf vs.toArray n) :: (146, tabObj #[]) :: (lw, W.listOf va.toArray na) :: (hw, W.listOf vb.toArray nb) :: (ld, W.listOf ((ws.map WsR.x).map Value.ref).toArray nL) :: rest) X' T' B' (fr_as _ F1 hk1) hgl hgl2 z1 z2 (news_sub N1 (by ((repeat' (first | (refine List.forall_mem_cons.mpr ⟨by k_mem, ?_⟩) | exact List.forall_mem_nil _ | exact fun q hq => by repeat (first | exact hq | refine List.mem_cons_of_mem _ ?_)))))) hZ hW ?_ ?_
  · intro q hq
    simp only [List.mem_cons] at hq
    rcases hq with rfl | rfl | rfl | rfl | rfl | hq
    · show @Ne Nat _ _; dsimp only; (first | assumption | exact Ne.symm (by assumption) | exact Nat.ne_of_gt (by assumption) | exact Nat.ne_of_lt (by assumption) | exact Nat.ne_of_lt (Nat.lt_succ_self _) | exact Nat.ne_of_gt (Nat.lt_succ_self _) | exact Nat.ne_of_lt (Nat.lt_of_succ_lt (by assumption)) | exact Nat.ne_of_gt (Nat.lt_of_succ_lt (by assumption)) | exact Nat.ne_of_lt (Nat.lt_succ_of_lt (by assumption)) | exact Nat.ne_of_gt (Nat.lt_succ_of_lt (by assumption)) | exact Nat.ne_of_lt (Nat.lt_succ_of_lt (Nat.lt_succ_of_lt (by assumption))) | omega)
    · show @Ne Nat _ _; dsimp only; (first | assumption | exact Ne.symm (by assumption) | exact Nat.ne_of_gt (by assumption) | exact Nat.ne_of_lt (by assumption) | exact Nat.ne_of_lt (Nat.lt_succ_self _) | exact Nat.ne_of_gt (Nat.lt_succ_self _) | exact Nat.ne_of_lt (Nat.lt_of_succ_lt (by assumption)) | exact Nat.ne_of_gt (Nat.lt_of_succ_lt (by assumption)) | exact Nat.ne_of_lt (Nat.lt_succ_of_lt (by assumption)) | exact Nat.ne_of_gt (Nat.lt_succ_of_lt (by assumption)) | exact Nat.ne_of_lt (Nat.lt_succ_of_lt (Nat.lt_succ_of_lt (by assumption))) | omega)
    
    
    · show @Ne Nat _ _; dsimp only; (first | assumption | exact Ne.symm (by assumption) | exact Nat.ne_of_gt (by assumption) | exact Nat.ne_of_lt (by assumption) | exact Nat.ne_of_lt (Nat.lt_succ_self _) | exact Nat.ne_of_gt (Nat.lt_succ_self _) | exact Nat.ne_of_lt (Nat.lt_of_succ_lt (by assumption)) | exact Nat.ne_of_gt (Nat.lt_of_succ_lt (by assumption)) | exact Nat.ne_of_lt (Nat.lt_succ_of_lt (by assumption)) | exact Nat.ne_of_gt (Nat.lt_succ_of_lt (by assumption)) | exact Nat.ne_of_lt (Nat.lt_succ_of_lt (Nat.lt_succ_of_lt (by assumption))) | omega)
    · show @Ne Nat _ _; dsimp only; (first | assumption | exact Ne.symm (by assumption) | exact Nat.ne_of_gt (by assumption) | exact Nat.ne_of_lt (by assumption) | exact Nat.ne_of_lt (Nat.lt_succ_self _) | exact Nat.ne_of_gt (Nat.lt_succ_self _) | exact Nat.ne_of_lt (Nat.lt_of_succ_lt (by assumption)) | exact Nat.ne_of_gt (Nat.lt_of_succ_lt (by assumption)) | exact Nat.ne_of_lt (Nat.lt_succ_of_lt (by assumption)) | exact Nat.ne_of_gt (Nat.lt_succ_of_lt (by assumption)) | exact Nat.ne_of_lt (Nat.lt_succ_of_lt (Nat.lt_succ_of_lt (by assumption))) | omega)
    · show @Ne Nat _ _; dsimp only; (first | assumption | exact Ne.symm (by assumption) | exact Nat.ne_of_gt (by assumption) | exact Nat.ne_of_lt (by assumption) | exact Nat.ne_of_lt (Nat.lt_succ_self _) | exact Nat.ne_of_gt (Nat.lt_succ_self _) | exact Nat.ne_of_lt (Nat.lt_of_succ_lt (by assumption)) | exact Nat.ne_of_gt (Nat.lt_of_succ_lt (by assumption)) | exact Nat.ne_of_lt (Nat.lt_succ_of_lt (by assumption)) | exact Nat.ne_of_gt (Nat.lt_succ_of_lt (by assumption)) | exact Nat.ne_of_lt (Nat.lt_succ_of_lt (Nat.lt_succ_of_lt (by assumption))) | omega)
    · exact hrA _ (by simp) q hq
  intro h2 tk2 oW1 tx hW1 F2 N2
  rw [kst_self hk1] at F2
  dsimp only
  -- lows
  refine wpAny_execs_cons ?_
  have hk2 := f2 M1 _ _ _ _ n3 n5
  refine st2n (oW := oW1) (oZ := oZ) (ws := ws) (va := va) (na := na) (nL := nL) (rest := (cl, W.listOf vs.toArray n) :: (hw, W.listOf vb.toArray nb) :: rest) X' T' B' (fr_as _ F2 hk2) C z1 z2 (news_sub N2 (by ((repeat' (first | (refine List.forall_mem_cons.mpr ⟨by k_mem, ?_⟩) | exact List.forall_mem_nil _ | exact fun q hq => by repeat (first | exact hq | refine List.mem_cons_of_mem _ ?_)))))) hZ hW1 ?_ ?_ e0 e1 e3 e5 hva (by omega) (fun r hr => ⟨(hws r hr).1, fun q hq => by repeat (first | exact (hws r hr).2 q hq | refine List.mem_cons_of_mem _ ?_)⟩) hmono ?_
  · intro q hq
    simp only [List.mem_cons] at hq
    rcases hq with rfl | rfl | hq
    
    · show @Ne Nat _ _; dsimp only; (first | assumption | exact Ne.symm (by assumption) | exact Nat.ne_of_gt (by assumption) | exact Nat.ne_of_lt (by assumption) | exact Nat.ne_of_lt (Nat.lt_succ_self _) | exact Nat.ne_of_gt (Nat.lt_succ_self _) | exact Nat.ne_of_lt (Nat.lt_of_succ_lt (by assumption)) | exact Nat.ne_of_gt (Nat.lt_of_succ_lt (by assumption)) | exact Nat.ne_of_lt (Nat.lt_succ_of_lt (by assumption)) | exact Nat.ne_of_gt (Nat.lt_succ_of_lt (by assumption)) | exact Nat.ne_of_lt (Nat.lt_succ_of_lt (Nat.lt_succ_of_lt (by assumption))) | omega)
    · show @Ne Nat _ _; dsimp only; (first | assumption | exact Ne.symm (by assumption) | exact Nat.ne_of_gt (by assumption) | exact Nat.ne_of_lt (by assumption) | exact Nat.ne_of_lt (Nat.lt_succ_self _) | exact Nat.ne_of_gt (Nat.lt_succ_self _) | exact Nat.ne_of_lt (Nat.lt_of_succ_lt (by assumption)) | exact Nat.ne_of_gt (Nat.lt_of_succ_lt (by assumption)) | exact Nat.ne_of_lt (Nat.lt_succ_of_lt (by assumption)) | exact Nat.ne_of_gt (Nat.lt_succ_of_lt (by assumption)) | exact Nat.ne_of_lt (Nat.lt_succ_of_lt (Nat.lt_succ_of_lt (by assumption))) | omega)
    · exact hrA _ (by simp) q hq
  · intro q hq
    simp only [List.mem_cons] at hq
    rcases hq with rfl | rfl | hq
    
    · show @Ne Nat _ _; dsimp only; (first | assumption | exact Ne.symm (by assumption) | exact Nat.ne_of_gt (by assumption) | exact Nat.ne_of_lt (by assumption) | exact Nat.ne_of_lt (Nat.lt_succ_self _) | exact Nat.ne_of_gt (Nat.lt_succ_self _) | exact Nat.ne_of_lt (Nat.lt_of_succ_lt (by assumption)) | exact Nat.ne_of_gt (Nat.lt_of_succ_lt (by assumption)) | exact Nat.ne_of_lt (Nat.lt_succ_of_lt (by assumption)) | exact Nat.ne_of_gt (Nat.lt_succ_of_lt (by assumption)) | exact Nat.ne_of_lt (Nat.lt_succ_of_lt (Nat.lt_succ_of_lt (by assumption))) | omega)
    · show @Ne Nat _ _; dsimp only; (first | assumption | exact Ne.symm (by assumption) | exact Nat.ne_of_gt (by assumption) | exact Nat.ne_of_lt (by assumption) | exact Nat.ne_of_lt (Nat.lt_succ_self _) | exact Nat.ne_of_gt (Nat.lt_succ_self _) | exact Nat.ne_of_lt (Nat.lt_of_succ_lt (by assumption)) | exact Nat.ne_of_gt (Nat.lt_of_succ_lt (by assumption)) | exact Nat.ne_of_lt (Nat.lt_succ_of_lt (by assumption)) | exact Nat.ne_of_gt (Nat.lt_succ_of_lt (by assumption)) | exact Nat.ne_of_lt (Nat.lt_succ_of_lt (Nat.lt_succ_of_lt (by assumption))) | omega)
    · exact hrA _ (by simp) q hq
  intro h3 tk3 r tv c1 o1 vs1 t1 hd1 hv1 hl1 r1 r2 r3 F3 N3
  rw [kst_self hk2] at F3
  dsimp only
  -- highs
  refine wpAny_execs_cons ?_
  have hk3 := f2 M1 _ _ _ _ n4 n5
  have l146 := hl1 (146, _) (.head _)
  have lL1 := hl1 (L + 1, _) (.tail _ (.head _))
  have lL2 := hl1 (L + 1 + 1, _) (.tail _ (.tail _ (.head _)))
  have llw := hl1 (lw, _) (.tail _ (.tail _ (.tail _ (.head _))))
  have lcl := hl1 (cl, W.listOf vs.toArray n) (by k_mem)
  have lhw := hl1 (hw, W.listOf vb.toArray nb) (by k_mem)
  have lrest : ∀ q ∈ rest, @LT.lt Nat _ q.1 c1 := fun q hq => hl1 q (by repeat (first | exact hq | refine List.mem_cons_of_mem _ ?_))
  dsimp only at l146 lL1 lL2 llw lcl lhw
  refine st3n (c1 := c1) (oW := oW1) (oZ := oZ) (ws := ws) (va := vb) (na := nb) (nL := nL) (rest := (c1, o1) :: (cl, W.listOf vs.toArray n) :: (lw, W.listOf (va ++ [Value.int (r : Int) tv]).toArray (na + 1)) :: rest) X' T' B' (fr_as _ F3 hk3) C z1 z2 (news_sub N3 (by ((repeat' (first | (refine List.forall_mem_cons.mpr ⟨by k_mem, ?_⟩) | exact List.forall_mem_nil _ | exact fun q hq => by repeat (first | exact hq | refine List.mem_cons_of_mem _ ?_)))))) hZ hW1 ?_ ?_ e0 e2 e3 e6 hvb (by omega) (fun r hr => ⟨(hws r hr).1, fun q hq => by repeat (first | exact (hws r hr).2 q hq | refine List.mem_cons_of_mem _ ?_)⟩) hmono ?_
  · intro q hq
    simp only [List.mem_cons] at hq
    rcases hq with rfl | rfl | rfl | hq
    · show @Ne Nat _ _; dsimp only; (first | assumption | exact Ne.symm (by assumption) | exact Nat.ne_of_gt (by assumption) | exact Nat.ne_of_lt (by assumption) | exact Nat.ne_of_lt (Nat.lt_succ_self _) | exact Nat.ne_of_gt (Nat.lt_succ_self _) | exact Nat.ne_of_lt (Nat.lt_of_succ_lt (by assumption)) | exact Nat.ne_of_gt (Nat.lt_of_succ_lt (by assumption)) | exact Nat.ne_of_lt (Nat.lt_succ_of_lt (by assumption)) | exact Nat.ne_of_gt (Nat.lt_succ_of_lt (by assumption)) | exact Nat.ne_of_lt (Nat.lt_succ_of_lt (Nat.lt_succ_of_lt (by assumption))) | omega)
    · show @Ne Nat _ _; dsimp only; (first | assumption | exact Ne.symm (by assumption) | exact Nat.ne_of_gt (by assumption) | exact Nat.ne_of_lt (by assumption) | exact Nat.ne_of_lt (Nat.lt_succ_self _) | exact Nat.ne_of_gt (Nat.lt_succ_self _) | exact Nat.ne_of_lt (Nat.lt_of_succ_lt (by assumption)) | exact Nat.ne_of_gt (Nat.lt_of_succ_lt (by assumption)) | exact Nat.ne_of_lt (Nat.lt_succ_of_lt (by assumption)) | exact Nat.ne_of_gt (Nat.lt_succ_of_lt (by assumption)) | exact Nat.ne_of_lt (Nat.lt_succ_of_lt (Nat.lt_succ_of_lt (by assumption))) | omega)
    · show @Ne Nat _ _; dsimp only; (first | assumption | exact Ne.symm (by assumption) | exact Nat.ne_of_gt (by assumption) | exact Nat.ne_of_lt (by assumption) | exact Nat.ne_of_lt (Nat.lt_succ_self _) | exact Nat.ne_of_gt (Nat.lt_succ_self _) | exact Nat.ne_of_lt (Nat.lt_of_succ_lt (by assumption)) | exact Nat.ne_of_gt (Nat.lt_of_succ_lt (by assumption)) | exact Nat.ne_of_lt (Nat.lt_succ_of_lt (by assumption)) | exact Nat.ne_of_gt (Nat.lt_succ_of_lt (by assumption)) | exact Nat.ne_of_lt (Nat.lt_succ_of_lt (Nat.lt_succ_of_lt (by assumption))) | omega)
    · exact hrA _ (by simp) q hq
  · intro q hq
    simp only [List.mem_cons] at hq
    rcases hq with rfl | rfl | rfl | hq
    · show @Ne Nat _ _; dsimp only; (first | assumption | exact Ne.symm (by assumption) | exact Nat.ne_of_gt (by assumption) | exact Nat.ne_of_lt (by assumption) | exact Nat.ne_of_lt (Nat.lt_succ_self _) | exact Nat.ne_of_gt (Nat.lt_succ_self _) | exact Nat.ne_of_lt (Nat.lt_of_succ_lt (by assumption)) | exact Nat.ne_of_gt (Nat.lt_of_succ_lt (by assumption)) | exact Nat.ne_of_lt (Nat.lt_succ_of_lt (by assumption)) | exact Nat.ne_of_gt (Nat.lt_succ_of_lt (by assumption)) | exact Nat.ne_of_lt (Nat.lt_succ_of_lt (Nat.lt_succ_of_lt (by assumption))) | omega)
    · show @Ne Nat _ _; dsimp only; (first | assumption | exact Ne.symm (by assumption) | exact Nat.ne_of_gt (by assumption) | exact Nat.ne_of_lt (by assumption) | exact Nat.ne_of_lt (Nat.lt_succ_self _) | exact Nat.ne_of_gt (Nat.lt_succ_self _) | exact Nat.ne_of_lt (Nat.lt_of_succ_lt (by assumption)) | exact Nat.ne_of_gt (Nat.lt_of_succ_lt (by assumption)) | exact Nat.ne_of_lt (Nat.lt_succ_of_lt (by assumption)) | exact Nat.ne_of_gt (Nat.lt_succ_of_lt (by assumption)) | exact Nat.ne_of_lt (Nat.lt_succ_of_lt (Nat.lt_succ_of_lt (by assumption))) | omega)
    · show @Ne Nat _ _; dsimp only; (first | assumption | exact Ne.symm (by assumption) | exact Nat.ne_of_gt (by assumption) | exact Nat.ne_of_lt (by assumption) | exact Nat.ne_of_lt (Nat.lt_succ_self _) | exact Nat.ne_of_gt (Nat.lt_succ_self _) | exact Nat.ne_of_lt (Nat.lt_of_succ_lt (by assumption)) | exact Nat.ne_of_gt (Nat.lt_of_succ_lt (by assumption)) | exact Nat.ne_of_lt (Nat.lt_succ_of_lt (by assumption)) | exact Nat.ne_of_gt (Nat.lt_succ_of_lt (by assumption)) | exact Nat.ne_of_lt (Nat.lt_succ_of_lt (Nat.lt_succ_of_lt (by assumption))) | omega)
    · exact hrA _ (by simp) q hq
  intro h4 tk4 q tw c2 o2 vs2 t2 hd2 hv2 hl2 q1 q2 q3 F4 N4
  rw [kst_self hk3] at F4
  dsimp only
  have j146 := hl2 (146, _) (.head _)
  have jL1 := hl2 (L + 1, _) (.tail _ (.head _))
  have jL2 := hl2 (L + 1 + 1, _) (.tail _ (.tail _ (.head _)))
  have jhw := hl2 (hw, _) (.tail _ (.tail _ (.tail _ (.head _))))
  have jcl := hl2 (cl, W.listOf vs.toArray n) (by k_mem)
  have jlw := hl2 (lw, W.listOf (va ++ [Value.int (r : Int) tv]).toArray (na + 1)) (by k_mem)
  have jrest : ∀ q ∈ rest, @LT.lt Nat _ q.1 c2 := fun q hq => hl2 q (by repeat (first | exact hq | refine List.mem_cons_of_mem _ ?_))
  dsimp only at j146 jL1 jL2 jhw jcl jlw
  have cnt1 : r = (([0, 0, 0, 0, 0] ++ 0 :: colsFrom size body.cps.toList 0 0).filter fun c => decide (c < lastCol size goal.cps.toList 0 0)).length := by
    refine (count_split _ r (by rw [hcl]; exact r1) (fun i hi => ?_) (fun i hi hl => ?_)).symm
    · rw [hca.out i (by omega)]; exact decide_eq_true (r2.out i hi)
    · rw [hca.out i (by rw [← hcl]; exact hl)]; exact decide_eq_false (by have := r3.out i hi (by rw [← hcl]; exact hl); omega)
  have cnt2 : q = (([0, 0, 0, 0, 0] ++ 0 :: colsFrom size body.cps.toList 0 0).filter fun c => decide (c ≤ lastCol size goal.cps.toList 0 0)).length := by
    refine (count_split _ q (by rw [hcl]; exact q1) (fun i hi => ?_) (fun i hi hl => ?_)).symm
    · rw [hca.out i (by omega)]; exact decide_eq_true (q2.out i hi)
    · rw [hca.out i (by rw [← hcl]; exact hl)]; exact decide_eq_false (by have := q3.out i hi (by rw [← hcl]; exact hl); omega)
  -- the two tests
  refine wpAny_execs_cons ?_
  have hk4 := f2 M1 _ _ _ _ n3 nc
  refine st4 (oW := oW1) (oZ := oZ) (n := n) (na := na + 1) (va := va) (vs := vs) (r := r) (tv := tv) (rest := (146, tabObj #[rawInt 165, rawInt 49, Value.ref c1, rawInt 166, rawInt 51, Value.ref c2]) :: (c1, o1) :: (c2, o2) :: (hw, W.listOf (vb ++ [Value.int (q : Int) tw]).toArray (nb + 1)) :: (ld, W.listOf ((ws.map WsR.x).map Value.ref).toArray nL) :: rest) X' T' B' (fr_as _ F4 hk4) hcs (by rw [hcl]; omega) (news_sub N4 (by ((repeat' (first | (refine List.forall_mem_cons.mpr ⟨by k_mem, ?_⟩) | exact List.forall_mem_nil _ | exact fun q hq => by repeat (first | exact hq | refine List.mem_cons_of_mem _ ?_)))))) hW1 cnt1 ?_
  intro h5 tk5 F5 N5
  rw [kst_self hk4] at F5
  dsimp only
  refine wpAny_execs_cons ?_
  have hk5 := f2 M1 _ _ _ _ n4 nc
  refine st5 (oW := oW1) (oZ := oZ) (n := n) (na := nb + 1) (va := vb) (vs := vs) (r := q) (tv := tw) (rest := (146, tabObj #[rawInt 165, rawInt 49, Value.ref c1, rawInt 166, rawInt 51, Value.ref c2]) :: (c1, o1) :: (c2, o2) :: (lw, W.listOf (va ++ [Value.int (r : Int) tv]).toArray (na + 1)) :: (ld, W.listOf ((ws.map WsR.x).map Value.ref).toArray nL) :: rest) X' T' B' (fr_as _ F5 hk5) hcs (by rw [hcl]; omega) (news_sub N5 (by ((repeat' (first | (refine List.forall_mem_cons.mpr ⟨by k_mem, ?_⟩) | exact List.forall_mem_nil _ | exact fun q hq => by repeat (first | exact hq | refine List.mem_cons_of_mem _ ?_)))))) hW1 cnt2 ?_
  intro h6 tk6 F6 N6
  rw [kst_self hk5] at F6
  dsimp only
  refine wpAny_execs_nil ?_
  refine hQ h6 tk6 M1 c1 c2 o1 o2 vs1 vs2 t1 t2 oW1 tx r tv q tw hd1 hv1 hd2 hv2 ?_ ?_ (fun q hq => ⟨Nat.ne_of_lt (lrest q hq), Nat.ne_of_lt (jrest q hq)⟩) hW1 r1 r2.out r3.out q1 q2.out q3.out n0 F6 (news_sub N6 (by ((repeat' (first | (refine List.forall_mem_cons.mpr ⟨by k_mem, ?_⟩) | exact List.forall_mem_nil _ | exact fun q hq => by repeat (first | exact hq | refine List.mem_cons_of_mem _ ?_))))))
  · intro a ha
    simp only [List.mem_cons, List.not_mem_nil, or_false] at ha
    rcases ha with rfl | rfl | rfl | rfl | rfl <;> (show @Ne Nat _ _; (first | assumption | exact Ne.symm (by assumption) | exact Nat.ne_of_gt (by assumption) | exact Nat.ne_of_lt (by assumption) | exact Nat.ne_of_lt (Nat.lt_succ_self _) | exact Nat.ne_of_gt (Nat.lt_succ_self _) | exact Nat.ne_of_lt (Nat.lt_of_succ_lt (by assumption)) | exact Nat.ne_of_gt (Nat.lt_of_succ_lt (by assumption)) | exact Nat.ne_of_lt (Nat.lt_succ_of_lt (by assumption)) | exact Nat.ne_of_gt (Nat.lt_succ_of_lt (by assumption)) | exact Nat.ne_of_lt (Nat.lt_succ_of_lt (Nat.lt_succ_of_lt (by assumption))) | omega))
  · intro a ha
    simp only [List.mem_cons, List.not_mem_nil, or_false] at ha
    rcases ha with rfl | rfl | rfl | rfl | rfl <;> (show @Ne Nat _ _; (first | assumption | exact Ne.symm (by assumption) | exact Nat.ne_of_gt (by assumption) | exact Nat.ne_of_lt (by assumption) | exact Nat.ne_of_lt (Nat.lt_succ_self _) | exact Nat.ne_of_gt (Nat.lt_succ_self _) | exact Nat.ne_of_lt (Nat.lt_of_succ_lt (by assumption)) | exact Nat.ne_of_gt (Nat.lt_of_succ_lt (by assumption)) | exact Nat.ne_of_lt (Nat.lt_succ_of_lt (by assumption)) | exact Nat.ne_of_gt (Nat.lt_succ_of_lt (by assumption)) | exact Nat.ne_of_lt (Nat.lt_succ_of_lt (Nat.lt_succ_of_lt (by assumption))) | omega))
end
-- MLoop2g
section
open PySem PySem.W PySem.Calls PyProof.Rows
set_option maxRecDepth 100000
set_option maxHeartbeats 8000000 in
theorem loop2_turnS {w : World} {p : Program} {loose : List Str} {mean : ExcName → Option Value} {mg mb : Str → Option Value} {h₀ : Heap} {L fa : Addr} {s : Shared} {Q : Flow → Shared → Prop} {E : Value → Shared → Prop} {m : Str → Option Value}
    {body goal : Str} {tB tG : Tok} {oW oZ : Obj} {size : Int} {tz : Tok} {v9 : Option Value} {lw hw ld : Addr} {va vb : List Value} {ws : List WsR} {na nb nL : Nat} {rest : List (Addr × Obj)} {c1 c2 : Addr} {o1 o2 : Obj} {vs1 vs2 : Array Value} {t1 t2 : Tok}
    (X' : Frag.In (hd.heap_39 w.params) h₀) (T' : Top p loose mean mg mb h₀) (B' : Below callerA h₀ [] h₀) (C : CodeHd h₀ 148 146)
    (hbl : body.cps.size ≤ 20) (hgl : goal.cps.size ≤ 20) (z1 : 1 ≤ size) (z2 : size ≤ 6)
    (m1 : m (Str.ofString "body") = some (.str body tB)) (m2 : m (Str.ofString "goal") = some (.str goal tG)) (m3 : m (Str.ofString "lows") = some (.ref lw)) (m4 : m (Str.ofString "highs") = some (.ref hw)) (m5 : m (Str.ofString "leads") = some (.ref ld))
    (hZ : oZ.data = .cell (some (.int size tz))) (hW : oW.data = .cell v9)
    (e0 : @LT.lt Nat _ 146 L) (e1 : @LT.lt Nat _ (L + 2) lw) (e2 : @LT.lt Nat _ (L + 2) hw) (e3 : @LT.lt Nat _ (L + 2) ld) (e4 : @Ne Nat lw hw) (e5 : @Ne Nat ld lw) (e6 : @Ne Nat ld hw)
    (hva : va.length ≤ 10) (hvb : vb.length ≤ 10) (hwl : ws.length ≤ 30)
    (hr : ∀ q ∈ rest, ∀ a ∈ [146, L + 1, L + 1 + 1, lw, hw], @Ne Nat q.1 a)
    (hd1 : o1.data = .fields vs1) (hv1 : vs1[1]? = some (.str lawQ t1)) (hd2 : o2.data = .fields vs2) (hv2 : vs2[1]? = some (.str lawQ t2))
    (k1 : ∀ a ∈ [146, L + 1, L + 1 + 1, lw, hw], @Ne Nat c1 a) (k2 : ∀ a ∈ [146, L + 1, L + 1 + 1, lw, hw], @Ne Nat c2 a)
    (hws : ∀ r ∈ ws, r.Ok ∧ ∀ q ∈ r.led w, q ∈ rest) (hmono : HidP (∀ i j, i ≤ j → j < ws.length → lvAt ws size i ≤ lvAt ws size j))
    (hcl : ([0, 0, 0, 0, 0] ++ 0 :: colsFrom size body.cps.toList 0 0).length = ws.length) (hca : HidP (∀ i, i < ws.length → ([0, 0, 0, 0, 0] ++ 0 :: colsFrom size body.cps.toList 0 0).getD i 0 = lvAt ws size i))
    (F : Fr h₀ L s.heap m) (N : News h₀ L s.heap ((146, tabObj #[rawInt 165, rawInt 49, Value.ref c1, rawInt 166, rawInt 51, Value.ref c2]) :: (c1, o1) :: (c2, o2) :: (L + 1, oW) :: (L + 1 + 1, oZ) :: (lw, W.listOf va.toArray na) :: (hw, W.listOf vb.toArray nb) :: (ld, W.listOf ((ws.map WsR.x).map Value.ref).toArray nL) :: rest))
    (hQ : ∀ h' tk m' oW1 tx r tv q tw, oW1.data = .cell (some (.int (lastCol size goal.cps.toList 0 0) tx)) →
      (r : Nat) ≤ ws.length → (∀ i, i < r → lvAt ws size i < lastCol size goal.cps.toList 0 0) → (∀ i, r ≤ i → i < ws.length → lastCol size goal.cps.toList 0 0 ≤ lvAt ws size i) →
      (q : Nat) ≤ ws.length → (∀ i, i < q → lvAt ws size i ≤ lastCol size goal.cps.toList 0 0) → (∀ i, q ≤ i → i < ws.length → lastCol size goal.cps.toList 0 0 < lvAt ws size i) →
      (∀ z, z ≠ Str.ofString "columns" → m' z = m z) → Fr h₀ L h' m' → News h₀ L h' ((146, tabObj #[rawInt 165, rawInt 49, Value.ref c1, rawInt 166, rawInt 51, Value.ref c2]) :: (c1, o1) :: (c2, o2) :: (L + 1, oW1) :: (L + 1 + 1, oZ) :: (lw, W.listOf (va ++ [Value.int (r : Int) tv]).toArray (na + 1)) :: (hw, W.listOf (vb ++ [Value.int (q : Int) tw]).toArray (nb + 1)) :: (ld, W.listOf ((ws.map WsR.x).map Value.ref).toArray nL) :: rest) → Q .next { s with heap := h', toks := tk }) :
    wpAny (model PySem.Challenge.rw_rl0090_01.row.prog w) (callerA.deeper (lawEnv L fa)) (execs [stmtAt loop2 0, stmtAt loop2 1, stmtAt loop2 2, stmtAt loop2 3, stmtAt loop2 4, stmtAt loop2 5] (lawEnv L fa)) Q E s := by
  have f2 : ∀ (mm : Str → Option Value) (x y : Str) (v u : Value), mm x = some v → mm y = some u → ∀ q ∈ [(x, v), (y, u)], mm q.1 = some q.2 := fun mm x y v u h1 h2 => List.forall_mem_cons.mpr ⟨h1, List.forall_mem_cons.mpr ⟨h2, List.forall_mem_nil _⟩⟩
  have hbl2 : body.length ≤ 20 := hbl
  have hgl2 : goal.length ≤ 20 := hgl
  have hcl2 : colsFrom size body.cps.toList 0 0 = colsFrom size body.cps.toList 0 0 := rfl
  -- columns
  refine wpAny_execs_cons ?_
  have hk0 : ∀ q ∈ [(Str.ofString "body", Value.str body tB)], m q.1 = some q.2 := List.forall_mem_cons.mpr ⟨m1, List.forall_mem_nil _⟩
  refine st0 (oW := oW) (oZ := oZ) (rest := (146, tabObj #[rawInt 165, rawInt 49, Value.ref c1, rawInt 166, rawInt 51, Value.ref c2]) :: (c1, o1) :: (c2, o2) :: (lw, W.listOf va.toArray na) :: (hw, W.listOf vb.toArray nb) :: (ld, W.listOf ((ws.map WsR.x).map Value.ref).toArray nL) :: rest) X' T' B' (fr_as _ F hk0) hbl hbl2 z1 z2 (news_sub N (by ((repeat' (first | (refine List.forall_mem_cons.mpr ⟨by k_mem, ?_⟩) | exact List.forall_mem_nil _ | exact fun q hq => by repeat (first | exact hq | refine List.mem_cons_of_mem _ ?_)))))) hZ ?_
  intro h1 tk1 cl vs n hcs hlt F1 N1
  rw [kst_self hk0] at F1
  dsimp only
  -- wish
  refine wpAny_execs_cons ?_
  obtain ⟨M1, hM1⟩ : ∃ M1 : Str → Option Value, M1 = (fun y => if y = Str.ofString "columns" then some (Value.ref cl) else m y) := ⟨_, rfl⟩
  rw [← hM1] at F1
  have n0 : ∀ z, z ≠ Str.ofString "columns" → M1 z = m z := fun z hz => by rw [hM1]; exact if_neg hz
  have nc : M1 (Str.ofString "columns") = some (.ref cl) := by rw [hM1]; exact if_pos rfl
  have n2 := (n0 _ (by decide +kernel)).trans m2
  have n3 := (n0 _ (by decide +kernel)).trans m3
  have n4 := (n0 _ (by decide +kernel)).trans m4
  have n5 := (n0 _ (by decide +kernel)).trans m5
  have hk1 : ∀ q ∈ [(Str.ofString "goal", Value.str goal tG)], M1 q.1 = some q.2 := List.forall_mem_cons.mpr ⟨n2, List.forall_mem_nil _⟩
  have clt : ∀ a, a ∈ [146, L + 1, L + 1 + 1, lw, hw, ld] → @LT.lt Nat _ a cl := by
    intro a ha
    simp only [List.mem_cons, List.not_mem_nil, or_false] at ha
    rcases ha with rfl | rfl | rfl | rfl | rfl | rfl
    · exact hlt (146, tabObj #[rawInt 165, rawInt 49, Value.ref c1, rawInt 166, rawInt 51, Value.ref c2]) (by k_mem)
    · exact hlt (L + 1, oW) (by k_mem)
    · exact hlt (L + 1 + 1, oZ) (by k_mem)
    · exact hlt (a, W.listOf va.toArray na) (by k_mem)
    · exact hlt (a, W.listOf vb.toArray nb) (by k_mem)
    · exact hlt (a, W.listOf ((ws.map WsR.x).map Value.ref).toArray nL) (by k_mem)
  have c146 := clt 146 (by simp)
  have cL1 := clt (L + 1) (by simp)
  have cL2 := clt (L + 1 + 1) (by simp)
  have clw := clt lw (by simp)
  have chw := clt hw (by simp)
  have hrA : ∀ a, a ∈ [146, L + 1, L + 1 + 1, lw, hw] → ∀ q ∈ rest, q.1 ≠ a := fun a ha q hq => hr q hq a ha
  refine st1 (oW := oW) (oZ := oZ) (rest := (cl, W.listOf vs.toArray n) :: (146, tabObj #[rawInt 165, rawInt 49, Value.ref c1, rawInt 166, rawInt 51, Value.ref c2]) :: (c1, o1) :: (c2, o2) :: (lw, W.listOf va.toArray na) :: (hw, W.listOf vb.toArray nb) :: (ld, W.listOf ((ws.map WsR.x).map Value.ref).toArray nL) :: rest) X' T' B' (fr_as _ F1 hk1) hgl hgl2 z1 z2 (news_sub N1 (by ((repeat' (first | (refine List.forall_mem_cons.mpr ⟨by k_mem, ?_⟩) | exact List.forall_mem_nil _ | exact fun q hq => by repeat (first | exact hq | refine List.mem_cons_of_mem _ ?_)))))) hZ hW ?_ ?_
  · intro q hq
    simp only [List.mem_cons] at hq
    rcases hq with rfl | rfl | rfl | rfl | rfl | rfl | rfl | hq
    · show @Ne Nat _ _; dsimp only; (first | assumption | exact Ne.symm (by assumption) | exact Nat.ne_of_gt (by assumption) | exact Nat.ne_of_lt (by assumption) | exact Nat.ne_of_lt (Nat.lt_succ_self _) | exact Nat.ne_of_gt (Nat.lt_succ_self _) | exact Nat.ne_of_lt (Nat.lt_of_succ_lt (by assumption)) | exact Nat.ne_of_gt (Nat.lt_of_succ_lt (by assumption)) | exact Nat.ne_of_lt (Nat.lt_succ_of_lt (by assumption)) | exact Nat.ne_of_gt (Nat.lt_succ_of_lt (by assumption)) | exact Nat.ne_of_lt (Nat.lt_succ_of_lt (Nat.lt_succ_of_lt (by assumption))) | omega)
    · show @Ne Nat _ _; dsimp only; (first | assumption | exact Ne.symm (by assumption) | exact Nat.ne_of_gt (by assumption) | exact Nat.ne_of_lt (by assumption) | exact Nat.ne_of_lt (Nat.lt_succ_self _) | exact Nat.ne_of_gt (Nat.lt_succ_self _) | exact Nat.ne_of_lt (Nat.lt_of_succ_lt (by assumption)) | exact Nat.ne_of_gt (Nat.lt_of_succ_lt (by assumption)) | exact Nat.ne_of_lt (Nat.lt_succ_of_lt (by assumption)) | exact Nat.ne_of_gt (Nat.lt_succ_of_lt (by assumption)) | exact Nat.ne_of_lt (Nat.lt_succ_of_lt (Nat.lt_succ_of_lt (by assumption))) | omega)
    · exact k1 _ (by simp)
    · exact k2 _ (by simp)
    · show @Ne Nat _ _; dsimp only; (first | assumption | exact Ne.symm (by assumption) | exact Nat.ne_of_gt (by assumption) | exact Nat.ne_of_lt (by assumption) | exact Nat.ne_of_lt (Nat.lt_succ_self _) | exact Nat.ne_of_gt (Nat.lt_succ_self _) | exact Nat.ne_of_lt (Nat.lt_of_succ_lt (by assumption)) | exact Nat.ne_of_gt (Nat.lt_of_succ_lt (by assumption)) | exact Nat.ne_of_lt (Nat.lt_succ_of_lt (by assumption)) | exact Nat.ne_of_gt (Nat.lt_succ_of_lt (by assumption)) | exact Nat.ne_of_lt (Nat.lt_succ_of_lt (Nat.lt_succ_of_lt (by assumption))) | omega)
    · show @Ne Nat _ _; dsimp only; (first | assumption | exact Ne.symm (by assumption) | exact Nat.ne_of_gt (by assumption) | exact Nat.ne_of_lt (by assumption) | exact Nat.ne_of_lt (Nat.lt_succ_self _) | exact Nat.ne_of_gt (Nat.lt_succ_self _) | exact Nat.ne_of_lt (Nat.lt_of_succ_lt (by assumption)) | exact Nat.ne_of_gt (Nat.lt_of_succ_lt (by assumption)) | exact Nat.ne_of_lt (Nat.lt_succ_of_lt (by assumption)) | exact Nat.ne_of_gt (Nat.lt_succ_of_lt (by assumption)) | exact Nat.ne_of_lt (Nat.lt_succ_of_lt (Nat.lt_succ_of_lt (by assumption))) | omega)
    · show @Ne Nat _ _; dsimp only; (first | assumption | exact Ne.symm (by assumption) | exact Nat.ne_of_gt (by assumption) | exact Nat.ne_of_lt (by assumption) | exact Nat.ne_of_lt (Nat.lt_succ_self _) | exact Nat.ne_of_gt (Nat.lt_succ_self _) | exact Nat.ne_of_lt (Nat.lt_of_succ_lt (by assumption)) | exact Nat.ne_of_gt (Nat.lt_of_succ_lt (by assumption)) | exact Nat.ne_of_lt (Nat.lt_succ_of_lt (by assumption)) | exact Nat.ne_of_gt (Nat.lt_succ_of_lt (by assumption)) | exact Nat.ne_of_lt (Nat.lt_succ_of_lt (Nat.lt_succ_of_lt (by assumption))) | omega)
    · exact hrA _ (by simp) q hq
  intro h2 tk2 oW1 tx hW1 F2 N2
  rw [kst_self hk1] at F2
  dsimp only
  -- lows
  refine wpAny_execs_cons ?_
  have hk2 := f2 M1 _ _ _ _ n3 n5
  refine st2h (c1 := c1) (c2 := c2) (oc := o1) (oW := oW1) (oZ := oZ) (ws := ws) (va := va) (na := na) (nL := nL) (rest := (c2, o2) :: (cl, W.listOf vs.toArray n) :: (hw, W.listOf vb.toArray nb) :: rest) X' T' B' (fr_as _ F2 hk2) C z1 z2 (news_sub N2 (by ((repeat' (first | (refine List.forall_mem_cons.mpr ⟨by k_mem, ?_⟩) | exact List.forall_mem_nil _ | exact fun q hq => by repeat (first | exact hq | refine List.mem_cons_of_mem _ ?_)))))) hZ hW1 ?_ ?_ e0 e1 e3 e5 hva (by omega) (fun r hr => ⟨(hws r hr).1, fun q hq => by repeat (first | exact (hws r hr).2 q hq | refine List.mem_cons_of_mem _ ?_)⟩) hmono hd1 hv1 (k1 _ (by simp)) (k1 _ (by simp)) ?_
  · intro q hq
    simp only [List.mem_cons] at hq
    rcases hq with rfl | rfl | rfl | hq
    · exact k2 _ (by simp)
    · show @Ne Nat _ _; dsimp only; (first | assumption | exact Ne.symm (by assumption) | exact Nat.ne_of_gt (by assumption) | exact Nat.ne_of_lt (by assumption) | exact Nat.ne_of_lt (Nat.lt_succ_self _) | exact Nat.ne_of_gt (Nat.lt_succ_self _) | exact Nat.ne_of_lt (Nat.lt_of_succ_lt (by assumption)) | exact Nat.ne_of_gt (Nat.lt_of_succ_lt (by assumption)) | exact Nat.ne_of_lt (Nat.lt_succ_of_lt (by assumption)) | exact Nat.ne_of_gt (Nat.lt_succ_of_lt (by assumption)) | exact Nat.ne_of_lt (Nat.lt_succ_of_lt (Nat.lt_succ_of_lt (by assumption))) | omega)
    · show @Ne Nat _ _; dsimp only; (first | assumption | exact Ne.symm (by assumption) | exact Nat.ne_of_gt (by assumption) | exact Nat.ne_of_lt (by assumption) | exact Nat.ne_of_lt (Nat.lt_succ_self _) | exact Nat.ne_of_gt (Nat.lt_succ_self _) | exact Nat.ne_of_lt (Nat.lt_of_succ_lt (by assumption)) | exact Nat.ne_of_gt (Nat.lt_of_succ_lt (by assumption)) | exact Nat.ne_of_lt (Nat.lt_succ_of_lt (by assumption)) | exact Nat.ne_of_gt (Nat.lt_succ_of_lt (by assumption)) | exact Nat.ne_of_lt (Nat.lt_succ_of_lt (Nat.lt_succ_of_lt (by assumption))) | omega)
    · exact hrA _ (by simp) q hq
  · intro q hq
    simp only [List.mem_cons] at hq
    rcases hq with rfl | rfl | rfl | hq
    · exact k2 _ (by simp)
    · show @Ne Nat _ _; dsimp only; (first | assumption | exact Ne.symm (by assumption) | exact Nat.ne_of_gt (by assumption) | exact Nat.ne_of_lt (by assumption) | exact Nat.ne_of_lt (Nat.lt_succ_self _) | exact Nat.ne_of_gt (Nat.lt_succ_self _) | exact Nat.ne_of_lt (Nat.lt_of_succ_lt (by assumption)) | exact Nat.ne_of_gt (Nat.lt_of_succ_lt (by assumption)) | exact Nat.ne_of_lt (Nat.lt_succ_of_lt (by assumption)) | exact Nat.ne_of_gt (Nat.lt_succ_of_lt (by assumption)) | exact Nat.ne_of_lt (Nat.lt_succ_of_lt (Nat.lt_succ_of_lt (by assumption))) | omega)
    · show @Ne Nat _ _; dsimp only; (first | assumption | exact Ne.symm (by assumption) | exact Nat.ne_of_gt (by assumption) | exact Nat.ne_of_lt (by assumption) | exact Nat.ne_of_lt (Nat.lt_succ_self _) | exact Nat.ne_of_gt (Nat.lt_succ_self _) | exact Nat.ne_of_lt (Nat.lt_of_succ_lt (by assumption)) | exact Nat.ne_of_gt (Nat.lt_of_succ_lt (by assumption)) | exact Nat.ne_of_lt (Nat.lt_succ_of_lt (by assumption)) | exact Nat.ne_of_gt (Nat.lt_succ_of_lt (by assumption)) | exact Nat.ne_of_lt (Nat.lt_succ_of_lt (Nat.lt_succ_of_lt (by assumption))) | omega)
    · exact hrA _ (by simp) q hq
  intro h3 tk3 r tv r1 r2 r3 F3 N3
  rw [kst_self hk2] at F3
  dsimp only
  -- highs
  refine wpAny_execs_cons ?_
  have hk3 := f2 M1 _ _ _ _ n4 n5
  refine st3h (c1 := c1) (c2 := c2) (oc := o2) (oW := oW1) (oZ := oZ) (ws := ws) (va := vb) (na := nb) (nL := nL) (rest := (c1, o1) :: (cl, W.listOf vs.toArray n) :: (lw, W.listOf (va ++ [Value.int (r : Int) tv]).toArray (na + 1)) :: rest) X' T' B' (fr_as _ F3 hk3) C z1 z2 (news_sub N3 (by ((repeat' (first | (refine List.forall_mem_cons.mpr ⟨by k_mem, ?_⟩) | exact List.forall_mem_nil _ | exact fun q hq => by repeat (first | exact hq | refine List.mem_cons_of_mem _ ?_)))))) hZ hW1 ?_ ?_ e0 e2 e3 e6 hvb (by omega) (fun r hr => ⟨(hws r hr).1, fun q hq => by repeat (first | exact (hws r hr).2 q hq | refine List.mem_cons_of_mem _ ?_)⟩) hmono hd2 hv2 (k2 _ (by simp)) (k2 _ (by simp)) ?_
  · intro q hq
    simp only [List.mem_cons] at hq
    rcases hq with rfl | rfl | rfl | hq
    · exact k1 _ (by simp)
    · show @Ne Nat _ _; dsimp only; (first | assumption | exact Ne.symm (by assumption) | exact Nat.ne_of_gt (by assumption) | exact Nat.ne_of_lt (by assumption) | exact Nat.ne_of_lt (Nat.lt_succ_self _) | exact Nat.ne_of_gt (Nat.lt_succ_self _) | exact Nat.ne_of_lt (Nat.lt_of_succ_lt (by assumption)) | exact Nat.ne_of_gt (Nat.lt_of_succ_lt (by assumption)) | exact Nat.ne_of_lt (Nat.lt_succ_of_lt (by assumption)) | exact Nat.ne_of_gt (Nat.lt_succ_of_lt (by assumption)) | exact Nat.ne_of_lt (Nat.lt_succ_of_lt (Nat.lt_succ_of_lt (by assumption))) | omega)
    · show @Ne Nat _ _; dsimp only; (first | assumption | exact Ne.symm (by assumption) | exact Nat.ne_of_gt (by assumption) | exact Nat.ne_of_lt (by assumption) | exact Nat.ne_of_lt (Nat.lt_succ_self _) | exact Nat.ne_of_gt (Nat.lt_succ_self _) | exact Nat.ne_of_lt (Nat.lt_of_succ_lt (by assumption)) | exact Nat.ne_of_gt (Nat.lt_of_succ_lt (by assumption)) | exact Nat.ne_of_lt (Nat.lt_succ_of_lt (by assumption)) | exact Nat.ne_of_gt (Nat.lt_succ_of_lt (by assumption)) | exact Nat.ne_of_lt (Nat.lt_succ_of_lt (Nat.lt_succ_of_lt (by assumption))) | omega)
    · exact hrA _ (by simp) q hq
  · intro q hq
    simp only [List.mem_cons] at hq
    rcases hq with rfl | rfl | rfl | hq
    · exact k1 _ (by simp)
    · show @Ne Nat _ _; dsimp only; (first | assumption | exact Ne.symm (by assumption) | exact Nat.ne_of_gt (by assumption) | exact Nat.ne_of_lt (by assumption) | exact Nat.ne_of_lt (Nat.lt_succ_self _) | exact Nat.ne_of_gt (Nat.lt_succ_self _) | exact Nat.ne_of_lt (Nat.lt_of_succ_lt (by assumption)) | exact Nat.ne_of_gt (Nat.lt_of_succ_lt (by assumption)) | exact Nat.ne_of_lt (Nat.lt_succ_of_lt (by assumption)) | exact Nat.ne_of_gt (Nat.lt_succ_of_lt (by assumption)) | exact Nat.ne_of_lt (Nat.lt_succ_of_lt (Nat.lt_succ_of_lt (by assumption))) | omega)
    · show @Ne Nat _ _; dsimp only; (first | assumption | exact Ne.symm (by assumption) | exact Nat.ne_of_gt (by assumption) | exact Nat.ne_of_lt (by assumption) | exact Nat.ne_of_lt (Nat.lt_succ_self _) | exact Nat.ne_of_gt (Nat.lt_succ_self _) | exact Nat.ne_of_lt (Nat.lt_of_succ_lt (by assumption)) | exact Nat.ne_of_gt (Nat.lt_of_succ_lt (by assumption)) | exact Nat.ne_of_lt (Nat.lt_succ_of_lt (by assumption)) | exact Nat.ne_of_gt (Nat.lt_succ_of_lt (by assumption)) | exact Nat.ne_of_lt (Nat.lt_succ_of_lt (Nat.lt_succ_of_lt (by assumption))) | omega)
    · exact hrA _ (by simp) q hq
  intro h4 tk4 q tw q1 q2 q3 F4 N4
  rw [kst_self hk3] at F4
  dsimp only
  have cnt1 : r = (([0, 0, 0, 0, 0] ++ 0 :: colsFrom size body.cps.toList 0 0).filter fun c => decide (c < lastCol size goal.cps.toList 0 0)).length := by
    refine (count_split _ r (by rw [hcl]; exact r1) (fun i hi => ?_) (fun i hi hl => ?_)).symm
    · rw [hca.out i (by omega)]; exact decide_eq_true (r2.out i hi)
    · rw [hca.out i (by rw [← hcl]; exact hl)]; exact decide_eq_false (by have := r3.out i hi (by rw [← hcl]; exact hl); omega)
  have cnt2 : q = (([0, 0, 0, 0, 0] ++ 0 :: colsFrom size body.cps.toList 0 0).filter fun c => decide (c ≤ lastCol size goal.cps.toList 0 0)).length := by
    refine (count_split _ q (by rw [hcl]; exact q1) (fun i hi => ?_) (fun i hi hl => ?_)).symm
    · rw [hca.out i (by omega)]; exact decide_eq_true (q2.out i hi)
    · rw [hca.out i (by rw [← hcl]; exact hl)]; exact decide_eq_false (by have := q3.out i hi (by rw [← hcl]; exact hl); omega)
  -- the two tests
  refine wpAny_execs_cons ?_
  have hk4 := f2 M1 _ _ _ _ n3 nc
  refine st4 (oW := oW1) (oZ := oZ) (n := n) (na := na + 1) (va := va) (vs := vs) (r := r) (tv := tv) (rest := (146, tabObj #[rawInt 165, rawInt 49, Value.ref c1, rawInt 166, rawInt 51, Value.ref c2]) :: (c1, o1) :: (c2, o2) :: (hw, W.listOf (vb ++ [Value.int (q : Int) tw]).toArray (nb + 1)) :: (ld, W.listOf ((ws.map WsR.x).map Value.ref).toArray nL) :: rest) X' T' B' (fr_as _ F4 hk4) hcs (by rw [hcl]; omega) (news_sub N4 (by ((repeat' (first | (refine List.forall_mem_cons.mpr ⟨by k_mem, ?_⟩) | exact List.forall_mem_nil _ | exact fun q hq => by repeat (first | exact hq | refine List.mem_cons_of_mem _ ?_)))))) hW1 cnt1 ?_
  intro h5 tk5 F5 N5
  rw [kst_self hk4] at F5
  dsimp only
  refine wpAny_execs_cons ?_
  have hk5 := f2 M1 _ _ _ _ n4 nc
  refine st5 (oW := oW1) (oZ := oZ) (n := n) (na := nb + 1) (va := vb) (vs := vs) (r := q) (tv := tw) (rest := (146, tabObj #[rawInt 165, rawInt 49, Value.ref c1, rawInt 166, rawInt 51, Value.ref c2]) :: (c1, o1) :: (c2, o2) :: (lw, W.listOf (va ++ [Value.int (r : Int) tv]).toArray (na + 1)) :: (ld, W.listOf ((ws.map WsR.x).map Value.ref).toArray nL) :: rest) X' T' B' (fr_as _ F5 hk5) hcs (by rw [hcl]; omega) (news_sub N5 (by ((repeat' (first | (refine List.forall_mem_cons.mpr ⟨by k_mem, ?_⟩) | exact List.forall_mem_nil _ | exact fun q hq => by repeat (first | exact hq | refine List.mem_cons_of_mem _ ?_)))))) hW1 cnt2 ?_
  intro h6 tk6 F6 N6
  rw [kst_self hk5] at F6
  dsimp only
  refine wpAny_execs_nil ?_
  exact hQ h6 tk6 M1 oW1 tx r tv q tw hW1 r1 r2.out r3.out q1 q2.out q3.out n0 F6 (news_sub N6 (by ((repeat' (first | (refine List.forall_mem_cons.mpr ⟨by k_mem, ?_⟩) | exact List.forall_mem_nil _ | exact fun q hq => by repeat (first | exact hq | refine List.mem_cons_of_mem _ ?_))))))
end
-- MLoop2h
section
open PySem PySem.W PySem.Calls PyProof.Rows
set_option maxRecDepth 100000
def LoSpec (ws : List WsR) (g : List Nat) (s : Nat) (r : Nat) : Prop := r ≤ ws.length ∧ (∀ i, i < r → lvAt ws s i < lastCol s g 0 0) ∧ ∀ i, r ≤ i → i < ws.length → lastCol s g 0 0 ≤ lvAt ws s i
def HiSpec (ws : List WsR) (g : List Nat) (s : Nat) (r : Nat) : Prop := r ≤ ws.length ∧ (∀ i, i < r → lvAt ws s i ≤ lastCol s g 0 0) ∧ ∀ i, r ≤ i → i < ws.length → lastCol s g 0 0 < lvAt ws s i
/-- a list of numbers, the j-th as P (j + 1) says -/
def VOk (P : Nat → Nat → Prop) (i : Nat) (va : List Value) : Prop := ∃ rs : List Nat, rs.length = i ∧ IntsAre va (rs.map fun r => ((r : Nat) : Int)) ∧ ∀ j r, rs[j]? = some r → P (j + 1) r
theorem VOk.start {P : Nat → Nat → Prop} : VOk P 0 [] := ⟨[], rfl, .nil, fun j r h => by simp at h⟩
theorem VOk.next {P : Nat → Nat → Prop} {i r : Nat} {va : List Value} {t : Tok} (h : VOk P i va) (hr : P (i + 1) r) : VOk P (i + 1) (va ++ [Value.int ((r : Nat) : Int) t]) := by
  obtain ⟨rs, h1, h2, h3⟩ := h
  refine ⟨rs ++ [r], by simp [h1], by rw [List.map_append]; exact h2.append (.cons _ _ .nil), fun j r' hj => ?_⟩
  by_cases e : j < rs.length
  · exact h3 j r' (by rw [List.getElem?_append_left e] at hj; exact hj)
  · by_cases e2 : j = rs.length
    · subst e2
      simp at hj
      subst hj
      rw [h1]; exact hr
    · exfalso
      have : (rs ++ [r])[j]? = none := List.getElem?_eq_none (by simp; omega)
      rw [this] at hj; cases hj
theorem VOk.len {P : Nat → Nat → Prop} {i : Nat} {va : List Value} (h : VOk P i va) : va.length = i := by
  obtain ⟨rs, h1, h2, h3⟩ := h
  rw [h2.length]; simp [h1]
structure L2 where
  tab : Array Value
  codes : List (Addr × Obj)
  oW : Obj
  oZ : Obj
  va : List Value
  vb : List Value
  na : Nat
  nb : Nat
def L2.led (L lw hw ld : Addr) (nL : Nat) (ws : List WsR) (base : List (Addr × Obj)) (c : L2) : List (Addr × Obj) :=
  (146, tabObj c.tab) :: (L + 1, c.oW) :: (L + 1 + 1, c.oZ) :: (lw, W.listOf c.va.toArray c.na) :: (hw, W.listOf c.vb.toArray c.nb) :: (ld, W.listOf ((ws.map WsR.x).map Value.ref).toArray nL) :: (c.codes ++ base)
def TabOk (L lw hw : Addr) (i : Nat) (c : L2) : Prop := (i = 0 ∧ c.tab = #[] ∧ c.codes = []) ∨ (∃ (c1 c2 : Addr) (o1 o2 : Obj) (vs1 vs2 : Array Value) (t1 t2 : Tok), c.tab = #[rawInt 165, rawInt 49, Value.ref c1, rawInt 166, rawInt 51, Value.ref c2] ∧ c.codes = [(c1, o1), (c2, o2)] ∧
  o1.data = .fields vs1 ∧ vs1[1]? = some (.str lawQ t1) ∧ o2.data = .fields vs2 ∧ vs2[1]? = some (.str lawQ t2) ∧ (∀ a ∈ [146, L + 1, L + 1 + 1, lw, hw], @Ne Nat c1 a) ∧ (∀ a ∈ [146, L + 1, L + 1 + 1, lw, hw], @Ne Nat c2 a))
structure L2.Inv (L lw hw : Addr) (ws : List WsR) (g : List Nat) (m₀ : Str → Option Value) (i : Nat) (m : Str → Option Value) (c : L2) : Prop where
  names : ∀ z, z ≠ Str.ofString "columns" → m z = m₀ z
  cw : ∃ v, c.oW.data = .cell v
  cz : ∃ v, c.oZ.data = .cell v
  lo : VOk (LoSpec ws g) i c.va
  hi : VOk (HiSpec ws g) i c.vb
  tab : TabOk L lw hw i c
set_option maxHeartbeats 8000000 in
theorem loop2_turn {w : World} {p : Program} {loose : List Str} {mean : ExcName → Option Value} {mg mb : Str → Option Value} {h₀ : Heap} {L fa : Addr} {s : Shared} {E : Value → Shared → Prop} {m m₀ : Str → Option Value}
    {body goal : Str} {tB tG : Tok} {lw hw ld : Addr} {ws : List WsR} {nL : Nat} {base : List (Addr × Obj)} {i : Nat} {t : Tok} {c : L2} {I : Addr} {oI : Obj} {px : Pos}
    (X' : Frag.In (hd.heap_39 w.params) h₀) (T' : Top p loose mean mg mb h₀) (B' : Below callerA h₀ [] h₀) (C : CodeHd h₀ 148 146)
    (hbl : body.cps.size ≤ 20) (hgl : goal.cps.size ≤ 20)
    (m1 : m₀ (Str.ofString "body") = some (.str body tB)) (m2 : m₀ (Str.ofString "goal") = some (.str goal tG)) (m3 : m₀ (Str.ofString "lows") = some (.ref lw)) (m4 : m₀ (Str.ofString "highs") = some (.ref hw)) (m5 : m₀ (Str.ofString "leads") = some (.ref ld))
    (e0 : @LT.lt Nat _ 146 L) (e1 : @LT.lt Nat _ (L + 2) lw) (e2 : @LT.lt Nat _ (L + 2) hw) (e3 : @LT.lt Nat _ (L + 2) ld) (e4 : @Ne Nat lw hw) (e5 : @Ne Nat ld lw) (e6 : @Ne Nat ld hw) (hwl : ws.length ≤ 30)
    (hr : ∀ q ∈ base, ∀ a ∈ [146, L + 1, L + 1 + 1, lw, hw], @Ne Nat q.1 a) (hws : ∀ r ∈ ws, r.Ok ∧ ∀ q ∈ r.led w, q ∈ base)
    (hmono : ∀ size : Int, 1 ≤ size → size ≤ 6 → ∀ i j, i ≤ j → j < ws.length → lvAt ws size i ≤ lvAt ws size j)
    (hcl : ∀ size : Int, ([0, 0, 0, 0, 0] ++ 0 :: colsFrom size body.cps.toList 0 0).length = ws.length) (hca : ∀ size : Int, 1 ≤ size → size ≤ 6 → ∀ i, i < ws.length → ([0, 0, 0, 0, 0] ++ 0 :: colsFrom size body.cps.toList 0 0).getD i 0 = lvAt ws size i)
    (hi6 : i < 6) (hInv : L2.Inv L lw hw ws goal.cps.toList m₀ i m c) (hneI : AllNe I (c.led L lw hw ld nL ws base))
    (F : Fr h₀ L s.heap m) (N : News h₀ L s.heap ((I, oI) :: c.led L lw hw ld nL ws base)) :
    wpAny (model PySem.Challenge.rw_rl0090_01.row.prog w) (callerA.deeper (lawEnv L fa)) (assign (.Name (Str.ofString "size") px) (lawEnv L fa) (.int (1 + (i : Int)) t))
      (fun _ s₃ => wpAny (model PySem.Challenge.rw_rl0090_01.row.prog w) (callerA.deeper (lawEnv L fa)) (execs [stmtAt loop2 0, stmtAt loop2 1, stmtAt loop2 2, stmtAt loop2 3, stmtAt loop2 4, stmtAt loop2 5] (lawEnv L fa)) (PostT h₀ L (L2.led L lw hw ld nL ws base) (L2.Inv L lw hw ws goal.cps.toList m₀ (i + 1)) I oI s) E s₃) E s := by
  obtain ⟨tab, codes, oW, oZ, va, vb, na, nb⟩ := c
  have hI0 := of_allNe hneI
  obtain ⟨hn, ⟨v1, hcw⟩, ⟨v2, hcz⟩, hlo, hhi, htab⟩ := hInv
  dsimp only [L2.led] at hcw hcz hlo hhi htab hI0 N
  have z1 : (1 : Int) ≤ 1 + (i : Int) := by omega
  have z2 : 1 + (i : Int) ≤ 6 := by omega
  have es : (1 : Int) + (i : Int) = ((i + 1 : Nat) : Int) := by omega
  have iI : ∀ a ∈ [146, L + 1, L + 1 + 1, lw, hw, ld], @Ne Nat I a := by
    intro a ha e
    simp only [List.mem_cons, List.not_mem_nil, or_false] at ha
    rcases ha with rfl | rfl | rfl | rfl | rfl | rfl
    · exact hI0 (146, tabObj tab) (by k_mem) e.symm
    · exact hI0 (L + 1, oW) (by k_mem) e.symm
    · exact hI0 (L + 1 + 1, oZ) (by k_mem) e.symm
    · exact hI0 (a, W.listOf va.toArray na) (by k_mem) e.symm
    · exact hI0 (a, W.listOf vb.toArray nb) (by k_mem) e.symm
    · exact hI0 (a, W.listOf ((ws.map WsR.x).map Value.ref).toArray nL) (by k_mem) e.symm
  have hlv := hlo.len
  have hhv := hhi.len
  have hrest : ∀ q ∈ (I, oI) :: base, ∀ a ∈ [146, L + 1, L + 1 + 1, lw, hw], @Ne Nat q.1 a := by
    intro q hq a ha
    rcases List.mem_cons.mp hq with rfl | hq
    · exact iI a (by simp only [List.mem_cons, List.not_mem_nil, or_false] at ha ⊢; rcases ha with h | h | h | h | h <;> simp [h])
    · exact hr q hq a ha
  have hbI : ∀ q ∈ base, @Ne Nat q.1 I := fun q hq => hI0 q (.tail _ (.tail _ (.tail _ (.tail _ (.tail _ (.tail _ (List.mem_append_right _ hq)))))))
  have c146 := iI 146 (by simp)
  have cL1 := iI (L + 1) (by simp)
  have cL2 := iI (L + 1 + 1) (by simp)
  have clw := iI lw (by simp)
  have chw := iI hw (by simp)
  have cld := iI ld (by simp)
  show wpAny _ _ (do standAt px; bindName (lawEnv L fa) (Str.ofString "size") (.int (1 + (i : Int)) t)) _ _ _
  refine wpAny_bind (wpAny_standAt (wpAny_bindName ?_))
  show wpAny _ _ (storeName (envX (Str.ofString "law") lawScope L fa (.ref 148) (cellsFrom (L + 1) lawScope.names [])) (Str.ofString "size") _) _ _ _
  have nm : ∀ z, m z = m₀ z ∨ z = Str.ofString "columns" := fun z => by
    by_cases h : z = Str.ofString "columns"
    · exact .inr h
    · exact .inl (hn z h)
  rcases htab with ⟨rfl, rfl, rfl⟩ | ⟨c1, c2, o1, o2, vs1, vs2, t1, t2, rfl, rfl, hd1, hv1, hd2, hv2, k1, k2⟩
  · -- the first turn
    have N0 : News h₀ L s.heap ((L + 1 + 1, oZ) :: (146, tabObj #[]) :: (L + 1, oW) :: (lw, W.listOf va.toArray na) :: (hw, W.listOf vb.toArray nb) :: (ld, W.listOf ((ws.map WsR.x).map Value.ref).toArray nL) :: (I, oI) :: base) := news_sub N (by ((repeat' (first | (refine List.forall_mem_cons.mpr ⟨by k_mem, ?_⟩) | exact List.forall_mem_nil _ | exact fun q hq => by repeat (first | exact hq | refine List.mem_cons_of_mem _ ?_)))))
    refine storeX_C F N0 rfl (UpdF.head (o := oZ) ?_) hcz (fun h1 oZ' F1 N1 hZ => ?_) rfl rfl
    · intro q hq
      simp only [List.mem_cons] at hq
      rcases hq with rfl | rfl | rfl | rfl | rfl | hq
      · show @Ne Nat _ _; dsimp only; (first | assumption | exact Ne.symm (by assumption) | exact Nat.ne_of_gt (by assumption) | exact Nat.ne_of_lt (by assumption) | exact Nat.ne_of_lt (Nat.lt_succ_self _) | exact Nat.ne_of_gt (Nat.lt_succ_self _) | exact Nat.ne_of_lt (Nat.lt_of_succ_lt (by assumption)) | exact Nat.ne_of_gt (Nat.lt_of_succ_lt (by assumption)) | exact Nat.ne_of_lt (Nat.lt_succ_of_lt (by assumption)) | exact Nat.ne_of_gt (Nat.lt_succ_of_lt (by assumption)) | exact Nat.ne_of_lt (Nat.lt_succ_of_lt (Nat.lt_succ_of_lt (by assumption))) | omega)
      · show @Ne Nat _ _; dsimp only; (first | assumption | exact Ne.symm (by assumption) | exact Nat.ne_of_gt (by assumption) | exact Nat.ne_of_lt (by assumption) | exact Nat.ne_of_lt (Nat.lt_succ_self _) | exact Nat.ne_of_gt (Nat.lt_succ_self _) | exact Nat.ne_of_lt (Nat.lt_of_succ_lt (by assumption)) | exact Nat.ne_of_gt (Nat.lt_of_succ_lt (by assumption)) | exact Nat.ne_of_lt (Nat.lt_succ_of_lt (by assumption)) | exact Nat.ne_of_gt (Nat.lt_succ_of_lt (by assumption)) | exact Nat.ne_of_lt (Nat.lt_succ_of_lt (Nat.lt_succ_of_lt (by assumption))) | omega)
      · show @Ne Nat _ _; dsimp only; (first | assumption | exact Ne.symm (by assumption) | exact Nat.ne_of_gt (by assumption) | exact Nat.ne_of_lt (by assumption) | exact Nat.ne_of_lt (Nat.lt_succ_self _) | exact Nat.ne_of_gt (Nat.lt_succ_self _) | exact Nat.ne_of_lt (Nat.lt_of_succ_lt (by assumption)) | exact Nat.ne_of_gt (Nat.lt_of_succ_lt (by assumption)) | exact Nat.ne_of_lt (Nat.lt_succ_of_lt (by assumption)) | exact Nat.ne_of_gt (Nat.lt_succ_of_lt (by assumption)) | exact Nat.ne_of_lt (Nat.lt_succ_of_lt (Nat.lt_succ_of_lt (by assumption))) | omega)
      · show @Ne Nat _ _; dsimp only; (first | assumption | exact Ne.symm (by assumption) | exact Nat.ne_of_gt (by assumption) | exact Nat.ne_of_lt (by assumption) | exact Nat.ne_of_lt (Nat.lt_succ_self _) | exact Nat.ne_of_gt (Nat.lt_succ_self _) | exact Nat.ne_of_lt (Nat.lt_of_succ_lt (by assumption)) | exact Nat.ne_of_gt (Nat.lt_of_succ_lt (by assumption)) | exact Nat.ne_of_lt (Nat.lt_succ_of_lt (by assumption)) | exact Nat.ne_of_gt (Nat.lt_succ_of_lt (by assumption)) | exact Nat.ne_of_lt (Nat.lt_succ_of_lt (Nat.lt_succ_of_lt (by assumption))) | omega)
      · show @Ne Nat _ _; dsimp only; (first | assumption | exact Ne.symm (by assumption) | exact Nat.ne_of_gt (by assumption) | exact Nat.ne_of_lt (by assumption) | exact Nat.ne_of_lt (Nat.lt_succ_self _) | exact Nat.ne_of_gt (Nat.lt_succ_self _) | exact Nat.ne_of_lt (Nat.lt_of_succ_lt (by assumption)) | exact Nat.ne_of_gt (Nat.lt_of_succ_lt (by assumption)) | exact Nat.ne_of_lt (Nat.lt_succ_of_lt (by assumption)) | exact Nat.ne_of_gt (Nat.lt_succ_of_lt (by assumption)) | exact Nat.ne_of_lt (Nat.lt_succ_of_lt (Nat.lt_succ_of_lt (by assumption))) | omega)
      · exact hrest q (List.mem_cons.mpr hq) _ (by simp)
    refine loop2_turn0 (s := { s with heap := h1 }) (oW := oW) (oZ := oZ') (va := va) (vb := vb) (na := na) (nb := nb) (nL := nL) (ws := ws) (rest := (I, oI) :: base) X' T' B' C hbl hgl z1 z2 ((hn _ (by decide +kernel)).trans m1) ((hn _ (by decide +kernel)).trans m2) ((hn _ (by decide +kernel)).trans m3) ((hn _ (by decide +kernel)).trans m4) ((hn _ (by decide +kernel)).trans m5)
      hZ hcw e0 e1 e2 e3 e4 e5 e6 (by omega) (by omega) hwl hrest (fun r hr' => ⟨(hws r hr').1, fun q hq => .tail _ ((hws r hr').2 q hq)⟩) (HidP.mk (hmono _ z1 z2)) (hcl _) (HidP.mk (hca _ z1 z2)) F1 (news_sub N1 (by ((repeat' (first | (refine List.forall_mem_cons.mpr ⟨by k_mem, ?_⟩) | exact List.forall_mem_nil _ | exact fun q hq => by repeat (first | exact hq | refine List.mem_cons_of_mem _ ?_)))))) ?_
    intro h2 tk2 m' c1 c2 o1 o2 vs1 vs2 t1 t2 oW1 tx r tv q tw hd1 hv1 hd2 hv2 k1 k2 k3 hW1 r1 r2 r3 q1 q2 q3 hm' F2 N2
    refine ⟨rfl, EndT.intro ⟨#[rawInt 165, rawInt 49, Value.ref c1, rawInt 166, rawInt 51, Value.ref c2], [(c1, o1), (c2, o2)], oW1, oZ', va ++ [Value.int (r : Int) tv], vb ++ [Value.int (q : Int) tw], na + 1, nb + 1⟩ F2 N2 (show ∀ q ∈ _, q ∈ _ from ?_) (by k_mem) (allNe_of fun q' hq' => ?_) ⟨fun z hz => (hm' z hz).trans (hn z hz), ⟨_, hW1⟩, ⟨_, hZ⟩, hlo.next ?_, hhi.next ?_, .inr ⟨c1, c2, o1, o2, vs1, vs2, t1, t2, rfl, rfl, hd1, hv1, hd2, hv2, k1, k2⟩⟩⟩
    · dsimp only [L2.led, List.cons_append, List.nil_append]
      ((repeat' (first | (refine List.forall_mem_cons.mpr ⟨by k_mem, ?_⟩) | exact List.forall_mem_nil _ | exact fun q hq => by repeat (first | exact hq | refine List.mem_cons_of_mem _ ?_))))
    · dsimp only [L2.led, List.cons_append, List.nil_append] at hq'
      simp only [List.mem_cons] at hq'
      have k4 := k3 (I, oI) (.head _)
      rcases hq' with rfl | rfl | rfl | rfl | rfl | rfl | rfl | rfl | hq'
      · exact c146.symm
      · exact cL1.symm
      · exact cL2.symm
      · exact clw.symm
      · exact chw.symm
      · exact cld.symm
      · exact k4.1.symm
      · exact k4.2.symm
      · exact hbI q' hq'
    · rw [es] at r2 r3; exact ⟨r1, r2, r3⟩
    · rw [es] at q2 q3; exact ⟨q1, q2, q3⟩
  · -- the later turns
    have N0 : News h₀ L s.heap ((L + 1 + 1, oZ) :: (146, tabObj #[rawInt 165, rawInt 49, Value.ref c1, rawInt 166, rawInt 51, Value.ref c2]) :: (c1, o1) :: (c2, o2) :: (L + 1, oW) :: (lw, W.listOf va.toArray na) :: (hw, W.listOf vb.toArray nb) :: (ld, W.listOf ((ws.map WsR.x).map Value.ref).toArray nL) :: (I, oI) :: base) := news_sub N (by dsimp only [List.cons_append, List.nil_append]; ((repeat' (first | (refine List.forall_mem_cons.mpr ⟨by k_mem, ?_⟩) | exact List.forall_mem_nil _ | exact fun q hq => by repeat (first | exact hq | refine List.mem_cons_of_mem _ ?_)))))
    have i1 : @Ne Nat c1 I := hI0 (c1, o1) (by dsimp only [List.cons_append, List.nil_append]; k_mem)
    have i2 : @Ne Nat c2 I := hI0 (c2, o2) (by dsimp only [List.cons_append, List.nil_append]; k_mem)
    refine storeX_C F N0 rfl (UpdF.head (o := oZ) ?_) hcz (fun h1 oZ' F1 N1 hZ => ?_) rfl rfl
    · intro q hq
      simp only [List.mem_cons] at hq
      rcases hq with rfl | rfl | rfl | rfl | rfl | rfl | rfl | hq
      · show @Ne Nat _ _; dsimp only; (first | assumption | exact Ne.symm (by assumption) | exact Nat.ne_of_gt (by assumption) | exact Nat.ne_of_lt (by assumption) | exact Nat.ne_of_lt (Nat.lt_succ_self _) | exact Nat.ne_of_gt (Nat.lt_succ_self _) | exact Nat.ne_of_lt (Nat.lt_of_succ_lt (by assumption)) | exact Nat.ne_of_gt (Nat.lt_of_succ_lt (by assumption)) | exact Nat.ne_of_lt (Nat.lt_succ_of_lt (by assumption)) | exact Nat.ne_of_gt (Nat.lt_succ_of_lt (by assumption)) | exact Nat.ne_of_lt (Nat.lt_succ_of_lt (Nat.lt_succ_of_lt (by assumption))) | omega)
      · exact k1 _ (by simp)
      · exact k2 _ (by simp)
      · show @Ne Nat _ _; dsimp only; (first | assumption | exact Ne.symm (by assumption) | exact Nat.ne_of_gt (by assumption) | exact Nat.ne_of_lt (by assumption) | exact Nat.ne_of_lt (Nat.lt_succ_self _) | exact Nat.ne_of_gt (Nat.lt_succ_self _) | exact Nat.ne_of_lt (Nat.lt_of_succ_lt (by assumption)) | exact Nat.ne_of_gt (Nat.lt_of_succ_lt (by assumption)) | exact Nat.ne_of_lt (Nat.lt_succ_of_lt (by assumption)) | exact Nat.ne_of_gt (Nat.lt_succ_of_lt (by assumption)) | exact Nat.ne_of_lt (Nat.lt_succ_of_lt (Nat.lt_succ_of_lt (by assumption))) | omega)
      · show @Ne Nat _ _; dsimp only; (first | assumption | exact Ne.symm (by assumption) | exact Nat.ne_of_gt (by assumption) | exact Nat.ne_of_lt (by assumption) | exact Nat.ne_of_lt (Nat.lt_succ_self _) | exact Nat.ne_of_gt (Nat.lt_succ_self _) | exact Nat.ne_of_lt (Nat.lt_of_succ_lt (by assumption)) | exact Nat.ne_of_gt (Nat.lt_of_succ_lt (by assumption)) | exact Nat.ne_of_lt (Nat.lt_succ_of_lt (by assumption)) | exact Nat.ne_of_gt (Nat.lt_succ_of_lt (by assumption)) | exact Nat.ne_of_lt (Nat.lt_succ_of_lt (Nat.lt_succ_of_lt (by assumption))) | omega)
      · show @Ne Nat _ _; dsimp only; (first | assumption | exact Ne.symm (by assumption) | exact Nat.ne_of_gt (by assumption) | exact Nat.ne_of_lt (by assumption) | exact Nat.ne_of_lt (Nat.lt_succ_self _) | exact Nat.ne_of_gt (Nat.lt_succ_self _) | exact Nat.ne_of_lt (Nat.lt_of_succ_lt (by assumption)) | exact Nat.ne_of_gt (Nat.lt_of_succ_lt (by assumption)) | exact Nat.ne_of_lt (Nat.lt_succ_of_lt (by assumption)) | exact Nat.ne_of_gt (Nat.lt_succ_of_lt (by assumption)) | exact Nat.ne_of_lt (Nat.lt_succ_of_lt (Nat.lt_succ_of_lt (by assumption))) | omega)
      · show @Ne Nat _ _; dsimp only; (first | assumption | exact Ne.symm (by assumption) | exact Nat.ne_of_gt (by assumption) | exact Nat.ne_of_lt (by assumption) | exact Nat.ne_of_lt (Nat.lt_succ_self _) | exact Nat.ne_of_gt (Nat.lt_succ_self _) | exact Nat.ne_of_lt (Nat.lt_of_succ_lt (by assumption)) | exact Nat.ne_of_gt (Nat.lt_of_succ_lt (by assumption)) | exact Nat.ne_of_lt (Nat.lt_succ_of_lt (by assumption)) | exact Nat.ne_of_gt (Nat.lt_succ_of_lt (by assumption)) | exact Nat.ne_of_lt (Nat.lt_succ_of_lt (Nat.lt_succ_of_lt (by assumption))) | omega)
      · exact hrest q (List.mem_cons.mpr hq) _ (by simp)
    refine loop2_turnS (s := { s with heap := h1 }) (c1 := c1) (c2 := c2) (o1 := o1) (o2 := o2) (oW := oW) (oZ := oZ') (va := va) (vb := vb) (na := na) (nb := nb) (nL := nL) (ws := ws) (rest := (I, oI) :: base) X' T' B' C hbl hgl z1 z2 ((hn _ (by decide +kernel)).trans m1) ((hn _ (by decide +kernel)).trans m2) ((hn _ (by decide +kernel)).trans m3) ((hn _ (by decide +kernel)).trans m4) ((hn _ (by decide +kernel)).trans m5)
      hZ hcw e0 e1 e2 e3 e4 e5 e6 (by omega) (by omega) hwl hrest hd1 hv1 hd2 hv2 k1 k2 (fun r hr' => ⟨(hws r hr').1, fun q hq => .tail _ ((hws r hr').2 q hq)⟩) (HidP.mk (hmono _ z1 z2)) (hcl _) (HidP.mk (hca _ z1 z2)) F1 (news_sub N1 (by ((repeat' (first | (refine List.forall_mem_cons.mpr ⟨by k_mem, ?_⟩) | exact List.forall_mem_nil _ | exact fun q hq => by repeat (first | exact hq | refine List.mem_cons_of_mem _ ?_)))))) ?_
    intro h2 tk2 m' oW1 tx r tv q tw hW1 r1 r2 r3 q1 q2 q3 hm' F2 N2
    refine ⟨rfl, EndT.intro ⟨#[rawInt 165, rawInt 49, Value.ref c1, rawInt 166, rawInt 51, Value.ref c2], [(c1, o1), (c2, o2)], oW1, oZ', va ++ [Value.int (r : Int) tv], vb ++ [Value.int (q : Int) tw], na + 1, nb + 1⟩ F2 N2 (show ∀ q ∈ _, q ∈ _ from ?_) (by k_mem) (allNe_of fun q' hq' => ?_) ⟨fun z hz => (hm' z hz).trans (hn z hz), ⟨_, hW1⟩, ⟨_, hZ⟩, hlo.next ?_, hhi.next ?_, .inr ⟨c1, c2, o1, o2, vs1, vs2, t1, t2, rfl, rfl, hd1, hv1, hd2, hv2, k1, k2⟩⟩⟩
    · dsimp only [L2.led, List.cons_append, List.nil_append]
      ((repeat' (first | (refine List.forall_mem_cons.mpr ⟨by k_mem, ?_⟩) | exact List.forall_mem_nil _ | exact fun q hq => by repeat (first | exact hq | refine List.mem_cons_of_mem _ ?_))))
    · dsimp only [L2.led, List.cons_append, List.nil_append] at hq'
      simp only [List.mem_cons] at hq'
      rcases hq' with rfl | rfl | rfl | rfl | rfl | rfl | rfl | rfl | hq'
      · exact c146.symm
      · exact cL1.symm
      · exact cL2.symm
      · exact clw.symm
      · exact chw.symm
      · exact cld.symm
      · exact i1
      · exact i2
      · exact hbI q' hq'
    · rw [es] at r2 r3; exact ⟨r1, r2, r3⟩
    · rw [es] at q2 q3; exact ⟨q1, q2, q3⟩
end
-- MLoop2i
section
open PySem PySem.W PySem.Calls PyProof.Rows
set_option maxRecDepth 100000 in
set_option maxHeartbeats 8000000 in
theorem law_loop2 {w : World} {p : Program} {loose : List Str} {mean : ExcName → Option Value} {mg mb : Str → Option Value} {h₀ : Heap} {L fa : Addr} {s : Shared} {Q : Flow → Shared → Prop} {E : Value → Shared → Prop}
    {u : Str → Option Value} {body goal : Str} {tB tG : Tok} {lw hw ld : Addr} {ws : List WsR} {nL na nb : Nat} {oW oZ : Obj} {base : List (Addr × Obj)}
    (X' : Frag.In (hd.heap_39 w.params) h₀) (T' : Top p loose mean mg mb h₀) (B' : Below callerA h₀ [] h₀)
    (C : CodeHd h₀ 148 146) (hbl : body.cps.size ≤ 20) (hgl : goal.cps.size ≤ 20)
    (F : Fr h₀ L s.heap (kstB u [(Str.ofString "body", .str body tB), (Str.ofString "goal", .str goal tG), (Str.ofString "lows", .ref lw), (Str.ofString "highs", .ref hw), (Str.ofString "leads", .ref ld)]))
    (e0 : @LT.lt Nat _ 146 L) (e1 : @LT.lt Nat _ (L + 2) lw) (e2 : @LT.lt Nat _ (L + 2) hw) (e3 : @LT.lt Nat _ (L + 2) ld) (e4 : @Ne Nat lw hw) (e5 : @Ne Nat ld lw) (e6 : @Ne Nat ld hw) (hwl : ws.length ≤ 30)
    (hr : ∀ q ∈ base, ∀ a ∈ [146, L + 1, L + 1 + 1, lw, hw], @Ne Nat q.1 a) (hws : ∀ r ∈ ws, r.Ok ∧ ∀ q ∈ r.led w, q ∈ base)
    (hmono : ∀ size : Int, 1 ≤ size → size ≤ 6 → ∀ i j, i ≤ j → j < ws.length → lvAt ws size i ≤ lvAt ws size j)
    (hcl : ∀ size : Int, ([0, 0, 0, 0, 0] ++ 0 :: colsFrom size body.cps.toList 0 0).length = ws.length) (hca : ∀ size : Int, 1 ≤ size → size ≤ 6 → ∀ i, i < ws.length → ([0, 0, 0, 0, 0] ++ 0 :: colsFrom size body.cps.toList 0 0).getD i 0 = lvAt ws size i)
    (hW : ∃ v, oW.data = .cell v) (hZ : ∃ v, oZ.data = .cell v)
    (N : News h₀ L s.heap ((146, tabObj #[]) :: (L + 1, oW) :: (L + 1 + 1, oZ) :: (lw, W.listOf #[] na) :: (hw, W.listOf #[] nb) :: (ld, W.listOf ((ws.map WsR.x).map Value.ref).toArray nL) :: base))
    (hE : PassesOwn (model PySem.Challenge.rw_rl0090_01.row.prog w) (callerA.deeper (lawEnv L fa)) (lawEnv L fa) E)
    (hQ : ∀ h' tk m' c, L2.Inv L lw hw ws goal.cps.toList (kstB u [(Str.ofString "body", .str body tB), (Str.ofString "goal", .str goal tG), (Str.ofString "lows", .ref lw), (Str.ofString "highs", .ref hw), (Str.ofString "leads", .ref ld)]) 6 m' c → Fr h₀ L h' m' → News h₀ L h' (c.led L lw hw ld nL ws base) → Q .next { s with heap := h', toks := tk }) :
    wpAny (model PySem.Challenge.rw_rl0090_01.row.prog w) (callerA.deeper (lawEnv L fa)) (exec (stmtAt lawBody 13) (lawEnv L fa)) Q E s := by
  revert X'
  w_top off
  k_fill
  intro X'
  have hsc : lawScope = lawScope := rfl
  conv at hsc => rhs; whnf
  have hb : stmtAt lawBody 13 = stmtAt lawBody 13 := rfl
  conv at hb => rhs; whnf
  rw [hb]
  show wpAny _ (callerA.deeper (envOfC (Str.ofString "law") lawScope L fa (.ref 148))) (exec _ (envOfC (Str.ofString "law") lawScope L fa (.ref 148))) _ _ _
  rw [hsc]
  clear hsc hb
  have hMk9 := kstMark
  have hprop := HidP.mk hmono
  have hprop2 := HidP.mk hca
  have hprop3 := HidP.mk hcl
  have hprop4 := HidP.mk hr
  have hprop5 := HidP.mk hws
  clear hmono hca hcl hr hws
  refine For_invT h₀ ?_ (fun _ => rfl) (hE := hE)
  repeat' ((fail_if_success (with_reducible show wpAny _ _ (pyIter _) _ _ _)); (fail_if_success (with_reducible show wpAny _ _ (exec (Stmt.While _ _ _ _) _) _ _ _)); (fail_if_success (with_reducible show KswEnd _ _ _ _ _ _ _ _ _ _ _ _)); (first | ((k_here; (with_reducible show wpAny _ _ (call (Value.builtin "len") [Value.ref _]) _ _ _); k_dflt (refine' len_tup_ints ?k1 ?k2 ?k3 ?_; (case k1 => exact News.isTup (by k_asm) (by k_mem)); (case k2 => assumption); (case k3 => omega); k_whole))) | ((k_here; (with_reducible show wpAny _ _ (call (Value.type _) [Value.ref _]) _ _ _); k_dflt (refine' kde_tupleOf ?k1 ?k2 ?k3 ?k4 ?k5 ?_; (case k1 => k_asm); (case k2 => k_asm); (case k3 => exact News.isList (by k_asm) (by k_mem)); (case k4 => (have hL9 := IntsAre.length (by assumption); simp only [List.size_toArray]; omega)); (case k5 => exact rfl); k_whole); intro D' h' F' N' l1; (try k_lt l1); (try k_sweep))) | (k_unfold; (try dsimp only)) | (k_end; wrow_close) | walk1 | (dsimp only; walk1) | (leave1; walk_say "STEP leave1"; try dsimp only) | fail "no step"))
  rename_i hR FC NC hst
  refine' forRangeT (env := lawEnv L fa) (L2.led L lw hw ld nL ws base) (L2.Inv L lw hw ws goal.cps.toList (kstB u [(Str.ofString "body", .str body tB), (Str.ofString "goal", .str goal tG), (Str.ofString "lows", .ref lw), (Str.ofString "highs", .ref hw), (Str.ofString "leads", .ref ld)])) ⟨#[], [], oW, oZ, [], [], na, nb⟩ (n := 6) rfl hR (small_one (by omega) (by omega) (by omega) (by omega)) ?hn FC ?hN ?hgo ?h0 ?turn ?done
  case hn => rw [rangeSize_nat]; rfl
  case hN => exact NC
  case hgo => exact fun s' I v Q' q => wpAny_pure q
  case h0 => exact ⟨fun _ _ => rfl, hW, hZ, VOk.start, VOk.start, .inl ⟨rfl, rfl, rfl⟩⟩
  case turn =>
    intro i t c m s₁ I oI hi hInv hne F1 N1
    exact loop2_turn X' T' B' C hbl hgl rfl rfl rfl rfl rfl e0 e1 e2 e3 e4 e5 e6 hwl hprop4.out hprop5.out hprop.out hprop3.out hprop2.out hi hInv hne F1 N1
  case done =>
    intro c m h tk hInv F2 N2
    exact hQ h tk m c hInv F2 N2
end
-- MText2
section
open PySem PySem.W PySem.Calls PyProof.Rows
set_option maxRecDepth 100000
def pcs : List (List Nat) := [[32], [34, 34], [32, 34, 34], [32, 32, 34, 34], [34, 34], [32, 34, 34], [34], [120]]
theorem menu_pcs : menu.map (fun s => s.cps.toList) = pcs := by decide +kernel
theorem menu_at : ∀ j, j < 8 → (menu.getD j Str.empty).cps.toList = pcs.getD j [] := by decide +kernel
def bodyOk (l : List Nat) : Bool := decide (l.length ≤ 16) && runOk 0 l && l.all (fun c => c != 9)
theorem body_all : ∀ a b c d : Fin 8, bodyOk (pcs.getD a [] ++ (pcs.getD b [] ++ (pcs.getD c [] ++ pcs.getD d []))) = true := by decide +kernel
theorem piece_pcs (k : Int) : ∃ j : Fin 8, (piece k).cps.toList = pcs.getD j [] := by
  have h0 : 0 ≤ k.fmod 8 := Int.fmod_nonneg_of_pos _ (by decide)
  have h1 : k.fmod 8 < 8 := Int.fmod_lt_of_pos _ (by decide)
  have hj : (k.fmod 8).toNat < 8 := by omega
  exact ⟨⟨_, hj⟩, menu_at _ hj⟩
theorem empty_str : Str.ofString "" = ⟨#[]⟩ := by decide +kernel
theorem join_four (a b c d : Str) : (Txt.join (Str.ofString "") [a, b, c, d]).cps.toList = a.cps.toList ++ (b.cps.toList ++ (c.cps.toList ++ d.cps.toList)) := by
  rw [empty_str]
  show ((((a.cps ++ #[] ++ b.cps) ++ #[] ++ c.cps) ++ #[] ++ d.cps) : Array Nat).toList = _
  simp
theorem body_ok (a b c d : Int) : bodyOk (Txt.join (Str.ofString "") [piece a, piece b, piece c, piece d]).cps.toList = true := by
  obtain ⟨i, hi⟩ := piece_pcs a
  obtain ⟨j, hj⟩ := piece_pcs b
  obtain ⟨k, hk⟩ := piece_pcs c
  obtain ⟨m, hm⟩ := piece_pcs d
  rw [join_four, hi, hj, hk, hm]
  exact body_all i j k m
def goalG (a b c d e : Int) : Str := Txt.mul (Str.ofString " ") a ++ Txt.mul (Str.ofString "\"\"") b ++ Txt.mul (Str.ofString " ") c ++ Txt.mul (Str.ofString "\"\"") d ++ Txt.mul (Str.ofString " ") e
theorem goal_is (T : Int) : goalB (goalA T) T = goalG (T.fmod 3) ((T.fdiv 3).fmod 2) ((T.fdiv 6).fmod 3) ((T.fdiv 18).fmod 2) ((T.fdiv 36).fmod 2) := rfl
def goalOk (g : Str) : Bool := decide (g.cps.size ≤ 16) && runOk 0 g.cps.toList && g.cps.toList.all (fun c => c != 9) && decide ((Txt.replace g (Str.ofString "\"\"") (Str.ofString "\t")).cps.toList = tabs (parseTail g.cps.toList))
theorem goal_all : ∀ (a : Fin 3) (b : Fin 2) (c : Fin 3) (d e : Fin 2), goalOk (goalG a b c d e) = true := by decide +kernel
structure GoalOk (g : Str) : Prop where
  len : g.cps.size ≤ 16
  run : runOk 0 g.cps.toList = true
  tab : ∀ c ∈ g.cps.toList, c ≠ 9
  rep : (Txt.replace g (Str.ofString "\"\"") (Str.ofString "\t")).cps.toList = tabs (parseTail g.cps.toList)
theorem goal_ok (T : Int) : GoalOk (goalB (goalA T) T) := by
  rw [goal_is]
  have h : ∀ (x m : Int), 0 < m → 0 ≤ x.fmod m ∧ x.fmod m < m := fun x m hm => ⟨Int.fmod_nonneg_of_pos _ hm, Int.fmod_lt_of_pos _ hm⟩
  have f : ∀ (x m : Int) (n : Nat), 0 < m → m = (n : Int) → ∃ j : Fin n, x.fmod m = ((j : Nat) : Int) := by
    intro x m n hm e
    obtain ⟨h0, h1⟩ := h x m hm
    exact ⟨⟨(x.fmod m).toNat, by omega⟩, by simp; omega⟩
  obtain ⟨a, ha⟩ := f T 3 3 (by decide) rfl
  obtain ⟨b, hb⟩ := f (T.fdiv 3) 2 2 (by decide) rfl
  obtain ⟨c, hc⟩ := f (T.fdiv 6) 3 3 (by decide) rfl
  obtain ⟨d, hd⟩ := f (T.fdiv 18) 2 2 (by decide) rfl
  obtain ⟨e, he⟩ := f (T.fdiv 36) 2 2 (by decide) rfl
  rw [ha, hb, hc, hd, he]
  have k := goal_all a b c d e
  simp only [goalOk, Bool.and_eq_true, decide_eq_true_eq, List.all_eq_true, bne_iff_ne] at k
  exact ⟨k.1.1.1, k.1.1.2, k.1.2, k.2⟩
structure BodyOk (l : List Nat) : Prop where
  len : l.length ≤ 16
  run : runOk 0 l = true
  tab : ∀ c ∈ l, c ≠ 9
theorem body_fine (a b c d : Int) : BodyOk (Txt.join (Str.ofString "") [piece a, piece b, piece c, piece d]).cps.toList := by
  have k := body_ok a b c d
  simp only [bodyOk, Bool.and_eq_true, decide_eq_true_eq, List.all_eq_true, bne_iff_ne] at k
  exact ⟨k.1.1, k.1.2, k.2⟩
theorem BodyOk.take {l : List Nat} (h : BodyOk l) (j : Nat) : BodyOk (l.take j) :=
  ⟨by rw [List.length_take]; have := h.len; omega, runOk_take j h.run, fun c hc => h.tab c (List.mem_of_mem_take hc)⟩
/-- the lead reads the goal -/
theorem lead_reads {g : Str} {r : WsR} (h : GoalOk g) (ok : r.Ok) (e : r.raw = Txt.replace g (Str.ofString "\"\"") (Str.ofString "\t") ++ Str.ofString "x") : Reads6 r g.cps.toList := by
  refine ⟨ok, h.run, h.tab, ?_⟩
  rw [e, Str.cps_append, Array.toList_append, h.rep, show (Str.ofString "x").cps.toList = [120] by decide +kernel, scan_stop]
theorem begin_reads {l : List Nat} {r : WsR} (h : BodyOk l) (ok : r.Ok) (e : r.raw.cps.toList = tabs (parseTail l)) : Reads6 r l := ⟨ok, h.run, h.tab, by rw [e]⟩
theorem replace_small {g : Str} (h : GoalOk g) : (Txt.replace g (Str.ofString "\"\"") (Str.ofString "\t")).length ≤ 16 := by
  show (Txt.replace g (Str.ofString "\"\"") (Str.ofString "\t")).cps.size ≤ 16
  have h1 := congrArg List.length h.rep
  have h2 := parse_len _ g.cps.toList (Nat.le_refl _)
  have h3 := h.len
  simp [tabs] at h1 h2
  omega
end
-- MUse3
section
open PySem PySem.W PySem.Calls PyProof.Rows
set_option maxRecDepth 100000
theorem use_less {w : World} {p : Program} {loose : List Str} {mean : ExcName → Option Value} {mg mb : Str → Option Value} {base h₀ : Heap} {outer : List Env} {s : Shared} {A A₀ : Around} {L : Addr} {m : Str → Option Value} {env : Env} {news : List (Addr × Obj)} {Q : Value → Shared → Prop} {E : Value → Shared → Prop} {r r' : WsR} {v9 : Bool}
    (hv : v9 = true ↔ LessSpec r.cnt r.b r.n r.nt r'.cnt r'.b r'.n r'.nt)
    (B : Below A₀ base outer h₀) (F : Fr h₀ L s.heap m) (X : Frag.In (hd.heap_39 w.params) h₀) (N : News h₀ L s.heap news) (T : Top p loose mean mg mb h₀) (hA : A.frames = some (env :: outer)) (hf : env.frame = some L) (hke : env.scope.kind = .function)
    (hh : A.handled = none) (hdp : A.depth ≤ 500) (hun : A.units ≤ 2500) (ok : r.Ok) (ok' : r'.Ok) (hm : ∀ q ∈ r.led w ++ r'.led w, q ∈ news)
    (h : ∀ h' tk, Fr h₀ L h' m → News h₀ L h' news → Q (.bool v9) { s with heap := h', toks := tk }) : wpAny (model PySem.Challenge.rw_rl0090_01.row.prog w) A (call (.ref 73) [.ref r.x, .ref r'.x] []) Q E s :=
  use_pure (D := 500) (U := 2500) (P := fun v => v = .bool v9) (own := r.led w ++ r'.led w) (fun G hg ho hfr hR => ws_less G hg ok ok' ho hfr fun h' tk v st e => hR h' tk _ st (by rw [show v = v9 from Bool.eq_iff_iff.mpr (e.trans hv.symm)])) B F X N T hA hf hke hh hdp hun hm
    fun h' tk v e F' N' => e ▸ h h' tk F' N'
theorem use_equal {w : World} {p : Program} {loose : List Str} {mean : ExcName → Option Value} {mg mb : Str → Option Value} {base h₀ : Heap} {outer : List Env} {s : Shared} {A A₀ : Around} {L : Addr} {m : Str → Option Value} {env : Env} {news : List (Addr × Obj)} {Q : Value → Shared → Prop} {E : Value → Shared → Prop} {r r' : WsR} {v9 : Bool}
    (hv : v9 = true ↔ (r.cnt = r'.cnt ∧ r.b = r'.b))
    (B : Below A₀ base outer h₀) (F : Fr h₀ L s.heap m) (X : Frag.In (hd.heap_39 w.params) h₀) (N : News h₀ L s.heap news) (T : Top p loose mean mg mb h₀) (hA : A.frames = some (env :: outer)) (hf : env.frame = some L) (hke : env.scope.kind = .function)
    (hh : A.handled = none) (hdp : A.depth ≤ 600) (hun : A.units ≤ 3000) (ok : r.Ok) (ok' : r'.Ok) (hm : ∀ q ∈ r.led w ++ r'.led w, q ∈ news)
    (h : ∀ h' tk, Fr h₀ L h' m → News h₀ L h' news → Q (.bool v9) { s with heap := h', toks := tk }) : wpAny (model PySem.Challenge.rw_rl0090_01.row.prog w) A (call (.ref 59) [.ref r.x, .ref r'.x] []) Q E s :=
  use_pure (D := 600) (U := 3000) (P := fun v => v = .bool v9) (own := r.led w ++ r'.led w) (fun G hg ho hfr hR => ws_equal G hg ok ok' ho hfr fun h' tk st => hR h' tk _ st (by rw [show decide (r.cnt = r'.cnt ∧ r.b = r'.b) = v9 from by rw [Bool.eq_iff_iff, decide_eq_true_iff]; exact hv.symm])) B F X N T hA hf hke hh hdp hun hm
    fun h' tk v e F' N' => e ▸ h h' tk F' N'
theorem item_ws {prog : Program} {w : World} {A : Around} {E : Value → Shared → Prop} {s : Shared} {h₀ : Heap} {L : Addr} {news : List (Addr × Obj)} {value slice : Expr} {l : Addr} {ws : List WsR} {r : WsR} {nn i : Nat} {u : Tok} {ops : List Value} {Q : Value → Shared → Prop}
    (N : News h₀ L s.heap news) (hm : (l, W.listOf ((ws.map WsR.x).map Value.ref).toArray nn) ∈ news) (hk : ws[i]? = some r) (h2 : ws.length ≤ 1000) (h : Q (.ref r.x) s)
    (hs : subscripted slice false (.ref l) (.int (i : Int) u) = operate ops (getItem (.ref l) (.int (i : Int) u))) :
    wpAny (model prog w) A (subscriptTail value slice (.ref l) (.int (i : Int) u)) Q E s := by
  have hi : i < ws.length := (List.getElem?_eq_some_iff.mp hk).1
  have hl := News.isList N hm
  refine tail_any hl.typeIs slot_list_getitem.lookup (wpAny_getItem_list hl (by omega) (by omega) (x := .ref r.x) ?_ h) hs
  simp [hk]
abbrev loop3 : List Stmt := forBody (stmtAt lawBody 14)
end
-- MLoop3a
section
open PySem PySem.W PySem.Calls PyProof.Rows
local macro_rules | `(tactic| k_all) => `(tactic| assumption)
set_option maxRecDepth 100000 in
set_option maxHeartbeats 8000000 in
theorem if1 {w : World} {p : Program} {loose : List Str} {mean : ExcName → Option Value} {mg mb : Str → Option Value} {h₀ : Heap} {L fa : Addr} {s : Shared} {Q : Flow → Shared → Prop} {E : Value → Shared → Prop}
    {u : Str → Option Value} {i : Nat} {t : Tok} {ld lw hw : Addr} {r r0 : WsR} {ws : List WsR} {nL na nb : Nat} {a1 a2 a3 a4 a5 a6 b1 b2 b3 b4 b5 b6 : Nat} {s1 s2 s3 s4 s5 s6 u1 u2 u3 u4 u5 u6 : Tok} {v9 : Bool} {rest : List (Addr × Obj)}
    (X' : Frag.In (hd.heap_39 w.params) h₀) (T' : Top p loose mean mg mb h₀) (B' : Below callerA h₀ [] h₀)
    (F : Fr h₀ L s.heap (kstB u [(Str.ofString "k", .int (i : Int) t), (Str.ofString "leads", .ref ld), (Str.ofString "lead", .ref r0.x), (Str.ofString "lows", .ref lw), (Str.ofString "highs", .ref hw)])) (ok : r.Ok) (ok0 : r0.Ok) (hk : ws[i]? = some r) (hwl : ws.length ≤ 30) (hi : i ≤ 30)
    (N : News h₀ L s.heap ((ld, W.listOf ((ws.map WsR.x).map Value.ref).toArray nL) :: (lw, W.listOf #[Value.int ((a1 : Nat) : Int) s1, Value.int ((a2 : Nat) : Int) s2, Value.int ((a3 : Nat) : Int) s3, Value.int ((a4 : Nat) : Int) s4, Value.int ((a5 : Nat) : Int) s5, Value.int ((a6 : Nat) : Int) s6] na) :: (hw, W.listOf #[Value.int ((b1 : Nat) : Int) u1, Value.int ((b2 : Nat) : Int) u2, Value.int ((b3 : Nat) : Int) u3, Value.int ((b4 : Nat) : Int) u4, Value.int ((b5 : Nat) : Int) u5, Value.int ((b6 : Nat) : Int) u6] nb) :: (r.x, instObj 83 r.dx) :: (r.dx, dictOf [{ hash := PyData.keyHash w.params (Str.ofString "raw"), key := .str (Str.ofString "raw") r.k0, val := .str r.raw r.t0 }, { hash := PyData.keyHash w.params (Str.ofString "n"), key := .str (Str.ofString "n") r.k1, val := .int r.n r.t1 }, { hash := PyData.keyHash w.params (Str.ofString "nt"), key := .str (Str.ofString "nt") r.k2, val := .int r.nt r.t2 }, { hash := PyData.keyHash w.params (Str.ofString "norm"), key := .str (Str.ofString "norm") r.k3, val := .ref r.D }, { hash := PyData.keyHash w.params (Str.ofString "is_simple"), key := .str (Str.ofString "is_simple") r.k4, val := .bool r.sim }] 5) :: (r.D, { cls := .type "tuple", data := .seq #[.ref r.D2, .int r.b r.tb] }) :: (r.D2, { cls := .type "tuple", data := .seq r.vs.toArray }) :: (r0.x, instObj 83 r0.dx) :: (r0.dx, dictOf [{ hash := PyData.keyHash w.params (Str.ofString "raw"), key := .str (Str.ofString "raw") r0.k0, val := .str r0.raw r0.t0 }, { hash := PyData.keyHash w.params (Str.ofString "n"), key := .str (Str.ofString "n") r0.k1, val := .int r0.n r0.t1 }, { hash := PyData.keyHash w.params (Str.ofString "nt"), key := .str (Str.ofString "nt") r0.k2, val := .int r0.nt r0.t2 }, { hash := PyData.keyHash w.params (Str.ofString "norm"), key := .str (Str.ofString "norm") r0.k3, val := .ref r0.D }, { hash := PyData.keyHash w.params (Str.ofString "is_simple"), key := .str (Str.ofString "is_simple") r0.k4, val := .bool r0.sim }] 5) :: (r0.D, { cls := .type "tuple", data := .seq #[.ref r0.D2, .int r0.b r0.tb] }) :: (r0.D2, { cls := .type "tuple", data := .seq r0.vs.toArray }) :: rest))
    (hv : v9 = true ↔ LessSpec r.cnt r.b r.n r.nt r0.cnt r0.b r0.n r0.nt)
    (hv2 : v9 = true ↔ (i < a1 ∧ i < a2 ∧ i < a3 ∧ i < a4 ∧ i < a5 ∧ i < a6))
    (hQ : ∀ h' tk, Fr h₀ L h' (kstB u [(Str.ofString "k", .int (i : Int) t), (Str.ofString "leads", .ref ld), (Str.ofString "lead", .ref r0.x), (Str.ofString "lows", .ref lw), (Str.ofString "highs", .ref hw)]) → News h₀ L h' ((ld, W.listOf ((ws.map WsR.x).map Value.ref).toArray nL) :: (lw, W.listOf #[Value.int ((a1 : Nat) : Int) s1, Value.int ((a2 : Nat) : Int) s2, Value.int ((a3 : Nat) : Int) s3, Value.int ((a4 : Nat) : Int) s4, Value.int ((a5 : Nat) : Int) s5, Value.int ((a6 : Nat) : Int) s6] na) :: (hw, W.listOf #[Value.int ((b1 : Nat) : Int) u1, Value.int ((b2 : Nat) : Int) u2, Value.int ((b3 : Nat) : Int) u3, Value.int ((b4 : Nat) : Int) u4, Value.int ((b5 : Nat) : Int) u5, Value.int ((b6 : Nat) : Int) u6] nb) :: (r.x, instObj 83 r.dx) :: (r.dx, dictOf [{ hash := PyData.keyHash w.params (Str.ofString "raw"), key := .str (Str.ofString "raw") r.k0, val := .str r.raw r.t0 }, { hash := PyData.keyHash w.params (Str.ofString "n"), key := .str (Str.ofString "n") r.k1, val := .int r.n r.t1 }, { hash := PyData.keyHash w.params (Str.ofString "nt"), key := .str (Str.ofString "nt") r.k2, val := .int r.nt r.t2 }, { hash := PyData.keyHash w.params (Str.ofString "norm"), key := .str (Str.ofString "norm") r.k3, val := .ref r.D }, { hash := PyData.keyHash w.params (Str.ofString "is_simple"), key := .str (Str.ofString "is_simple") r.k4, val := .bool r.sim }] 5) :: (r.D, { cls := .type "tuple", data := .seq #[.ref r.D2, .int r.b r.tb] }) :: (r.D2, { cls := .type "tuple", data := .seq r.vs.toArray }) :: (r0.x, instObj 83 r0.dx) :: (r0.dx, dictOf [{ hash := PyData.keyHash w.params (Str.ofString "raw"), key := .str (Str.ofString "raw") r0.k0, val := .str r0.raw r0.t0 }, { hash := PyData.keyHash w.params (Str.ofString "n"), key := .str (Str.ofString "n") r0.k1, val := .int r0.n r0.t1 }, { hash := PyData.keyHash w.params (Str.ofString "nt"), key := .str (Str.ofString "nt") r0.k2, val := .int r0.nt r0.t2 }, { hash := PyData.keyHash w.params (Str.ofString "norm"), key := .str (Str.ofString "norm") r0.k3, val := .ref r0.D }, { hash := PyData.keyHash w.params (Str.ofString "is_simple"), key := .str (Str.ofString "is_simple") r0.k4, val := .bool r0.sim }] 5) :: (r0.D, { cls := .type "tuple", data := .seq #[.ref r0.D2, .int r0.b r0.tb] }) :: (r0.D2, { cls := .type "tuple", data := .seq r0.vs.toArray }) :: rest) → Q .next { s with heap := h', toks := tk }) :
    wpAny (model PySem.Challenge.rw_rl0090_01.row.prog w) (callerA.deeper (lawEnv L fa)) (exec (stmtAt loop3 0) (lawEnv L fa)) Q E s := by
  revert X'
  w_top off
  k_fill
  intro X'
  have hsc : lawScope = lawScope := rfl
  conv at hsc => rhs; whnf
  have hb : stmtAt loop3 0 = stmtAt loop3 0 := rfl
  conv at hb => rhs; whnf
  rw [hb]
  show wpAny _ (callerA.deeper (envOfC (Str.ofString "law") lawScope L fa (.ref 148))) (exec _ (envOfC (Str.ofString "law") lawScope L fa (.ref 148))) _ _ _
  rw [hsc]
  clear hsc hb
  have hMk9 := kstMark
  repeat' (first | ((k_here; (with_reducible show wpAny _ _ (subscriptTail _ _ (Value.ref _) (Value.int _ _)) _ _ _); k_dflt (refine' item_ws ?N ?m ?k ?z ?_ ?s; (case N => k_asm); (case m => k_mem); (case k => assumption); (case z => omega); (case s => with_unfolding_all rfl)))) | ((k_here; (with_reducible show wpAny _ _ (call (Value.ref _) [Value.ref _, Value.ref _] []) _ _ _); k_dflt (first | (refine' use_less ?v ?B ?F ?X ?N ?T ?hA ?hf ?hk ?hh ?hd ?hu ?ok ?ok2 ?hm ?_; (case hA => exact rfl); (case hf => exact rfl); (case hk => exact rfl); (case hh => exact rfl); (case B => k_asm); (case F => k_asm); (case X => k_asm); (case N => k_asm); (case T => k_asm); (case hd => exact Nat.le_of_ble_eq_true rfl); (case hu => exact Nat.le_of_ble_eq_true rfl); (case ok => assumption); (case ok2 => assumption); (case v => assumption); (case hm => (dsimp only [WsR.led, List.cons_append, List.nil_append]; (repeat' (first | exact List.forall_mem_nil _ | refine List.forall_mem_cons.mpr ⟨by k_mem, ?_⟩)))); k_whole; intro h' tk' F' N') | (refine' use_equal ?v ?B ?F ?X ?N ?T ?hA ?hf ?hk ?hh ?hd ?hu ?ok ?ok2 ?hm ?_; (case hA => exact rfl); (case hf => exact rfl); (case hk => exact rfl); (case hh => exact rfl); (case B => k_asm); (case F => k_asm); (case X => k_asm); (case N => k_asm); (case T => k_asm); (case hd => exact Nat.le_of_ble_eq_true rfl); (case hu => exact Nat.le_of_ble_eq_true rfl); (case ok => assumption); (case ok2 => assumption); (case v => assumption); (case hm => (dsimp only [WsR.led, List.cons_append, List.nil_append]; (repeat' (first | exact List.forall_mem_nil _ | refine List.forall_mem_cons.mpr ⟨by k_mem, ?_⟩)))); k_whole; intro h' tk' F' N')))) | (k_unfold; (try dsimp only)) | (k_end; wrow_close) | walk1 | (dsimp only; walk1) | fail "no step")
  all_goals (try k_data)
  all_goals first
    | (rename (v9 != _) = true => hbad; exfalso; rw [bne_iff_ne] at hbad; apply hbad; rw [Bool.eq_iff_iff, hv2, decide_eq_true_iff]; omega)
    | exact hQ _ _ (by k_asm) (by k_asm)
set_option maxRecDepth 100000 in
set_option maxHeartbeats 8000000 in
theorem if2 {w : World} {p : Program} {loose : List Str} {mean : ExcName → Option Value} {mg mb : Str → Option Value} {h₀ : Heap} {L fa : Addr} {s : Shared} {Q : Flow → Shared → Prop} {E : Value → Shared → Prop}
    {u : Str → Option Value} {i : Nat} {t : Tok} {ld lw hw : Addr} {r r0 : WsR} {ws : List WsR} {nL na nb : Nat} {a1 a2 a3 a4 a5 a6 b1 b2 b3 b4 b5 b6 : Nat} {s1 s2 s3 s4 s5 s6 u1 u2 u3 u4 u5 u6 : Tok} {v9 : Bool} {rest : List (Addr × Obj)}
    (X' : Frag.In (hd.heap_39 w.params) h₀) (T' : Top p loose mean mg mb h₀) (B' : Below callerA h₀ [] h₀)
    (F : Fr h₀ L s.heap (kstB u [(Str.ofString "k", .int (i : Int) t), (Str.ofString "leads", .ref ld), (Str.ofString "lead", .ref r0.x), (Str.ofString "lows", .ref lw), (Str.ofString "highs", .ref hw)])) (ok : r.Ok) (ok0 : r0.Ok) (hk : ws[i]? = some r) (hwl : ws.length ≤ 30) (hi : i ≤ 30)
    (N : News h₀ L s.heap ((ld, W.listOf ((ws.map WsR.x).map Value.ref).toArray nL) :: (lw, W.listOf #[Value.int ((a1 : Nat) : Int) s1, Value.int ((a2 : Nat) : Int) s2, Value.int ((a3 : Nat) : Int) s3, Value.int ((a4 : Nat) : Int) s4, Value.int ((a5 : Nat) : Int) s5, Value.int ((a6 : Nat) : Int) s6] na) :: (hw, W.listOf #[Value.int ((b1 : Nat) : Int) u1, Value.int ((b2 : Nat) : Int) u2, Value.int ((b3 : Nat) : Int) u3, Value.int ((b4 : Nat) : Int) u4, Value.int ((b5 : Nat) : Int) u5, Value.int ((b6 : Nat) : Int) u6] nb) :: (r.x, instObj 83 r.dx) :: (r.dx, dictOf [{ hash := PyData.keyHash w.params (Str.ofString "raw"), key := .str (Str.ofString "raw") r.k0, val := .str r.raw r.t0 }, { hash := PyData.keyHash w.params (Str.ofString "n"), key := .str (Str.ofString "n") r.k1, val := .int r.n r.t1 }, { hash := PyData.keyHash w.params (Str.ofString "nt"), key := .str (Str.ofString "nt") r.k2, val := .int r.nt r.t2 }, { hash := PyData.keyHash w.params (Str.ofString "norm"), key := .str (Str.ofString "norm") r.k3, val := .ref r.D }, { hash := PyData.keyHash w.params (Str.ofString "is_simple"), key := .str (Str.ofString "is_simple") r.k4, val := .bool r.sim }] 5) :: (r.D, { cls := .type "tuple", data := .seq #[.ref r.D2, .int r.b r.tb] }) :: (r.D2, { cls := .type "tuple", data := .seq r.vs.toArray }) :: (r0.x, instObj 83 r0.dx) :: (r0.dx, dictOf [{ hash := PyData.keyHash w.params (Str.ofString "raw"), key := .str (Str.ofString "raw") r0.k0, val := .str r0.raw r0.t0 }, { hash := PyData.keyHash w.params (Str.ofString "n"), key := .str (Str.ofString "n") r0.k1, val := .int r0.n r0.t1 }, { hash := PyData.keyHash w.params (Str.ofString "nt"), key := .str (Str.ofString "nt") r0.k2, val := .int r0.nt r0.t2 }, { hash := PyData.keyHash w.params (Str.ofString "norm"), key := .str (Str.ofString "norm") r0.k3, val := .ref r0.D }, { hash := PyData.keyHash w.params (Str.ofString "is_simple"), key := .str (Str.ofString "is_simple") r0.k4, val := .bool r0.sim }] 5) :: (r0.D, { cls := .type "tuple", data := .seq #[.ref r0.D2, .int r0.b r0.tb] }) :: (r0.D2, { cls := .type "tuple", data := .seq r0.vs.toArray }) :: rest))
    (hv : v9 = true ↔ (r.cnt = r0.cnt ∧ r.b = r0.b))
    (hv2 : v9 = true ↔ (a1 ≤ i ∧ i < b1 ∧ a2 ≤ i ∧ i < b2 ∧ a3 ≤ i ∧ i < b3 ∧ a4 ≤ i ∧ i < b4 ∧ a5 ≤ i ∧ i < b5 ∧ a6 ≤ i ∧ i < b6))
    (hQ : ∀ h' tk, Fr h₀ L h' (kstB u [(Str.ofString "k", .int (i : Int) t), (Str.ofString "leads", .ref ld), (Str.ofString "lead", .ref r0.x), (Str.ofString "lows", .ref lw), (Str.ofString "highs", .ref hw)]) → News h₀ L h' ((ld, W.listOf ((ws.map WsR.x).map Value.ref).toArray nL) :: (lw, W.listOf #[Value.int ((a1 : Nat) : Int) s1, Value.int ((a2 : Nat) : Int) s2, Value.int ((a3 : Nat) : Int) s3, Value.int ((a4 : Nat) : Int) s4, Value.int ((a5 : Nat) : Int) s5, Value.int ((a6 : Nat) : Int) s6] na) :: (hw, W.listOf #[Value.int ((b1 : Nat) : Int) u1, Value.int ((b2 : Nat) : Int) u2, Value.int ((b3 : Nat) : Int) u3, Value.int ((b4 : Nat) : Int) u4, Value.int ((b5 : Nat) : Int) u5, Value.int ((b6 : Nat) : Int) u6] nb) :: (r.x, instObj 83 r.dx) :: (r.dx, dictOf [{ hash := PyData.keyHash w.params (Str.ofString "raw"), key := .str (Str.ofString "raw") r.k0, val := .str r.raw r.t0 }, { hash := PyData.keyHash w.params (Str.ofString "n"), key := .str (Str.ofString "n") r.k1, val := .int r.n r.t1 }, { hash := PyData.keyHash w.params (Str.ofString "nt"), key := .str (Str.ofString "nt") r.k2, val := .int r.nt r.t2 }, { hash := PyData.keyHash w.params (Str.ofString "norm"), key := .str (Str.ofString "norm") r.k3, val := .ref r.D }, { hash := PyData.keyHash w.params (Str.ofString "is_simple"), key := .str (Str.ofString "is_simple") r.k4, val := .bool r.sim }] 5) :: (r.D, { cls := .type "tuple", data := .seq #[.ref r.D2, .int r.b r.tb] }) :: (r.D2, { cls := .type "tuple", data := .seq r.vs.toArray }) :: (r0.x, instObj 83 r0.dx) :: (r0.dx, dictOf [{ hash := PyData.keyHash w.params (Str.ofString "raw"), key := .str (Str.ofString "raw") r0.k0, val := .str r0.raw r0.t0 }, { hash := PyData.keyHash w.params (Str.ofString "n"), key := .str (Str.ofString "n") r0.k1, val := .int r0.n r0.t1 }, { hash := PyData.keyHash w.params (Str.ofString "nt"), key := .str (Str.ofString "nt") r0.k2, val := .int r0.nt r0.t2 }, { hash := PyData.keyHash w.params (Str.ofString "norm"), key := .str (Str.ofString "norm") r0.k3, val := .ref r0.D }, { hash := PyData.keyHash w.params (Str.ofString "is_simple"), key := .str (Str.ofString "is_simple") r0.k4, val := .bool r0.sim }] 5) :: (r0.D, { cls := .type "tuple", data := .seq #[.ref r0.D2, .int r0.b r0.tb] }) :: (r0.D2, { cls := .type "tuple", data := .seq r0.vs.toArray }) :: rest) → Q .next { s with heap := h', toks := tk }) :
    wpAny (model PySem.Challenge.rw_rl0090_01.row.prog w) (callerA.deeper (lawEnv L fa)) (exec (stmtAt loop3 1) (lawEnv L fa)) Q E s := by
  revert X'
  w_top off
  k_fill
  intro X'
  have hsc : lawScope = lawScope := rfl
  conv at hsc => rhs; whnf
  have hb : stmtAt loop3 1 = stmtAt loop3 1 := rfl
  conv at hb => rhs; whnf
  rw [hb]
  show wpAny _ (callerA.deeper (envOfC (Str.ofString "law") lawScope L fa (.ref 148))) (exec _ (envOfC (Str.ofString "law") lawScope L fa (.ref 148))) _ _ _
  rw [hsc]
  clear hsc hb
  have hMk9 := kstMark
  repeat' (first | ((k_here; (with_reducible show wpAny _ _ (subscriptTail _ _ (Value.ref _) (Value.int _ _)) _ _ _); k_dflt (refine' item_ws ?N ?m ?k ?z ?_ ?s; (case N => k_asm); (case m => k_mem); (case k => assumption); (case z => omega); (case s => with_unfolding_all rfl)))) | ((k_here; (with_reducible show wpAny _ _ (call (Value.ref _) [Value.ref _, Value.ref _] []) _ _ _); k_dflt (first | (refine' use_less ?v ?B ?F ?X ?N ?T ?hA ?hf ?hk ?hh ?hd ?hu ?ok ?ok2 ?hm ?_; (case hA => exact rfl); (case hf => exact rfl); (case hk => exact rfl); (case hh => exact rfl); (case B => k_asm); (case F => k_asm); (case X => k_asm); (case N => k_asm); (case T => k_asm); (case hd => exact Nat.le_of_ble_eq_true rfl); (case hu => exact Nat.le_of_ble_eq_true rfl); (case ok => assumption); (case ok2 => assumption); (case v => assumption); (case hm => (dsimp only [WsR.led, List.cons_append, List.nil_append]; (repeat' (first | exact List.forall_mem_nil _ | refine List.forall_mem_cons.mpr ⟨by k_mem, ?_⟩)))); k_whole; intro h' tk' F' N') | (refine' use_equal ?v ?B ?F ?X ?N ?T ?hA ?hf ?hk ?hh ?hd ?hu ?ok ?ok2 ?hm ?_; (case hA => exact rfl); (case hf => exact rfl); (case hk => exact rfl); (case hh => exact rfl); (case B => k_asm); (case F => k_asm); (case X => k_asm); (case N => k_asm); (case T => k_asm); (case hd => exact Nat.le_of_ble_eq_true rfl); (case hu => exact Nat.le_of_ble_eq_true rfl); (case ok => assumption); (case ok2 => assumption); (case v => assumption); (case hm => (dsimp only [WsR.led, List.cons_append, List.nil_append]; (repeat' (first | exact List.forall_mem_nil _ | refine List.forall_mem_cons.mpr ⟨by k_mem, ?_⟩)))); k_whole; intro h' tk' F' N')))) | (k_unfold; (try dsimp only)) | (k_end; wrow_close) | walk1 | (dsimp only; walk1) | fail "no step")
  all_goals (try k_data)
  all_goals first
    | (rename (v9 != _) = true => hbad; exfalso; rw [bne_iff_ne] at hbad; apply hbad; rw [Bool.eq_iff_iff, hv2, decide_eq_true_iff]; omega)
    | exact hQ _ _ (by k_asm) (by k_asm)
set_option maxRecDepth 100000 in
set_option maxHeartbeats 8000000 in
theorem if3 {w : World} {p : Program} {loose : List Str} {mean : ExcName → Option Value} {mg mb : Str → Option Value} {h₀ : Heap} {L fa : Addr} {s : Shared} {Q : Flow → Shared → Prop} {E : Value → Shared → Prop}
    {u : Str → Option Value} {i : Nat} {t : Tok} {ld lw hw : Addr} {r r0 : WsR} {ws : List WsR} {nL na nb : Nat} {a1 a2 a3 a4 a5 a6 b1 b2 b3 b4 b5 b6 : Nat} {s1 s2 s3 s4 s5 s6 u1 u2 u3 u4 u5 u6 : Tok} {v9 : Bool} {rest : List (Addr × Obj)}
    (X' : Frag.In (hd.heap_39 w.params) h₀) (T' : Top p loose mean mg mb h₀) (B' : Below callerA h₀ [] h₀)
    (F : Fr h₀ L s.heap (kstB u [(Str.ofString "k", .int (i : Int) t), (Str.ofString "leads", .ref ld), (Str.ofString "lead", .ref r0.x), (Str.ofString "lows", .ref lw), (Str.ofString "highs", .ref hw)])) (ok : r.Ok) (ok0 : r0.Ok) (hk : ws[i]? = some r) (hwl : ws.length ≤ 30) (hi : i ≤ 30)
    (N : News h₀ L s.heap ((ld, W.listOf ((ws.map WsR.x).map Value.ref).toArray nL) :: (lw, W.listOf #[Value.int ((a1 : Nat) : Int) s1, Value.int ((a2 : Nat) : Int) s2, Value.int ((a3 : Nat) : Int) s3, Value.int ((a4 : Nat) : Int) s4, Value.int ((a5 : Nat) : Int) s5, Value.int ((a6 : Nat) : Int) s6] na) :: (hw, W.listOf #[Value.int ((b1 : Nat) : Int) u1, Value.int ((b2 : Nat) : Int) u2, Value.int ((b3 : Nat) : Int) u3, Value.int ((b4 : Nat) : Int) u4, Value.int ((b5 : Nat) : Int) u5, Value.int ((b6 : Nat) : Int) u6] nb) :: (r.x, instObj 83 r.dx) :: (r.dx, dictOf [{ hash := PyData.keyHash w.params (Str.ofString "raw"), key := .str (Str.ofString "raw") r.k0, val := .str r.raw r.t0 }, { hash := PyData.keyHash w.params (Str.ofString "n"), key := .str (Str.ofString "n") r.k1, val := .int r.n r.t1 }, { hash := PyData.keyHash w.params (Str.ofString "nt"), key := .str (Str.ofString "nt") r.k2, val := .int r.nt r.t2 }, { hash := PyData.keyHash w.params (Str.ofString "norm"), key := .str (Str.ofString "norm") r.k3, val := .ref r.D }, { hash := PyData.keyHash w.params (Str.ofString "is_simple"), key := .str (Str.ofString "is_simple") r.k4, val := .bool r.sim }] 5) :: (r.D, { cls := .type "tuple", data := .seq #[.ref r.D2, .int r.b r.tb] }) :: (r.D2, { cls := .type "tuple", data := .seq r.vs.toArray }) :: (r0.x, instObj 83 r0.dx) :: (r0.dx, dictOf [{ hash := PyData.keyHash w.params (Str.ofString "raw"), key := .str (Str.ofString "raw") r0.k0, val := .str r0.raw r0.t0 }, { hash := PyData.keyHash w.params (Str.ofString "n"), key := .str (Str.ofString "n") r0.k1, val := .int r0.n r0.t1 }, { hash := PyData.keyHash w.params (Str.ofString "nt"), key := .str (Str.ofString "nt") r0.k2, val := .int r0.nt r0.t2 }, { hash := PyData.keyHash w.params (Str.ofString "norm"), key := .str (Str.ofString "norm") r0.k3, val := .ref r0.D }, { hash := PyData.keyHash w.params (Str.ofString "is_simple"), key := .str (Str.ofString "is_simple") r0.k4, val := .bool r0.sim }] 5) :: (r0.D, { cls := .type "tuple", data := .seq #[.ref r0.D2, .int r0.b r0.tb] }) :: (r0.D2, { cls := .type "tuple", data := .seq r0.vs.toArray }) :: rest))
    (hv : v9 = true ↔ LessSpec r0.cnt r0.b r0.n r0.nt r.cnt r.b r.n r.nt)
    (hv2 : v9 = true ↔ (b1 ≤ i ∧ b2 ≤ i ∧ b3 ≤ i ∧ b4 ≤ i ∧ b5 ≤ i ∧ b6 ≤ i))
    (hQ : ∀ h' tk, Fr h₀ L h' (kstB u [(Str.ofString "k", .int (i : Int) t), (Str.ofString "leads", .ref ld), (Str.ofString "lead", .ref r0.x), (Str.ofString "lows", .ref lw), (Str.ofString "highs", .ref hw)]) → News h₀ L h' ((ld, W.listOf ((ws.map WsR.x).map Value.ref).toArray nL) :: (lw, W.listOf #[Value.int ((a1 : Nat) : Int) s1, Value.int ((a2 : Nat) : Int) s2, Value.int ((a3 : Nat) : Int) s3, Value.int ((a4 : Nat) : Int) s4, Value.int ((a5 : Nat) : Int) s5, Value.int ((a6 : Nat) : Int) s6] na) :: (hw, W.listOf #[Value.int ((b1 : Nat) : Int) u1, Value.int ((b2 : Nat) : Int) u2, Value.int ((b3 : Nat) : Int) u3, Value.int ((b4 : Nat) : Int) u4, Value.int ((b5 : Nat) : Int) u5, Value.int ((b6 : Nat) : Int) u6] nb) :: (r.x, instObj 83 r.dx) :: (r.dx, dictOf [{ hash := PyData.keyHash w.params (Str.ofString "raw"), key := .str (Str.ofString "raw") r.k0, val := .str r.raw r.t0 }, { hash := PyData.keyHash w.params (Str.ofString "n"), key := .str (Str.ofString "n") r.k1, val := .int r.n r.t1 }, { hash := PyData.keyHash w.params (Str.ofString "nt"), key := .str (Str.ofString "nt") r.k2, val := .int r.nt r.t2 }, { hash := PyData.keyHash w.params (Str.ofString "norm"), key := .str (Str.ofString "norm") r.k3, val := .ref r.D }, { hash := PyData.keyHash w.params (Str.ofString "is_simple"), key := .str (Str.ofString "is_simple") r.k4, val := .bool r.sim }] 5) :: (r.D, { cls := .type "tuple", data := .seq #[.ref r.D2, .int r.b r.tb] }) :: (r.D2, { cls := .type "tuple", data := .seq r.vs.toArray }) :: (r0.x, instObj 83 r0.dx) :: (r0.dx, dictOf [{ hash := PyData.keyHash w.params (Str.ofString "raw"), key := .str (Str.ofString "raw") r0.k0, val := .str r0.raw r0.t0 }, { hash := PyData.keyHash w.params (Str.ofString "n"), key := .str (Str.ofString "n") r0.k1, val := .int r0.n r0.t1 }, { hash := PyData.keyHash w.params (Str.ofString "nt"), key := .str (Str.ofString "nt") r0.k2, val := .int r0.nt r0.t2 }, { hash := PyData.keyHash w.params (Str.ofString "norm"), key := .str (Str.ofString "norm") r0.k3, val := .ref r0.D }, { hash := PyData.keyHash w.params (Str.ofString "is_simple"), key := .str (Str.ofString "is_simple") r0.k4, val := .bool r0.sim }] 5) :: (r0.D, { cls := .type "tuple", data := .seq #[.ref r0.D2, .int r0.b r0.tb] }) :: (r0.D2, { cls := .type "tuple", data := .seq r0.vs.toArray }) :: rest) → Q .next { s with heap := h', toks := tk }) :
    wpAny (model PySem.Challenge.rw_rl0090_01.row.prog w) (callerA.deeper (lawEnv L fa)) (exec (stmtAt loop3 2) (lawEnv L fa)) Q E s := by
  revert X'
  w_top off
  k_fill
  intro X'
  have hsc : lawScope = lawScope := rfl
  conv at hsc => rhs; whnf
  have hb : stmtAt loop3 2 = stmtAt loop3 2 := rfl
  conv at hb => rhs; whnf
  rw [hb]
  show wpAny _ (callerA.deeper (envOfC (Str.ofString "law") lawScope L fa (.ref 148))) (exec _ (envOfC (Str.ofString "law") lawScope L fa (.ref 148))) _ _ _
  rw [hsc]
  clear hsc hb
  have hMk9 := kstMark
  repeat' (first | ((k_here; (with_reducible show wpAny _ _ (subscriptTail _ _ (Value.ref _) (Value.int _ _)) _ _ _); k_dflt (refine' item_ws ?N ?m ?k ?z ?_ ?s; (case N => k_asm); (case m => k_mem); (case k => assumption); (case z => omega); (case s => with_unfolding_all rfl)))) | ((k_here; (with_reducible show wpAny _ _ (call (Value.ref _) [Value.ref _, Value.ref _] []) _ _ _); k_dflt (first | (refine' use_less ?v ?B ?F ?X ?N ?T ?hA ?hf ?hk ?hh ?hd ?hu ?ok ?ok2 ?hm ?_; (case hA => exact rfl); (case hf => exact rfl); (case hk => exact rfl); (case hh => exact rfl); (case B => k_asm); (case F => k_asm); (case X => k_asm); (case N => k_asm); (case T => k_asm); (case hd => exact Nat.le_of_ble_eq_true rfl); (case hu => exact Nat.le_of_ble_eq_true rfl); (case ok => assumption); (case ok2 => assumption); (case v => assumption); (case hm => (dsimp only [WsR.led, List.cons_append, List.nil_append]; (repeat' (first | exact List.forall_mem_nil _ | refine List.forall_mem_cons.mpr ⟨by k_mem, ?_⟩)))); k_whole; intro h' tk' F' N') | (refine' use_equal ?v ?B ?F ?X ?N ?T ?hA ?hf ?hk ?hh ?hd ?hu ?ok ?ok2 ?hm ?_; (case hA => exact rfl); (case hf => exact rfl); (case hk => exact rfl); (case hh => exact rfl); (case B => k_asm); (case F => k_asm); (case X => k_asm); (case N => k_asm); (case T => k_asm); (case hd => exact Nat.le_of_ble_eq_true rfl); (case hu => exact Nat.le_of_ble_eq_true rfl); (case ok => assumption); (case ok2 => assumption); (case v => assumption); (case hm => (dsimp only [WsR.led, List.cons_append, List.nil_append]; (repeat' (first | exact List.forall_mem_nil _ | refine List.forall_mem_cons.mpr ⟨by k_mem, ?_⟩)))); k_whole; intro h' tk' F' N')))) | (k_unfold; (try dsimp only)) | (k_end; wrow_close) | walk1 | (dsimp only; walk1) | fail "no step")
  all_goals (try k_data)
  all_goals first
    | (rename (v9 != _) = true => hbad; exfalso; rw [bne_iff_ne] at hbad; apply hbad; rw [Bool.eq_iff_iff, hv2, decide_eq_true_iff]; omega)
    | exact hQ _ _ (by k_asm) (by k_asm)
end
-- MLoop3b
section
open PySem PySem.W PySem.Calls PyProof.Rows
set_option maxRecDepth 100000 in
set_option maxHeartbeats 8000000 in
theorem loop3_turn {w : World} {p : Program} {loose : List Str} {mean : ExcName → Option Value} {mg mb : Str → Option Value} {h₀ : Heap} {L fa : Addr} {s : Shared} {Q : Flow → Shared → Prop} {E : Value → Shared → Prop} {m : Str → Option Value}
    {lw hw ld : Addr} {ws : List WsR} {nL na nb : Nat} {r0 : WsR} {a1 a2 a3 a4 a5 a6 b1 b2 b3 b4 b5 b6 : Nat} {s1 s2 s3 s4 s5 s6 u1 u2 u3 u4 u5 u6 : Tok} {base : List (Addr × Obj)} {i : Nat} {t : Tok} {I : Addr} {oI : Obj}
    (X' : Frag.In (hd.heap_39 w.params) h₀) (T' : Top p loose mean mg mb h₀) (B' : Below callerA h₀ [] h₀)
    (hwl : ws.length ≤ 30) (hi : i < ws.length)
    (m1 : m (Str.ofString "k") = some (.int (i : Int) t)) (m2 : m (Str.ofString "leads") = some (.ref ld)) (m3 : m (Str.ofString "lead") = some (.ref r0.x)) (m4 : m (Str.ofString "lows") = some (.ref lw)) (m5 : m (Str.ofString "highs") = some (.ref hw))
    (ok0 : r0.Ok) (hb0 : ∀ q ∈ r0.led w, q ∈ base)
    (hspec : ∀ (i : Nat) (r : WsR), ws[i]? = some r → r.Ok ∧ (∀ q ∈ r.led w, q ∈ base) ∧ (LessSpec r.cnt r.b r.n r.nt r0.cnt r0.b r0.n r0.nt ↔ (i < a1 ∧ i < a2 ∧ i < a3 ∧ i < a4 ∧ i < a5 ∧ i < a6)) ∧ ((r.cnt = r0.cnt ∧ r.b = r0.b) ↔ (a1 ≤ i ∧ i < b1 ∧ a2 ≤ i ∧ i < b2 ∧ a3 ≤ i ∧ i < b3 ∧ a4 ≤ i ∧ i < b4 ∧ a5 ≤ i ∧ i < b5 ∧ a6 ≤ i ∧ i < b6)) ∧ (LessSpec r0.cnt r0.b r0.n r0.nt r.cnt r.b r.n r.nt ↔ (b1 ≤ i ∧ b2 ≤ i ∧ b3 ≤ i ∧ b4 ≤ i ∧ b5 ≤ i ∧ b6 ≤ i)))
    (F : Fr h₀ L s.heap m) (N : News h₀ L s.heap ((I, oI) :: (ld, W.listOf ((ws.map WsR.x).map Value.ref).toArray nL) :: (lw, W.listOf #[Value.int ((a1 : Nat) : Int) s1, Value.int ((a2 : Nat) : Int) s2, Value.int ((a3 : Nat) : Int) s3, Value.int ((a4 : Nat) : Int) s4, Value.int ((a5 : Nat) : Int) s5, Value.int ((a6 : Nat) : Int) s6] na) :: (hw, W.listOf #[Value.int ((b1 : Nat) : Int) u1, Value.int ((b2 : Nat) : Int) u2, Value.int ((b3 : Nat) : Int) u3, Value.int ((b4 : Nat) : Int) u4, Value.int ((b5 : Nat) : Int) u5, Value.int ((b6 : Nat) : Int) u6] nb) :: base))
    (hQ : ∀ h' tk, Fr h₀ L h' m → News h₀ L h' ((I, oI) :: (ld, W.listOf ((ws.map WsR.x).map Value.ref).toArray nL) :: (lw, W.listOf #[Value.int ((a1 : Nat) : Int) s1, Value.int ((a2 : Nat) : Int) s2, Value.int ((a3 : Nat) : Int) s3, Value.int ((a4 : Nat) : Int) s4, Value.int ((a5 : Nat) : Int) s5, Value.int ((a6 : Nat) : Int) s6] na) :: (hw, W.listOf #[Value.int ((b1 : Nat) : Int) u1, Value.int ((b2 : Nat) : Int) u2, Value.int ((b3 : Nat) : Int) u3, Value.int ((b4 : Nat) : Int) u4, Value.int ((b5 : Nat) : Int) u5, Value.int ((b6 : Nat) : Int) u6] nb) :: base) → Q .next { s with heap := h', toks := tk }) :
    wpAny (model PySem.Challenge.rw_rl0090_01.row.prog w) (callerA.deeper (lawEnv L fa)) (execs [stmtAt loop3 0, stmtAt loop3 1, stmtAt loop3 2] (lawEnv L fa)) Q E s := by
  have hk : ws[i]? = some ws[i] := List.getElem?_eq_getElem hi
  obtain ⟨ok, hbr, sp1, sp2, sp3⟩ := hspec i _ hk
  generalize ws[i] = r at hk ok hbr sp1 sp2 sp3
  have hm : ∀ q ∈ [(Str.ofString "k", Value.int (i : Int) t), (Str.ofString "leads", .ref ld), (Str.ofString "lead", .ref r0.x), (Str.ofString "lows", .ref lw), (Str.ofString "highs", .ref hw)], m q.1 = some q.2 :=
    List.forall_mem_cons.mpr ⟨m1, List.forall_mem_cons.mpr ⟨m2, List.forall_mem_cons.mpr ⟨m3, List.forall_mem_cons.mpr ⟨m4, List.forall_mem_cons.mpr ⟨m5, List.forall_mem_nil _⟩⟩⟩⟩⟩
  have N0 : News h₀ L s.heap ((ld, W.listOf ((ws.map WsR.x).map Value.ref).toArray nL) :: (lw, W.listOf #[Value.int ((a1 : Nat) : Int) s1, Value.int ((a2 : Nat) : Int) s2, Value.int ((a3 : Nat) : Int) s3, Value.int ((a4 : Nat) : Int) s4, Value.int ((a5 : Nat) : Int) s5, Value.int ((a6 : Nat) : Int) s6] na) :: (hw, W.listOf #[Value.int ((b1 : Nat) : Int) u1, Value.int ((b2 : Nat) : Int) u2, Value.int ((b3 : Nat) : Int) u3, Value.int ((b4 : Nat) : Int) u4, Value.int ((b5 : Nat) : Int) u5, Value.int ((b6 : Nat) : Int) u6] nb) :: (r.led w ++ (r0.led w ++ ((I, oI) :: base)))) := by
    refine news_sub N (List.forall_mem_cons.mpr ⟨by k_mem, List.forall_mem_cons.mpr ⟨by k_mem, List.forall_mem_cons.mpr ⟨by k_mem, fun q hq => ?_⟩⟩⟩)
    rcases List.mem_append.mp hq with hq | hq
    · exact .tail _ (.tail _ (.tail _ (.tail _ (hbr q hq))))
    rcases List.mem_append.mp hq with hq | hq
    · exact .tail _ (.tail _ (.tail _ (.tail _ (hb0 q hq))))
    rcases List.mem_cons.mp hq with rfl | hq
    · exact .head _
    · exact .tail _ (.tail _ (.tail _ (.tail _ hq)))
  refine wpAny_execs_cons ?_
  refine if1 (r := r) (r0 := r0) (ws := ws) (rest := (I, oI) :: base) (v9 := decide (i < a1 ∧ i < a2 ∧ i < a3 ∧ i < a4 ∧ i < a5 ∧ i < a6)) X' T' B' (fr_as _ F hm) ok ok0 hk hwl (by omega) N0 (decide_eq_true_iff.trans sp1.symm) decide_eq_true_iff ?_
  intro h1 tk1 F1 N1
  rw [kst_self hm] at F1
  dsimp only
  refine wpAny_execs_cons ?_
  refine if2 (r := r) (r0 := r0) (ws := ws) (rest := (I, oI) :: base) (v9 := decide (a1 ≤ i ∧ i < b1 ∧ a2 ≤ i ∧ i < b2 ∧ a3 ≤ i ∧ i < b3 ∧ a4 ≤ i ∧ i < b4 ∧ a5 ≤ i ∧ i < b5 ∧ a6 ≤ i ∧ i < b6)) X' T' B' (fr_as _ F1 hm) ok ok0 hk hwl (by omega) N1 (decide_eq_true_iff.trans sp2.symm) decide_eq_true_iff ?_
  intro h2 tk2 F2 N2
  rw [kst_self hm] at F2
  dsimp only
  refine wpAny_execs_cons ?_
  refine if3 (r := r) (r0 := r0) (ws := ws) (rest := (I, oI) :: base) (v9 := decide (b1 ≤ i ∧ b2 ≤ i ∧ b3 ≤ i ∧ b4 ≤ i ∧ b5 ≤ i ∧ b6 ≤ i)) X' T' B' (fr_as _ F2 hm) ok ok0 hk hwl (by omega) N2 (decide_eq_true_iff.trans sp3.symm) decide_eq_true_iff ?_
  intro h3 tk3 F3 N3
  rw [kst_self hm] at F3
  dsimp only
  refine wpAny_execs_nil ?_
  refine hQ h3 tk3 F3 (news_sub N3 ?_)
  refine List.forall_mem_cons.mpr ⟨by k_mem, List.forall_mem_cons.mpr ⟨by k_mem, List.forall_mem_cons.mpr ⟨by k_mem, List.forall_mem_cons.mpr ⟨by k_mem, fun q hq => ?_⟩⟩⟩⟩
  repeat (first | exact hq | refine List.mem_cons_of_mem _ ?_)
set_option maxRecDepth 100000 in
set_option maxHeartbeats 8000000 in
theorem law_loop3 {w : World} {p : Program} {loose : List Str} {mean : ExcName → Option Value} {mg mb : Str → Option Value} {h₀ : Heap} {L fa : Addr} {s : Shared} {Q : Flow → Shared → Prop} {E : Value → Shared → Prop}
    {u : Str → Option Value} {reply : Str} {tr : Tok} {lw hw ld : Addr} {ws : List WsR} {nL na nb : Nat} {r0 : WsR} {a1 a2 a3 a4 a5 a6 b1 b2 b3 b4 b5 b6 : Nat} {s1 s2 s3 s4 s5 s6 u1 u2 u3 u4 u5 u6 : Tok} {base : List (Addr × Obj)}
    (X' : Frag.In (hd.heap_39 w.params) h₀) (T' : Top p loose mean mg mb h₀) (B' : Below callerA h₀ [] h₀)
    (F : Fr h₀ L s.heap (kstB u [(Str.ofString "reply", .str reply tr), (Str.ofString "leads", .ref ld), (Str.ofString "lead", .ref r0.x), (Str.ofString "lows", .ref lw), (Str.ofString "highs", .ref hw)])) (hlen : reply.length ≤ 29) (hwl : ws.length = reply.length + 1)
    (ok0 : r0.Ok) (hb0 : ∀ q ∈ r0.led w, q ∈ base)
    (hspec : HidP (∀ (i : Nat) (r : WsR), ws[i]? = some r → r.Ok ∧ (∀ q ∈ r.led w, q ∈ base) ∧ (LessSpec r.cnt r.b r.n r.nt r0.cnt r0.b r0.n r0.nt ↔ (i < a1 ∧ i < a2 ∧ i < a3 ∧ i < a4 ∧ i < a5 ∧ i < a6)) ∧ ((r.cnt = r0.cnt ∧ r.b = r0.b) ↔ (a1 ≤ i ∧ i < b1 ∧ a2 ≤ i ∧ i < b2 ∧ a3 ≤ i ∧ i < b3 ∧ a4 ≤ i ∧ i < b4 ∧ a5 ≤ i ∧ i < b5 ∧ a6 ≤ i ∧ i < b6)) ∧ (LessSpec r0.cnt r0.b r0.n r0.nt r.cnt r.b r.n r.nt ↔ (b1 ≤ i ∧ b2 ≤ i ∧ b3 ≤ i ∧ b4 ≤ i ∧ b5 ≤ i ∧ b6 ≤ i))))
    (N : News h₀ L s.heap ((ld, W.listOf ((ws.map WsR.x).map Value.ref).toArray nL) :: (lw, W.listOf #[Value.int ((a1 : Nat) : Int) s1, Value.int ((a2 : Nat) : Int) s2, Value.int ((a3 : Nat) : Int) s3, Value.int ((a4 : Nat) : Int) s4, Value.int ((a5 : Nat) : Int) s5, Value.int ((a6 : Nat) : Int) s6] na) :: (hw, W.listOf #[Value.int ((b1 : Nat) : Int) u1, Value.int ((b2 : Nat) : Int) u2, Value.int ((b3 : Nat) : Int) u3, Value.int ((b4 : Nat) : Int) u4, Value.int ((b5 : Nat) : Int) u5, Value.int ((b6 : Nat) : Int) u6] nb) :: base))
    (hE : PassesOwn (model PySem.Challenge.rw_rl0090_01.row.prog w) (callerA.deeper (lawEnv L fa)) (lawEnv L fa) E)
    (hQ : ∀ h' tk m', Fr h₀ L h' m' → News h₀ L h' ((ld, W.listOf ((ws.map WsR.x).map Value.ref).toArray nL) :: (lw, W.listOf #[Value.int ((a1 : Nat) : Int) s1, Value.int ((a2 : Nat) : Int) s2, Value.int ((a3 : Nat) : Int) s3, Value.int ((a4 : Nat) : Int) s4, Value.int ((a5 : Nat) : Int) s5, Value.int ((a6 : Nat) : Int) s6] na) :: (hw, W.listOf #[Value.int ((b1 : Nat) : Int) u1, Value.int ((b2 : Nat) : Int) u2, Value.int ((b3 : Nat) : Int) u3, Value.int ((b4 : Nat) : Int) u4, Value.int ((b5 : Nat) : Int) u5, Value.int ((b6 : Nat) : Int) u6] nb) :: base) → Q .next { s with heap := h', toks := tk }) :
    wpAny (model PySem.Challenge.rw_rl0090_01.row.prog w) (callerA.deeper (lawEnv L fa)) (exec (stmtAt lawBody 14) (lawEnv L fa)) Q E s := by
  revert X'
  w_top off
  k_fill
  intro X'
  have hsc : lawScope = lawScope := rfl
  conv at hsc => rhs; whnf
  have hb : stmtAt lawBody 14 = stmtAt lawBody 14 := rfl
  conv at hb => rhs; whnf
  rw [hb]
  show wpAny _ (callerA.deeper (envOfC (Str.ofString "law") lawScope L fa (.ref 148))) (exec _ (envOfC (Str.ofString "law") lawScope L fa (.ref 148))) _ _ _
  rw [hsc]
  clear hsc hb
  have hMk9 := kstMark
  have hb9 := HidP.mk hb0
  clear hb0
  refine For_invV h₀ rfl rfl ?_ (hE := hE)
  repeat' ((fail_if_success (with_reducible show wpAny _ _ (pyIter _) _ _ _)); (fail_if_success (with_reducible show wpAny _ _ (exec (Stmt.While _ _ _ _) _) _ _ _)); (fail_if_success (with_reducible show KswEnd _ _ _ _ _ _ _ _ _ _ _ _)); (first | ((k_here; (with_reducible show wpAny _ _ (call (Value.builtin "len") [Value.ref _]) _ _ _); k_dflt (refine' len_tup_ints ?k1 ?k2 ?k3 ?_; (case k1 => exact News.isTup (by k_asm) (by k_mem)); (case k2 => assumption); (case k3 => omega); k_whole))) | ((k_here; (with_reducible show wpAny _ _ (call (Value.type _) [Value.ref _]) _ _ _); k_dflt (refine' kde_tupleOf ?k1 ?k2 ?k3 ?k4 ?k5 ?_; (case k1 => k_asm); (case k2 => k_asm); (case k3 => exact News.isList (by k_asm) (by k_mem)); (case k4 => (have hL9 := IntsAre.length (by assumption); simp only [List.size_toArray]; omega)); (case k5 => exact rfl); k_whole); intro D' h' F' N' l1; (try k_lt l1); (try k_sweep))) | (k_unfold; (try dsimp only)) | (k_end; wrow_close) | walk1 | (dsimp only; walk1) | (leave1; walk_say "STEP leave1"; try dsimp only) | fail "no step"))
  rename_i hR FC NC hst
  refine' forRange (Led := fun _ : Unit => (ld, W.listOf ((ws.map WsR.x).map Value.ref).toArray nL) :: (lw, W.listOf #[Value.int ((a1 : Nat) : Int) s1, Value.int ((a2 : Nat) : Int) s2, Value.int ((a3 : Nat) : Int) s3, Value.int ((a4 : Nat) : Int) s4, Value.int ((a5 : Nat) : Int) s5, Value.int ((a6 : Nat) : Int) s6] na) :: (hw, W.listOf #[Value.int ((b1 : Nat) : Int) u1, Value.int ((b2 : Nat) : Int) u2, Value.int ((b3 : Nat) : Int) u3, Value.int ((b4 : Nat) : Int) u4, Value.int ((b5 : Nat) : Int) u5, Value.int ((b6 : Nat) : Int) u6] nb) :: base) (ps := fun _ => []) (stored := [])
    (Inv := fun _ _ => True) (Exit := fun _ => True) (n := reply.length + 1) (c₀ := ()) rfl hR (small_one (by omega) (by omega) (by omega) (by omega)) ?hn FC NC ?hk trivial ?turn ?stop ?done
  case hk => exact List.forall_mem_nil _
  case hn => rw [rangeSize_nat]; omega
  case stop => exact fun _ _ => trivial
  case turn =>
    intro i t c u9 h tk I oI hi hInv hneI F2 N2
    show wpAny _ (callerA.deeper (lawEnv L fa)) (execs [stmtAt loop3 0, stmtAt loop3 1, stmtAt loop3 2] (lawEnv L fa)) _ _ _
    refine loop3_turn (s := { s with heap := h, toks := tk }) (i := i) (t := t) (ws := ws) (r0 := r0) (base := base) X' T' B' (by omega) (by omega) ?m1 ?m2 ?m3 ?m4 ?m5 ok0 hb9.out hspec.out F2 N2 ?_
    case m1 => show some (Value.int (0 + (i : Int)) t) = _; rw [Int.zero_add]
    case m2 => exact rfl
    case m3 => exact rfl
    case m4 => exact rfl
    case m5 => exact rfl
    intro h' tk' F' N'
    refine EndG.intro () F' N' (fun q hq => .tail _ hq) (.head _) hneI (List.forall_mem_nil _) (fun z z1 z2 z3 => ?_) trivial
    rw [if_neg z1]
    rfl
  case done =>
    intro c u9 h tk hE2 F2 N2
    exact hQ h tk _ F2 N2
end
-- MEnd
section
open PySem PySem.W PySem.Calls PyProof.Rows
set_option maxRecDepth 100000 in
set_option maxHeartbeats 8000000 in
theorem law_lows {w : World} {p : Program} {loose : List Str} {mean : ExcName → Option Value} {mg mb : Str → Option Value} {h₀ : Heap} {L fa : Addr} {s : Shared} {Q : Flow → Shared → Prop} {E : Value → Shared → Prop}
    {u : Str → Option Value} {x : Addr} {rest : List (Addr × Obj)}
    (X' : Frag.In (hd.heap_39 w.params) h₀) (T' : Top p loose mean mg mb h₀) (B' : Below callerA h₀ [] h₀)
    (F : Fr h₀ L s.heap (kstB u [(Str.ofString "leads", .ref x)]))
    (N : News h₀ L s.heap rest)
    (hQ : ∀ h' tk l, (∀ q ∈ rest, q.1 < l) → Fr h₀ L h' (fun y => if y = Str.ofString "lows" then some (.ref l) else kstB u [(Str.ofString "leads", .ref x)] y) → News h₀ L h' ((l, W.listOf #[] 0) :: rest) → Q .next { s with heap := h', toks := tk }) :
    wpAny (model PySem.Challenge.rw_rl0090_01.row.prog w) (callerA.deeper (lawEnv L fa)) (exec (stmtAt lawBody 11) (lawEnv L fa)) Q E s := by
  revert X'
  w_top off
  k_fill
  intro X'
  have hsc : lawScope = lawScope := rfl
  conv at hsc => rhs; whnf
  have hb : stmtAt lawBody 11 = stmtAt lawBody 11 := rfl
  conv at hb => rhs; whnf
  rw [hb]
  show wpAny _ (callerA.deeper (envOfC (Str.ofString "law") lawScope L fa (.ref 148))) (exec _ (envOfC (Str.ofString "law") lawScope L fa (.ref 148))) _ _ _
  rw [hsc]
  clear hsc hb
  have hMk9 := kstMark
  repeat' (first | (k_unfold; (try dsimp only)) | (k_end; wrow_close) | walk1 | (dsimp only; walk1) | fail "no step")
  rename News _ _ _ _ => NE
  exact hQ _ _ _ (by assumption) (by k_asm) NE
set_option maxRecDepth 100000 in
set_option maxHeartbeats 8000000 in
theorem law_highs {w : World} {p : Program} {loose : List Str} {mean : ExcName → Option Value} {mg mb : Str → Option Value} {h₀ : Heap} {L fa : Addr} {s : Shared} {Q : Flow → Shared → Prop} {E : Value → Shared → Prop}
    {u : Str → Option Value} {x : Addr} {rest : List (Addr × Obj)}
    (X' : Frag.In (hd.heap_39 w.params) h₀) (T' : Top p loose mean mg mb h₀) (B' : Below callerA h₀ [] h₀)
    (F : Fr h₀ L s.heap (kstB u [(Str.ofString "leads", .ref x)]))
    (N : News h₀ L s.heap rest)
    (hQ : ∀ h' tk l, (∀ q ∈ rest, q.1 < l) → Fr h₀ L h' (fun y => if y = Str.ofString "highs" then some (.ref l) else kstB u [(Str.ofString "leads", .ref x)] y) → News h₀ L h' ((l, W.listOf #[] 0) :: rest) → Q .next { s with heap := h', toks := tk }) :
    wpAny (model PySem.Challenge.rw_rl0090_01.row.prog w) (callerA.deeper (lawEnv L fa)) (exec (stmtAt lawBody 12) (lawEnv L fa)) Q E s := by
  revert X'
  w_top off
  k_fill
  intro X'
  have hsc : lawScope = lawScope := rfl
  conv at hsc => rhs; whnf
  have hb : stmtAt lawBody 12 = stmtAt lawBody 12 := rfl
  conv at hb => rhs; whnf
  rw [hb]
  show wpAny _ (callerA.deeper (envOfC (Str.ofString "law") lawScope L fa (.ref 148))) (exec _ (envOfC (Str.ofString "law") lawScope L fa (.ref 148))) _ _ _
  rw [hsc]
  clear hsc hb
  have hMk9 := kstMark
  repeat' (first | (k_unfold; (try dsimp only)) | (k_end; wrow_close) | walk1 | (dsimp only; walk1) | fail "no step")
  rename News _ _ _ _ => NE
  exact hQ _ _ _ (by assumption) (by k_asm) NE
set_option maxRecDepth 100000 in
set_option maxHeartbeats 8000000 in
theorem law_ret {w : World} {p : Program} {loose : List Str} {mean : ExcName → Option Value} {mg mb : Str → Option Value} {h₀ : Heap} {L fa : Addr} {s : Shared} {Q : Flow → Shared → Prop} {E : Value → Shared → Prop}
    {u : Str → Option Value} {rest : List (Addr × Obj)}
    (X' : Frag.In (hd.heap_39 w.params) h₀) (T' : Top p loose mean mg mb h₀) (B' : Below callerA h₀ [] h₀)
    (F : Fr h₀ L s.heap u) (N : News h₀ L s.heap rest)
    (hQ : ∀ tk, Q (.ret (.bool true)) { s with toks := tk }) :
    wpAny (model PySem.Challenge.rw_rl0090_01.row.prog w) (callerA.deeper (lawEnv L fa)) (exec (stmtAt lawBody 15) (lawEnv L fa)) Q E s := by
  revert X'
  w_top off
  k_fill
  intro X'
  have hsc : lawScope = lawScope := rfl
  conv at hsc => rhs; whnf
  have hb : stmtAt lawBody 15 = stmtAt lawBody 15 := rfl
  conv at hb => rhs; whnf
  rw [hb]
  show wpAny _ (callerA.deeper (envOfC (Str.ofString "law") lawScope L fa (.ref 148))) (exec _ (envOfC (Str.ofString "law") lawScope L fa (.ref 148))) _ _ _
  rw [hsc]
  clear hsc hb
  have hMk9 := kstMark
  repeat' (first | (k_unfold; (try dsimp only)) | (k_end; wrow_close) | walk1 | (dsimp only; walk1) | fail "no step")
  exact hQ _
theorem body_is : lawBody = [stmtAt lawBody 0, stmtAt lawBody 1, stmtAt lawBody 2, stmtAt lawBody 3, stmtAt lawBody 4, stmtAt lawBody 5, stmtAt lawBody 6, stmtAt lawBody 7, stmtAt lawBody 8, stmtAt lawBody 9, stmtAt lawBody 10, stmtAt lawBody 11, stmtAt lawBody 12, stmtAt lawBody 13, stmtAt lawBody 14, stmtAt lawBody 15] := rfl
end
-- MVerd
section
open PySem PySem.W PySem.Calls PyProof.Rows
theorem cut_iff {a b i : Nat} {x y : Int} (k1 : i < a ↔ x < y) (k2 : i < b ↔ x ≤ y) : (x = y ↔ a ≤ i ∧ i < b) ∧ (y < x ↔ b ≤ i) :=
  ⟨⟨fun e => ⟨Nat.not_lt.mp fun h => absurd (k1.mp h) (e ▸ Int.lt_irrefl _), k2.mpr (Int.le_of_eq e)⟩,
    fun ⟨e1, e2⟩ => Int.le_antisymm (k2.mp e2) (Int.not_lt.mp fun h => absurd (k1.mpr h) (Nat.not_lt.mpr e1))⟩,
   ⟨fun e => Nat.not_lt.mp fun h => absurd (k2.mp h) (Int.not_le.mpr e), fun e => Int.not_le.mp fun h => absurd (k2.mpr h) (Nat.not_lt.mpr e)⟩⟩
theorem six {P : Int → Prop} : (∀ ts : Int, 1 ≤ ts → ts ≤ 6 → P ts) ↔ P 1 ∧ P 2 ∧ P 3 ∧ P 4 ∧ P 5 ∧ P 6 := by
  constructor
  · intro h; exact ⟨h 1 (by decide) (by decide), h 2 (by decide) (by decide), h 3 (by decide) (by decide), h 4 (by decide) (by decide), h 5 (by decide) (by decide), h 6 (by decide) (by decide)⟩
  · rintro ⟨h1, h2, h3, h4, h5, h6⟩ ts a b
    have : ts = 1 ∨ ts = 2 ∨ ts = 3 ∨ ts = 4 ∨ ts = 5 ∨ ts = 6 := by omega
    rcases this with rfl | rfl | rfl | rfl | rfl | rfl <;> assumption
section
variable {ws : List WsR} {g l : List Nat} {i r s : Nat}
theorem lo_iff (h : LoSpec ws g s r) (hi : i < ws.length) : i < r ↔ lvAt ws s i < lastCol s g 0 0 := by
  obtain ⟨h1, h2, h3⟩ := h
  constructor
  · exact h2 i
  · intro k
    by_cases e : i < r
    · exact e
    · have := h3 i (by omega) hi
      omega
theorem hi_iff (h : HiSpec ws g s r) (hi : i < ws.length) : i < r ↔ lvAt ws s i ≤ lastCol s g 0 0 := by
  obtain ⟨h1, h2, h3⟩ := h
  constructor
  · exact h2 i
  · intro k
    by_cases e : i < r
    · exact e
    · have := h3 i (by omega) hi
      omega
theorem lv_read {ts : Int} (h1 : 1 ≤ ts) (hw : ∀ (j : Nat) (r : WsR), ws[j]? = some r → Reads6 r (l.take (j - 5))) (hi : i < ws.length) : lvAt ws ts i = lastCol ts (l.take (i - 5)) 0 0 := by
  have hk : ws[i]? = some ws[i] := List.getElem?_eq_getElem hi
  unfold lvAt
  rw [hk]
  exact (hw i _ hk).col h1
theorem lv_mono {ts : Int} (h1 : 1 ≤ ts) (hw : ∀ (j : Nat) (r : WsR), ws[j]? = some r → Reads6 r (l.take (j - 5))) : ∀ i j, i ≤ j → j < ws.length → lvAt ws ts i ≤ lvAt ws ts j := by
  intro i j h hj
  rw [lv_read h1 hw (by omega), lv_read h1 hw hj]
  exact lastCol_mono h1 l 0 0 _ _ (by omega)
theorem cols_lv {ts : Int} (h1 : 1 ≤ ts) (hw : ∀ (j : Nat) (r : WsR), ws[j]? = some r → Reads6 r (l.take (j - 5))) (hl : ws.length = 6 + l.length) : ∀ i, i < ws.length → ([0, 0, 0, 0, 0] ++ 0 :: colsFrom ts l 0 0).getD i 0 = lvAt ws ts i := by
  intro i hi
  rw [lv_read h1 hw hi]
  by_cases h5 : i < 5
  · have e : i - 5 = 0 := by omega
    rw [e, List.take_zero]
    have : i = 0 ∨ i = 1 ∨ i = 2 ∨ i = 3 ∨ i = 4 := by omega
    rcases this with rfl | rfl | rfl | rfl | rfl <;> rfl
  · rw [← cols_at ts l 0 0 (i - 5) (by omega)]
    have e : i = (i - 5) + 5 := by omega
    conv => lhs; rw [e]
    rfl
end
section
variable {ws : List WsR} {g l : List Nat} {i : Nat} {r r0 : WsR} {a1 a2 a3 a4 a5 a6 b1 b2 b3 b4 b5 b6 : Nat}
theorem verdict (hw : ∀ (j : Nat) (r : WsR), ws[j]? = some r → Reads6 r (l.take (j - 5))) (h0 : Reads6 r0 g) (hk : ws[i]? = some r)
    (x1 : LoSpec ws g 1 a1) (x2 : LoSpec ws g 2 a2) (x3 : LoSpec ws g 3 a3) (x4 : LoSpec ws g 4 a4) (x5 : LoSpec ws g 5 a5) (x6 : LoSpec ws g 6 a6)
    (y1 : HiSpec ws g 1 b1) (y2 : HiSpec ws g 2 b2) (y3 : HiSpec ws g 3 b3) (y4 : HiSpec ws g 4 b4) (y5 : HiSpec ws g 5 b5) (y6 : HiSpec ws g 6 b6) :
    (LessSpec r.cnt r.b r.n r.nt r0.cnt r0.b r0.n r0.nt ↔ (i < a1 ∧ i < a2 ∧ i < a3 ∧ i < a4 ∧ i < a5 ∧ i < a6)) ∧
    ((r.cnt = r0.cnt ∧ r.b = r0.b) ↔ (a1 ≤ i ∧ i < b1 ∧ a2 ≤ i ∧ i < b2 ∧ a3 ≤ i ∧ i < b3 ∧ a4 ≤ i ∧ i < b4 ∧ a5 ≤ i ∧ i < b5 ∧ a6 ≤ i ∧ i < b6)) ∧
    (LessSpec r0.cnt r0.b r0.n r0.nt r.cnt r.b r.n r.nt ↔ (b1 ≤ i ∧ b2 ≤ i ∧ b3 ≤ i ∧ b4 ≤ i ∧ b5 ≤ i ∧ b6 ≤ i)) := by
  have hi : i < ws.length := (List.getElem?_eq_some_iff.mp hk).1
  have hr := hw i r hk
  rw [hr.less h0, hr.equal h0, h0.less hr, six, six, six]
  have L1 := lo_iff x1 hi
  have L2 := lo_iff x2 hi
  have L3 := lo_iff x3 hi
  have L4 := lo_iff x4 hi
  have L5 := lo_iff x5 hi
  have L6 := lo_iff x6 hi
  have H1 := hi_iff y1 hi
  have H2 := hi_iff y2 hi
  have H3 := hi_iff y3 hi
  have H4 := hi_iff y4 hi
  have H5 := hi_iff y5 hi
  have H6 := hi_iff y6 hi
  have R : ∀ ts : Int, 1 ≤ ts → lvAt ws ts i = lastCol ts (l.take (i - 5)) 0 0 := fun ts h => lv_read h hw hi
  rw [show ((1 : Nat) : Int) = 1 from rfl, R 1 (by decide)] at L1 H1
  rw [show ((2 : Nat) : Int) = 2 from rfl, R 2 (by decide)] at L2 H2
  rw [show ((3 : Nat) : Int) = 3 from rfl, R 3 (by decide)] at L3 H3
  rw [show ((4 : Nat) : Int) = 4 from rfl, R 4 (by decide)] at L4 H4
  rw [show ((5 : Nat) : Int) = 5 from rfl, R 5 (by decide)] at L5 H5
  rw [show ((6 : Nat) : Int) = 6 from rfl, R 6 (by decide)] at L6 H6
  generalize lastCol 1 (l.take (i - 5)) 0 0 = p1 at *
  generalize lastCol 2 (l.take (i - 5)) 0 0 = p2 at *
  generalize lastCol 3 (l.take (i - 5)) 0 0 = p3 at *
  generalize lastCol 4 (l.take (i - 5)) 0 0 = p4 at *
  generalize lastCol 5 (l.take (i - 5)) 0 0 = p5 at *
  generalize lastCol 6 (l.take (i - 5)) 0 0 = p6 at *
  generalize lastCol 1 g 0 0 = q1 at *
  generalize lastCol 2 g 0 0 = q2 at *
  generalize lastCol 3 g 0 0 = q3 at *
  generalize lastCol 4 g 0 0 = q4 at *
  generalize lastCol 5 g 0 0 = q5 at *
  generalize lastCol 6 g 0 0 = q6 at *
  clear x1 x2 x3 x4 x5 x6 y1 y2 y3 y4 y5 y6 R hw h0 hr hk
  have E1 := cut_iff L1 H1
  have E2 := cut_iff L2 H2
  have E3 := cut_iff L3 H3
  have E4 := cut_iff L4 H4
  have E5 := cut_iff L5 H5
  have E6 := cut_iff L6 H6
  refine ⟨?_, ?_, ?_⟩
  · rw [L1, L2, L3, L4, L5, L6]
  · rw [E1.1, E2.1, E3.1, E4.1, E5.1, E6.1]
    simp only [and_assoc]
  · rw [E1.2, E2.2, E3.2, E4.2, E5.2, E6.2]
theorem VOk.six {P : Nat → Nat → Prop} {va : List Value} (h : VOk P 6 va) : ∃ (c1 c2 c3 c4 c5 c6 : Nat) (t1 t2 t3 t4 t5 t6 : Tok), va = [.int (c1 : Int) t1, .int (c2 : Int) t2, .int (c3 : Int) t3, .int (c4 : Int) t4, .int (c5 : Int) t5, .int (c6 : Int) t6] ∧ P 1 c1 ∧ P 2 c2 ∧ P 3 c3 ∧ P 4 c4 ∧ P 5 c5 ∧ P 6 c6 := by
  obtain ⟨rs, h1, h2, h3⟩ := h
  obtain ⟨c1, c2, c3, c4, c5, c6, rfl⟩ : ∃ c1 c2 c3 c4 c5 c6, rs = [c1, c2, c3, c4, c5, c6] := by
    rcases rs with _ | ⟨c1, _ | ⟨c2, _ | ⟨c3, _ | ⟨c4, _ | ⟨c5, _ | ⟨c6, _ | ⟨c7, rs⟩⟩⟩⟩⟩⟩⟩ <;> simp at h1
    exact ⟨c1, c2, c3, c4, c5, c6, rfl⟩
  simp only [List.map_cons, List.map_nil] at h2
  obtain ⟨t1, v1, rfl, k1⟩ := h2.cons_inv
  obtain ⟨t2, v2, rfl, k2⟩ := k1.cons_inv
  obtain ⟨t3, v3, rfl, k3⟩ := k2.cons_inv
  obtain ⟨t4, v4, rfl, k4⟩ := k3.cons_inv
  obtain ⟨t5, v5, rfl, k5⟩ := k4.cons_inv
  obtain ⟨t6, v6, rfl, k6⟩ := k5.cons_inv
  obtain rfl := k6.nil_inv
  exact ⟨c1, c2, c3, c4, c5, c6, t1, t2, t3, t4, t5, t6, rfl, h3 0 _ rfl, h3 1 _ rfl, h3 2 _ rfl, h3 3 _ rfl, h3 4 _ rfl, h3 5 _ rfl⟩
end
end
-- MWalk
section
open PySem PySem.W PySem.Calls PyProof.Rows
set_option maxRecDepth 100000
theorem one_is {m : Str → Option Value} {x : Str} {v : Value} (h : m x = some v) : ∀ q ∈ [(x, v)], m q.1 = some q.2 := List.forall_mem_cons.mpr ⟨h, List.forall_mem_nil _⟩
theorem two_is {m : Str → Option Value} {x y : Str} {v u : Value} (h : m x = some v) (h' : m y = some u) : ∀ q ∈ [(x, v), (y, u)], m q.1 = some q.2 := List.forall_mem_cons.mpr ⟨h, one_is h'⟩
/-- a name is set in a frame's map -/
theorem set_name {h₀ h : Heap} {L : Addr} {m : Str → Option Value} {x : Str} {v : Value} {ps : List (Str × Value)} (hk : ∀ q ∈ ps, m q.1 = some q.2) (F : Fr h₀ L h (fun y => if y = x then some v else kstB m ps y)) :
    ∃ M : Str → Option Value, Fr h₀ L h M ∧ M x = some v ∧ ∀ z, z ≠ x → M z = m z := by
  rw [kst_self hk] at F
  exact ⟨_, F, if_pos rfl, fun z hz => if_neg hz⟩
theorem reply_codes (body : Str) : (Str.ofString "257 \"" ++ body).cps.toList = [50, 53, 55, 32, 34] ++ body.cps.toList := by
  rw [Str.cps_append, Array.toList_append, show (Str.ofString "257 \"").cps.toList = [50, 53, 55, 32, 34] by decide +kernel]
theorem three_of {ps : List Addr} (h : ps.length = 3) : ∃ p0 p1 p2, ps = [p0, p1, p2] := by
  rcases ps with _ | ⟨p0, _ | ⟨p1, _ | ⟨p2, _ | ⟨p3, r⟩⟩⟩⟩ <;> simp at h
  exact ⟨p0, p1, p2, rfl⟩
theorem goalA_len (T : Int) : (goalA T).length ≤ 16 := by
  have h := (goal_ok T).len
  have e : (goalB (goalA T) T).cps.size = (goalA T).cps.size + (Txt.mul (Str.ofString "\"\"") ((T.fdiv 18).fmod 2)).cps.size + (Txt.mul (Str.ofString " ") ((T.fdiv 36).fmod 2)).cps.size := by
    unfold goalB
    simp only [Str.cps_append, Array.size_append]
  show (goalA T).cps.size ≤ 16
  omega
theorem slice_head {reply body : Str} (hre : reply.cps.toList = [50, 53, 55, 32, 34] ++ body.cps.toList) : Txt.slice reply none (some ((0 : Nat) : Int)) = Str.ofString "" ∧ Txt.slice reply none (some ((1 : Nat) : Int)) = Str.ofString "2" ∧ Txt.slice reply none (some ((2 : Nat) : Int)) = Str.ofString "25" := by
  refine ⟨str_ext ?_, str_ext ?_, str_ext ?_⟩ <;> rw [slice_to _ (by decide), hre]
  · rw [show (Str.ofString "").cps.toList = [] by decide +kernel]; rfl
  · rw [show (Str.ofString "2").cps.toList = [50] by decide +kernel]; rfl
  · rw [show (Str.ofString "25").cps.toList = [50, 53] by decide +kernel]; rfl
theorem led_kind {w : World} {r : WsR} : ∀ q ∈ r.led w, (∀ ps, q.2 ≠ tabObj ps) ∧ ∀ v, q.2.data ≠ .cell v := by
  intro q hq
  simp only [WsR.led, List.mem_cons, List.not_mem_nil, or_false] at hq
  rcases hq with rfl | rfl | rfl | rfl
  · exact ⟨fun ps e => by have := congrArg Obj.cls e; simp at this, fun v e => by simp at e⟩
  · exact ⟨fun ps e => by have := congrArg Obj.cls e; simp at this, fun v e => by simp at e⟩
  · exact ⟨fun ps e => by have := congrArg Obj.cls e; simp at this, fun v e => by simp at e⟩
  · exact ⟨fun ps e => by have := congrArg Obj.cls e; simp at this, fun v e => by simp at e⟩
theorem news_apart {h₀ h : Heap} {L : Addr} {X : List (Addr × Obj)} (N : News h₀ L h X) {q q' : Addr × Obj} (hq : q ∈ X) (hq' : q' ∈ X) (hne : q.2 ≠ q'.2) : q.1 ≠ q'.1 := fun e => by
  have a := (N q hq).1
  have b := (N q' hq').1
  rw [e, b] at a
  exact hne (Option.some.inj a).symm
set_option maxHeartbeats 8000000 in
theorem law_walk {w : World} {p : Program} {loose : List Str} {mean : ExcName → Option Value} {mg mb : Str → Option Value} {h₀ : Heap} {L fa ls : Addr} {s : Shared} {Q : Flow → Shared → Prop} {E : Value → Shared → Prop} {m : Str → Option Value}
    {vs : List Value} {ns : List Int} {oW oZ : Obj}
    (X' : Frag.In (hd.heap_39 w.params) h₀) (T' : Top p loose mean mg mb h₀) (B' : Below callerA h₀ [] h₀) (C : CodeHd h₀ 148 146) (l0 : @LT.lt Nat _ 146 L)
    (hl : h₀.IsList ls vs.toArray) (hI : IntsAre vs ns) (h63 : ¬ ((63 : Nat) : Int) < (ns.length : Int))
    (F : Fr h₀ L s.heap m) (hm : m (Str.ofString "script") = some (.ref ls))
    (N : News h₀ L s.heap [(L + 1 + 1, oZ), (L + 1, oW), (146, tabObj #[])]) (hW : ∃ v, oW.data = .cell v) (hZ : ∃ v, oZ.data = .cell v)
    (hE : PassesOwn (model PySem.Challenge.rw_rl0090_01.row.prog w) (callerA.deeper (lawEnv L fa)) (lawEnv L fa) E)
    (hQ : ∀ h' tk m' ps, Fr h₀ L h' m' → News h₀ L h' [(146, tabObj ps)] → Q (.ret (.bool true)) { s with heap := h', toks := tk }) :
    wpAny (model PySem.Challenge.rw_rl0090_01.row.prog w) (callerA.deeper (lawEnv L fa)) (execs lawBody (lawEnv L fa)) Q E s := by
  rw [body_is]
  -- row
  refine wpAny_execs_cons (law_row (rest := [(L + 1 + 1, oZ), (L + 1, oW), (146, tabObj #[])]) X' T' B' hl hI h63 (fr_as _ F (one_is hm)) N fun h1 tk1 lr n a b c d ta tb tc td F1 N1 lt1 => ?_)
  obtain ⟨M1, F1, r1, k1⟩ := set_name (one_is hm) F1
  dsimp only
  -- total
  refine wpAny_execs_cons (law_total X' T' B' (fr_as _ F1 (one_is r1)) N1 lt1 fun h2 tk2 t2 F2 N2 => ?_)
  obtain ⟨M2, F2, r2, k2⟩ := set_name (one_is r1) F2
  dsimp only
  generalize a + (b + (c + (d + 0))) = T at r2
  -- body
  have q2 := (k2 (Str.ofString "row") (by decide +kernel)).trans r1
  refine wpAny_execs_cons (law_body X' T' B' (fr_as _ F2 (one_is q2)) N2 (lt1 _ (.head _)) (lt1 _ (.tail _ (.head _))) (lt1 _ (.tail _ (.tail _ (.head _)))) fun h3 tk3 t3 F3 N3 => ?_)
  obtain ⟨M3, F3, r3, k3⟩ := set_name (one_is q2) F3
  dsimp only
  have hb := body_fine a b c d
  generalize Txt.join (Str.ofString "") [piece a, piece b, piece c, piece d] = body at hb r3
  have hbs : body.cps.size ≤ 16 := by have := hb.len; simpa using this
  have T3 := (k3 (Str.ofString "total") (by decide +kernel)).trans r2
  -- reply
  refine wpAny_execs_cons (law_reply X' T' B' (fr_as _ F3 (one_is r3)) hbs N3 fun h4 tk4 t4 F4 N4 => ?_)
  obtain ⟨M4, F4, r4, k4⟩ := set_name (one_is r3) F4
  dsimp only
  have T4 := (k4 (Str.ofString "total") (by decide +kernel)).trans T3
  have b4 := (k4 (Str.ofString "body") (by decide +kernel)).trans r3
  have hre := reply_codes body
  have hrl : (Str.ofString "257 \"" ++ body).length = 5 + body.cps.size := by
    have := congrArg List.length hre
    simp at this
    show (Str.ofString "257 \"" ++ body).cps.size = _
    omega
  generalize Str.ofString "257 \"" ++ body = reply at hre hrl r4
  -- goal
  refine wpAny_execs_cons (law_goal X' T' B' (fr_as _ F4 (one_is T4)) N4 fun h5 tk5 t5 F5 N5 => ?_)
  obtain ⟨M5, F5, r5, k5⟩ := set_name (one_is T4) F5
  dsimp only
  have T5 := (k5 (Str.ofString "total") (by decide +kernel)).trans T4
  have b5 := (k5 (Str.ofString "body") (by decide +kernel)).trans b4
  have p5 := (k5 (Str.ofString "reply") (by decide +kernel)).trans r4
  refine wpAny_execs_cons (law_goal2 X' T' B' (fr_as _ F5 (two_is T5 r5)) (goalA_len T) N5 fun h6 tk6 t6 ht6 F6 N6 => ?_)
  obtain ⟨M6, F6, r6, k6⟩ := set_name (two_is T5 r5) F6
  dsimp only
  have b6 := (k6 (Str.ofString "body") (by decide +kernel)).trans b5
  have p6 := (k6 (Str.ofString "reply") (by decide +kernel)).trans p5
  have hg := goal_ok T
  generalize goalB (goalA T) T = goal at hg r6
  have hrp := replace_small hg
  -- lead
  refine wpAny_execs_cons (law_lead X' T' B' (fr_as _ F6 (one_is r6)) (by omega) hg.len (by
    rw [Str.cps_append, Array.size_append, show (Str.ofString "x").cps.size = 1 by decide +kernel]
    have : (Txt.replace goal (Str.ofString "\"\"") (Str.ofString "\t")).cps.size ≤ 16 := hrp
    omega) N6 ht6 fun h7 tk7 r0 ok0 er0 lt7 F7 N7 => ?_)
  obtain ⟨M7, F7, r7, k7⟩ := set_name (one_is r6) F7
  dsimp only
  have b7 := (k7 (Str.ofString "body") (by decide +kernel)).trans b6
  have p7 := (k7 (Str.ofString "reply") (by decide +kernel)).trans p6
  have g7 := (k7 (Str.ofString "goal") (by decide +kernel)).trans r6
  have R0 := lead_reads hg ok0 er0
  -- refused, leads
  refine wpAny_execs_cons (law_refused X' T' B' (fr_as _ F7 (one_is r7)) N7 fun h8 tk8 rf lt8 F8 N8 => ?_)
  obtain ⟨M8, F8, r8, k8⟩ := set_name (one_is r7) F8
  dsimp only
  have b8 := (k8 (Str.ofString "body") (by decide +kernel)).trans b7
  have p8 := (k8 (Str.ofString "reply") (by decide +kernel)).trans p7
  have g8 := (k8 (Str.ofString "goal") (by decide +kernel)).trans g7
  have l8 := (k8 (Str.ofString "lead") (by decide +kernel)).trans r7
  refine wpAny_execs_cons (law_leads X' T' B' (fr_as _ F8 (one_is l8)) N8 fun h9 tk9 ld lt9 F9 N9 => ?_)
  obtain ⟨M9, F9, r9, k9⟩ := set_name (one_is l8) F9
  dsimp only
  have b9 := (k9 (Str.ofString "body") (by decide +kernel)).trans b8
  have p9 := (k9 (Str.ofString "reply") (by decide +kernel)).trans p8
  have g9 := (k9 (Str.ofString "goal") (by decide +kernel)).trans g8
  have l9 := (k9 (Str.ofString "lead") (by decide +kernel)).trans l8
  have f9 := (k9 (Str.ofString "refused") (by decide +kernel)).trans r8
  have ltrd : @LT.lt Nat _ rf ld := lt9 (rf, W.listOf #[] 0) (.head _)
  -- loop 1
  have hk9 : ∀ q ∈ [(Str.ofString "reply", Value.str reply t4), (Str.ofString "refused", .ref rf), (Str.ofString "leads", .ref ld)], M9 q.1 = some q.2 := List.forall_mem_cons.mpr ⟨p9, two_is f9 r9⟩
  refine wpAny_execs_cons (law_loop1 (base := r0.led w ++ [(L + 1 + 1, oZ), (L + 1, oW), (146, tabObj #[])]) X' T' B' (fr_as _ F9 hk9) hre (by omega) (fun e => by have : rf = ld := e; have z : @LT.lt Nat _ rf ld := ltrd; rw [this] at z; exact absurd z (Nat.lt_irrefl _)) (fun q hq => N9 q (by
    rcases List.mem_cons.mp hq with rfl | hq
    · exact .tail _ (.head _)
    rcases List.mem_cons.mp hq with rfl | hq
    · exact .head _
    · exact .tail _ (.tail _ hq))) (fun q hq => ⟨Nat.ne_of_lt (lt8 q hq), Nat.ne_of_lt (lt9 q (.tail _ hq))⟩) hE fun h10 tk10 M10 c1 hInv F10 N10 hM10 => ?_)
  rw [kst_self hk9] at hM10
  dsimp only
  have b10 := (hM10 (Str.ofString "body") (by decide +kernel) (by decide +kernel) (by decide +kernel)).trans b9
  have p10 := (hM10 (Str.ofString "reply") (by decide +kernel) (by decide +kernel) (by decide +kernel)).trans p9
  have g10 := (hM10 (Str.ofString "goal") (by decide +kernel) (by decide +kernel) (by decide +kernel)).trans g9
  have l10 := (hM10 (Str.ofString "lead") (by decide +kernel) (by decide +kernel) (by decide +kernel)).trans l9
  have f10 := (hM10 (Str.ofString "refused") (by decide +kernel) (by decide +kernel) (by decide +kernel)).trans f9
  have d10 := (hM10 (Str.ofString "leads") (by decide +kernel) (by decide +kernel) (by decide +kernel)).trans r9
  obtain ⟨ps, tps, nR, ws, nL⟩ := c1
  have hlen := hInv.len
  have hws := hInv.ws
  have hpl := hInv.pl
  have htup := hInv.tup
  dsimp only at hlen hws hpl htup
  obtain ⟨p0, p1, p2, rfl⟩ := three_of (hpl.trans (by omega))
  obtain ⟨u0, v0, i0⟩ := htup 0 p0 rfl
  obtain ⟨u1, v1, i1⟩ := htup 1 p1 rfl
  obtain ⟨u2, v2, i2⟩ := htup 2 p2 rfl
  obtain ⟨sl0, sl1, sl2⟩ := slice_head hre
  simp only [tupO, sl0] at i0
  simp only [tupO, sl1] at i1
  simp only [tupO, sl2] at i2
  simp only [L1.led, L1.more] at N10
  have hRd : ∀ (j : Nat) (r : WsR), ws[j]? = some r → Reads6 r (body.cps.toList.take (j - 5)) := fun j r hj => begin_reads (hb.take _) (hws j r hj).1 (hws j r hj).2
  have hwl : ws.length = 6 + body.cps.toList.length := by rw [hlen, hrl]; simp; omega
  have hwl2 : ws.length ≤ 30 := by rw [hlen, hrl]; omega
  clear hInv hpl htup
  -- the refused
  have N10' : News h₀ L h10 ((rf, W.listOf #[Value.ref p0, Value.ref p1, Value.ref p2] nR) :: (p0, { cls := .type "tuple", data := .seq #[.int 0 u0, .str (Str.ofString "") v0] }) :: (p1, { cls := .type "tuple", data := .seq #[.int 1 u1, .str (Str.ofString "2") v1] }) :: (p2, { cls := .type "tuple", data := .seq #[.int 2 u2, .str (Str.ofString "25") v2] }) ::
      ((ld, W.listOf ((ws.map WsR.x).map Value.ref).toArray nL) :: (ws.flatMap (WsR.led w) ++ (r0.led w ++ [(L + 1 + 1, oZ), (L + 1, oW), (146, tabObj #[])])))) := by
    have tl : ∀ q ∈ tps, q ∈ (rf, W.listOf (List.map Value.ref [p0, p1, p2]).toArray nR) :: (ld, W.listOf ((ws.map WsR.x).map Value.ref).toArray nL) :: (tps ++ ws.flatMap (WsR.led w) ++ (r0.led w ++ [(L + 1 + 1, oZ), (L + 1, oW), (146, tabObj #[])])) :=
      fun q hq => .tail _ (.tail _ (List.mem_append_left _ (List.mem_append_left _ hq)))
    refine List.forall_mem_cons.mpr ⟨N10 _ (.head _), List.forall_mem_cons.mpr ⟨N10 _ (tl _ i0), List.forall_mem_cons.mpr ⟨N10 _ (tl _ i1), List.forall_mem_cons.mpr ⟨N10 _ (tl _ i2), List.forall_mem_cons.mpr ⟨N10 _ (.tail _ (.head _)), fun q hq => N10 q (.tail _ (.tail _ ?_))⟩⟩⟩⟩⟩
    rcases List.mem_append.mp hq with hq | hq
    · exact List.mem_append_left _ (List.mem_append_right _ hq)
    · exact List.mem_append_right _ hq
  refine wpAny_execs_cons (law_cmp X' T' B' (fr_as _ F10 (one_is f10)) N10' fun h11 tk11 F11 N11 => ?_)
  rw [kst_self (one_is f10)] at F11
  dsimp only
  clear N10 N10' i0 i1 i2
  -- lows, highs
  have N11' : News h₀ L h11 ((ld, W.listOf ((ws.map WsR.x).map Value.ref).toArray nL) :: (ws.flatMap (WsR.led w) ++ (r0.led w ++ [(L + 1 + 1, oZ), (L + 1, oW), (146, tabObj #[])]))) := fun q hq => N11 q (.tail _ (.tail _ (.tail _ (.tail _ hq))))
  refine wpAny_execs_cons (law_lows X' T' B' (fr_as _ F11 (one_is d10)) N11' fun h12 tk12 lw lt12 F12 N12 => ?_)
  obtain ⟨M12, F12, r12, k12⟩ := set_name (one_is d10) F12
  dsimp only
  have b12 := (k12 (Str.ofString "body") (by decide +kernel)).trans b10
  have p12 := (k12 (Str.ofString "reply") (by decide +kernel)).trans p10
  have g12 := (k12 (Str.ofString "goal") (by decide +kernel)).trans g10
  have l12 := (k12 (Str.ofString "lead") (by decide +kernel)).trans l10
  have d12 := (k12 (Str.ofString "leads") (by decide +kernel)).trans d10
  refine wpAny_execs_cons (law_highs X' T' B' (fr_as _ F12 (one_is d12)) N12 fun h13 tk13 hw lt13 F13 N13 => ?_)
  obtain ⟨M13, F13, r13, k13⟩ := set_name (one_is d12) F13
  dsimp only
  have b13 := (k13 (Str.ofString "body") (by decide +kernel)).trans b12
  have p13 := (k13 (Str.ofString "reply") (by decide +kernel)).trans p12
  have g13 := (k13 (Str.ofString "goal") (by decide +kernel)).trans g12
  have l13 := (k13 (Str.ofString "lead") (by decide +kernel)).trans l12
  have d13 := (k13 (Str.ofString "leads") (by decide +kernel)).trans d12
  have w13 := (k13 (Str.ofString "lows") (by decide +kernel)).trans r12
  -- what lies where
  have cz : (L + 1 + 1, oZ) ∈ (ld, W.listOf ((ws.map WsR.x).map Value.ref).toArray nL) :: (ws.flatMap (WsR.led w) ++ (r0.led w ++ [(L + 1 + 1, oZ), (L + 1, oW), (146, tabObj #[])])) := .tail _ (List.mem_append_right _ (List.mem_append_right _ (.head _)))
  have cw : (L + 1, oW) ∈ (ld, W.listOf ((ws.map WsR.x).map Value.ref).toArray nL) :: (ws.flatMap (WsR.led w) ++ (r0.led w ++ [(L + 1 + 1, oZ), (L + 1, oW), (146, tabObj #[])])) := .tail _ (List.mem_append_right _ (List.mem_append_right _ (.tail _ (.head _))))
  have ct : (146, tabObj #[]) ∈ (ld, W.listOf ((ws.map WsR.x).map Value.ref).toArray nL) :: (ws.flatMap (WsR.led w) ++ (r0.led w ++ [(L + 1 + 1, oZ), (L + 1, oW), (146, tabObj #[])])) := .tail _ (List.mem_append_right _ (List.mem_append_right _ (.tail _ (.tail _ (.head _)))))
  have e1 : @LT.lt Nat _ (L + 2) lw := lt12 _ cz
  have e2 : @LT.lt Nat _ (L + 2) hw := lt13 _ (.tail _ cz)
  have e3 : @LT.lt Nat _ (L + 2) ld := lt9 (L + 1 + 1, oZ) (.tail _ (List.mem_append_right _ (.head _)))
  have e4 : @LT.lt Nat _ lw hw := lt13 (lw, W.listOf #[] 0) (.head _)
  have e5 : @LT.lt Nat _ ld lw := lt12 (ld, W.listOf ((ws.map WsR.x).map Value.ref).toArray nL) (.head _)
  have e6 : @LT.lt Nat _ ld hw := lt13 (ld, W.listOf ((ws.map WsR.x).map Value.ref).toArray nL) (.tail _ (.head _))
  obtain ⟨vW, hvW⟩ := hW
  obtain ⟨vZ, hvZ⟩ := hZ
  have hbase : ∀ q ∈ ws.flatMap (WsR.led w) ++ r0.led w, ∀ a ∈ [146, L + 1, L + 1 + 1, lw, hw], @Ne Nat q.1 a := by
    intro q hq a ha
    have hqm : q ∈ (ld, W.listOf ((ws.map WsR.x).map Value.ref).toArray nL) :: (ws.flatMap (WsR.led w) ++ (r0.led w ++ [(L + 1 + 1, oZ), (L + 1, oW), (146, tabObj #[])])) := by
      rcases List.mem_append.mp hq with hq | hq
      · exact .tail _ (List.mem_append_left _ hq)
      · exact .tail _ (List.mem_append_right _ (List.mem_append_left _ hq))
    have hkind : (∀ ps, q.2 ≠ tabObj ps) ∧ ∀ v, q.2.data ≠ .cell v := by
      rcases List.mem_append.mp hq with hq | hq
      · obtain ⟨r, _, hr⟩ := List.mem_flatMap.mp hq
        exact led_kind q hr
      · exact led_kind q hq
    simp only [List.mem_cons, List.not_mem_nil, or_false] at ha
    rcases ha with rfl | rfl | rfl | rfl | rfl
    · exact news_apart N11' hqm ct (hkind.1 _)
    · exact news_apart N11' hqm cw fun e => hkind.2 vW (by rw [e]; exact hvW)
    · exact news_apart N11' hqm cz fun e => hkind.2 vZ (by rw [e]; exact hvZ)
    · exact Nat.ne_of_lt (lt12 q hqm)
    · exact Nat.ne_of_lt (lt13 q (.tail _ hqm))
  have hled : ∀ r ∈ ws, r.Ok ∧ ∀ q ∈ r.led w, q ∈ ws.flatMap (WsR.led w) ++ r0.led w := by
    intro r hr
    obtain ⟨j, hj⟩ := List.mem_iff_getElem?.mp hr
    exact ⟨(hws j r hj).1, fun q hq => List.mem_append_left _ (List.mem_flatMap.mpr ⟨r, hr, hq⟩)⟩
  -- loop 2
  have hk13 : ∀ q ∈ [(Str.ofString "body", Value.str body t3), (Str.ofString "goal", .str goal t6), (Str.ofString "lows", .ref lw), (Str.ofString "highs", .ref hw), (Str.ofString "leads", .ref ld)], M13 q.1 = some q.2 :=
    List.forall_mem_cons.mpr ⟨b13, List.forall_mem_cons.mpr ⟨g13, List.forall_mem_cons.mpr ⟨w13, two_is r13 d13⟩⟩⟩
  refine wpAny_execs_cons (law_loop2 (ws := ws) (nL := nL) (na := 0) (nb := 0) (base := ws.flatMap (WsR.led w) ++ r0.led w) X' T' B' C (by omega) (by have := hg.len; omega) (fr_as _ F13 hk13) l0 e1 e2 e3 (Nat.ne_of_lt e4) (Nat.ne_of_lt e5) (Nat.ne_of_lt e6) hwl2 hbase hled
    (fun size z1 _ => lv_mono z1 hRd) (fun size => by rw [hwl]; simp [cols_len]; omega) (fun size z1 _ => cols_lv z1 hRd hwl) ⟨vW, hvW⟩ ⟨vZ, hvZ⟩ ?_ hE fun h14 tk14 M14 c2 hInv2 F14 N14 => ?_)
  · refine List.forall_mem_cons.mpr ⟨N13 _ (.tail _ (.tail _ ct)), List.forall_mem_cons.mpr ⟨N13 _ (.tail _ (.tail _ cw)), List.forall_mem_cons.mpr ⟨N13 _ (.tail _ (.tail _ cz)), List.forall_mem_cons.mpr ⟨N13 _ (.tail _ (.head _)), List.forall_mem_cons.mpr ⟨N13 _ (.head _), List.forall_mem_cons.mpr ⟨N13 _ (.tail _ (.tail _ (.head _))), fun q hq => N13 q (.tail _ (.tail _ (.tail _ ?_)))⟩⟩⟩⟩⟩⟩
    rcases List.mem_append.mp hq with hq | hq
    · exact List.mem_append_left _ hq
    · exact List.mem_append_right _ (List.mem_append_left _ hq)
  dsimp only
  obtain ⟨tab, codes, oW2, oZ2, va, vb, na, nb⟩ := c2
  have hnm := hInv2.names
  rw [kst_self hk13] at hnm
  have hlo := hInv2.lo
  have hhi := hInv2.hi
  dsimp only at hlo hhi
  obtain ⟨a1, a2, a3, a4, a5, a6, s1, s2, s3, s4, s5, s6, rfl, x1, x2, x3, x4, x5, x6⟩ := hlo.six
  obtain ⟨b1, b2, b3, b4, b5, b6, w1, w2, w3, w4, w5, w6, rfl, y1, y2, y3, y4, y5, y6⟩ := hhi.six
  simp only [L2.led] at N14
  clear hInv2 hlo hhi
  -- loop 3
  have hk14 : ∀ q ∈ [(Str.ofString "reply", Value.str reply t4), (Str.ofString "leads", .ref ld), (Str.ofString "lead", .ref r0.x), (Str.ofString "lows", .ref lw), (Str.ofString "highs", .ref hw)], M14 q.1 = some q.2 :=
    List.forall_mem_cons.mpr ⟨(hnm (Str.ofString "reply") (by decide +kernel)).trans p13, List.forall_mem_cons.mpr ⟨(hnm (Str.ofString "leads") (by decide +kernel)).trans d13, List.forall_mem_cons.mpr ⟨(hnm (Str.ofString "lead") (by decide +kernel)).trans l13, two_is ((hnm (Str.ofString "lows") (by decide +kernel)).trans w13) ((hnm (Str.ofString "highs") (by decide +kernel)).trans r13)⟩⟩⟩
  refine wpAny_execs_cons (law_loop3 (ws := ws) (nL := nL) (na := na) (nb := nb) (s1 := s1) (s2 := s2) (s3 := s3) (s4 := s4) (s5 := s5) (s6 := s6) (u1 := w1) (u2 := w2) (u3 := w3) (u4 := w4) (u5 := w5) (u6 := w6) (r0 := r0) (base := (146, tabObj tab) :: (ws.flatMap (WsR.led w) ++ r0.led w)) X' T' B' (fr_as _ F14 hk14) (by omega) hlen ok0 (fun q hq => .tail _ (List.mem_append_right _ hq))
    (HidP.mk fun i r hk => ⟨(hws i r hk).1, fun q hq => .tail _ ((hled r (List.mem_of_getElem? hk)).2 q hq), verdict hRd R0 hk x1 x2 x3 x4 x5 x6 y1 y2 y3 y4 y5 y6⟩) ?_ hE fun h15 tk15 M15 F15 N15 => ?_)
  · refine List.forall_mem_cons.mpr ⟨N14 _ (by k_mem), List.forall_mem_cons.mpr ⟨N14 _ (by k_mem), List.forall_mem_cons.mpr ⟨N14 _ (by k_mem), List.forall_mem_cons.mpr ⟨N14 _ (.head _), fun q hq => N14 q (.tail _ (.tail _ (.tail _ (.tail _ (.tail _ (.tail _ (List.mem_append_right _ hq)))))))⟩⟩⟩⟩
  dsimp only
  -- return
  refine wpAny_execs_cons (law_ret X' T' B' F15 N15 fun tk16 => ?_)
  exact hQ _ _ _ tab F15 (List.forall_mem_cons.mpr ⟨N15 _ (.tail _ (.tail _ (.tail _ (.head _)))), List.forall_mem_nil _⟩)
end
-- MTop
section
open PySem PySem.W PySem.Calls PyProof.Rows
set_option maxRecDepth 100000 in
set_option maxHeartbeats 8000000 in
theorem top : PySem.Challenge.rw_rl0090_01.Holds := hd (by
  w_on
  k_go0
  refine law_walk (by k_asm) (by k_asm) (by assumption) (by assumption) (by omega) (by assumption) (by assumption) (by assumption) (by assumption) rfl (by assumption) ⟨_, by assumption⟩ ⟨_, by assumption⟩ ?hE9 ?hQ9
  case hE9 => passes_own
  case hQ9 =>
    intro h9 tk9 m9 ps9 F9 N9
    dsimp only
    repeat' (first | (k_end; wrow_close) | walk1 | (dsimp only; walk1) | fail "no step")
    all_goals (try k_data)
    all_goals w_report)
end
end Mine
set_option maxRecDepth 100000 in
theorem PySem.Challenge.cw_rl0090_01_holds : PySem.Challenge.rw_rl0090_01.Holds := by
  exact Mine.top
