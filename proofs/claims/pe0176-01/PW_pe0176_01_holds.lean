import PyProof.Rows.All
import Wide.All
import OpenK.AllK
import Wide.FinOn
import Lean
import PySem.Challenge.RW_pe0176_01
open PySem PySem.W PySem.Calls PySem.Spec PyProof.Rows
set_option Elab.async false
-- Hd
namespace Mine
set_option maxRecDepth 100000
set_option maxHeartbeats 8000000
open_top hd for PySem.Challenge.rw_pe0176_01
end Mine
-- Base
namespace Mine
set_option maxRecDepth 100000

/-- entering a def of the text: its frame stands over the whole heap that the call found -/
theorem enter {w : World} {A : Around} {Q E : Value → Shared → Prop} {s : Shared} {K : Frag} {f : Addr} {name qual : Str} {params : Arguments} {body : List Stmt} {scope : Scope}
    {dV kV doc pm cdv ct oc : Value} {an od : Option Addr} {osl : Array (Option Value)} {args : List Value} {kw : List (Str × Value)} {binds : List (Str × Value)} {prog : Program}
    (hroom : A.depth < recursionLimit) (X : K.In s.heap) (hlim : s.heap.NoLimit)
    (ho : K.lookup f = some ⟨oc, od, .func (fnOf name qual params body scope dV kV doc pm an cdv ct), osl⟩) (hcd : codeIn K cdv qual = true)
    (hbind : BindsTo s (fnOf name qual params body scope dV kV doc pm an cdv ct) ⟨args, kw⟩ binds) (hloc : ∀ y ∈ binds, scope.names.lookup y.1 = some .local)
    (hcell : ∀ x ∈ scope.names, x.2 ≠ .cell)
    (hco : scope.isCoroutine = false) (hgen : scope.isGenerator = false) (hk : scope.kind = .function)
    (h : ∀ L h₁, Fr s.heap L h₁ (fun y => binds.reverse.lookup y) →
      wpAny (model prog w) (A.deeper (envOf qual scope L f cdv)) (execs body (envOf qual scope L f cdv))
        (fun fl s' => Q (match fl with | .ret v => v | _ => .none) s') (fun _ _ => False) { s with heap := h₁, toks := s.toks + binds.length }) :
    wpAny (model prog w) A (call (.ref f) args kw) Q E s := by
  refine wpAny_call (codeAny_call_def (fd := fnOf name qual params body scope dV kV doc pm an cdv ct) (body := body) (binds := binds) hroom (X _ _ ho) rfl hlim (codeRec_of X hcd) rfl hbind hcell hloc (fun h₁ hns hk₁ => ?_) hco hgen hk)
  exact wpAny_mono (h s.heap.objs.size h₁ ⟨hns, hk₁, Nat.le_refl _⟩) (fun fl s' q => q) fun _ _ x => x.elim

/-- a def's contract over the heap: all that stood stands, the answer is as Out says -/
noncomputable def Spec (w : World) (p : Program) (loose : List Str) (mean : ExcName → Option Value) (mg mb : Str → Option Value) (f : Addr) (dN uN : Nat) (args : List Value) (Pre : Heap → Prop) (Out : Heap → Heap → Value → Prop) : Prop :=
  ∀ (A : Around) (Q E : Value → Shared → Prop) (s : Shared), A.handled = none → A.depth + dN < recursionLimit → A.units + uN < cLine →
    (hd.heap_39 w.params).In s.heap → Top p loose mean mg mb s.heap → Pre s.heap →
    (∀ r h' tk', (∀ b o, s.heap.get? b = some o → h'.get? b = some o) → Out s.heap h' r → Q r { s with heap := h', toks := tk' }) →
    wpAny (model PySem.Challenge.rw_pe0176_01.row.prog w) A (call (.ref f) args) Q E s

/-- a mark at which the walk stands still -/
noncomputable def Stop (P : Prop) : Prop := P
theorem stop_ {P : Prop} (h : Stop P) : P := h

theorem all0 {α : Type} {P : α → Prop} : ∀ p ∈ ([] : List α), P p := fun _ h => nomatch h
theorem all1 {α : Type} {P : α → Prop} {a : α} {l : List α} (h : P a) (r : ∀ p ∈ l, P p) : ∀ p ∈ a :: l, P p := List.forall_mem_cons.mpr ⟨h, r⟩

section
variable {prog : Program} {w : World} {A : Around} {E : Value → Shared → Prop} {Q : Flow → Shared → Prop} {s : Shared} {env : Env} {h₀ : Heap} {L : Addr}

theorem kst_fr {h : Heap} {ps : List (Str × Value)} {m : Str → Option Value} (h1 : ∀ p ∈ ps, m p.1 = some p.2) (F : Fr h₀ L h m) : Fr h₀ L h (kstB m ps) := by
  have em : kstB m ps = m := by
    funext y
    exact kstB_eq h1 fun _ => rfl
  rw [em]
  exact F

noncomputable def WhEnd {σ : Type} (h₀ : Heap) (L : Addr) (s : Shared) (Led : σ → List (Addr × Obj)) (ps : σ → List (Str × Value)) (P : σ → Prop) (μ : σ → Nat) (c : σ) (s₂ : Shared) : Prop :=
  ∃ (c' : σ) (h' : Heap) (tk : Nat) (m' : Str → Option Value) (news' : List (Addr × Obj)), s₂ = { s with heap := h', toks := tk } ∧ Fr h₀ L h' m' ∧ News h₀ L h' news' ∧ (∀ p ∈ Led c', p ∈ news') ∧ (∀ p ∈ ps c', m' p.1 = some p.2) ∧ P c' ∧ μ c' < μ c
noncomputable def WhPost {σ : Type} (h₀ : Heap) (L : Addr) (s : Shared) (Led : σ → List (Addr × Obj)) (ps : σ → List (Str × Value)) (P : σ → Prop) (μ : σ → Nat) (Q : Flow → Shared → Prop) (c : σ) (f : Flow) (s₂ : Shared) : Prop :=
  match f with
  | .ret v => Q (.ret v) s₂
  | .brk => Q .next s₂
  | _ => WhEnd h₀ L s Led ps P μ c s₂
theorem wh_next {σ : Type} {Led : σ → List (Addr × Obj)} {ps : σ → List (Str × Value)} {P : σ → Prop} {μ : σ → Nat} {c : σ} {h' : Heap} {tk : Nat} {m' : Str → Option Value} {news' : List (Addr × Obj)} (c' : σ)
    (F : Fr h₀ L h' m') (N : News h₀ L h' news') (hn : ∀ p ∈ Led c', p ∈ news') (hk : ∀ p ∈ ps c', m' p.1 = some p.2) (hp : P c') (hm : μ c' < μ c) :
    WhPost h₀ L s Led ps P μ Q c .next { s with heap := h', toks := tk } := ⟨c', h', tk, m', news', rfl, F, N, hn, hk, hp, hm⟩

/-- a while: its state is c, the ledger and the names that matter are told by c -/
theorem wh {σ : Type} {test : Expr} {body : List Stmt} {pos : Pos} {m₀ : Str → Option Value} {news₀ : List (Addr × Obj)} (Led : σ → List (Addr × Obj)) (ps : σ → List (Str × Value)) (P : σ → Prop) (μ : σ → Nat) (c₀ : σ)
    (F : Fr h₀ L s.heap m₀) (N : News h₀ L s.heap news₀) (hn : ∀ p ∈ Led c₀, p ∈ news₀) (hk : ∀ p ∈ ps c₀, m₀ p.1 = some p.2) (hp : P c₀)
    (turn : ∀ (c : σ) (u : Str → Option Value) h tk, P c → Fr h₀ L h (kstB u (ps c)) → News h₀ L h (Led c) →
      wpAny (model prog w) A (isTrue test env (eval test env)) (fun b s₂ =>
        if b = true then wpAny (model prog w) A (execs body env) (WhPost h₀ L s Led ps P μ Q c) E s₂ else Q .next s₂) E { s with heap := h, toks := tk })
    (hE : PassesOwn (model prog w) A env E := by passes_own) :
    wpAny (model prog w) A (exec (.While test body [] pos) env) Q E s := by
  refine While_inv2 (fun n m nx => ∃ c : σ, nx = Led c ∧ μ c = n ∧ (∀ p ∈ ps c, m p.1 = some p.2) ∧ P c) F (fun p hp => N p (hn p hp)) ⟨c₀, rfl, rfl, hk, hp⟩ ?_ hE
  rintro n m₁ nx h tk F₁ N₁ ⟨c, rfl, rfl, h1, hp'⟩
  refine wpAny_mono (turn c m₁ h tk hp' (kst_fr h1 F₁) N₁) (fun b s₂ p => ?_) fun _ _ x => x
  cases b with
  | false => simpa using p
  | true =>
    simp only [if_true] at p ⊢
    refine wpAny_mono p (fun f s₃ q => ?_) fun _ _ x => x
    cases f with
    | ret v => exact q
    | brk => exact q
    | next =>
      obtain ⟨c', h', tk', m', news', rfl, F', N', hn, hk9, hp9, hm9⟩ := q
      exact ⟨h', tk', m', Led c', μ c', rfl, F', fun p hp => N' p (hn p hp), hm9, c', rfl, rfl, hk9, hp9⟩
    | cont =>
      obtain ⟨c', h', tk', m', news', rfl, F', N', hn, hk9, hp9, hm9⟩ := q
      exact ⟨h', tk', m', Led c', μ c', rfl, F', fun p hp => N' p (hn p hp), hm9, c', rfl, rfl, hk9, hp9⟩

noncomputable def FoEnd {σ : Type} (h₀ : Heap) (L : Addr) (Led : σ → List (Addr × Obj)) (ps : σ → List (Str × Value)) (P : σ → Prop) (own : List (Addr × Obj)) (s₁ s₂ : Shared) : Prop :=
  ∃ (c' : σ) (h' : Heap) (tk : Nat) (m' : Str → Option Value) (news' : List (Addr × Obj)), s₂ = { s₁ with heap := h', toks := tk } ∧ Fr h₀ L h' m' ∧ News h₀ L h' news' ∧ (∀ p ∈ Led c', p ∈ news') ∧ (∀ p ∈ own, p ∈ news') ∧ (∀ p ∈ ps c', m' p.1 = some p.2) ∧ P c'
noncomputable def FoPost {σ : Type} (h₀ : Heap) (L : Addr) (Led : σ → List (Addr × Obj)) (ps : σ → List (Str × Value)) (P : σ → Prop) (own : List (Addr × Obj)) (s₁ : Shared) (Q : Flow → Shared → Prop) (f : Flow) (s₂ : Shared) : Prop :=
  match f with
  | .ret v => Q (.ret v) s₂
  | .brk => Q .next s₂
  | _ => FoEnd h₀ L Led ps P own s₁ s₂
theorem fo_next {σ : Type} {Led : σ → List (Addr × Obj)} {ps : σ → List (Str × Value)} {P : σ → Prop} {own : List (Addr × Obj)} {s₁ : Shared} {h' : Heap} {tk : Nat} {m' : Str → Option Value} {news' : List (Addr × Obj)} (c' : σ)
    (F : Fr h₀ L h' m') (N : News h₀ L h' news') (hn : ∀ p ∈ Led c', p ∈ news') (ho : ∀ p ∈ own, p ∈ news') (hk : ∀ p ∈ ps c', m' p.1 = some p.2) (hp : P c') :
    FoPost h₀ L Led ps P own s₁ Q .next { s₁ with heap := h', toks := tk } := ⟨c', h', tk, m', news', rfl, F, N, hn, ho, hk, hp⟩

/-- a for over a list that stood ahead of the call -/
theorem foL {σ : Type} {x : Str} {body : List Stmt} {l : Addr} {vs : List Value} {ns : List Int} {m₀ : Str → Option Value} {news₀ : List (Addr × Obj)} (Led : σ → List (Addr × Obj)) (ps : σ → List (Str × Value)) (P : Nat → σ → Prop) (c₀ : σ)
    (hh : A.handled = none) (hl : h₀.IsList l vs.toArray) (hi : IntsAre vs ns) (F : Fr h₀ env.locals s.heap m₀) (N : News h₀ env.locals s.heap news₀) (hn : ∀ p ∈ Led c₀, p ∈ news₀) (hadr : ∀ c, (Led c).map (·.1) = (Led c₀).map (·.1))
    (hk : ∀ p ∈ ps c₀, m₀ p.1 = some p.2) (hp : P 0 c₀)
    (turn : ∀ (i : Nat) (n : Int) (t : Tok) (c : σ) (u : Str → Option Value) h tk own, ns[i]? = some n → OwnOff own ((Led c₀).map (·.1)) → P i c → Fr h₀ env.locals h (fun y => if y = x then some (.int n t) else kstB u (ps c) y) → News h₀ env.locals h (Led c ++ own) →
      wpAny (model prog w) A (execs body env) (FoPost h₀ env.locals Led ps (P (i + 1)) own { s with heap := h, toks := tk } Q) E { s with heap := h, toks := tk })
    (done : ∀ (c : σ) (u : Str → Option Value) h tk, P ns.length c → Fr h₀ env.locals h (kstB u (ps c)) → News h₀ env.locals h (Led c) → Q .next { s with heap := h, toks := tk }) :
    wpAny (model prog w) A (pyIter (.ref l)) (fun it s₂ => LoopAtV prog w A h₀ env x body Q E it s₂) E s := by
  refine iter_invN (news := Led c₀) (fun i m nx => ∃ c : σ, nx = Led c ∧ (∀ p ∈ ps c, m p.1 = some p.2) ∧ P i c) hh hl hi F (fun p hp => N p (hn p hp)) ⟨c₀, rfl, hk, hp⟩ ?_ ?_
  · rintro i n t m₁ nx h tk own hni _ hoff ⟨c, rfl, hk', hp'⟩ F₁ N₁
    have em : kstB m₁ (ps c) = m₁ := by funext y; exact kstB_eq hk' fun _ => rfl
    refine wpAny_mono (turn i n t c m₁ h tk own hni hoff hp' (by rw [em]; exact F₁) N₁) (fun f s₂ q => ?_) fun _ _ x => x
    cases f with
    | ret v => exact q
    | brk => exact q
    | next =>
      obtain ⟨c', h', tk', m', news', e, F', N', h1, h2, h3, h4⟩ := q
      exact ⟨h', tk', m', news', Led c', e, F', N', h1, h2, hadr c', c', rfl, h3, h4⟩
    | cont =>
      obtain ⟨c', h', tk', m', news', e, F', N', h1, h2, h3, h4⟩ := q
      exact ⟨h', tk', m', news', Led c', e, F', N', h1, h2, hadr c', c', rfl, h3, h4⟩
  · rintro m₁ nx h tk ⟨c, rfl, hk', hp'⟩ F₁ N₁
    exact done c m₁ h tk hp' (kst_fr hk' F₁) N₁
end

theorem fr_more {h₀ h h' : Heap} {L : Addr} {m : Str → Option Value} (F : Fr h₀ L h m) (k : ∀ b o, h.get? b = some o → h'.get? b = some o) : Fr h₀ L h' m :=
  ⟨let ⟨o, es, ep, e, r⟩ := F.ns; ⟨o, es, ep, k _ _ e, r⟩, fun b o e => k b o (F.keep b o e), F.above⟩
theorem news_more {h₀ h h' : Heap} {L : Addr} {news : List (Addr × Obj)} (N : News h₀ L h news) (k : ∀ b o, h.get? b = some o → h'.get? b = some o) : News h₀ L h' news :=
  fun p hp => ⟨k _ _ (N p hp).1, (N p hp).2⟩
/-- an object that the call has made, onto the ledger -/
theorem news_one {h₀ h h' : Heap} {L a : Addr} {m : Str → Option Value} {news : List (Addr × Obj)} {o : Obj} (F : Fr h₀ L h m) (N : News h₀ L h' news) (e : h'.get? a = some o) (hn : h.get? a = none) : News h₀ L h' ((a, o) :: news) := by
  refine all1 ⟨e, fun q => ?_, ?_⟩ N
  · obtain ⟨oL, _, _, hL, _⟩ := F.ns
    rw [show a = L from q, hL] at hn; cases hn
  · show h₀.get? a = none
    cases q : h₀.get? a with
    | none => rfl
    | some o' => rw [F.keep _ _ q] at hn; cases hn

/-- a contract at a call within a frame -/
theorem use_spec {w : World} {p : Program} {loose : List Str} {mean : ExcName → Option Value} {mg mb : Str → Option Value} {f : Addr} {dN uN : Nat} {args : List Value} {Pre : Heap → Prop} {Out : Heap → Heap → Value → Prop}
    {A : Around} {Q E : Value → Shared → Prop} {s : Shared} {h₀ : Heap} {L : Addr} {m : Str → Option Value} {news : List (Addr × Obj)}
    (S : Spec w p loose mean mg mb f dN uN args Pre Out) (hh : A.handled = none) (hdp : A.depth + dN < recursionLimit) (hu : A.units + uN < cLine)
    (X : (hd.heap_39 w.params).In h₀) (T : Top p loose mean mg mb h₀) (F : Fr h₀ L s.heap m) (N : News h₀ L s.heap news) (hpre : Pre s.heap)
    (h : ∀ r h' tk', Fr h₀ L h' m → News h₀ L h' news → (∀ b o, s.heap.get? b = some o → h'.get? b = some o) → Out s.heap h' r → Q r { s with heap := h', toks := tk' }) :
    wpAny (model PySem.Challenge.rw_pe0176_01.row.prog w) A (call (.ref f) args) Q E s :=
  S A Q E s hh hdp hu (X.keeps F.keep) (T.keeps F.keep) hpre fun r h' tk' k o => h r h' tk' (fr_more F k) (news_more N k) k o

theorem ints_push {a : Array Value} {xs : List Int} {v : Int} {t : Tok} (h : IntsAre a.toList xs) : IntsAre (a.push (.int v t)).toList (xs ++ [v]) := by
  rw [Array.toList_push]
  exact h.append (.cons _ _ .nil)
theorem ints_get {vs : List Value} {xs : List Int} (h : IntsAre vs xs) : ∀ (i : Nat), i < xs.length → ∃ t, vs[i]? = some (.int (xs.getD i 0) t) := by
  induction h with
  | nil => intro i hi; exact absurd hi (Nat.not_lt_zero _)
  | cons n t _ ih =>
    intro i hi
    cases i with
    | zero => exact ⟨t, rfl⟩
    | succ i => simpa using ih i (by simpa using hi)
theorem news_list {h₀ h : Heap} {L l : Addr} {news : List (Addr × Obj)} {its : Array Value} {n : Nat} (N : News h₀ L h news) (hm : (l, listOf its n) ∈ news) : h.IsList l its := ⟨_, (N _ hm).1, rfl, n, rfl⟩
section
variable {prog : Program} {w : World} {A : Around} {E : Value → Shared → Prop} {s : Shared} {h₀ : Heap} {L l : Addr} {news : List (Addr × Obj)} {its : Array Value} {n : Nat} {xs : List Int} {u : Tok} {Q : Value → Shared → Prop} {value slice : Expr}
/-- an item from the end of a list of the ledger's -/
theorem item_neg {j : Nat} (N : News h₀ L s.heap news) (hm : (l, listOf its n) ∈ news) (I : IntsAre its.toList xs) (h1 : j < xs.length) (hj : j < 1000) (h : ∀ t, Q (.int (xs.getD (xs.length - (j + 1)) 0) t) s)
    (hs : subscripted slice false (.ref l) (.int (Int.negSucc j) u) = operate [.ref l, .int (Int.negSucc j) u] (getItem (.ref l) (.int (Int.negSucc j) u))) :
    wpAny (model prog w) A (subscriptTail value slice (.ref l) (.int (Int.negSucc j) u)) Q E s := by
  have hl := news_list N hm
  have hsz : its.size = xs.length := by rw [← I.length]; simp
  obtain ⟨t, ht⟩ := ints_get I (xs.length - (j + 1)) (by omega)
  have hidx : (Int.negSucc j + (its.size : Int)).toNat = xs.length - (j + 1) := by rw [hsz]; omega
  refine tail_any hl.typeIs slot_list_getitem.lookup (wpAny_getItem_list_neg hl (by omega) (by rw [hsz]; omega) (by omega) ?_ (h t)) hs
  rw [hidx, ← Array.getElem?_toList]
  exact ht
end

section
variable {prog : Program} {w : World} {A : Around} {E : Value → Shared → Prop} {Q : Flow → Shared → Prop} {s : Shared} {env : Env} {h₀ : Heap}
/-- a for over a list that the call has made (it stands in the ledger and is not turned) -/
theorem foM {σ : Type} {x : Str} {body : List Stmt} {l : Addr} {its : Array Value} {k9 : Nat} {ns : List Int} {m₀ : Str → Option Value} {news₀ : List (Addr × Obj)} (Led : σ → List (Addr × Obj)) (ps : σ → List (Str × Value)) (P : Nat → σ → Prop) (c₀ : σ)
    (hh : A.handled = none) (F : Fr h₀ env.locals s.heap m₀) (N : News h₀ env.locals s.heap news₀) (hm : (l, listOf its k9) ∈ news₀) (hi : IntsAre its.toList ns) (hl0 : l ∉ (Led c₀).map (·.1)) (hn : ∀ p ∈ Led c₀, p ∈ news₀) (hadr : ∀ c, (Led c).map (·.1) = (Led c₀).map (·.1))
    (hk : ∀ p ∈ ps c₀, m₀ p.1 = some p.2) (hp : P 0 c₀)
    (turn : ∀ (i : Nat) (n : Int) (t : Tok) (c : σ) (u : Str → Option Value) h tk own, ns[i]? = some n → OwnOff own ((Led c₀).map (·.1)) → P i c → Fr h₀ env.locals h (fun y => if y = x then some (.int n t) else kstB u (ps c) y) → News h₀ env.locals h (Led c ++ own) →
      wpAny (model prog w) A (execs body env) (FoPost h₀ env.locals Led ps (P (i + 1)) own { s with heap := h, toks := tk } Q) E { s with heap := h, toks := tk })
    (done : ∀ (c : σ) (u : Str → Option Value) h tk, P ns.length c → Fr h₀ env.locals h (kstB u (ps c)) → News h₀ env.locals h (Led c) → Q .next { s with heap := h, toks := tk }) :
    wpAny (model prog w) A (pyIter (.ref l)) (fun it s₂ => LoopAtV prog w A h₀ env x body Q E it s₂) E s := by
  have hls : s.heap.IsList l its := news_list N hm
  have hlt : l < s.heap.objs.size := Heap.lt_size (N _ hm).1
  refine wpAny_pyIter_list hls ?_
  have W := Walks.list (prog := prog) (w := w) hh s.heap.objs.size l (Nat.ne_of_lt hlt) its
  have hlen : its.size = ns.length := by rw [← hi.length]; simp
  rw [hlen] at W
  refine loop_invN (s := { s with heap := _ }) (news := Led c₀) (fun i m nx => ∃ c : σ, nx = Led c ∧ (∀ p ∈ ps c, m p.1 = some p.2) ∧ P i c) W ?_ ?_ ?_ ?_ ⟨⟨_, Heap.get?_push_size _ rfl, rfl, rfl⟩, hls.at fun o e => Heap.get?_push_of_some _ e⟩ (F.push _) (fun p hp => ⟨Heap.get?_push_of_some _ (N p (hn p hp)).1, (N p (hn p hp)).2⟩) ⟨c₀, rfl, hk, hp⟩ ?_ ?_
  · intro hm'
    rcases List.mem_cons.mp hm' with e | hm'
    · exact absurd F.ns.lt (e ▸ Nat.lt_irrefl _)
    · exact (N _ hm).2.1 (List.mem_singleton.mp hm').symm
  · intro b hb
    rw [List.mem_singleton.mp hb]
    exact next_is_new F
  · intro p hp hI
    exact absurd (Heap.lt_size (N p (hn p hp)).1) ((List.mem_singleton.mp hI) ▸ Nat.lt_irrefl _)
  · intro p hp hI
    rcases List.mem_cons.mp hI with e | hI
    · exact absurd (Heap.lt_size (N p (hn p hp)).1) (e ▸ Nat.lt_irrefl _)
    · exact hl0 (List.mem_singleton.mp hI ▸ List.mem_map_of_mem hp)
  · rintro i v m₁ nx h tk own hin hP _ hoff ⟨c, rfl, hk', hp'⟩ F₁ N₁
    obtain ⟨t, ht⟩ := ints_get hi i hin
    have hv : v = .int (ns.getD i 0) t := by
      have hP' : its[i]? = some v := hP
      rw [← Array.getElem?_toList, ht] at hP'
      exact (Option.some.inj hP').symm
    subst hv
    have em : kstB m₁ (ps c) = m₁ := by funext y; exact kstB_eq hk' fun _ => rfl
    refine wpAny_mono (turn i (ns.getD i 0) t c m₁ h tk own (by simp [hin]) hoff hp' (by rw [em]; exact F₁) N₁) (fun f s₂ q => ?_) fun _ _ x => x
    cases f with
    | ret v => exact q
    | brk => exact q
    | next =>
      obtain ⟨c', h', tk', m', news', e, F', N', h1, h2, h3, h4⟩ := q
      exact ⟨h', tk', m', news', Led c', e, F', N', h1, h2, hadr c', c', rfl, h3, h4⟩
    | cont =>
      obtain ⟨c', h', tk', m', news', e, F', N', h1, h2, h3, h4⟩ := q
      exact ⟨h', tk', m', news', Led c', e, F', N', h1, h2, hadr c', c', rfl, h3, h4⟩
  · rintro m₁ nx h tk ⟨c, rfl, hk', hp'⟩ F₁ N₁
    exact done c m₁ h tk hp' (kst_fr hk' F₁) N₁
end

section
variable {prog : Program} {w : World} {A : Around} {E : Value → Shared → Prop} {Q : Flow → Shared → Prop} {s : Shared} {env : Env} {h₀ : Heap}
/-- a for over a range by ones -/
theorem foR {σ : Type} {x : Str} {body : List Stmt} {r : Addr} {a₀ b₀ : Int} {t₀ u₀ v₀ : Tok} {n : Nat} {m₀ : Str → Option Value} {news₀ : List (Addr × Obj)} (Led : σ → List (Addr × Obj)) (ps : σ → List (Str × Value)) (P : Nat → σ → Prop) (c₀ : σ)
    (hh : A.handled = none) (hr : IsRange s.heap r a₀ b₀ 1 t₀ u₀ v₀) (hsmall : Builtin.Range.small a₀ b₀ 1 = true) (hnn : Builtin.Range.rangeSize a₀ b₀ 1 = (n : Int)) (F : Fr h₀ env.locals s.heap m₀) (N : News h₀ env.locals s.heap news₀) (hn : ∀ p ∈ Led c₀, p ∈ news₀) (hadr : ∀ c, (Led c).map (·.1) = (Led c₀).map (·.1))
    (hk : ∀ p ∈ ps c₀, m₀ p.1 = some p.2) (hp : P 0 c₀)
    (turn : ∀ (i : Nat) (t : Tok) (c : σ) (u : Str → Option Value) h tk own, i < n → OwnOff own ((Led c₀).map (·.1)) → P i c → Fr h₀ env.locals h (fun y => if y = x then some (.int (a₀ + i) t) else kstB u (ps c) y) → News h₀ env.locals h (Led c ++ own) →
      wpAny (model prog w) A (execs body env) (FoPost h₀ env.locals Led ps (P (i + 1)) own { s with heap := h, toks := tk } Q) E { s with heap := h, toks := tk })
    (done : ∀ (c : σ) (u : Str → Option Value) h tk, P n c → Fr h₀ env.locals h (kstB u (ps c)) → News h₀ env.locals h (Led c) → Q .next { s with heap := h, toks := tk }) :
    wpAny (model prog w) A (pyIter (.ref r)) (fun it s₂ => LoopAtV prog w A h₀ env x body Q E it s₂) E s := by
  refine wpAny_pyIter_range hr hsmall ?_
  have W : Walks prog w A s.heap.objs.size [s.heap.objs.size] [s.heap.objs.size] n (fun i v => i < n ∧ ∃ t, v = .int (a₀ + i * 1) t)
      (fun i h => IsRangeIter h s.heap.objs.size (a₀ + (i : Nat) * 1) ((n : Int) - (i : Nat)) 1) := (Walks.range hh _ a₀ 1 n).bound
  refine loop_invN (s := { s with heap := _ }) (news := Led c₀) (fun i m nx => ∃ c : σ, nx = Led c ∧ (∀ p ∈ ps c, m p.1 = some p.2) ∧ P i c) W ?_ ?_ ?_ ?_ (by show IsRangeIter _ _ _ _ _; rw [hnn]; simpa using Heap.get?_push_size _ rfl) (F.push _) (fun p hp => ⟨Heap.get?_push_of_some _ (N p (hn p hp)).1, (N p (hn p hp)).2⟩) ⟨c₀, rfl, hk, hp⟩ ?_ ?_
  · intro hm
    exact absurd F.ns.lt ((List.mem_singleton.mp hm) ▸ Nat.lt_irrefl _)
  · intro b hb
    rw [List.mem_singleton.mp hb]
    exact next_is_new F
  · intro p hp hI
    exact absurd (Heap.lt_size (N p (hn p hp)).1) ((List.mem_singleton.mp hI) ▸ Nat.lt_irrefl _)
  · intro p hp hI
    exact absurd (Heap.lt_size (N p (hn p hp)).1) ((List.mem_singleton.mp hI) ▸ Nat.lt_irrefl _)
  · rintro i v m₁ nx h tk own hin ⟨_, t, rfl⟩ _ hoff ⟨c, rfl, hk', hp'⟩ F₁ N₁
    have em : kstB m₁ (ps c) = m₁ := by funext y; exact kstB_eq hk' fun _ => rfl
    refine wpAny_mono (turn i t c m₁ h tk own hin hoff hp' (by rw [em]; simpa using F₁) N₁) (fun f s₂ q => ?_) fun _ _ x => x
    cases f with
    | ret v => exact q
    | brk => exact q
    | next =>
      obtain ⟨c', h', tk', m', news', e, F', N', h1, h2, h3, h4⟩ := q
      exact ⟨h', tk', m', news', Led c', e, F', N', h1, h2, hadr c', c', rfl, h3, h4⟩
    | cont =>
      obtain ⟨c', h', tk', m', news', e, F', N', h1, h2, h3, h4⟩ := q
      exact ⟨h', tk', m', news', Led c', e, F', N', h1, h2, hadr c', c', rfl, h3, h4⟩
  · rintro m₁ nx h tk ⟨c, rfl, hk', hp'⟩ F₁ N₁
    exact done c m₁ h tk hp' (kst_fr hk' F₁) N₁
end

/-- entering a def that closes over cells -/
theorem enterC {w : World} {A : Around} {Q E : Value → Shared → Prop} {s : Shared} {f : Addr} {fo : Obj} {name qual : Str} {params : Arguments} {body : List Stmt} {scope : Scope} {cl : List (Str × Addr)}
    {dV kV doc pm cdv ct : Value} {an : Option Addr} {args : List Value} {kw : List (Str × Value)} {binds : List (Str × Value)} {prog : Program}
    (hroom : A.depth < recursionLimit) (ho : s.heap.get? f = some fo) (hd : fo.data = .func (fnX name qual params body scope cl dV kV doc pm an cdv ct)) (hlim : s.heap.NoLimit) (hcd : s.heap.CodeRec cdv qual)
    (hbind : BindsTo s (fnX name qual params body scope cl dV kV doc pm an cdv ct) ⟨args, kw⟩ binds) (hloc : ∀ y ∈ binds, scope.names.lookup y.1 = some .local)
    (hcell : ∀ x ∈ scope.names, x.2 ≠ .cell)
    (hco : scope.isCoroutine = false) (hgen : scope.isGenerator = false) (hk : scope.kind = .function)
    (h : ∀ L h₁, Fr s.heap L h₁ (fun y => binds.reverse.lookup y) →
      wpAny (model prog w) (A.deeper (envX qual scope L f cdv cl)) (execs body (envX qual scope L f cdv cl))
        (fun fl s' => Q (match fl with | .ret v => v | _ => .none) s') (fun _ _ => False) { s with heap := h₁, toks := s.toks + binds.length }) :
    wpAny (model prog w) A (call (.ref f) args kw) Q E s := by
  refine wpAny_call (codeAny_call_def (fd := fnX name qual params body scope cl dV kV doc pm an cdv ct) (body := body) (binds := binds) hroom ho hd hlim hcd rfl hbind hcell hloc (fun h₁ hns hk₁ => ?_) hco hgen hk)
  exact wpAny_mono (h s.heap.objs.size h₁ ⟨hns, hk₁, Nat.le_refl _⟩) (fun fl s' q => q) fun _ _ x => x.elim

/-- entering a def some of whose names are cells -/
theorem enterCl {w : World} {A : Around} {Q E : Value → Shared → Prop} {s : Shared} {K : Frag} {f : Addr} {name qual : Str} {params : Arguments} {body : List Stmt} {scope : Scope}
    {dV kV doc pm cdv ct oc : Value} {an od : Option Addr} {osl : Array (Option Value)} {args : List Value} {kw : List (Str × Value)} {binds : List (Str × Value)} {prog : Program}
    (hroom : A.depth < recursionLimit) (X : K.In s.heap) (hlim : s.heap.NoLimit)
    (ho : K.lookup f = some ⟨oc, od, .func (fnOf name qual params body scope dV kV doc pm an cdv ct), osl⟩) (hcd : codeIn K cdv qual = true)
    (hbind : BindsTo s (fnOf name qual params body scope dV kV doc pm an cdv ct) ⟨args, kw⟩ binds)
    (hkind : (binds.all fun y => scope.names.lookup y.1 == some .local || scope.names.lookup y.1 == some .cell) = true) (hnd : ((cellsFrom 0 scope.names []).map (·.1)).Nodup)
    (hco : scope.isCoroutine = false) (hgen : scope.isGenerator = false) (hk : scope.kind = .function)
    (h : ∀ L h₁ tk cells, Fr s.heap L h₁ (bindL (envOfC qual scope L f cdv).kindOf binds fun _ => none) → News s.heap L h₁ cells →
      CellsAre (bindC (envOfC qual scope L f cdv).kindOf binds fun _ => none) (cellsFrom (L + 1) scope.names []) cells → (∀ b o, s.heap.get? b = some o → b < L) →
      wpAny (model prog w) (A.deeper (envOfC qual scope L f cdv)) (execs body (envOfC qual scope L f cdv))
        (fun fl s' => Q (match fl with | .ret v => v | _ => .none) s') (fun _ _ => False) { s with heap := h₁, toks := tk }) :
    wpAny (model prog w) A (call (.ref f) args kw) Q E s := by
  refine wpAny_call (codeAny_call_function (fd := fnOf name qual params body scope dV kV doc pm an cdv ct) (body := body) hroom (X _ _ ho) rfl hco hgen rfl (codeRec_of X hcd) (hbind _ _ _ _ ?_))
  refine wpAny_newFunctionEnv_cells hk (kindsX hkind _) fun env' he s' x => ?_
  subst he
  refine ⟨hlim.keeps x.toInCall.keep, codeAny_func ?_⟩
  obtain ⟨h₁, tk, rfl, _⟩ := x.done
  have hk₁ := x.toInCall.keep
  obtain ⟨cells, NC, Y⟩ := Cl.news (h₀ := s.heap) (Nat.le_refl _) fun n c hm => ⟨x.cell n c (lookup_of_mem_nodup (cellsFrom_names scope.names 0 (s.heap.objs.size + 1) [] [] rfl ▸ hnd) hm), x.above n c hm⟩
  exact wpAny_mono (h s.heap.objs.size h₁ tk cells ⟨x.toInCall.ns, hk₁, Nat.le_refl _⟩ NC Y fun b o e => Heap.lt_size e) (fun fl s' q => q) fun _ _ x => x.elim

/-- an object of the ground, set aside: it may be turned -/
theorem fr_hide {h₀ h : Heap} {L a : Addr} {m : Str → Option Value} (F : Fr h₀ L h m) : Fr (h₀.hide a) L h m :=
  ⟨F.ns, fun b o e => F.keep b o (Heap.of_hide e), Nat.le_trans (Nat.le_of_eq (Heap.hide_size h₀ a)) F.above⟩
theorem news_hide {h₀ h : Heap} {L a : Addr} {o : Obj} {m : Str → Option Value} {news : List (Addr × Obj)} (F : Fr h₀ L h m) (N : News h₀ L h news) (e : h₀.get? a = some o) : News (h₀.hide a) L h ((a, o) :: news) := by
  refine all1 ⟨F.keep _ _ e, Nat.ne_of_lt (Nat.lt_of_lt_of_le (Heap.lt_size e) F.above), Heap.hide_self h₀ a⟩ fun p hp => ⟨(N p hp).1, (N p hp).2.1, ?_⟩
  cases q : (h₀.hide a).get? p.1 with
  | none => rfl
  | some o => have := (N p hp).2.2; rw [Heap.of_hide q] at this; cases this
theorem hide_get {h : Heap} {a b : Addr} {o : Obj} (e : h.get? b = some o) (hn : b ≠ a) : (h.hide a).get? b = some o := (Heap.hide_ne h hn).trans e
end Mine
-- B1
namespace Mine
set_option maxRecDepth 100000
set_option maxHeartbeats 4000000
local macro_rules | `(tactic| walk_at "exec While Compare cons nil") => `(tactic| (k_extra "mywhile"))
variable {w : World} {p : Program} {loose : List Str} {mean : ExcName → Option Value} {mg mb : Str → Option Value}

theorem fdiv2 (x : Int) : x.fdiv 2 = x / 2 := Int.fdiv_eq_ediv_of_nonneg _ (by decide)
noncomputable def bisR (xs : List Int) (x : Int) : Nat → Int → Int → Int
  | 0, lo, _ => lo
  | f + 1, lo, hi => if lo < hi then (if x < xs.getD ((lo + hi) / 2).toNat 0 then bisR xs x f lo ((lo + hi) / 2) else bisR xs x f ((lo + hi) / 2 + 1) hi) else lo
noncomputable def bisL (xs : List Int) (x : Int) : Nat → Int → Int → Int
  | 0, lo, _ => lo
  | f + 1, lo, hi => if lo < hi then (if xs.getD ((lo + hi) / 2).toNat 0 < x then bisL xs x f ((lo + hi) / 2 + 1) hi else bisL xs x f lo ((lo + hi) / 2)) else lo
noncomputable def bisectR (xs : List Int) (x : Int) : Int := bisR xs x xs.length 0 xs.length
noncomputable def bisectL (xs : List Int) (x : Int) : Int := bisL xs x xs.length 0 xs.length
set_option pp.deepTerms false
set_option pp.deepTerms.threshold 6

theorem bis_right {l : Addr} {vs : List Value} {xs : List Int} {x : Int} {tx9 : Tok} (hI : IntsAre vs xs) (hlen : xs.length < 1000) :
    Spec w p loose mean mg mb 65 1 1 [.ref l, .int x tx9] (fun h => h.IsList l vs.toArray) (fun _ _ r => ∃ t, r = .int (bisectR xs x) t) := by
  unfold Spec
  w_top off
  k_fill
  intro A Q E s hh hdp hun X T hL hret
  refine enter (binds := [(Str.ofString "a", .ref l), (Str.ofString "x", .int x tx9), (Str.ofString "lo", .int 0 _), (Str.ofString "hi", .none), (Str.ofString "key", .none)]) (by omega) X T.nolimit (by k_is) (by k_is) (kp_binds X (fun _ => rfl)) (locs rfl) (by decide) rfl rfl rfl ?_
  intro L h₁ F
  have N : News s.heap L h₁ [] := News.nil
  k_with_none
  k_with "mywhile" => refine stop_ ?_
  k_steps
  unfold Stop
  (rename Fr _ _ _ _ => lF'); (rename News _ _ _ _ => lN')
  refine wh (σ := Int × Tok × Int × Tok) (fun _ => []) (fun c => [(Str.ofString "lo", .int c.1 c.2.1), (Str.ofString "hi", .int c.2.2.1 c.2.2.2), (Str.ofString "a", .ref l), (Str.ofString "x", .int x tx9), (Str.ofString "key", .none)]) (fun c => 0 ≤ c.1 ∧ c.1 ≤ c.2.2.1 ∧ c.2.2.1 ≤ (xs.length : Int) ∧ ∃ f : Nat, c.2.2.1 - c.1 ≤ (f : Int) ∧ bisR xs x f c.1 c.2.2.1 = bisectR xs x) (fun c => (c.2.2.1 - c.1).toNat) ⟨0, _, xs.length, _⟩ lF' lN' all0 (all1 rfl (all1 rfl (all1 rfl (all1 rfl (all1 rfl all0))))) ⟨Int.le_refl _, by dsimp only; omega, by dsimp only; omega, _, by dsimp only; omega, rfl⟩ ?_
  clear lF' lN'
  rintro ⟨lo, t1, hi, t2⟩ u h tk2 ⟨h1, h2, h3, f, h4, h5⟩ F N
  dsimp only at *
  k_steps
  · (rename Fr _ _ _ _ => F9); (rename News _ _ _ _ => N9); rename _ < _ => g9; rename lo < hi => g8
    simp only [fdiv2] at *
    refine wh_next (lo, t1, (lo + hi) / 2, _) F9 N9 all0 (all1 rfl (all1 rfl (all1 rfl (all1 rfl (all1 rfl all0))))) ?_ (by dsimp only; omega)
    cases f with
    | zero => omega
    | succ f => exact ⟨h1, by dsimp only; omega, by dsimp only; omega, f, by dsimp only; omega, by rw [← h5]; simp only [bisR, if_pos g8, if_pos g9]⟩
  · (rename Fr _ _ _ _ => F9); (rename News _ _ _ _ => N9); rename ¬ _ < _ => g9; rename lo < hi => g8
    simp only [fdiv2] at *
    refine wh_next ((lo + hi) / 2 + 1, _, hi, t2) F9 N9 all0 (all1 rfl (all1 rfl (all1 rfl (all1 rfl (all1 rfl all0))))) ?_ (by dsimp only; omega)
    cases f with
    | zero => omega
    | succ f => exact ⟨by dsimp only; omega, by dsimp only; omega, h3, f, by dsimp only; omega, by rw [← h5]; simp only [bisR, if_pos g8, if_neg g9]⟩
  · rename ¬ _ < _ => g9
    refine hret _ _ _ F.keep ⟨t1, ?_⟩
    have : bisR xs x f lo hi = lo := by cases f <;> simp [bisR, g9]
    rw [← h5, this]

theorem bis_left {l : Addr} {vs : List Value} {xs : List Int} {x : Int} {tx9 : Tok} (hI : IntsAre vs xs) (hlen : xs.length < 1000) :
    Spec w p loose mean mg mb 74 1 1 [.ref l, .int x tx9] (fun h => h.IsList l vs.toArray) (fun _ _ r => ∃ t, r = .int (bisectL xs x) t) := by
  unfold Spec
  k_fill
  intro A Q E s hh hdp hun X T hL hret
  refine enter (binds := [(Str.ofString "a", .ref l), (Str.ofString "x", .int x tx9), (Str.ofString "lo", .int 0 _), (Str.ofString "hi", .none), (Str.ofString "key", .none)]) (by omega) X T.nolimit (by k_is) (by k_is) (kp_binds X (fun _ => rfl)) (locs rfl) (by decide) rfl rfl rfl ?_
  intro L h₁ F
  have N : News s.heap L h₁ [] := News.nil
  k_with_none
  k_with "mywhile" => refine stop_ ?_
  k_steps
  unfold Stop
  (rename Fr _ _ _ _ => lF'); (rename News _ _ _ _ => lN')
  refine wh (σ := Int × Tok × Int × Tok) (fun _ => []) (fun c => [(Str.ofString "lo", .int c.1 c.2.1), (Str.ofString "hi", .int c.2.2.1 c.2.2.2), (Str.ofString "a", .ref l), (Str.ofString "x", .int x tx9), (Str.ofString "key", .none)]) (fun c => 0 ≤ c.1 ∧ c.1 ≤ c.2.2.1 ∧ c.2.2.1 ≤ (xs.length : Int) ∧ ∃ f : Nat, c.2.2.1 - c.1 ≤ (f : Int) ∧ bisL xs x f c.1 c.2.2.1 = bisectL xs x) (fun c => (c.2.2.1 - c.1).toNat) ⟨0, _, xs.length, _⟩ lF' lN' all0 (all1 rfl (all1 rfl (all1 rfl (all1 rfl (all1 rfl all0))))) ⟨Int.le_refl _, by dsimp only; omega, by dsimp only; omega, _, by dsimp only; omega, rfl⟩ ?_
  clear lF' lN'
  rintro ⟨lo, t1, hi, t2⟩ u h tk2 ⟨h1, h2, h3, f, h4, h5⟩ F N
  dsimp only at *
  k_steps
  · (rename Fr _ _ _ _ => F9); (rename News _ _ _ _ => N9); rename _ < _ => g9; rename lo < hi => g8
    simp only [fdiv2] at *
    refine wh_next ((lo + hi) / 2 + 1, _, hi, t2) F9 N9 all0 (all1 rfl (all1 rfl (all1 rfl (all1 rfl (all1 rfl all0))))) ?_ (by dsimp only; omega)
    cases f with
    | zero => omega
    | succ f => exact ⟨by dsimp only; omega, by dsimp only; omega, h3, f, by dsimp only; omega, by rw [← h5]; simp only [bisL, if_pos g8, if_pos g9]⟩
  · (rename Fr _ _ _ _ => F9); (rename News _ _ _ _ => N9); rename ¬ _ < _ => g9; rename lo < hi => g8
    simp only [fdiv2] at *
    refine wh_next (lo, t1, (lo + hi) / 2, _) F9 N9 all0 (all1 rfl (all1 rfl (all1 rfl (all1 rfl (all1 rfl all0))))) ?_ (by dsimp only; omega)
    cases f with
    | zero => omega
    | succ f => exact ⟨h1, by dsimp only; omega, by dsimp only; omega, f, by dsimp only; omega, by rw [← h5]; simp only [bisL, if_pos g8, if_neg g9]⟩
  · rename ¬ _ < _ => g9
    refine hret _ _ _ F.keep ⟨t1, ?_⟩
    have : bisL xs x f lo hi = lo := by cases f <;> simp [bisL, g9]
    rw [← h5, this]
end Mine
-- B2
namespace Mine
set_option maxRecDepth 100000
set_option maxHeartbeats 4000000
local macro_rules | `(tactic| walk_at "exec While Compare cons nil") => `(tactic| (k_extra "mywhile"))
local macro_rules | `(tactic| walk_at "call ref cons nil") => `(tactic| (k_extra "mycall"))
local macro_rules | `(tactic| walk_at "call ref") => `(tactic| (k_extra "mycall"))
variable {w : World} {p : Program} {loose : List Str} {mean : ExcName → Option Value} {mg mb : Str → Option Value}

/-- what _law_taken reckons; none where a place would lie outside -/
noncomputable def takenF (los ups : List Int) : Nat → Int → Int → Option Int
  | 0, _, _ => none
  | f + 1, left, ones => if 0 < left then (if 0 ≤ bisectR los left - 1 ∧ bisectR los left - 1 < (los.length : Int) ∧ bisectR los left - 1 < (ups.length : Int) then takenF los ups f (left - los.getD (bisectR los left - 1).toNat 0) (ones + ups.getD (bisectR los left - 1).toNat 0) else none) else some ones

set_option pp.deepTerms false
set_option pp.deepTerms.threshold 6
theorem taken_ {l1 l2 : Addr} {vs1 vs2 : List Value} {los ups : List Int} {x r9 : Int} {tx9 : Tok} {f9 : Nat} (hI : IntsAre vs1 los) (hI2 : IntsAre vs2 ups) (hlen : los.length < 1000) (hlen2 : ups.length < 1000) (hr9 : takenF los ups f9 x 0 = some r9) :
    Spec w p loose mean mg mb 123 2 4 [.int x tx9, .ref l1, .ref l2] (fun h => h.IsList l1 vs1.toArray ∧ h.IsList l2 vs2.toArray) (fun _ _ r => ∃ t, r = .int r9 t) := by
  unfold Spec
  w_top off
  k_fill
  intro A Q E s hh hdp hun X T ⟨hL, hL2⟩ hret
  refine enter (binds := [(Str.ofString "place", .int x tx9), (Str.ofString "lowers", .ref l1), (Str.ofString "uppers", .ref l2)]) (by omega) X T.nolimit (by k_is) (by k_is) (BindsTo.of_eq rfl) (locs rfl) (by decide) rfl rfl rfl ?_
  intro L h₁ F
  have N : News s.heap L h₁ [] := News.nil
  k_with_none
  k_with "mywhile" => refine stop_ ?_
  k_with "mycall" => refine stop_ ?_
  k_steps
  unfold Stop
  (rename Fr _ _ _ _ => lF'); (rename News _ _ _ _ => lN')
  refine wh (σ := Int × Tok × Int × Tok × Nat) (fun _ => []) (fun c => [(Str.ofString "left", .int c.1 c.2.1), (Str.ofString "ones", .int c.2.2.1 c.2.2.2.1), (Str.ofString "lowers", .ref l1), (Str.ofString "uppers", .ref l2)]) (fun c => takenF los ups c.2.2.2.2 c.1 c.2.2.1 = some r9) (fun c => c.2.2.2.2) ⟨x, _, 0, _, f9⟩ lF' lN' all0 (all1 rfl (all1 rfl (all1 rfl (all1 rfl all0)))) hr9 ?_
  clear lF' lN'
  rintro ⟨left, t1, ones, t2, f⟩ u h tk2 h1 F N
  dsimp only at *
  k_steps
  · unfold Stop
    rename 0 < left => g8
    cases f with
    | zero => cases h1
    | succ f =>
    simp only [takenF, if_pos g8] at h1
    split at h1
    case isFalse => cases h1
    rename_i hb
    obtain ⟨hb1, hb2, hb3⟩ := hb
    refine use_spec (bis_right hI hlen) hh (by simp only [depth_deeper]; omega) (by simp only [units_deeper]; omega) X T F N (stays_list F.keep hL) ?_
    clear F N
    rintro _ h' tk' F N hk ⟨t, rfl⟩
    k_steps
    (rename Fr _ _ _ _ => F9); (rename News _ _ _ _ => N9)
    exact wh_next (_, _, _, _, f) F9 N9 all0 (all1 rfl (all1 rfl (all1 rfl (all1 rfl all0)))) h1 (Nat.lt_succ_self _)
  · rename ¬ 0 < left => g8
    refine hret _ _ _ F.keep ⟨t2, ?_⟩
    cases f with
    | zero => cases h1
    | succ f =>
    simp only [takenF, if_neg g8] at h1
    rw [Option.some.inj h1]
end Mine
-- B3
namespace Mine
set_option maxRecDepth 100000
set_option maxHeartbeats 4000000
local macro_rules | `(tactic| walk_at "exec For Name Name cons nil") => `(tactic| (k_extra "myfor"))
local macro_rules | `(tactic| walk_at "exec For Name Call cons nil") => `(tactic| (k_extra "myfor"))
local macro_rules | `(tactic| walk_at "exec For Name Subscript cons nil") => `(tactic| (k_extra "myfor"))
local macro_rules | `(tactic| walk_at "pyIter ref") => `(tactic| (k_extra "myiter"))
local macro_rules | `(tactic| walk_at "call ref cons nil") => `(tactic| (k_extra "mycall"))
local macro_rules | `(tactic| walk_at "call ref") => `(tactic| (k_extra "mycall"))
local macro_rules | `(tactic| walk_at "subscriptTail Name UnaryOp ref int") => `(tactic| (k_here; with_unfolding_all refine' item_neg ?k1 ?k2 ?k3 ?k4 ?k5 ?_ ?k6; (case k1 => k_asm); (case k2 => k_mem); (case k3 => first | with_reducible assumption | exact ints_push (by with_reducible assumption)); (case k4 => (simp only [List.length_append, List.length_cons, List.length_nil]; omega)); (case k5 => decide); (case k6 => with_unfolding_all rfl); k_whole; intro t'; try dsimp only))
variable {w : World} {p : Program} {loose : List Str} {mean : ExcName → Option Value} {mg mb : Str → Option Value}

noncomputable def convF : List Int → List Int → List Int → Int → Int → Option (List Int × List Int)
  | [], los, ups, _, _ => some (los, ups)
  | q :: r, los, ups, lo, up => if 0 ≤ q ∧ q ≤ 100 ∧ 0 ≤ los.getD (los.length - 1) 0 ∧ los.getD (los.length - 1) 0 ≤ 10000 ∧ 0 ≤ ups.getD (ups.length - 1) 0 ∧ ups.getD (ups.length - 1) 0 ≤ 10000 ∧ los.length < 100 ∧ ups.length < 100 then
      convF r (los ++ [q * los.getD (los.length - 1) 0 + lo]) (ups ++ [q * ups.getD (ups.length - 1) 0 + up]) (los.getD (los.length - 1) 0) (ups.getD (ups.length - 1) 0) else none

theorem snoc_prev (xs : List Int) (v : Int) (h : 0 < xs.length) : (xs ++ [v]).getD ((xs ++ [v]).length - (1 + 1)) 0 = xs.getD (xs.length - 1) 0 := by
  rw [List.getD_eq_getElem?_getD, List.getD_eq_getElem?_getD, List.length_append, List.length_singleton, List.getElem?_append_left (by omega)]
  rfl
set_option pp.deepTerms false
set_option pp.deepTerms.threshold 6
theorem conv_ {l : Addr} {vs : List Value} {ns los9 ups9 : List Int} (hI : IntsAre vs ns) (hr9 : convF ns [1] [0] 0 1 = some (los9, ups9)) :
    Spec w p loose mean mg mb 95 1 1 [.ref l] (fun h => h.IsList l vs.toArray) (fun h h' r => ∃ t a1 a2 vs1 vs2 n1 n2, r = .ref t ∧ a1 < a2 ∧ a2 < t ∧ h.get? a1 = none ∧ h.get? a2 = none ∧ h.get? t = none ∧ h'.get? a1 = some (listOf vs1 n1) ∧ h'.get? a2 = some (listOf vs2 n2) ∧ IntsAre vs1.toList los9 ∧ IntsAre vs2.toList ups9 ∧
      h'.get? t = some { cls := .type "tuple", data := .seq #[.ref a1, .ref a2] }) := by
  unfold Spec
  w_top off
  k_fill
  intro A Q E s hh hdp hun X T hL hret
  refine enter (binds := [(Str.ofString "row", .ref l)]) (by omega) X T.nolimit (by k_is) (by k_is) (BindsTo.of_eq rfl) (locs rfl) (by decide) rfl rfl rfl ?_
  intro L h₁ F
  have N : News s.heap L h₁ [] := News.nil
  k_with_none
  k_with "myfor" => refine stop_ ?_
  k_with "myiter" => refine stop_ ?_
  k_steps
  unfold Stop
  rename_i a1 _ _ _ _ a2 _ h12 _ _ _ F9 N9
  refine For_invVF F9 rfl rfl ?_
  k_steps
  unfold Stop
  refine foL (σ := Array Value × Nat × Array Value × Nat × Int × Tok × Int × Tok) (fun c => [(a2, listOf c.2.2.1 c.2.2.2.1), (a1, listOf c.1 c.2.1)])
    (fun c => [(Str.ofString "lower", .int c.2.2.2.2.1 c.2.2.2.2.2.1), (Str.ofString "upper", .int c.2.2.2.2.2.2.1 c.2.2.2.2.2.2.2), (Str.ofString "lowers", .ref a1), (Str.ofString "uppers", .ref a2)])
    (fun i c => ∃ los ups, IntsAre c.1.toList los ∧ IntsAre c.2.2.1.toList ups ∧ 0 < los.length ∧ 0 < ups.length ∧ convF (ns.drop i) los ups c.2.2.2.2.1 c.2.2.2.2.2.2.1 = some (los9, ups9))
    (#[.int 1 _], 0, #[.int 0 _], 0, 0, _, 1, _) hh hL hI F9 N9 (fun _ h => h) (fun _ => rfl) (all1 rfl (all1 rfl (all1 rfl (all1 rfl all0)))) ⟨[1], [0], .cons _ _ .nil, .cons _ _ .nil, by decide, by decide, hr9⟩ ?_ ?_
  · clear F9 N9
    rintro i n t ⟨vs1, n1, vs2, n2, lo, t1, up, t2⟩ u h tk2 own hn hoff ⟨los, ups, I1, I2, e1, e2, hc⟩ F N
    dsimp only at *
    have hlt : i < ns.length := (List.getElem?_eq_some_iff.mp hn).1
    have hdr : ns.drop i = n :: ns.drop (i + 1) := by rw [List.drop_eq_getElem_cons hlt]; rw [(List.getElem?_eq_some_iff.mp hn).2]
    rw [hdr, convF] at hc
    split at hc
    case isFalse => cases hc
    rename_i hb
    obtain ⟨b1, b2, b3, b4, b5, b6, b7, b8⟩ := hb
    k_steps
    (rename Fr _ _ _ _ => F9); (rename News _ _ _ _ => N9)
    refine fo_next (_, _, _, _, _, _, _, _) F9 N9 (all1 (.head _) (all1 (.tail _ (.head _)) all0)) (fun p hp => .tail _ (.tail _ hp)) (all1 rfl (all1 rfl (all1 rfl (all1 rfl all0)))) ⟨_, _, ints_push I1, ints_push I2, by simp, by simp, ?_⟩
    show convF (ns.drop (i + 1)) _ _ ((los ++ [n * los.getD (los.length - 1) 0 + lo]).getD ((los ++ [n * los.getD (los.length - 1) 0 + lo]).length - (1 + 1)) 0)
      ((ups ++ [n * ups.getD (ups.length - 1) 0 + up]).getD ((ups ++ [n * ups.getD (ups.length - 1) 0 + up]).length - (1 + 1)) 0) = _
    rw [snoc_prev _ _ e1, snoc_prev _ _ e2]
    exact hc
  · rintro ⟨vs1, n1, vs2, n2, lo, t1, up, t2⟩ u h tk2 ⟨los, ups, I1, I2, e1, e2, hc⟩ F N
    dsimp only at *
    k_steps
    (rename Fr _ _ _ _ => F8); (rename News _ _ _ _ => N8); (rename _ ∧ _ => l8)
    rw [List.drop_length, convF] at hc
    cases hc
    exact hret _ _ _ F8.keep ⟨_, a1, a2, vs1, vs2, n1, n2, rfl, h12, l8.1, (N8 _ (.tail _ (.tail _ (.head _)))).2.2, (N8 _ (.tail _ (.head _))).2.2, (N8 _ (.head _)).2.2, (N8 _ (.tail _ (.tail _ (.head _)))).1, (N8 _ (.tail _ (.head _))).1, I1, I2, (N8 _ (.head _)).1⟩
end Mine
-- B4
namespace Mine
set_option maxRecDepth 100000
set_option maxHeartbeats 4000000
local macro_rules | `(tactic| walk_at "exec For Name Name cons nil") => `(tactic| (k_extra "myfor"))
local macro_rules | `(tactic| walk_at "exec For Name Call cons nil") => `(tactic| (k_extra "myfor"))
local macro_rules | `(tactic| walk_at "exec For Name Subscript cons nil") => `(tactic| (k_extra "myfor"))
local macro_rules | `(tactic| walk_at "pyIter ref") => `(tactic| (k_extra "myiter"))
variable {w : World} {p : Program} {loose : List Str} {mean : ExcName → Option Value} {mg mb : Str → Option Value}

/-- so many noughts and a 1 -/
noncomputable def noughts (n : Int) : Str := Txt.mul (Str.ofString "0") n ++ Str.ofString "1"
noncomputable def sixT (n : Int) : List Str := [Str.ofString "1", Str.ofString "2", Str.ofString "0", noughts n, Str.ofString "2", Str.ofString "0"]
noncomputable def sixB (n : Int) : List Str := [noughts n, Str.ofString "2", Str.ofString "0", Str.ofString "1", Str.ofString "2", Str.ofString "0"]
noncomputable def pairsOf (f : Int → List Str) (l : List Int) : List Str := l.flatMap f
theorem strs_app : ∀ {vs ws : List Value} {xs ys : List Str}, StrsAre vs xs → StrsAre ws ys → StrsAre (vs ++ ws) (xs ++ ys)
  | _, _, _, _, .nil, h => h
  | _, _, _, _, .cons y t r, h => .cons y t (strs_app r h)
theorem strs_len : ∀ {vs : List Value} {xs : List Str}, StrsAre vs xs → vs.length = xs.length
  | _, _, .nil => rfl
  | _, _, .cons _ _ r => congrArg (· + 1) (strs_len r)
theorem pairs_len (f : Int → List Str) (hf : ∀ n, (f n).length = 6) (l : List Int) : (pairsOf f l).length = 6 * l.length := by
  induction l with
  | nil => rfl
  | cons n r ih => simp only [pairsOf, List.flatMap_cons, List.length_append, List.length_cons] at *; rw [ih, hf]; omega
theorem pairs_snoc (f : Int → List Str) {l : List Int} {i : Nat} {n : Int} (h : l[i]? = some n) : pairsOf f (l.take (i + 1)) = pairsOf f (l.take i) ++ f n := by
  rw [List.take_add_one, h]
  simp [pairsOf]
set_option pp.deepTerms false
set_option pp.deepTerms.threshold 6

theorem there_ {l : Addr} {vs : List Value} {ns : List Int} (hI : IntsAre vs ns) (hb : ∀ n ∈ ns, 0 ≤ n ∧ n ≤ 100) (hlen : ns.length < 100) :
    Spec w p loose mean mg mb 102 1 1 [.ref l] (fun h => h.IsList l vs.toArray) (fun h h' r => ∃ a its k, r = .ref a ∧ h.get? a = none ∧ h'.get? a = some (listOf its k) ∧ StrsAre its.toList (pairsOf sixT ns.reverse)) := by
  unfold Spec
  w_top off
  k_fill
  intro A Q E s hh hdp hun X T hL hret
  refine enter (binds := [(Str.ofString "row", .ref l)]) (by omega) X T.nolimit (by k_is) (by k_is) (BindsTo.of_eq rfl) (locs rfl) (by decide) rfl rfl rfl ?_
  intro L h₁ F
  have N : News s.heap L h₁ [] := News.nil
  k_with_none
  k_with "myfor" => refine stop_ ?_
  k_with "myiter" => refine stop_ ?_
  k_steps
  unfold Stop
  (rename Fr _ _ _ _ => F9); (rename News _ _ _ _ => N9)
  refine For_invVF F9 rfl rfl ?_
  k_steps
  unfold Stop
  rename_i a1 _ _ _ a2 ws _ F9 N9 I9 _ h12
  refine foM (σ := Array Value × Nat) (fun c => [(a1, listOf c.1 c.2)]) (fun c => [(Str.ofString "pairs", .ref a1)])
    (fun i c => StrsAre c.1.toList (pairsOf sixT (ns.reverse.take i)))
    (#[], 0) hh F9 N9 (.head _) I9 (fun e => absurd (List.mem_singleton.mp e) (Nat.ne_of_gt h12)) (all1 (.tail _ (.head _)) all0) (fun _ => rfl) (all1 rfl all0) .nil ?_ ?_
  · clear F9 N9
    rintro i n t ⟨vs1, n1⟩ u h tk2 own hn hoff I1 F N
    dsimp only at *
    have hn9 : 0 ≤ n ∧ n ≤ 100 := hb n (by have := List.mem_of_getElem? hn; simpa using this)
    have hlt : i < ns.reverse.length := (List.getElem?_eq_some_iff.mp hn).1
    have hsz : vs1.size ≤ 600 := by
      have h1 := strs_len I1
      rw [pairs_len sixT (fun _ => rfl), List.length_take] at h1
      simp only [List.length_reverse, Array.length_toList] at *
      omega
    k_steps
    (rename Fr _ _ _ _ => F8); (rename News _ _ _ _ => N8); (rename ∀ (p : Addr × Obj), p ∈ _ → p.1 < _ => l8)
    refine kl_extend (its := vs1) F8 N8 (.head _) rfl (Nat.succ_ne_zero _) (Upd.tail (Nat.ne_of_gt (l8 _ (.head _))) (Upd.head (hoff.ne (.head _)))) (extend_door (by rw [sizeLine_eq]; show vs1.size + 6 ≤ _; omega)) (by rw [sizeLine_eq]; simp only [Array.length_toList]; omega) (by rw [sizeLine_eq]; show vs1.size + 6 ≤ _; omega) ?_
    clear F8 N8
    intro h' F8 N8
    k_steps
    refine fo_next (_, _) F8 N8 (all1 (.tail _ (.head _)) all0) (fun p hp => .tail _ (.tail _ hp)) (all1 rfl all0) ?_
    dsimp only
    rw [pairs_snoc sixT hn]
    exact strs_app I1 (.cons _ _ (.cons _ _ (.cons _ _ (.cons _ _ (.cons _ _ (.cons _ _ .nil))))))
  · rintro ⟨vs1, n1⟩ u h tk2 I1 F N
    dsimp only at *
    k_steps
    rw [List.take_length] at I1
    exact hret _ _ _ F.keep ⟨a1, vs1, n1, rfl, (N _ (.head _)).2.2, (N _ (.head _)).1, I1⟩

theorem back_ {l : Addr} {vs : List Value} {ns : List Int} (hI : IntsAre vs ns) (hb : ∀ n ∈ ns, 0 ≤ n ∧ n ≤ 100) (hlen : ns.length < 100) :
    Spec w p loose mean mg mb 109 1 1 [.ref l] (fun h => h.IsList l vs.toArray) (fun h h' r => ∃ a its k, r = .ref a ∧ h.get? a = none ∧ h'.get? a = some (listOf its k) ∧ StrsAre its.toList (pairsOf sixB ns)) := by
  unfold Spec
  k_fill
  intro A Q E s hh hdp hun X T hL hret
  refine enter (binds := [(Str.ofString "row", .ref l)]) (by omega) X T.nolimit (by k_is) (by k_is) (BindsTo.of_eq rfl) (locs rfl) (by decide) rfl rfl rfl ?_
  intro L h₁ F
  have N : News s.heap L h₁ [] := News.nil
  k_with_none
  k_with "myfor" => refine stop_ ?_
  k_with "myiter" => refine stop_ ?_
  k_steps
  unfold Stop
  (rename Fr _ _ _ _ => F9); (rename News _ _ _ _ => N9)
  refine For_invVF F9 rfl rfl ?_
  k_steps
  unfold Stop
  rename_i a1 _ _ _
  refine foL (σ := Array Value × Nat) (fun c => [(a1, listOf c.1 c.2)]) (fun c => [(Str.ofString "pairs", .ref a1)])
    (fun i c => StrsAre c.1.toList (pairsOf sixB (ns.take i)))
    (#[], 0) hh hL hI F9 N9 (all1 (.head _) all0) (fun _ => rfl) (all1 rfl all0) .nil ?_ ?_
  · clear F9 N9
    rintro i n t ⟨vs1, n1⟩ u h tk2 own hn hoff I1 F N
    dsimp only at *
    have hn9 : 0 ≤ n ∧ n ≤ 100 := hb n (by have := List.mem_of_getElem? hn; simpa using this)
    have hlt : i < ns.length := (List.getElem?_eq_some_iff.mp hn).1
    have hsz : vs1.size ≤ 600 := by
      have h1 := strs_len I1
      rw [pairs_len sixB (fun _ => rfl), List.length_take] at h1
      simp only [List.length_reverse, Array.length_toList] at *
      omega
    k_steps
    (rename Fr _ _ _ _ => F8); (rename News _ _ _ _ => N8); (rename ∀ (p : Addr × Obj), p ∈ _ → p.1 < _ => l8)
    refine kl_extend (its := vs1) F8 N8 (.head _) rfl (Nat.succ_ne_zero _) (Upd.tail (Nat.ne_of_gt (l8 _ (.head _))) (Upd.head (hoff.ne (.head _)))) (extend_door (by rw [sizeLine_eq]; show vs1.size + 6 ≤ _; omega)) (by rw [sizeLine_eq]; simp only [Array.length_toList]; omega) (by rw [sizeLine_eq]; show vs1.size + 6 ≤ _; omega) ?_
    clear F8 N8
    intro h' F8 N8
    k_steps
    refine fo_next (_, _) F8 N8 (all1 (.tail _ (.head _)) all0) (fun p hp => .tail _ (.tail _ hp)) (all1 rfl all0) ?_
    dsimp only
    rw [pairs_snoc sixB hn]
    exact strs_app I1 (.cons _ _ (.cons _ _ (.cons _ _ (.cons _ _ (.cons _ _ (.cons _ _ .nil))))))
  · rintro ⟨vs1, n1⟩ u h tk2 I1 F N
    dsimp only at *
    k_steps
    rw [List.take_length] at I1
    exact hret _ _ _ F.keep ⟨a1, vs1, n1, rfl, (N _ (.head _)).2.2, (N _ (.head _)).1, I1⟩
end Mine
-- B5
namespace Mine
set_option maxRecDepth 100000
set_option maxHeartbeats 4000000
local macro_rules | `(tactic| walk_at "exec For Name Name cons nil") => `(tactic| (k_extra "myfor"))
local macro_rules | `(tactic| walk_at "exec For Name Call cons nil") => `(tactic| (k_extra "myfor"))
local macro_rules | `(tactic| walk_at "exec For Name Subscript cons nil") => `(tactic| (k_extra "myfor"))
local macro_rules | `(tactic| walk_at "pyIter ref") => `(tactic| (k_extra "myiter"))
local macro_rules | `(tactic| walk_at "subscriptTail Name UnaryOp ref int") => `(tactic| (k_here; with_unfolding_all refine' item_neg ?k1 ?k2 ?k3 ?k4 ?k5 ?_ ?k6; (case k1 => k_asm); (case k2 => k_mem); (case k3 => first | with_reducible assumption | exact ints_push (by with_reducible assumption)); (case k4 => (simp only [List.length_append, List.length_cons, List.length_nil]; omega)); (case k5 => decide); (case k6 => with_unfolding_all rfl); k_whole; intro t'; try dsimp only))
variable {w : World} {p : Program} {loose : List Str} {mean : ExcName → Option Value} {mg mb : Str → Option Value}

noncomputable def walkF (up lo : Int) : Nat → Str → List Int → List Int → Str × List Int × List Int
  | 0, w, os, rs => (w, os, rs)
  | f + 1, w, os, rs =>
    let rest := rs.getD (rs.length - 1) 0 + up
    let w' := w ++ (if lo ≤ rest then Str.ofString "1" else Str.ofString "0")
    let os' := os ++ [os.getD (os.length - 1) 0 + (if lo ≤ rest then 1 else 0)]
    let r' := if lo ≤ rest then rest - lo else rest
    if r' = up then (w', os', rs ++ [r']) else walkF up lo f w' os' (rs ++ [r'])
section
variable {up lo : Int} {f : Nat} {w : Str} {os rs : List Int}
theorem walk_one_brk (h : lo ≤ rs.getD (rs.length - 1) 0 + up) (e : rs.getD (rs.length - 1) 0 + up - lo = up) :
    walkF up lo (f + 1) w os rs = (w ++ Str.ofString "1", os ++ [os.getD (os.length - 1) 0 + 1], rs ++ [rs.getD (rs.length - 1) 0 + up - lo]) := by simp only [walkF, if_pos h, if_pos e]
theorem walk_one_next (h : lo ≤ rs.getD (rs.length - 1) 0 + up) (e : rs.getD (rs.length - 1) 0 + up - lo ≠ up) :
    walkF up lo (f + 1) w os rs = walkF up lo f (w ++ Str.ofString "1") (os ++ [os.getD (os.length - 1) 0 + 1]) (rs ++ [rs.getD (rs.length - 1) 0 + up - lo]) := by simp only [walkF, if_pos h, if_neg e]
theorem walk_zero_brk (h : ¬ lo ≤ rs.getD (rs.length - 1) 0 + up) (e : rs.getD (rs.length - 1) 0 + up = up) :
    walkF up lo (f + 1) w os rs = (w ++ Str.ofString "0", os ++ [os.getD (os.length - 1) 0 + 0], rs ++ [rs.getD (rs.length - 1) 0 + up]) := by simp only [walkF, if_neg h, if_pos e]
theorem walk_zero_next (h : ¬ lo ≤ rs.getD (rs.length - 1) 0 + up) (e : rs.getD (rs.length - 1) 0 + up ≠ up) :
    walkF up lo (f + 1) w os rs = walkF up lo f (w ++ Str.ofString "0") (os ++ [os.getD (os.length - 1) 0 + 0]) (rs ++ [rs.getD (rs.length - 1) 0 + up]) := by simp only [walkF, if_neg h, if_neg e]
theorem snoc_last (xs : List Int) (v : Int) : (xs ++ [v]).getD ((xs ++ [v]).length - 1) 0 = v := by simp
end
set_option pp.deepTerms false
set_option pp.deepTerms.threshold 6
theorem walk_ {up lo : Int} {t1 t2 : Tok} (h1 : 0 ≤ up ∧ up ≤ 100) (h2 : 0 ≤ lo ∧ lo ≤ 100) :
    Spec w p loose mean mg mb 116 1 1 [.int up t1, .int lo t2] (fun _ => True) (fun h h' r => ∃ t a1 a2 vs1 vs2 n1 n2 tw tz, r = .ref t ∧ a1 < a2 ∧ h.get? a1 = none ∧ h.get? a2 = none ∧ h.get? t = none ∧ h'.get? a1 = some (listOf vs1 n1) ∧ h'.get? a2 = some (listOf vs2 n2) ∧ IntsAre vs1.toList (walkF up lo lo.toNat (Str.ofString "") [0] [up]).2.1 ∧ IntsAre vs2.toList (walkF up lo lo.toNat (Str.ofString "") [0] [up]).2.2 ∧
      h'.get? t = some { cls := .type "tuple", data := .seq #[.str (walkF up lo lo.toNat (Str.ofString "") [0] [up]).1 tw, .ref a1, .ref a2] tz }) := by
  unfold Spec
  w_top off
  k_fill
  intro A Q E s hh hdp hun X T _ hret
  refine enter (binds := [(Str.ofString "upper", .int up t1), (Str.ofString "lower", .int lo t2)]) (by omega) X T.nolimit (by k_is) (by k_is) (BindsTo.of_eq rfl) (locs rfl) (by decide) rfl rfl rfl ?_
  intro L h₁ F
  have N : News s.heap L h₁ [] := News.nil
  k_with_none
  k_with "myfor" => refine stop_ ?_
  k_with "myiter" => refine stop_ ?_
  k_steps
  unfold Stop
  (rename Fr _ _ _ _ => F9); (rename News _ _ _ _ => N9)
  refine For_invVF F9 rfl rfl ?_
  k_steps
  unfold Stop
  rename_i a1 _ _ _ _ a2 _ h12 _ _ _ _ _ tr ur vr R9 F9 N9 _
  refine foR (n := lo.toNat) (σ := Str × Tok × Array Value × Nat × Array Value × Nat) (fun c => [(a2, listOf c.2.2.2.2.1 c.2.2.2.2.2), (a1, listOf c.2.2.1 c.2.2.2.1)]) (fun c => [(Str.ofString "word", .str c.1 c.2.1), (Str.ofString "ones", .ref a1), (Str.ofString "rests", .ref a2), (Str.ofString "upper", .int up t1), (Str.ofString "lower", .int lo t2)])
    (fun i c => c.1.length = i ∧ ∃ os rs, IntsAre c.2.2.1.toList os ∧ IntsAre c.2.2.2.2.1.toList rs ∧ os.length = i + 1 ∧ rs.length = i + 1 ∧ walkF up lo (lo.toNat - i) c.1 os rs = walkF up lo lo.toNat (Str.ofString "") [0] [up])
    (_, _, #[.int 0 _], 0, #[.int up _], 0) hh R9 (small_one (by decide) (by decide) (by omega) (by omega)) (by rw [rangeSize_one]; split <;> omega) F9 N9 (fun _ h => h) (fun _ => rfl) (all1 rfl (all1 rfl (all1 rfl (all1 rfl (all1 rfl all0))))) ⟨rfl, [0], [up], .cons _ _ .nil, .cons _ _ .nil, rfl, rfl, rfl⟩ ?_ ?_
  · clear F9 N9
    rintro i t ⟨wd, tw, vs1, n1, vs2, n2⟩ u h tk2 own hn hoff ⟨hwl, os, rs, I1, I2, e1, e2, hc⟩ F N
    dsimp only at *
    have hf : lo.toNat - i = (lo.toNat - (i + 1)) + 1 := by omega
    k_steps
    · rename lo ≤ _ => g1
      rename _ = up => g2
      (rename Fr _ _ _ _ => F9); (rename News _ _ _ _ => N9)
      have hfin := (walk_one_brk (f := lo.toNat - (i + 1)) (w := wd) (os := os) g1 ((snoc_last _ _).symm.trans g2)).symm.trans ((congrArg (fun n => walkF up lo n wd os rs) hf.symm).trans hc)
      dsimp only [FoPost]
      k_steps
      (rename Fr _ _ _ _ => F8); (rename News _ _ _ _ => N8)
      exact hret _ _ _ F8.keep ⟨_, a1, a2, _, _, _, _, _, _, rfl, h12, (N8 _ (.tail _ (.tail _ (.head _)))).2.2, (N8 _ (.tail _ (.head _))).2.2, (N8 _ (.head _)).2.2, (N8 _ (.tail _ (.tail _ (.head _)))).1, (N8 _ (.tail _ (.head _))).1, by rw [← hfin]; exact ints_push I1, by rw [← hfin]; exact ints_push I2, by rw [← hfin]; exact (N8 _ (.head _)).1⟩
    · rename lo ≤ _ => g1
      rename _ ≠ up => g2
      (rename Fr _ _ _ _ => F9); (rename News _ _ _ _ => N9)
      exact fo_next (_, _, _, _, _, _) F9 N9 (all1 (.head _) (all1 (.tail _ (.head _)) all0)) (fun p hp => .tail _ (.tail _ hp)) (all1 rfl (all1 rfl (all1 rfl (all1 rfl (all1 rfl all0))))) ⟨by dsimp only; rw [Str.length_append, hwl]; rfl, _, _, ints_push I1, ints_push I2, by simp [e1], by simp [e2], by rw [← hc, hf]; exact (walk_one_next g1 (fun e => g2 ((snoc_last _ _).trans e))).symm⟩
    · rename ¬ lo ≤ _ => g1
      rename _ = up => g2
      (rename Fr _ _ _ _ => F9); (rename News _ _ _ _ => N9)
      have hfin := (walk_zero_brk (f := lo.toNat - (i + 1)) (w := wd) (os := os) g1 ((snoc_last _ _).symm.trans g2)).symm.trans ((congrArg (fun n => walkF up lo n wd os rs) hf.symm).trans hc)
      dsimp only [FoPost]
      k_steps
      (rename Fr _ _ _ _ => F8); (rename News _ _ _ _ => N8)
      exact hret _ _ _ F8.keep ⟨_, a1, a2, _, _, _, _, _, _, rfl, h12, (N8 _ (.tail _ (.tail _ (.head _)))).2.2, (N8 _ (.tail _ (.head _))).2.2, (N8 _ (.head _)).2.2, (N8 _ (.tail _ (.tail _ (.head _)))).1, (N8 _ (.tail _ (.head _))).1, by rw [← hfin]; exact ints_push I1, by rw [← hfin]; exact ints_push I2, by rw [← hfin]; exact (N8 _ (.head _)).1⟩
    · rename ¬ lo ≤ _ => g1
      rename _ ≠ up => g2
      (rename Fr _ _ _ _ => F9); (rename News _ _ _ _ => N9)
      exact fo_next (_, _, _, _, _, _) F9 N9 (all1 (.head _) (all1 (.tail _ (.head _)) all0)) (fun p hp => .tail _ (.tail _ hp)) (all1 rfl (all1 rfl (all1 rfl (all1 rfl (all1 rfl all0))))) ⟨by dsimp only; rw [Str.length_append, hwl]; rfl, _, _, ints_push I1, ints_push I2, by simp [e1], by simp [e2], by rw [← hc, hf]; exact (walk_zero_next g1 (fun e => g2 ((snoc_last _ _).trans e))).symm⟩
  · rintro ⟨wd, tw, vs1, n1, vs2, n2⟩ u h tk2 ⟨hwl, os, rs, I1, I2, e1, e2, hc⟩ F N
    dsimp only at *
    rw [Nat.sub_self] at hc
    k_steps
    (rename Fr _ _ _ _ => F8); (rename News _ _ _ _ => N8)
    exact hret _ _ _ F8.keep ⟨_, a1, a2, _, _, _, _, _, _, rfl, h12, (N8 _ (.tail _ (.tail _ (.head _)))).2.2, (N8 _ (.tail _ (.head _))).2.2, (N8 _ (.head _)).2.2, (N8 _ (.tail _ (.tail _ (.head _)))).1, (N8 _ (.tail _ (.head _))).1, by rw [← hc]; exact I1, by rw [← hc]; exact I2, by rw [← hc]; exact (N8 _ (.head _)).1⟩
end Mine
-- B6
namespace Mine
set_option maxRecDepth 100000
set_option maxHeartbeats 4000000
theorem enterV {w : World} {A : Around} {Q E : Value → Shared → Prop} {s : Shared} {K : Frag} {f : Addr} {name qual : Str} {params : Arguments} {body : List Stmt} {scope : Scope}
    {dV kV doc pm cdv ct oc : Value} {an od : Option Addr} {osl : Array (Option Value)} {args : List Value} {kw : List (Str × Value)} {vs : List Value} {binds : Value → List (Str × Value)} {prog : Program}
    (hroom : A.depth < recursionLimit) (X : K.In s.heap) (hlim : s.heap.NoLimit)
    (ho : K.lookup f = some ⟨oc, od, .func (fnOf name qual params body scope dV kV doc pm an cdv ct), osl⟩) (hcd : codeIn K cdv qual = true)
    (hbind : bindArgs (fnOf name qual params body scope dV kV doc pm an cdv ct) ⟨args, kw⟩ = newTuple vs >>= fun t => pure (binds t)) (hsz : vs.length ≤ sizeLine) (hloc : ∀ t, ∀ y ∈ binds t, scope.names.lookup y.1 = some .local)
    (hcell : ∀ x ∈ scope.names, x.2 ≠ .cell)
    (hco : scope.isCoroutine = false) (hgen : scope.isGenerator = false) (hk : scope.kind = .function)
    (h : ∀ D L h₁, Fr s.heap L h₁ (fun y => (binds (.ref D)).reverse.lookup y) → News s.heap L h₁ [(D, { cls := .type "tuple", data := .seq vs.toArray })] →
      wpAny (model prog w) (A.deeper (envOf qual scope L f cdv)) (execs body (envOf qual scope L f cdv))
        (fun fl s' => Q (match fl with | .ret v => v | _ => .none) s') (fun _ _ => False) { s with heap := h₁, toks := s.toks + (binds (.ref D)).length }) :
    wpAny (model prog w) A (call (.ref f) args kw) Q E s := by
  refine wpAny_call (codeAny_call_function (fd := fnOf name qual params body scope dV kV doc pm an cdv ct) (body := body) hroom (X _ _ ho) rfl hco hgen rfl (codeRec_of X hcd) ?_)
  rw [hbind]
  refine wpAny_bind (wpAny_newObj_type (wpAny_pure ?_) (by show vs.toArray.size ≤ sizeLine; rw [List.size_toArray]; exact hsz))
  refine wpAny_newFunctionEnv hcell (hloc _) (fun h₁ hns hsb => ⟨(hlim.keeps fun b o e => Heap.get?_push_of_some _ e).fresh _ hsb, codeAny_func ?_⟩) hk
  have hk₁ : ∀ b o, (s.heap.push { cls := .type "tuple", data := .seq vs.toArray }).get? b = some o → h₁.get? b = some o := fun b o e => hsb.extBut b o (Nat.ne_of_lt (Heap.lt_size e)) (Heap.get?_push_of_some _ e)
  have hsz2 : (s.heap.push { cls := .type "tuple", data := .seq vs.toArray }).objs.size = s.heap.objs.size + 1 := Heap.size_push ..
  refine wpAny_mono (h s.heap.objs.size _ h₁ ⟨hns, fun b o e => hk₁ b o (Heap.get?_push_of_some _ e), by rw [hsz2]; omega⟩ (all1 ⟨hk₁ _ _ (Heap.get?_push_size _ rfl), by rw [hsz2]; exact Nat.ne_of_lt (Nat.lt_succ_self _), Heap.get?_none_of_le (Nat.le_refl _)⟩ all0)) (fun fl s' q => q) fun _ _ x => x.elim
variable {w : World} {p : Program} {loose : List Str} {mean : ExcName → Option Value} {mg mb : Str → Option Value}
local macro_rules | `(tactic| walk_at "exec While Name cons nil") => `(tactic| (k_extra "mywhile"))

noncomputable def replF : Str → List Str → Option Str
  | x, a :: b :: r => if x.length ≤ 1000 ∧ (a.length == 0) = false ∧ JoinOk b (Txt.split x a) = true then replF (Txt.join b (Txt.split x a)) r else none
  | x, [] => some x
  | _, [_] => none
theorem idx_in (j : Nat) {n : Nat} (h : j < n) : seqIndex? (j : Int) n = some j := by
  unfold seqIndex?
  have h0 : ¬ (j : Int) < 0 := by omega
  simp [h0, h]
set_option pp.deepTerms false
set_option pp.deepTerms.threshold 6
theorem repl_ {x y9 : Str} {tx : Tok} {vs : List Value} {ss : List Str} (hI : StrsAre vs ss) (hr9 : replF x ss = some y9) (hlen : vs.length < 1000) :
    Spec w p loose mean mg mb 81 1 1 (.str x tx :: vs) (fun _ => True) (fun _ _ r => ∃ t, r = .str y9 t) := by
  unfold Spec
  w_top off
  k_fill
  intro A Q E s hh hdp hun X T _ hret
  refine enterV (vs := vs) (binds := fun t => [(Str.ofString "text", .str x tx), (Str.ofString "pairs", t)]) (by omega) X T.nolimit (by k_is) (by k_is) ?_ (by rw [sizeLine_eq]; omega) (fun _ => locs rfl) (by decide) rfl rfl rfl ?_
  · cases vs with
    | nil => rfl
    | cons v vs => rfl
  intro D L h₁ F N
  k_with_none
  k_with "mywhile" => refine stop_ ?_
  k_steps
  unfold Stop
  refine wh (σ := Str × Tok × Addr × List Value × List Str × Nat) (fun c => [(c.2.2.1, { cls := .type "tuple", data := .seq c.2.2.2.1.toArray c.2.2.2.2.2 })]) (fun c => [(Str.ofString "text", .str c.1 c.2.1), (Str.ofString "pairs", .ref c.2.2.1)]) (fun c => StrsAre c.2.2.2.1 c.2.2.2.2.1 ∧ c.2.2.2.1.length < 1000 ∧ replF c.1 c.2.2.2.2.1 = some y9) (fun c => c.2.2.2.2.1.length) ⟨x, _, D, vs, ss, 0⟩ F N (fun _ h => h) (all1 rfl (all1 rfl all0)) ⟨hI, hlen, hr9⟩ ?_
  clear F N
  rintro ⟨x, t1, D, vs, ss, n⟩ u h tk2 ⟨hI, hlen, hr⟩ F N
  dsimp only at *
  rcases hI with _ | ⟨a, ta, hI⟩
  · k_steps
    refine truthy_tuple (News.isTup N (.head _)) (by decide) ?_
    k_steps
    cases hr
    exact hret _ _ _ F.keep ⟨_, rfl⟩
  rcases hI with _ | ⟨b, tb, hI⟩
  · cases hr
  rename_i vs ss
  unfold replF at hr
  split at hr
  case isFalse => cases hr
  rename_i hb
  obtain ⟨b1, b2, b3⟩ := hb
  have hsz : (vs.length : Int) + 2 < 1000 := by simp only [List.length_cons] at hlen; omega
  k_steps
  refine truthy_tuple (News.isTup N (.head _)) (by simp only [List.size_toArray, List.length_cons]; omega) ?_
  rw [show (!(Value.str a ta :: Value.str b tb :: vs).toArray.isEmpty) = true from by simp]
  k_steps
  refine item_tupleL (j := 1) (News.isTup N (.head _)) (by decide) (by decide) (idx_in 1 (by simp)) rfl ?_
  k_steps
  refine item_tupleL (j := 0) (News.isTup N (.head _)) (by decide) (by decide) (idx_in 0 (by simp)) rfl ?_
  k_steps
  (rename Fr _ _ _ _ => F9); (rename News _ _ _ _ => N9)
  with_unfolding_all refine' slice_tuple_from (a := 2) F9 N9 (News.isTup N9 (.tail _ (.head _))) (by decide) ?ha ?_ ?hs ?hg ?hz
  case ha => simp
  case hs => with_unfolding_all rfl
  case hg => intro _; with_unfolding_all rfl
  case hz => rw [sizeLine_eq]; simp; omega
  intro h' F8 N8
  k_steps
  (rename Fr _ _ _ _ => F7); (rename News _ _ _ _ => N7)
  exact wh_next (_, _, _, vs, ss, 0) F7 N7 (all1 (.head _) all0) (all1 rfl (all1 rfl all0)) ⟨hI, by dsimp only; omega, hr⟩ (by dsimp only [List.length_cons]; omega)
end Mine
-- B7
namespace Mine
set_option maxRecDepth 100000
set_option maxHeartbeats 4000000
variable {w : World} {p : Program} {loose : List Str} {mean : ExcName → Option Value} {mg mb : Str → Option Value}
set_option pp.deepTerms false
set_option pp.deepTerms.threshold 6
theorem div21_ {a b n : Int} {t1 t2 t3 : Tok} (ha : 0 ≤ a ∧ a < 2 ^ 60) (hb : 0 < b ∧ b < 2 ^ 30) (hn : 0 ≤ n) :
    Spec w p loose mean mg mb 21 1 1 [.int a t1, .int b t2, .int n t3] (fun _ => True) (fun h h' r => ∃ t u1 u2, r = .ref t ∧ h.get? t = none ∧ h'.get? t = some { cls := .type "tuple", data := .seq #[.int (a / b) u1, .int (a % b) u2] }) := by
  unfold Spec
  w_top off
  k_fill
  intro A Q E s hh hdp hun X T _ hret
  refine enter (binds := [(Str.ofString "a", .int a t1), (Str.ofString "b", .int b t2), (Str.ofString "n", .int n t3)]) (by omega) X T.nolimit (by k_is) (by k_is) (BindsTo.of_eq rfl) (locs rfl) (by decide) rfl rfl rfl ?_
  intro L h₁ F
  have N : News s.heap L h₁ [] := News.nil
  k_with_none
  have hbits : Builtin.Int.intBits a ≤ 60 := intBits_le_iff.mpr (by omega)
  k_steps
  (rename Fr _ _ _ _ => F9); (rename News _ _ _ _ => N9)
  have e9 := (N9 _ (.head _)).1
  rw [Int.fdiv_eq_ediv_of_nonneg a (Int.le_of_lt hb.1), Int.fmod_eq_emod_of_nonneg a (Int.le_of_lt hb.1)] at e9
  exact hret _ _ _ F9.keep ⟨_, _, _, rfl, (N9 _ (.head _)).2.2, e9⟩
end Mine
-- B8
namespace Mine
set_option maxRecDepth 100000
set_option maxHeartbeats 4000000
/-- a code table: not filled yet, or holding the code of the one def within -/
noncomputable def TabSt (h₀ : Heap) (qual : Str) (pos : Pos) (ps : Array Value) : Prop :=
  ps = #[] ∨ ∃ c' oc vs t, ps = #[rawInt pos.line, rawInt pos.col, .ref c'] ∧ h₀.get? c' = some oc ∧ oc.data = .fields vs ∧ vs[1]? = some (.str qual t)
theorem TabSt.keeps {h h' : Heap} {qual : Str} {pos : Pos} {ps : Array Value} (x : TabSt h qual pos ps) (k : ∀ b o, h.get? b = some o → h'.get? b = some o) : TabSt h' qual pos ps :=
  x.imp id fun ⟨c', oc, vs, t, e, e1, r⟩ => ⟨c', oc, vs, t, e, k _ _ e1, r⟩
section
variable {M : Model} {A : Around} {E : Value → Shared → Prop} {s : Shared} {h₀ : Heap} {L a c P : Addr} {m mg mb : Str → Option Value} {cn : Str} {cs : Scope} {ccd : Value} {cl : List (Str × Addr)} {rest : List (Addr × Obj)}
  {p : Program} {loose : List Str} {mean : ExcName → Option Value} {name qual : Str} {params : Arguments} {body : List Stmt} {scope : Scope} {ps : Array Value} {pos : Pos} {firstLine : Nat} {clos : List (Str × Addr)}
theorem nest_any {Q : Value → Shared → Prop} (F : Fr h₀ L s.heap m) (N : News h₀ L s.heap ((P, tabObj ps) :: rest)) (hne : ∀ q ∈ rest, q.1 ≠ P) (T : Top p loose mean mg mb h₀) (C : CodeHd h₀ c P) (hcd : ccd = .ref c) (hps : TabSt h₀ qual pos ps)
    (hcl : closureFor scope (envX cn cs L a ccd cl) = pure clos)
    (h : ∀ f c' oc vs t ctv doc h' tk cs', Fr h₀ L h' m → News h₀ L h' ((f, fnMade name qual params body scope clos doc ((mg "__name__").getD .none) c' ctv) :: (P, tabObj #[rawInt pos.line, rawInt pos.col, .ref c']) :: (rest ++ cs')) →
      oc.data = .fields vs → vs[1]? = some (.str qual t) → ((c', oc) ∈ cs' ∨ h₀.get? c' = some oc) → (#[rawInt pos.line, rawInt pos.col, .ref c'] = ps ∨ (c', oc) ∈ cs') → OwnOff cs' (P :: rest.map (·.1)) → (∀ q ∈ rest, q.1 < f) → P < f → Q (.ref f) { s with heap := h', toks := tk }) :
    wpAny M A (makeFunction name qual params (.stmts body) scope (envX cn cs L a ccd cl) [] [] [] pos firstLine) Q E s := by
  rcases hps with rfl | ⟨c', oc, vs, t, rfl, e1, e2, e3⟩
  · refine nest_K F N T C hcd (UpdF.head hne) trivial rfl hcl fun f c' oc vs t ctv doc h' tk F' N' d1 d2 l1 l2 => h f c' oc vs t ctv doc h' tk [(c', oc)] F' ?_ d1 d2 (.inl (.head _)) (.inr (.head _)) ?_ (fun q hq => Nat.lt_trans (l1 q (.tail _ hq)) l2) (Nat.lt_trans (l1 _ (.head _)) l2)
    · refine all1 (N' _ (.head _)) (all1 (N' _ (.tail _ (.tail _ (.head _)))) fun q hq => ?_)
      rcases List.mem_append.mp hq with hq | hq
      · exact N' _ (.tail _ (.tail _ (.tail _ hq)))
      · rw [List.mem_singleton.mp hq]; exact N' _ (.tail _ (.head _))
    · intro q hq b hb
      rw [List.mem_singleton.mp hq]
      rcases List.mem_cons.mp hb with rfl | hb
      · exact Nat.ne_of_gt (l1 _ (.head _))
      · obtain ⟨q', hq', rfl⟩ := List.mem_map.mp hb
        exact Nat.ne_of_gt (l1 _ (.tail _ hq'))
  · refine nestHit_K F N T C hcd (.head _) ?_ ?_ hcl fun f ctv doc h' tk F' N' l1 => h f c' oc vs t ctv doc h' tk [] F' (by rw [List.append_nil]; exact N') e2 e3 (.inr e1) (.inl rfl) (fun _ hq => nomatch hq) (fun q hq => l1 q (.tail _ hq)) (l1 _ (.head _))
    · kn_triples
    · kn_hit
end

noncomputable def q1 : Str := Str.ofString "_int2digits.<locals>.inner"
noncomputable def q2 : Str := Str.ofString "_digits2int.<locals>.inner"
/-- the two code tables that a call of int_divmod may fill -/
noncomputable def Tabs (h : Heap) (ps1 ps2 : Array Value) : Prop := h.get? 30 = some (tabObj ps1) ∧ h.get? 37 = some (tabObj ps2) ∧ TabSt h q1 ⟨32, 4, 0, 0⟩ ps1 ∧ TabSt h q2 ⟨47, 4, 0, 0⟩ ps2

/-- a table stands as it stood, or holds a code that was not there -/
noncomputable def Kept (h : Heap) (ps ps' : Array Value) : Prop := ps' = ps ∨ ∃ c', ps'[2]? = some (.ref c') ∧ h.get? c' = none
noncomputable def TSpec (w : World) (p : Program) (loose : List Str) (mean : ExcName → Option Value) (mg mb : Str → Option Value) (f : Addr) (dN uN : Nat) (args : List Value) (Pre : Heap → Prop) (Out : Heap → Heap → Value → Prop) : Prop :=
  ∀ (A : Around) (Q E : Value → Shared → Prop) (s : Shared) (g : Heap) (ps1 ps2 : Array Value), A.handled = none → A.depth + dN < recursionLimit → A.units + uN < cLine →
    (hd.heap_39 w.params).In g → Top p loose mean mg mb g → g.get? 30 = none → g.get? 37 = none → (∀ b o, g.get? b = some o → s.heap.get? b = some o) → Tabs s.heap ps1 ps2 → Pre s.heap →
    (∀ r h' tk' ps1' ps2', (∀ b o, b ≠ 30 → b ≠ 37 → s.heap.get? b = some o → h'.get? b = some o) → Tabs h' ps1' ps2' → Kept s.heap ps1 ps1' → Kept s.heap ps2 ps2' → Out s.heap h' r → Q r { s with heap := h', toks := tk' }) →
    wpAny (model PySem.Challenge.rw_pe0176_01.row.prog w) A (call (.ref f) args) Q E s
end Mine
-- B9a
namespace Mine
set_option maxRecDepth 100000
set_option maxHeartbeats 4000000
section
variable {M : Model} {A : Around} {E : Value → Shared → Prop} {s : Shared} {h₀ : Heap} {L a : Addr} {m : Str → Option Value} {cn : Str} {cs : Scope} {ccd : Value} {cl : List (Str × Addr)} {x : Str} {pos : Pos} {v : Value} {Q : Value → Shared → Prop} {c : Addr} {o : Obj}
theorem name_free0 (F : Fr h₀ L s.heap m) (hc : cl.lookup x = some c) (ho : h₀.get? c = some o) (hd : o.data = .cell (some v)) (h : Q v s)
    (hk : cs.kind = .function) (hx : (envX cn cs L a ccd cl).kindOf x = some .free) (hb : (x == ("__debug__" : Str)) = false := by decide) (hn : (x == ("__classdict__" : Str)) = false := by decide) :
    wpAny M A (eval (.Name x pos) (envX cn cs L a ccd cl)) Q E s := wpAny_Name (wpAny_loadName_free hk hx hc ⟨o, F.keep _ _ ho, hd⟩ h hn) hb
theorem fnAt_base {h : Heap} {f : Addr} {fo : Obj} {fd : FuncData} (F : Fr h₀ L h m) (ho : h₀.get? f = some fo) (hd : fo.data = .func fd) : FnAt f h := by
  obtain ⟨c, d, dt, sl⟩ := fo
  cases hd
  exact ⟨c, d, fd, sl, F.keep _ _ ho⟩
end
theorem same_lit {α : Type} {a : Option α} {o o' : α} {P : Prop} (h : a = some o) (h' : a = some o') (k : o = o' → P) : P := k (Option.some.inj (h.symm.trans h'))
/-- the number that digits, the lowest first, tell -/
noncomputable def val (n : Nat) : List Int → Int
  | [] => 0
  | d :: r => d + 2 ^ n * val n r
theorem val_append (n : Nat) (a b : List Int) : val n (a ++ b) = val n a + 2 ^ (n * a.length) * val n b := by
  induction a with
  | nil => simp [val]
  | cons d r ih =>
    simp only [List.cons_append, val, ih, List.length_cons]
    rw [Nat.mul_succ, Int.pow_add]
    rw [Int.mul_add, Int.add_assoc, Int.mul_comm (2 ^ (n * r.length)) (2 ^ n), Int.mul_assoc]
theorem set_split (xs : List Int) (x : Int) {lo : Nat} (h : lo < xs.length) : xs.set lo x = xs.take lo ++ [x] ++ xs.drop (lo + 1) := by
  rw [List.set_eq_take_append_cons_drop, if_pos h]; simp
theorem and_low (x k : Nat) : x &&& (x / 2 ^ k * 2 ^ k) = x / 2 ^ k * 2 ^ k := by
  rw [← Nat.shiftRight_eq_div_pow, ← Nat.shiftLeft_eq]
  apply Nat.eq_of_testBit_eq
  intro i
  rw [Nat.testBit_and, Nat.testBit_shiftLeft, Nat.testBit_shiftRight]
  by_cases h : k ≤ i
  · rw [Nat.add_sub_cancel' h]; simp [h]
  · simp [h]
theorem xor_low {x : Int} (h : 0 ≤ x) (k : Nat) : Builtin.bitXor x (x / 2 ^ k * 2 ^ k) = x % 2 ^ k := by
  obtain ⟨m, rfl⟩ := Int.eq_ofNat_of_zero_le h
  have e1 : ((m : Int) / 2 ^ k * 2 ^ k) = ((m / 2 ^ k * 2 ^ k : Nat) : Int) := by rw [Int.natCast_mul, Int.natCast_ediv, Int.natCast_pow]; rfl
  rw [bitXor_and, e1]
  have e2 : Builtin.bitAnd (m : Int) ((m / 2 ^ k * 2 ^ k : Nat) : Int) = ((m / 2 ^ k * 2 ^ k : Nat) : Int) := by
    have : Builtin.bitAnd (m : Int) ((m / 2 ^ k * 2 ^ k : Nat) : Int) = (((m : Int).toNat &&& (((m / 2 ^ k * 2 ^ k : Nat) : Int)).toNat : Nat) : Int) := rfl
    rw [this, Int.toNat_natCast, Int.toNat_natCast, and_low]
  rw [e2, ← e1]
  have := Int.mul_ediv_add_emod (m : Int) (2 ^ k)
  rw [Int.mul_comm] at this
  omega
theorem fr_but {h₀ h h' : Heap} {L l : Addr} {m : Str → Option Value} (F : Fr h₀ L h m) (hl : h₀.get? l = none) (hL : l ≠ L) (k : ∀ b o, b ≠ l → h.get? b = some o → h'.get? b = some o) : Fr h₀ L h' m :=
  ⟨let ⟨o, es, ep, e, r⟩ := F.ns; ⟨o, es, ep, k _ _ (Ne.symm hL) e, r⟩, fun b o e => k b o (fun q => by rw [q, hl] at e; cases e) (F.keep b o e), F.above⟩
theorem List.drop_append_of_le_length' {α : Type} {a b : List α} {n m : Nat} (h : a.length = n) (hm : n ≤ m) : (a ++ b).drop m = b.drop (m - n) := by
  rw [List.drop_append, List.drop_of_length_le (by omega), h]; simp
local macro_rules | `(tactic| walk_at "eval Name") => `(tactic| (k_here; kc_free; k_dflt (refine' name_free0 ?F ?c ?o ?d ?_ ?a ?b; (case a => rfl); (case b => rfl); (case F => k_asm); (case c => assumption); (case o => assumption); (case d => assumption); k_whole)))
local macro_rules | `(tactic| walk_at "FnAt") => `(tactic| (k_dflt (exact fnAt_base (by k_asm) (by assumption) (by assumption))))
local macro_rules | `(tactic| walk_at "callWith ref") => `(tactic| (k_here; k_dflt (refine' callWith_F ?k1 ?_; (case k1 => exact fnAt_base (by k_asm) (by assumption) (by assumption)); k_whole)))
local macro_rules | `(tactic| walk_at "call ref") => `(tactic| (k_extra "mycall"))
variable {w : World} {p : Program} {loose : List Str} {mean : ExcName → Option Value} {mg mb : Str → Option Value}
set_option pp.deepTerms false
set_option pp.deepTerms.threshold 6
theorem inner1 {oc0 : Value} {od0 : Option Addr} {n0 q0 : Str} {p0 : Arguments} {s0 : Stmt} {nm0 b0 : Str} {pos0 : Pos} {rest0 : List Stmt} {sc0 : Scope} {dV0 kV0 doc0 pm0 cdv0 ct0 : Value} {an0 : Option Addr} {osl0 : Array (Option Value)} {params : Arguments} {body : List Stmt} {scope : Scope}
    (hK : (hd.heap_39 w.params).lookup 35 = some ⟨oc0, od0, .func (fnOf n0 q0 p0 (s0 :: .FunctionDef nm0 params body [] none [] scope none b0 pos0 :: rest0) sc0 dV0 kV0 doc0 pm0 an0 cdv0 ct0), osl0⟩)
    {n : Int} {tn : Tok} (hn : 1 ≤ n ∧ n < 30) {l f cA cN cI c' : Addr} {oA oN oI fo : Obj} {g hc : Heap} {cl : List (Str × Addr)} {doc pm ctv : Value}
    (X : (hd.heap_39 w.params).In g) (T : Top p loose mean mg mb g) (hg : ∀ b o, g.get? b = some o → hc.get? b = some o) (hgl : g.get? l = none)
    (hfo : hc.get? f = some fo) (hfd : fo.data = .func (fnX (Str.ofString "inner") q1 params body scope cl .none .none doc pm none (.ref c') ctv)) (hcode : hc.CodeRec (.ref c') q1)
    (clA : cl.lookup (Str.ofString "a_digits") = some cA) (clN : cl.lookup (Str.ofString "n") = some cN) (clI : cl.lookup (Str.ofString "inner") = some cI)
    (hA : hc.get? cA = some oA) (dA : oA.data = .cell (some (.ref l))) (hN : hc.get? cN = some oN) (dN : oN.data = .cell (some (.int n tn))) (hI : hc.get? cI = some oI) (dI : oI.data = .cell (some (.ref f)))
    (lA : cA ≠ l) (lN : cN ≠ l) (lI : cI ≠ l) (lf : f ≠ l) (lc : c' ≠ l) :
    ∀ k : Nat, ∀ (x : Int) (lo hi : Nat) (tx tl th : Tok) (A : Around) (Q E : Value → Shared → Prop) (s : Shared) (its : Array Value) (nE : Nat) (xs : List Int), hi - lo ≤ k → lo < hi → hi ≤ xs.length → xs.length ≤ 60 → 0 ≤ x → x < 2 ^ 30 → x < 2 ^ (n.toNat * (hi - lo)) →
      A.handled = none → A.depth + k < recursionLimit → (∀ b o, b ≠ l → hc.get? b = some o → s.heap.get? b = some o) → s.heap.get? l = some (listOf its nE) → IntsAre its.toList xs →
      (∀ h' tk' its' ds, (∀ b o, b ≠ l → s.heap.get? b = some o → h'.get? b = some o) → h'.get? l = some (listOf its' nE) → ds.length = hi - lo → (∀ d ∈ ds, 0 ≤ d ∧ d < 2 ^ n.toNat) → val n.toNat ds = x → IntsAre its'.toList (xs.take lo ++ ds ++ xs.drop hi) → Q .none { s with heap := h', toks := tk' }) →
      wpAny (model PySem.Challenge.rw_pe0176_01.row.prog w) A (call (.ref f) [.int x tx, .int (lo : Int) tl, .int (hi : Int) th]) Q E s := by
  revert X
  w_top off
  k_fill
  intro X
  refine' same_lit hK ?h' ?_
  case h' => k_is
  intro e
  cases e
  clear hK
  intro k
  induction k with
  | zero => intro x lo hi tx tl th A Q E s its nE xs h1 h2; omega
  | succ k ih =>
  intro x lo hi tx tl th A Q E s its nE xs h1 h2 h3 h4 h5 h6 h7 hh hdp hs hl hxs hret
  have hgs : ∀ b o, g.get? b = some o → (s.heap.hide l).get? b = some o := fun b o e => hide_get (hs b o (fun q => by rw [q, hgl] at e; cases e) (hg b o e)) (fun q => by rw [q, hgl] at e; cases e)
  have hgs' : ∀ b o, g.get? b = some o → s.heap.get? b = some o := fun b o e => Heap.of_hide (hgs b o e)
  refine enterC (binds := [(Str.ofString "x", .int x tx), (Str.ofString "L", .int lo tl), (Str.ofString "R", .int hi th)]) (by omega) (hs _ _ lf hfo) hfd (T.nolimit.keeps hgs') (let ⟨c2, oc, vs, t, e, e1, r⟩ := hcode; ⟨c2, oc, vs, t, e, hs _ _ (by cases e; exact lc) e1, r⟩) (BindsTo.of_eq rfl) (locs rfl) (by decide) rfl rfl rfl ?_
  intro Lf h₁ F
  have N1 := news_hide F News.nil hl
  have F1 := fr_hide (a := l) F
  have X1 := X.keeps hgs
  have T1 := T.keeps hgs
  have hA1 := hide_get (hs _ _ lA hA) lA
  have hN1 := hide_get (hs _ _ lN hN) lN
  have hI1 := hide_get (hs _ _ lI hI) lI
  have hf1 := hide_get (hs _ _ lf hfo) lf
  have h2' := Int.ofNat_lt.mpr h2
  have h3' := Int.ofNat_le.mpr h3
  clear F
  k_with_none
  k_with "mycall" => refine stop_ ?_
  k_steps
  · rename _ + _ = _ => g1
    (rename Fr _ _ _ _ => F9); (rename News _ _ _ _ => N9); (rename IntsAre (List.set _ _ _) _ => I9)
    have e1 : hi = lo + 1 := by omega
    subst e1
    rw [Int.toNat_natCast] at I9
    refine hret _ _ _ [x] (fun b o hb e => F9.keep b o (hide_get e hb)) (N9 _ (.head _)).1 (by simp) ?_ ?_ ?_
    · intro d hd
      rw [List.mem_singleton.mp hd]
      rw [show lo + 1 - lo = 1 from by omega, Nat.mul_one] at h7
      exact ⟨h5, h7⟩
    · simp [val]
    · rw [set_split xs x (by omega)] at I9
      exact I9
  · rename _ + _ ≠ _ => g1
    obtain ⟨md, hm, m1, m2⟩ : ∃ md : Nat, ((lo : Int) + (hi : Int)).fdiv (2 ^ Int.toNat 1) = (md : Int) ∧ lo < md ∧ md < hi := by
      refine ⟨(lo + hi) / 2, ?_, by omega, by omega⟩
      rw [Int.fdiv_eq_ediv_of_nonneg _ (by decide)]
      show ((lo : Int) + (hi : Int)) / 2 = _
      omega
    obtain ⟨sh, hsh, hsh2⟩ : ∃ sh : Nat, ((md : Int) - (lo : Int)) * n = (sh : Int) ∧ sh = n.toNat * (md - lo) := by
      refine ⟨n.toNat * (md - lo), ?_, rfl⟩
      rw [Int.natCast_mul, Int.toNat_of_nonneg (by omega), Int.mul_comm, Int.ofNat_sub (by omega)]
    have hsh1 : sh ≤ 1800 := by
      rw [hsh2]
      exact Nat.mul_le_mul (show n.toNat ≤ 30 by omega) (show md - lo ≤ 60 by omega)
    simp only [hm, hsh] at *
    have hp : (0 : Int) < 2 ^ sh := Int.pow_pos (by decide)
    have hfd0 : x.fdiv (2 ^ sh) = x / 2 ^ sh := Int.fdiv_eq_ediv_of_nonneg _ (Int.le_of_lt hp)
    have hq0 : 0 ≤ x / 2 ^ sh := Int.ediv_nonneg h5 (Int.le_of_lt hp)
    have hq1 : x / 2 ^ sh ≤ x := Int.ediv_le_self _ h5
    have hr0 : 0 ≤ x % 2 ^ sh := Int.emod_nonneg _ (Int.ne_of_gt hp)
    have hr1 : x % 2 ^ sh < 2 ^ sh := Int.emod_lt_of_pos _ hp
    have hr2 : x % 2 ^ sh ≤ x := by have := Int.mul_ediv_add_emod x (2 ^ sh); have := Int.mul_nonneg (Int.le_of_lt hp) hq0; omega
    k_steps
    unfold Stop
    (rename Fr _ _ _ _ => F9); (rename News _ _ _ _ => N9)
    simp only [Int.toNat_natCast, hfd0, xor_low h5] at *
    have hk9 : ∀ b o, b ≠ l → hc.get? b = some o → (Shared.heap ⟨_, s.gens, s.drawn, 0, s.os⟩).get? b = some o := fun b o hb e => F9.keep b o (hide_get (hs b o hb e) hb)
    refine ih (x % 2 ^ sh) lo md _ _ _ _ _ _ _ its nE xs (by omega) m1 (by omega) h4 hr0 (by omega) (by rw [← hsh2]; exact hr1) ?hh ?dp ?hk ?hl hxs ?_
    case hh => exact hh
    case dp => simp only [depth_deeper]; omega
    case hk => exact hk9
    case hl => exact (N9 _ (.head _)).1
    intro h' tk' its' ds kk e1 e2 e3 e4 I2
    have F8 := fr_but F9 (Heap.hide_self _ _) (N9 _ (.head _)).2.1 kk
    have N8 : News (s.heap.hide l) Lf h' [(l, listOf its' nE)] := all1 ⟨e1, (N9 _ (.head _)).2⟩ all0
    have hk8 : ∀ b o, b ≠ l → hc.get? b = some o → h'.get? b = some o := fun b o hb e => kk b o hb (hk9 b o hb e)
    clear F9 N9 hk9
    k_steps
    unfold Stop
    (rename Fr _ _ _ _ => F9); (rename News _ _ _ _ => N9)
    have hlen : (xs.take lo ++ ds).length = md := by rw [List.length_append, List.length_take, e2]; omega
    refine ih (x / 2 ^ sh) md hi _ _ _ _ _ _ _ its' nE _ (by omega) m2 ?_ ?_ hq0 (by omega) ?_ ?hh ?dp ?hk ?hl I2 ?_
    case hh => exact hh
    case dp => simp only [depth_deeper]; omega
    case hk => exact fun b o hb e => F9.keep b o (hide_get (hs b o hb e) hb)
    case hl => exact (N9 _ (.head _)).1
    · rw [List.length_append, hlen, List.length_drop]; omega
    · rw [List.length_append, hlen, List.length_drop]; omega
    · have e9 : n.toNat * (hi - lo) = sh + n.toNat * (hi - md) := by rw [hsh2, ← Nat.mul_add]; congr 1; omega
      rw [e9, Int.pow_add] at h7
      exact Int.ediv_lt_of_lt_mul hp (by rw [Int.mul_comm]; exact h7)
    intro h'' tk'' its'' ds2 kk2 f1 f2 f3 f4 I3
    have F8' := fr_but F9 (Heap.hide_self _ _) (N9 _ (.head _)).2.1 kk2
    have N8' : News (s.heap.hide l) Lf h'' [(l, listOf its'' nE)] := all1 ⟨f1, (N9 _ (.head _)).2⟩ all0
    k_steps
    (rename Fr _ _ _ _ => F7); (rename News _ _ _ _ => N7)
    refine hret _ _ _ (ds ++ ds2) (fun b o hb e => F7.keep b o (hide_get e hb)) (N7 _ (.head _)).1 (by rw [List.length_append, e2, f2]; omega) ?_ ?_ ?_
    · intro d hd
      rcases List.mem_append.mp hd with hd | hd
      · exact e3 d hd
      · exact f3 d hd
    · rw [val_append, e4, e2, ← hsh2, f4]
      have := Int.mul_ediv_add_emod x (2 ^ sh)
      omega
    · rw [List.take_append_of_le_length (by omega), List.take_of_length_le (by omega), List.drop_append_of_le_length' hlen (by omega)] at I3
      rw [List.append_assoc (xs.take lo) ds, List.drop_drop, show md + (hi - md) = hi from by omega] at I3
      exact I3
end Mine
-- B9
namespace Mine
set_option maxRecDepth 100000
set_option maxHeartbeats 4000000
local macro_rules | `(tactic| walk_at "exec FunctionDef") => `(tactic| (k_extra "mydef"))
local macro_rules | `(tactic| walk_at "call ref") => `(tactic| (k_extra "mycall"))
local macro_rules | `(tactic| walk_at "storeName") => `(tactic| (k_here; k_dflt (refine' storeX_C ?F ?N ?c ?U ?d ?_ ?a ?b; (case a => rfl); (case b => rfl); (case F => k_asm); (case N => k_asm); (case c => rfl); (case U => k_updF); (case d => k_asm); k_whole); intro h' o' F' N' d'; (try dsimp only at N'); (try k_sweep)))
variable {w : World} {p : Program} {loose : List Str} {mean : ExcName → Option Value} {mg mb : Str → Option Value}
theorem digits_facts {a n : Int} (hb : Builtin.Int.intBits a ≤ 30) (ha : 0 ≤ a ∧ a < 2 ^ 30) (hn : 1 ≤ n ∧ n < 30) :
    0 ≤ ((Builtin.Int.intBits a : Int) + n - 1).fdiv n ∧ ((Builtin.Int.intBits a : Int) + n - 1).fdiv n ≤ 60 ∧ (a = 0 → ((Builtin.Int.intBits a : Int) + n - 1).fdiv n = 0) ∧ a < 2 ^ (n.toNat * (((Builtin.Int.intBits a : Int) + n - 1).fdiv n).toNat) := by
  rw [Int.fdiv_eq_ediv_of_nonneg _ (by omega)]
  have h1 := Int.mul_ediv_add_emod ((Builtin.Int.intBits a : Int) + n - 1) n
  have h2 := Int.emod_nonneg ((Builtin.Int.intBits a : Int) + n - 1) (b := n) (by omega)
  have h3 := Int.emod_lt_of_pos ((Builtin.Int.intBits a : Int) + n - 1) (b := n) (by omega)
  have h0 : 0 ≤ ((Builtin.Int.intBits a : Int) + n - 1) / n := Int.ediv_nonneg (by omega) (by omega)
  have h4 : ((Builtin.Int.intBits a : Int) + n - 1) / n ≤ (Builtin.Int.intBits a : Int) + n - 1 := Int.ediv_le_self _ (by omega)
  refine ⟨h0, by omega, fun e => ?_, ?_⟩
  · subst e
    rw [show (Builtin.Int.intBits 0 : Nat) = 0 from rfl]
    exact Int.ediv_eq_zero_of_lt (by omega) (by omega)
  · have h5 : Builtin.Int.intBits a ≤ n.toNat * (((Builtin.Int.intBits a : Int) + n - 1) / n).toNat := by
      have : ((n.toNat * (((Builtin.Int.intBits a : Int) + n - 1) / n).toNat : Nat) : Int) = n * (((Builtin.Int.intBits a : Int) + n - 1) / n) := by
        rw [Int.natCast_mul, Int.toNat_of_nonneg (by omega), Int.toNat_of_nonneg h0]
      omega
    have h6 := intBits_le_iff.mp h5
    have h7 : (a.natAbs : Int) = a := by omega
    have h8 : (a.natAbs : Int) < ((2 ^ (n.toNat * (((Builtin.Int.intBits a : Int) + n - 1) / n).toNat) : Nat) : Int) := Int.ofNat_lt.mpr h6
    rw [h7, Int.natCast_pow] at h8
    exact h8
theorem tab_ne {h : Heap} {qa qb : Str} {pos : Pos} {ps : Array Value} {P c2 : Addr} {oc2 : Obj} {vs2 : Array Value} {t2 : Tok} (T : TabSt h qa pos ps) (e : h.get? P = some (tabObj ps)) (h1 : h.get? c2 = some oc2) (h2 : oc2.data = .fields vs2) (h3 : vs2[1]? = some (.str qb t2)) : c2 ≠ P := by
  intro q
  rw [q, e] at h1
  cases h1
  cases h2
  rcases T with h | ⟨_, _, _, _, h, _⟩ <;> (rw [h] at h3; cases h3)
set_option pp.deepTerms false
set_option pp.deepTerms.threshold 6
theorem i2d_ {a n : Int} {t1 t2 : Tok} (ha : 0 ≤ a ∧ a < 2 ^ 30) (hn : 1 ≤ n ∧ n < 30) :
    TSpec w p loose mean mg mb 35 70 100 [.int a t1, .int n t2] (fun _ => True) (fun h h' r => ∃ D its nE ds, r = .ref D ∧ h.get? D = none ∧ h'.get? D = some (listOf its nE) ∧ IntsAre its.toList ds ∧ ds.length ≤ 60 ∧ (∀ d ∈ ds, 0 ≤ d ∧ d < 2 ^ n.toNat) ∧ val n.toNat ds = a) := by
  unfold TSpec
  w_top off
  k_fill
  intro A Q E s g ps1 ps2 hh hdp hun X T g30 g37 hg ⟨e30, e37, T1, T2⟩ _ hret
  have X0 := X.keeps hg
  refine enterCl (binds := [(Str.ofString "a", .int a t1), (Str.ofString "n", .int n t2)]) (by omega) X0 (T.nolimit.keeps hg) (by k_is) (by k_is) (BindsTo.of_eq rfl) rfl (by decide +kernel) rfl rfl rfl ?_
  intro L h₁ tk cells F N Y hlt
  have hg30 : ∀ b o, g.get? b = some o → (s.heap.hide 30).get? b = some o := fun b o e => hide_get (hg b o e) (fun q => by rw [q, g30] at e; cases e)
  have N1 := news_hide F N e30
  have F1 := fr_hide (a := 30) F
  have X1 := X.keeps hg30
  have T1' := T.keeps hg30
  clear F N X0
  k_cells Y
  try simp only [List.cons_append, List.nil_append] at N1
  rename_i o1 o2 o3 d1 d2 d3
  replace d1 : o1.data = .cell none := d1
  replace d2 : o2.data = .cell none := d2
  replace d3 : o3.data = .cell (some (.int n t2)) := d3
  have C : CodeHd (s.heap.hide 30) 34 30 := codeHd_of_K X1 (by kernel_rfl)
  have hl30 := ltN (hlt _ _ e30)
  have hbits : Builtin.Int.intBits a ≤ 30 := intBits_le_iff.mpr (by omega)
  obtain ⟨hd0, hd1, hd2, hd3⟩ := digits_facts (n := n) hbits ha hn
  k_with_none
  k_with "mydef" => refine stop_ ?_
  k_with "mycall" => refine stop_ ?_
  k_steps
  unfold Stop
  rename_i l0 _ hl0 D _ I9 n9 s9 e9 e2 e3 hD _ o2' F9 N9 d2'
  have T3 : TabSt (s.heap.hide 30) q1 ⟨32, 4, 0, 0⟩ ps1 := by
    rcases T1 with h | ⟨c', oc, vs, t, h, h1, h2, h3⟩
    · exact .inl h
    · refine .inr ⟨c', oc, vs, t, h, hide_get h1 (fun q => ?_), h2, h3⟩
      rw [q, e30] at h1
      cases h1
      cases h2
      rw [h] at h3
      cases h3
  have N8 : News (s.heap.hide 30) L _ ((30, tabObj ps1) :: [(D, _), (L + 1 + 1 + 1, o1), (L + 1 + 1, o2'), (L + 1, o3)]) :=
    all1 (N9 _ (.tail _ (.tail _ (.head _)))) (all1 (N9 _ (.head _)) (all1 (N9 _ (.tail _ (.tail _ (.tail _ (.head _))))) (all1 (N9 _ (.tail _ (.tail _ (.tail _ (.tail _ (.head _)))))) (all1 (N9 _ (.tail _ (.tail _ (.tail _ (.tail _ (.tail _ (.head _))))))) all0))))
  k_dflt (refine' nestDef_K ?d0 ?k0 ?a0 ?_; (case d0 => exact rfl); (case k0 => exact rfl); (case a0 => exact rfl))
  generalize hq : qualnameIn _ _ _ = qq
  obtain rfl : qq = q1 := by rw [← hq]; kernel_rfl
  clear hq
  k_dflt (refine' nest_any F9 N8 ?ne T1' C rfl ?ps rfl ?_)
  case ne =>
    refine all1 ?_ (all1 ?_ (all1 ?_ (all1 ?_ all0))) <;> (refine neN ?_; dsimp only; omega)
  case ps => exact T3
  clear F9 N8 N9
  intro f c' oc vs t ctv doc h' tk' cs' F9 N9 hoc1 hoc2 hcs hkp hoff hlt2 hPf
  simp only [List.cons_append, List.nil_append] at N9
  simp only [List.map_cons, List.map_nil] at hoff
  k_lt hlt2
  k_lt2 hPf
  have hgD : ∀ b o, g.get? b = some o → b ≠ D := fun b o e q => by
    have h1 := (N9 (D, _) (.tail _ (.tail _ (.head _)))).2.2
    rw [← q, hg30 b o e] at h1
    cases h1
  have hcD : c' ≠ D := by
    rcases hcs with h | h
    · exact hoff _ h _ (.tail _ (.head _))
    · intro q
      have h1 := (N9 (D, _) (.tail _ (.tail _ (.head _)))).2.2
      rw [← q, h] at h1
      cases h1
  have kp : Kept s.heap ps1 #[rawInt 32, rawInt 4, .ref c'] := by
    rcases hkp with h | h
    · exact .inl h
    · refine .inr ⟨c', rfl, ?_⟩
      have h1 := (N9 (c', oc) (.tail _ (.tail _ (.tail _ (.tail _ (.tail _ (.tail _ h))))))).2.2
      cases q : s.heap.get? c' with
      | none => rfl
      | some o => rw [hide_get q (hoff _ h _ (.head _))] at h1; cases h1
  have tabs' : ∀ h2 : Heap, (∀ b o, (s.heap.hide 30).get? b = some o → h2.get? b = some o) → h2.get? 30 = some (tabObj #[rawInt 32, rawInt 4, .ref c']) → h2.get? c' = some oc → Tabs h2 #[rawInt 32, rawInt 4, .ref c'] ps2 := by
    intro h2 hk2 h30 hc2
    refine ⟨h30, hk2 _ _ (hide_get e37 (by decide)), .inr ⟨c', oc, vs, t, rfl, hc2, hoc1, hoc2⟩, ?_⟩
    rcases T2 with h | ⟨c2, oc2, vs2, t2', h, h1, h2', h3⟩
    · exact .inl h
    · exact .inr ⟨c2, oc2, vs2, t2', h, hk2 _ _ (hide_get h1 (tab_ne T1 e30 h1 h2' h3)), h2', h3⟩
  have hcget : ∀ h2 : Heap, (∀ b o, (s.heap.hide 30).get? b = some o → h2.get? b = some o) → (∀ p ∈ cs', h2.get? p.1 = some p.2) → h2.get? c' = some oc := by
    intro h2 hk2 hc2
    rcases hcs with h | h
    · exact hc2 _ h
    · exact hk2 _ _ h
  have hfresh : s.heap.get? D = none := by
    have h1 := (N9 (D, _) (.tail _ (.tail _ (.head _)))).2.2
    cases q : s.heap.get? D with
    | none => rfl
    | some o => rw [hide_get q (Nat.ne_of_gt hD.2.1)] at h1; cases h1
  k_steps
  · unfold Stop
    rename a ≠ 0 => g1
    rename_i oI F8 N8 dI8
    have hn9 : (n9 : Int) = (((Builtin.Int.intBits a : Int) + n - 1).fdiv n) := by have := e3 hd0; omega
    have hn9' : (((Builtin.Int.intBits a : Int) + n - 1).fdiv n).toNat = n9 := by omega
    rw [hn9'] at hd3
    have hpos : 0 < n9 := by
      rcases Nat.eq_zero_or_pos n9 with h | h
      · rw [h] at hd3; simp at hd3; omega
      · exact h
    have hneD : ∀ {b : Addr} {o : Obj}, (b, o) ∈ cs' → b ≠ D := fun hm => hoff _ hm _ (.tail _ (.head _))
    refine' inner1 (g := g) ?hK hn X T ?hg ?hgl ?hfo ?hfd ?hcode ?clA ?clN ?clI ?hA ?dA ?hN ?dN ?hI ?dI ?lA ?lN ?lI ?lf ?lc n9 a 0 n9 _ _ _ _ _ _ _ _ _ _ ?q1 ?q2 ?q3 ?q4 ha.1 ha.2 ?q5 ?hh ?dp ?hs ?hl I9 ?_
    case hK => k_is
    case hg => exact fun b o e => F8.keep b o (hg30 b o e)
    case hgl => cases q : g.get? D with
      | none => rfl
      | some o => exact absurd rfl (hgD D o q)
    case hfo => exact (N8 _ (.head _)).1
    case hfd => exact rfl
    case hcode => exact ⟨c', oc, vs, t, rfl, hcget _ F8.keep fun p hp => (N8 p (.tail _ (.tail _ (.tail _ (.tail _ (.tail _ (.tail _ hp))))))).1, hoc1, hoc2⟩
    case clA => exact rfl
    case clN => exact rfl
    case clI => exact rfl
    case hA => exact (N8 _ (.tail _ (.tail _ (.tail _ (.tail _ (.head _)))))).1
    case dA => exact d2'
    case hN => exact (N8 _ (.tail _ (.tail _ (.tail _ (.tail _ (.tail _ (.head _))))))).1
    case dN => exact d3
    case hI => exact (N8 _ (.tail _ (.tail _ (.tail _ (.head _))))).1
    case dI => exact dI8
    case lA => exact Nat.ne_of_lt hD.2.2.2.1
    case lN => exact Nat.ne_of_lt hD.2.2.2.2
    case lI => exact Nat.ne_of_lt hD.2.2.1
    case lf => exact Nat.ne_of_gt hlt2.1
    case lc => exact hcD
    case q1 => omega
    case q2 => exact hpos
    case q3 => rw [e9]; exact Nat.le_refl _
    case q4 => rw [e9]; omega
    case q5 => exact hd3
    case hh => exact hh
    case dp => simp only [depth_deeper]; omega
    case hs => exact fun b o _ e => e
    case hl => exact (N8 _ (.tail _ (.tail _ (.head _)))).1
    intro h2 tk2 its2 ds kk f1 f2 f3 f4 I2
    have F7 := fr_but F8 (N8 (D, _) (.tail _ (.tail _ (.head _)))).2.2 (N8 (D, _) (.tail _ (.tail _ (.head _)))).2.1 kk
    have N7 : News (s.heap.hide 30) L h2 [(D, listOf its2 0), (L + 1 + 1, o2')] := all1 ⟨f1, (N8 (D, _) (.tail _ (.tail _ (.head _)))).2⟩ (all1 ⟨kk _ _ (Nat.ne_of_lt hD.2.2.2.1) (N8 _ (.tail _ (.tail _ (.tail _ (.tail _ (.head _)))))).1, (N8 (L + 1 + 1, o2') (.tail _ (.tail _ (.tail _ (.tail _ (.head _)))))).2⟩ all0)
    have h30' : h2.get? 30 = some (tabObj #[rawInt 32, rawInt 4, .ref c']) := kk _ _ (Nat.ne_of_lt hD.2.1) (N8 _ (.tail _ (.head _))).1
    have hc' : h2.get? c' = some oc := kk _ _ hcD (hcget _ F8.keep fun p hp => (N8 p (.tail _ (.tail _ (.tail _ (.tail _ (.tail _ (.tail _ hp))))))).1)
    clear F8 N8
    k_steps
    (rename Fr _ _ _ _ => F6); (rename News _ _ _ _ => N6)
    refine hret _ _ _ _ _ (fun b o hb _ e => F6.keep b o (hide_get e hb)) (tabs' _ F6.keep h30' hc') kp (.inl rfl) ⟨D, its2, 0, ds, rfl, hfresh, (N6 _ (.head _)).1, ?_, by omega, f3, f4⟩
    rw [List.take_zero, List.nil_append, ← e9, List.drop_length, List.append_nil] at I2
    exact I2
  · rename a = 0 => g1
    (rename Fr _ _ _ _ => F8); (rename News _ _ _ _ => N8)
    have hz := hd2 g1
    refine hret _ _ _ _ _ (fun b o hb _ e => F8.keep b o (hide_get e hb)) (tabs' _ F8.keep (N8 _ (.tail _ (.head _))).1 (hcget _ F8.keep fun p hp => (N8 p (.tail _ (.tail _ (.tail _ (.tail _ (.tail _ (.tail _ hp))))))).1)) kp (.inl rfl) ⟨D, _, _, [], rfl, hfresh, (N8 _ (.tail _ (.tail _ (.head _)))).1, ?_, by simp, fun _ h => (nomatch h), g1.symm⟩
    rw [hz]
    exact .nil
end Mine
-- B10a
namespace Mine
set_option maxRecDepth 100000
set_option maxHeartbeats 4000000
noncomputable def sl (xs : List Int) (lo hi : Nat) : List Int := (xs.take hi).drop lo
theorem sl_len (xs : List Int) {lo hi : Nat} (h : hi ≤ xs.length) : (sl xs lo hi).length = hi - lo := by
  simp only [sl, List.length_drop, List.length_take]; omega
theorem sl_app (xs : List Int) {lo md hi : Nat} (h1 : lo ≤ md) (h2 : md ≤ hi) : sl xs lo hi = sl xs lo md ++ sl xs md hi := by
  unfold sl
  have e : (xs.take hi).drop lo = ((xs.take hi).drop lo).take (md - lo) ++ ((xs.take hi).drop lo).drop (md - lo) := (List.take_append_drop _ _).symm
  rw [e, List.drop_drop, List.take_drop, show lo + (md - lo) = md from by omega, List.take_take, Nat.min_eq_left h2]
theorem sl_one (xs : List Int) {lo : Nat} (h : lo < xs.length) : sl xs lo (lo + 1) = [xs.getD lo 0] := by
  unfold sl
  rw [List.drop_take, show lo + 1 - lo = 1 from by omega, List.drop_eq_getElem_cons h, List.take_succ_cons, List.take_zero, List.getD_eq_getElem?_getD, List.getElem?_eq_getElem h]
  rfl
theorem val_nonneg {n : Nat} : ∀ {ds : List Int}, (∀ d ∈ ds, 0 ≤ d) → 0 ≤ val n ds
  | [], _ => Int.le_refl _
  | d :: r, h => Int.add_nonneg (h d (.head _)) (Int.mul_nonneg (Int.pow_nonneg (by decide)) (val_nonneg fun x hx => h x (.tail _ hx)))
local macro_rules | `(tactic| walk_at "eval Name") => `(tactic| (k_here; kc_free; k_dflt (refine' name_free0 ?F ?c ?o ?d ?_ ?a ?b; (case a => rfl); (case b => rfl); (case F => k_asm); (case c => assumption); (case o => assumption); (case d => assumption); k_whole)))
local macro_rules | `(tactic| walk_at "FnAt") => `(tactic| (k_dflt (exact fnAt_base (by k_asm) (by assumption) (by assumption))))
local macro_rules | `(tactic| walk_at "callWith ref") => `(tactic| (k_here; k_dflt (refine' callWith_F ?k1 ?_; (case k1 => exact fnAt_base (by k_asm) (by assumption) (by assumption)); k_whole)))
local macro_rules | `(tactic| walk_at "call ref") => `(tactic| (k_extra "mycall"))
variable {w : World} {p : Program} {loose : List Str} {mean : ExcName → Option Value} {mg mb : Str → Option Value}
set_option pp.deepTerms false
set_option pp.deepTerms.threshold 6
theorem inner2 {oc0 : Value} {od0 : Option Addr} {n0 q0 : Str} {p0 : Arguments} {nm0 b0 : Str} {pos0 : Pos} {rest0 : List Stmt} {sc0 : Scope} {dV0 kV0 doc0 pm0 cdv0 ct0 : Value} {an0 : Option Addr} {osl0 : Array (Option Value)} {params : Arguments} {body : List Stmt} {scope : Scope}
    (hK : (hd.heap_39 w.params).lookup 42 = some ⟨oc0, od0, .func (fnOf n0 q0 p0 (.FunctionDef nm0 params body [] none [] scope none b0 pos0 :: rest0) sc0 dV0 kV0 doc0 pm0 an0 cdv0 ct0), osl0⟩)
    {n : Int} {tn : Tok} (hn : 1 ≤ n ∧ n < 30) {l f cA cN cI c' : Addr} {oA oN oI fo : Obj} {g hc : Heap} {cl : List (Str × Addr)} {doc pm ctv : Value} {vs : List Value} {xs : List Int}
    (X : (hd.heap_39 w.params).In g) (T : Top p loose mean mg mb g) (hg : ∀ b o, g.get? b = some o → hc.get? b = some o)
    (hfo : hc.get? f = some fo) (hfd : fo.data = .func (fnX (Str.ofString "inner") q2 params body scope cl .none .none doc pm none (.ref c') ctv)) (hcode : hc.CodeRec (.ref c') q2)
    (clA : cl.lookup (Str.ofString "digits") = some cA) (clN : cl.lookup (Str.ofString "n") = some cN) (clI : cl.lookup (Str.ofString "inner") = some cI)
    (hA : hc.get? cA = some oA) (dA : oA.data = .cell (some (.ref l))) (hN : hc.get? cN = some oN) (dN : oN.data = .cell (some (.int n tn))) (hI : hc.get? cI = some oI) (dI : oI.data = .cell (some (.ref f)))
    (hL : hc.IsList l vs.toArray) (hxs : IntsAre vs xs) (hlen : xs.length ≤ 60) (hdig : ∀ d ∈ xs, 0 ≤ d) :
    ∀ k : Nat, ∀ (lo hi : Nat) (tl th : Tok) (A : Around) (Q E : Value → Shared → Prop) (s : Shared), hi - lo ≤ k → lo < hi → hi ≤ xs.length → val n.toNat (sl xs lo hi) < 2 ^ 60 →
      A.handled = none → A.depth + k < recursionLimit → (∀ b o, hc.get? b = some o → s.heap.get? b = some o) →
      (∀ h' tk' t, (∀ b o, s.heap.get? b = some o → h'.get? b = some o) → Q (.int (val n.toNat (sl xs lo hi)) t) { s with heap := h', toks := tk' }) →
      wpAny (model PySem.Challenge.rw_pe0176_01.row.prog w) A (call (.ref f) [.int (lo : Int) tl, .int (hi : Int) th]) Q E s := by
  revert X
  w_top off
  k_fill
  intro X
  refine' same_lit hK ?h' ?_
  case h' => k_is
  intro e
  cases e
  clear hK
  intro k
  induction k with
  | zero => intro lo hi tl th A Q E s h1 h2; omega
  | succ k ih =>
  intro lo hi tl th A Q E s h1 h2 h3 h7 hh hdp hs hret
  have hgs : ∀ b o, g.get? b = some o → s.heap.get? b = some o := fun b o e => hs b o (hg b o e)
  refine enterC (binds := [(Str.ofString "L", .int lo tl), (Str.ofString "R", .int hi th)]) (by omega) (hs _ _ hfo) hfd (T.nolimit.keeps hgs) (let ⟨c2, oc, vs, t, e, e1, r⟩ := hcode; ⟨c2, oc, vs, t, e, hs _ _ e1, r⟩) (BindsTo.of_eq rfl) (locs rfl) (by decide) rfl rfl rfl ?_
  intro Lf h₁ F
  have N : News s.heap Lf h₁ [] := News.nil
  have X1 := X.keeps hgs
  have T1 := T.keeps hgs
  have hA1 := hs _ _ hA
  have hN1 := hs _ _ hN
  have hI1 := hs _ _ hI
  have hf1 := hs _ _ hfo
  have hL1 := stays_list hs hL
  have h2' := Int.ofNat_lt.mpr h2
  have h3' := Int.ofNat_le.mpr h3
  k_with_none
  k_with "mycall" => refine stop_ ?_
  k_steps
  · rename _ + _ = _ => g1
    (rename Fr _ _ _ _ => F9)
    have e1 : hi = lo + 1 := by omega
    subst e1
    have e2 : val n.toNat (sl xs lo (lo + 1)) = xs.getD (lo : Int).toNat 0 := by rw [sl_one xs (by omega), Int.toNat_natCast]; simp [val]
    rw [e2] at hret
    exact hret _ _ _ F9.keep
  · rename _ + _ ≠ _ => g1
    obtain ⟨md, hm, m1, m2⟩ : ∃ md : Nat, ((lo : Int) + (hi : Int)).fdiv (2 ^ Int.toNat 1) = (md : Int) ∧ lo < md ∧ md < hi := by
      refine ⟨(lo + hi) / 2, ?_, by omega, by omega⟩
      rw [Int.fdiv_eq_ediv_of_nonneg _ (by decide)]
      show ((lo : Int) + (hi : Int)) / 2 = _
      omega
    obtain ⟨sh, hsh, hsh2⟩ : ∃ sh : Nat, ((md : Int) - (lo : Int)) * n = (sh : Int) ∧ sh = n.toNat * (md - lo) := by
      refine ⟨n.toNat * (md - lo), ?_, rfl⟩
      rw [Int.natCast_mul, Int.toNat_of_nonneg (by omega), Int.mul_comm, Int.ofNat_sub (by omega)]
    have hsh1 : sh ≤ 1800 := by
      rw [hsh2]
      exact Nat.mul_le_mul (show n.toNat ≤ 30 by omega) (show md - lo ≤ 60 by omega)
    have hv1 : 0 ≤ val n.toNat (sl xs lo md) := val_nonneg fun d hd => hdig d (List.mem_of_mem_take (List.mem_of_mem_drop hd))
    have hv2 : 0 ≤ val n.toNat (sl xs md hi) := val_nonneg fun d hd => hdig d (List.mem_of_mem_take (List.mem_of_mem_drop hd))
    have hv : val n.toNat (sl xs lo hi) = val n.toNat (sl xs md hi) * 2 ^ sh + val n.toNat (sl xs lo md) := by
      rw [sl_app xs (Nat.le_of_lt m1) (Nat.le_of_lt m2), val_append, sl_len xs (by omega), ← hsh2, Int.mul_comm, Int.add_comm]
    have hp : (1 : Int) ≤ 2 ^ sh := Int.pow_pos (n := 2) (by decide)
    have hv3 : val n.toNat (sl xs md hi) ≤ val n.toNat (sl xs md hi) * 2 ^ sh := by
      have := Int.mul_le_mul_of_nonneg_left hp hv2
      rw [Int.mul_one] at this; exact this
    have hv4 : val n.toNat (sl xs md hi) < 2 ^ 60 := by omega
    have hv5 : val n.toNat (sl xs lo md) < 2 ^ 60 := by omega
    simp only [hm, hsh] at *
    k_steps
    unfold Stop
    (rename Fr _ _ _ _ => F9); (rename News _ _ _ _ => N9)
    refine ih md hi _ _ _ _ _ _ (by omega) m2 (by omega) hv4 ?hh ?dp ?hs ?_
    case hh => exact hh
    case dp => simp only [depth_deeper]; omega
    case hs => exact fun b o e => F9.keep b o (hs b o e)
    intro h' tk' t kk
    have F8 := fr_more F9 kk
    have N8 := news_more N9 kk
    clear F9 N9
    k_steps
    unfold Stop
    (rename Fr _ _ _ _ => F9); (rename News _ _ _ _ => N9)
    refine ih lo md _ _ _ _ _ _ (by omega) m1 (by omega) hv5 ?hh ?dp ?hs ?_
    case hh => exact hh
    case dp => simp only [depth_deeper]; omega
    case hs => exact fun b o e => F9.keep b o (hs b o e)
    intro h2 tk2 t2 kk2
    have F7 := fr_more F9 kk2
    have N7 := news_more N9 kk2
    clear F9 N9
    k_steps
    (rename Fr _ _ _ _ => F6)
    rw [hv] at hret
    exact hret _ _ _ F6.keep
end Mine
-- B10
namespace Mine
set_option maxRecDepth 100000
set_option maxHeartbeats 4000000
local macro_rules | `(tactic| walk_at "exec FunctionDef") => `(tactic| (k_extra "mydef"))
local macro_rules | `(tactic| walk_at "call ref") => `(tactic| (k_extra "mycall"))
local macro_rules | `(tactic| walk_at "storeName") => `(tactic| (k_here; k_dflt (refine' storeX_C ?F ?N ?c ?U ?d ?_ ?a ?b; (case a => rfl); (case b => rfl); (case F => k_asm); (case N => k_asm); (case c => rfl); (case U => k_updF); (case d => k_asm); k_whole); intro h' o' F' N' d'; (try dsimp only at N'); (try k_sweep)))
variable {w : World} {p : Program} {loose : List Str} {mean : ExcName → Option Value} {mg mb : Str → Option Value}
set_option pp.deepTerms false
set_option pp.deepTerms.threshold 6
theorem d2i_ {n : Int} {t2 : Tok} {l : Addr} {vs : List Value} {xs : List Int} (hn : 1 ≤ n ∧ n < 30) (hxs : IntsAre vs xs) (hlen : xs.length ≤ 60) (hdig : ∀ d ∈ xs, 0 ≤ d) (hv : val n.toNat xs < 2 ^ 60) :
    TSpec w p loose mean mg mb 42 70 100 [.ref l, .int n t2] (fun h => h.IsList l vs.toArray) (fun _ _ r => ∃ t, r = .int (val n.toNat xs) t) := by
  unfold TSpec
  w_top off
  k_fill
  intro A Q E s g ps1 ps2 hh hdp hun X T g30 g37 hg ⟨e30, e37, T1, T2⟩ hL hret
  have X0 := X.keeps hg
  refine enterCl (binds := [(Str.ofString "digits", .ref l), (Str.ofString "n", .int n t2)]) (by omega) X0 (T.nolimit.keeps hg) (by k_is) (by k_is) (BindsTo.of_eq rfl) rfl (by decide +kernel) rfl rfl rfl ?_
  intro L h₁ tk cells F N Y hlt
  have hg37 : ∀ b o, g.get? b = some o → (s.heap.hide 37).get? b = some o := fun b o e => hide_get (hg b o e) (fun q => by rw [q, g37] at e; cases e)
  have hL1 : (s.heap.hide 37).IsList l vs.toArray := by
    obtain ⟨o, ho, hc, r⟩ := hL
    refine ⟨o, hide_get ho (fun q => ?_), hc, r⟩
    rw [q, e37] at ho
    cases ho
    cases hc
  have N1 := news_hide F N e37
  have F1 := fr_hide (a := 37) F
  have X1 := X.keeps hg37
  have T1' := T.keeps hg37
  clear F N X0
  k_cells Y
  rename_i o1 o2 o3 d1 d2 d3
  replace d1 : o1.data = .cell none := d1
  replace d2 : o2.data = .cell (some (.int n t2)) := d2
  replace d3 : o3.data = .cell (some (.ref l)) := d3
  have C : CodeHd (s.heap.hide 37) 41 37 := codeHd_of_K X1 (by kernel_rfl)
  have hl37 := ltN (hlt _ _ e37)
  k_with_none
  k_with "mydef" => refine stop_ ?_
  k_with "mycall" => refine stop_ ?_
  k_steps
  unfold Stop
  have T3 : TabSt (s.heap.hide 37) q2 ⟨47, 4, 0, 0⟩ ps2 := by
    rcases T2 with h | ⟨c', oc, vs, t, h, h1, h2, h3⟩
    · exact .inl h
    · exact .inr ⟨c', oc, vs, t, h, hide_get h1 (tab_ne (.inr ⟨c', oc, vs, t, h, h1, h2, h3⟩) e37 h1 h2 h3), h2, h3⟩
  k_dflt (refine' nestDef_K ?d0 ?k0 ?a0 ?_; (case d0 => exact rfl); (case k0 => exact rfl); (case a0 => exact rfl))
  generalize hq : qualnameIn _ _ _ = qq
  obtain rfl : qq = q2 := by rw [← hq]; kernel_rfl
  clear hq
  k_dflt (refine' nest_any F1 N1 ?ne T1' C rfl ?ps rfl ?_)
  case ne =>
    refine all1 ?_ (all1 ?_ (all1 ?_ all0)) <;> (refine neN ?_; dsimp only; omega)
  case ps => exact T3
  clear F1 N1
  intro f c' oc vs2 t ctv doc h' tk' cs' F9 N9 hoc1 hoc2 hcs hkp hoff hlt2 hPf
  simp only [List.cons_append, List.nil_append] at N9
  simp only [List.map_cons, List.map_nil] at hoff
  k_lt hlt2
  k_lt2 hPf
  have kp : Kept s.heap ps2 #[rawInt 47, rawInt 4, .ref c'] := by
    rcases hkp with h | h
    · exact .inl h
    · refine .inr ⟨c', rfl, ?_⟩
      have h1 := (N9 (c', oc) (.tail _ (.tail _ (.tail _ (.tail _ (.tail _ h)))))).2.2
      cases q : s.heap.get? c' with
      | none => rfl
      | some o => rw [hide_get q (hoff _ h _ (.head _))] at h1; cases h1
  have tabs' : ∀ h2 : Heap, (∀ b o, (s.heap.hide 37).get? b = some o → h2.get? b = some o) → h2.get? 37 = some (tabObj #[rawInt 47, rawInt 4, .ref c']) → h2.get? c' = some oc → Tabs h2 ps1 #[rawInt 47, rawInt 4, .ref c'] := by
    intro h2 hk2 h30 hc2
    refine ⟨hk2 _ _ (hide_get e30 (by decide)), h30, ?_, .inr ⟨c', oc, vs2, t, rfl, hc2, hoc1, hoc2⟩⟩
    rcases T1 with h | ⟨c2, oc2, vs2, t2', h, h1, h2', h3⟩
    · exact .inl h
    · exact .inr ⟨c2, oc2, vs2, t2', h, hk2 _ _ (hide_get h1 (tab_ne T2 e37 h1 h2' h3)), h2', h3⟩
  have hcget : ∀ h2 : Heap, (∀ b o, (s.heap.hide 37).get? b = some o → h2.get? b = some o) → (∀ p ∈ cs', h2.get? p.1 = some p.2) → h2.get? c' = some oc := by
    intro h2 hk2 hc2
    rcases hcs with h | h
    · exact hc2 _ h
    · exact hk2 _ _ h
  k_steps
  · unfold Stop
    rename 0 < _ => g1
    rename_i oI F8 N8 dI8
    have hsl : sl xs 0 xs.length = xs := by simp [sl]
    refine' inner2 (g := g) ?hK hn X T ?hg ?hfo ?hfd ?hcode ?clA ?clN ?clI ?hA ?dA ?hN ?dN ?hI ?dI ?hL hxs hlen hdig xs.length 0 xs.length _ _ _ _ _ _ ?q1 g1 (Nat.le_refl _) ?q2 ?hh ?dp ?hs ?_
    case hK => k_is
    case hg => exact fun b o e => F8.keep b o (hg37 b o e)
    case hfo => exact (N8 _ (.head _)).1
    case hfd => exact rfl
    case hcode => exact ⟨c', oc, vs2, t, rfl, hcget _ F8.keep fun p hp => (N8 p (.tail _ (.tail _ (.tail _ (.tail _ (.tail _ hp)))))).1, hoc1, hoc2⟩
    case clA => exact rfl
    case clN => exact rfl
    case clI => exact rfl
    case hA => exact (N8 _ (.tail _ (.tail _ (.tail _ (.tail _ (.head _)))))).1
    case dA => exact d3
    case hN => exact (N8 _ (.tail _ (.tail _ (.tail _ (.head _))))).1
    case dN => exact d2
    case hI => exact (N8 _ (.tail _ (.tail _ (.head _)))).1
    case dI => exact dI8
    case hL => exact stays_list F8.keep hL1
    case q1 => omega
    case q2 => rw [hsl]; exact hv
    case hh => exact hh
    case dp => simp only [depth_deeper]; omega
    case hs => exact fun b o e => e
    intro h2 tk2 t9 kk
    rw [hsl]
    have F7 := fr_more F8 kk
    exact hret _ _ _ _ _ (fun b o _ hb e => F7.keep b o (hide_get e hb)) (tabs' _ F7.keep (kk _ _ (N8 _ (.tail _ (.head _))).1) (kk _ _ (hcget _ F8.keep fun p hp => (N8 p (.tail _ (.tail _ (.tail _ (.tail _ (.tail _ hp)))))).1))) (.inl rfl) kp ⟨t9, rfl⟩
  · rename ¬ 0 < _ => g1
    (rename Fr _ _ _ _ => F8); (rename News _ _ _ _ => N8)
    have e0 : xs = [] := List.length_eq_zero_iff.mp (by omega)
    exact hret _ _ _ _ _ (fun b o _ hb e => F8.keep b o (hide_get e hb)) (tabs' _ F8.keep (N8 _ (.tail _ (.head _))).1 (hcget _ F8.keep fun p hp => (N8 p (.tail _ (.tail _ (.tail _ (.tail _ (.tail _ hp)))))).1)) (.inl rfl) kp ⟨_, by rw [e0]; rfl⟩
end Mine
-- B11a
namespace Mine
set_option maxRecDepth 100000
set_option maxHeartbeats 4000000
noncomputable def CodeLike (o : Obj) : Prop := ∃ vs q t, o.data = .fields vs ∧ vs[1]? = some (.str q t)
/-- a table's state, told by the ground and the ledger's codes -/
noncomputable def TabL (h₀ : Heap) (cs : List (Addr × Obj)) (qual : Str) (pos : Pos) (ps : Array Value) : Prop :=
  ps = #[] ∨ ∃ c' oc vs t, ps = #[rawInt pos.line, rawInt pos.col, .ref c'] ∧ ((c', oc) ∈ cs ∨ h₀.get? c' = some oc) ∧ oc.data = .fields vs ∧ vs[1]? = some (.str qual t)
/-- a table stands as at the start, or holds a code that is not of the ground -/
noncomputable def KeptL (h₀ : Heap) (o ps : Array Value) : Prop := ps = o ∨ ∃ c', ps[2]? = some (.ref c') ∧ h₀.get? c' = none ∧ c' ≠ 30 ∧ c' ≠ 37
theorem KeptL.step {h₀ h : Heap} {o ps ps' : Array Value} {oa ob : Obj} (x : KeptL h₀ o ps) (k : Kept h ps ps') (hk : ∀ b o, h₀.get? b = some o → h.get? b = some o) (e30 : h.get? 30 = some oa) (e37 : h.get? 37 = some ob) : KeptL h₀ o ps' := by
  rcases k with rfl | ⟨c', e, hn⟩
  · exact x
  · refine .inr ⟨c', e, ?_, ?_, ?_⟩
    · cases q : h₀.get? c' with
      | none => rfl
      | some o => rw [hk _ _ q] at hn; cases hn
    · intro q; rw [q, e30] at hn; cases hn
    · intro q; rw [q, e37] at hn; cases hn
structure TabsL (h₀ : Heap) (o1 o2 : Array Value) (cs : List (Addr × Obj)) (ps1 ps2 : Array Value) : Prop where
  a : TabL h₀ cs q1 ⟨32, 4, 0, 0⟩ ps1
  b : TabL h₀ cs q2 ⟨47, 4, 0, 0⟩ ps2
  c : ∀ p ∈ cs, CodeLike p.2
  d : KeptL h₀ o1 ps1
  e : KeptL h₀ o2 ps2
theorem KeptL.kept {h₀ h : Heap} {o ps : Array Value} (x : KeptL h₀ o ps) (hz : ∀ b, h₀.get? b = none → b ≠ 30 → b ≠ 37 → h.get? b = none) : Kept h o ps := x.imp id fun ⟨c', e, h1, h2, h3⟩ => ⟨c', e, hz _ h1 h2 h3⟩
theorem TabL.st {h₀ h : Heap} {cs : List (Addr × Obj)} {qual : Str} {pos : Pos} {ps : Array Value} (x : TabL h₀ cs qual pos ps) (k : ∀ b o, h₀.get? b = some o → h.get? b = some o) (kc : ∀ p ∈ cs, h.get? p.1 = some p.2) : TabSt h qual pos ps :=
  x.imp id fun ⟨c', oc, vs, t, e, e1, r⟩ => ⟨c', oc, vs, t, e, e1.elim (fun hm => kc _ hm) (k _ _), r⟩
theorem TabSt.notCode {h : Heap} {qual : Str} {pos : Pos} {ps : Array Value} (x : TabSt h qual pos ps) : ¬ CodeLike (tabObj ps) := by
  rintro ⟨vs, q, t, e1, e2⟩
  cases e1
  rcases x with h | ⟨_, _, _, _, h, _⟩ <;> (rw [h] at e2; cases e2)
/-- the codes of filled tables, as ledger entries -/
theorem tabCodes {h₀ h : Heap} {L : Addr} {m : Str → Option Value} {o1 o2 ps1 ps2 : Array Value} (F : Fr h₀ L h m) (T : Tabs h ps1 ps2) (d : KeptL h₀ o1 ps1) (e : KeptL h₀ o2 ps2) : ∃ cs, News h₀ L h cs ∧ TabsL h₀ o1 o2 cs ps1 ps2 := by
  have one : ∀ {qual : Str} {pos : Pos} {ps : Array Value}, TabSt h qual pos ps → ∃ cs, News h₀ L h cs ∧ TabL h₀ cs qual pos ps ∧ ∀ p ∈ cs, CodeLike p.2 := by
    intro qual pos ps x
    rcases x with e | ⟨c', oc, vs, t, e, e1, e2, e3⟩
    · exact ⟨[], News.nil, .inl e, all0⟩
    · cases q : h₀.get? c' with
      | some o =>
        have := F.keep _ _ q
        rw [e1] at this
        cases this
        exact ⟨[], News.nil, .inr ⟨c', oc, vs, t, e, .inr q, e2, e3⟩, all0⟩
      | none =>
        refine ⟨[(c', oc)], all1 ⟨e1, fun hL => ?_, q⟩ all0, .inr ⟨c', oc, vs, t, e, .inl (.head _), e2, e3⟩, all1 ⟨vs, qual, t, e2, e3⟩ all0⟩
        obtain ⟨oL, es, ep, hL', hLd, _⟩ := F.ns
        have hL2 : c' = L := hL
        rw [← hL2, e1] at hL'
        cases hL'
        rw [e2] at hLd
        cases hLd
  obtain ⟨c1, n1, t1, k1⟩ := one T.2.2.1
  obtain ⟨c2, n2, t2, k2⟩ := one T.2.2.2
  have mono : ∀ {cs cs' : List (Addr × Obj)} {qual : Str} {pos : Pos} {ps : Array Value}, TabL h₀ cs qual pos ps → (∀ p ∈ cs, p ∈ cs') → TabL h₀ cs' qual pos ps := fun x k => x.imp id fun ⟨c', oc, vs, t, e, e1, r⟩ => ⟨c', oc, vs, t, e, e1.imp (k _) id, r⟩
  exact ⟨c1 ++ c2, fun p hp => (List.mem_append.mp hp).elim (n1 p) (n2 p), ⟨mono t1 fun p hp => List.mem_append_left _ hp, mono t2 fun p hp => List.mem_append_right _ hp, fun p hp => (List.mem_append.mp hp).elim (k1 p) (k2 p), d, e⟩⟩

/-- a contract that may fill the tables, at a call within a frame -/
theorem use_tspec {w : World} {p : Program} {loose : List Str} {mean : ExcName → Option Value} {mg mb : Str → Option Value} {f : Addr} {dN uN : Nat} {args : List Value} {Pre : Heap → Prop} {Out : Heap → Heap → Value → Prop}
    {A : Around} {Q E : Value → Shared → Prop} {s : Shared} {h₀ : Heap} {L : Addr} {m : Str → Option Value} {rest cs : List (Addr × Obj)} {o1 o2 ps1 ps2 : Array Value}
    (S : TSpec w p loose mean mg mb f dN uN args Pre Out) (hh : A.handled = none) (hdp : A.depth + dN < recursionLimit) (hu : A.units + uN < cLine)
    (X : (hd.heap_39 w.params).In h₀) (T : Top p loose mean mg mb h₀) (F : Fr h₀ L s.heap m) (N : News h₀ L s.heap ((30, tabObj ps1) :: (37, tabObj ps2) :: (rest ++ cs))) (C : TabsL h₀ o1 o2 cs ps1 ps2)
    (hr : ∀ p ∈ rest, p.1 ≠ 30 ∧ p.1 ≠ 37 ∧ ¬ CodeLike p.2) (hpre : Pre s.heap)
    (h : ∀ r h' tk' ps1' ps2' cs', Fr h₀ L h' m → News h₀ L h' ((30, tabObj ps1') :: (37, tabObj ps2') :: (rest ++ cs')) → TabsL h₀ o1 o2 cs' ps1' ps2' → OwnOff cs' (rest.map (·.1)) →
      (∀ b o, b ≠ 30 → b ≠ 37 → s.heap.get? b = some o → h'.get? b = some o) → Out s.heap h' r → Q r { s with heap := h', toks := tk' }) :
    wpAny (model PySem.Challenge.rw_pe0176_01.row.prog w) A (call (.ref f) args) Q E s := by
  have e30 := N _ (.head _)
  have e37 := N _ (.tail _ (.head _))
  have kc : ∀ p ∈ cs, s.heap.get? p.1 = some p.2 := fun p hp => (N p (.tail _ (.tail _ (List.mem_append_right _ hp)))).1
  refine S A Q E s h₀ ps1 ps2 hh hdp hu X T e30.2.2 e37.2.2 F.keep ⟨e30.1, e37.1, C.a.st F.keep kc, C.b.st F.keep kc⟩ hpre fun r h' tk' ps1' ps2' kk T' k1 k2 o => ?_
  have F' : Fr h₀ L h' m := ⟨let ⟨o, es, ep, e, r⟩ := F.ns; ⟨o, es, ep, kk _ _ (Ne.symm e30.2.1) (Ne.symm e37.2.1) e, r⟩, fun b o e => kk b o (fun q => by rw [q, e30.2.2] at e; cases e) (fun q => by rw [q, e37.2.2] at e; cases e) (F.keep b o e), F.above⟩
  obtain ⟨cs', NC, TC⟩ := tabCodes F' T' (C.d.step k1 F.keep e30.1 e37.1) (C.e.step k2 F.keep e30.1 e37.1)
  have NR : ∀ p ∈ rest, h'.get? p.1 = some p.2 ∧ p.1 ≠ L ∧ h₀.get? p.1 = none := fun p hp => by
    have z := N p (.tail _ (.tail _ (List.mem_append_left _ hp)))
    exact ⟨kk _ _ (hr p hp).1 (hr p hp).2.1 z.1, z.2⟩
  refine h r h' tk' ps1' ps2' cs' F' (all1 ⟨T'.1, e30.2⟩ (all1 ⟨T'.2.1, e37.2⟩ fun p hp => (List.mem_append.mp hp).elim (NR p) (NC p))) TC ?_ kk o
  intro p hp b hb e
  obtain ⟨q, hq, rfl⟩ := List.mem_map.mp hb
  have h1 := (NC p hp).1
  rw [e, (NR q hq).1] at h1
  exact (hr q hq).2.2 (Option.some.inj h1 ▸ TC.c p hp)

theorem tabs_back {h₀ h : Heap} {L : Addr} {m : Str → Option Value} {rest cs : List (Addr × Obj)} {o1 o2 ps1 ps2 : Array Value} (F : Fr h₀ L h m) (N : News h₀ L h ((30, tabObj ps1) :: (37, tabObj ps2) :: rest)) (hc : ∀ p ∈ cs, p ∈ rest) (C : TabsL h₀ o1 o2 cs ps1 ps2) : Tabs h ps1 ps2 :=
  have kc : ∀ p ∈ cs, h.get? p.1 = some p.2 := fun p hp => (N p (.tail _ (.tail _ (hc p hp)))).1
  ⟨(N _ (.head _)).1, (N _ (.tail _ (.head _))).1, C.a.st F.keep kc, C.b.st F.keep kc⟩

/-- the ground of a call, its two tables set aside -/
theorem set_aside {s g : Heap} {L : Addr} {h₁ : Heap} {m : Str → Option Value} {ps1 ps2 : Array Value} (F : Fr s L h₁ m) (T : Tabs s ps1 ps2) (g30 : g.get? 30 = none) (g37 : g.get? 37 = none) (hg : ∀ b o, g.get? b = some o → s.get? b = some o) :
    ∃ h₀ : Heap, Fr h₀ L h₁ m ∧ News h₀ L h₁ [(30, tabObj ps1), (37, tabObj ps2)] ∧ TabsL h₀ ps1 ps2 [] ps1 ps2 ∧ (∀ b o, g.get? b = some o → h₀.get? b = some o) ∧ (∀ b o, b ≠ 30 → b ≠ 37 → s.get? b = some o → h₀.get? b = some o) ∧ (∀ b, h₀.get? b = none → b ≠ 30 → b ≠ 37 → s.get? b = none) ∧ 30 < L ∧ 37 < L := by
  have keep : ∀ b o, b ≠ 30 → b ≠ 37 → s.get? b = some o → ((s.hide 30).hide 37).get? b = some o := fun b o h1 h2 e => hide_get (hide_get e h1) h2
  have l30 : 30 < L := Nat.lt_of_lt_of_le (Heap.lt_size T.1) F.above
  have l37 : 37 < L := Nat.lt_of_lt_of_le (Heap.lt_size T.2.1) F.above
  refine ⟨(s.hide 30).hide 37, fr_hide (fr_hide F), ?_, ⟨?_, ?_, all0, .inl rfl, .inl rfl⟩, fun b o e => keep b o (fun q => by rw [q, g30] at e; cases e) (fun q => by rw [q, g37] at e; cases e) (hg b o e), keep, fun b hn h1 h2 => ?_, l30, l37⟩
  · have N2 := news_hide (fr_hide (a := 30) F) (news_hide F News.nil T.1) (hide_get T.2.1 (by decide))
    exact all1 (N2 _ (.tail _ (.head _))) (all1 (N2 _ (.head _)) all0)
  · rcases T.2.2.1 with h | ⟨c', oc, vs, t, h, h1, h2, h3⟩
    · exact .inl h
    · exact .inr ⟨c', oc, vs, t, h, .inr (keep _ _ (tab_ne T.2.2.1 T.1 h1 h2 h3) (tab_ne T.2.2.2 T.2.1 h1 h2 h3) h1), h2, h3⟩
  · rcases T.2.2.2 with h | ⟨c', oc, vs, t, h, h1, h2, h3⟩
    · exact .inl h
    · exact .inr ⟨c', oc, vs, t, h, .inr (keep _ _ (tab_ne T.2.2.1 T.1 h1 h2 h3) (tab_ne T.2.2.2 T.2.1 h1 h2 h3) h1), h2, h3⟩
  · cases q : s.get? b with
    | none => rfl
    | some o => rw [keep b o h1 h2 q] at hn; cases hn
theorem code_ne {h : Heap} {c d : Addr} {oc o : Obj} (hc : CodeLike oc) (h1 : h.get? c = some oc) (h2 : h.get? d = some o) (hn : ∀ vs, o.data ≠ .fields vs) : c ≠ d := by
  intro q
  rw [q, h2] at h1
  cases h1
  obtain ⟨vs, _, _, e, _⟩ := hc
  exact hn vs e
end Mine
-- B11
namespace Mine
set_option maxRecDepth 100000
set_option maxHeartbeats 4000000
theorem two_pow_le {m n : Nat} (h : m ≤ n) : (2 : Int) ^ m ≤ 2 ^ n := by
  have := Nat.pow_le_pow_right (n := 2) (by decide) h
  exact_mod_cast this
theorem step_arith {b d p r V q r' : Int} (e : b * q + r' = r * p + d) : d + p * (V * b + r) = (q + p * V) * b + r' := by
  rw [Int.mul_add, Int.add_mul, Int.mul_assoc, Int.mul_comm q b, Int.mul_comm p r]
  omega
section
variable {prog : Program} {w : World} {A : Around} {E : Value → Shared → Prop} {Q : Flow → Shared → Prop} {s : Shared} {env : Env} {h₀ : Heap}
/-- a for over reversed(..) of a list that the call has made -/
theorem foRev {σ : Type} {x : Str} {body : List Stmt} {l I : Addr} {its : Array Value} {k9 : Nat} {ns : List Int} {m₀ : Str → Option Value} {news₀ : List (Addr × Obj)} (Led : σ → List (Addr × Obj)) (ps : σ → List (Str × Value)) (P : Nat → σ → Prop) (c₀ : σ)
    (hh : A.handled = none) (F : Fr h₀ env.locals s.heap m₀) (N : News h₀ env.locals s.heap news₀) (hm : (l, listOf its k9) ∈ news₀) (hI : (I, revObj l ((its.toList.length : Int) - 1)) ∈ news₀) (hne : l ≠ I) (hi : IntsAre its.toList ns) (hl0 : l ∉ (Led c₀).map (·.1)) (hI0 : I ∉ (Led c₀).map (·.1)) (hn : ∀ p ∈ Led c₀, p ∈ news₀) (hadr : ∀ c, (Led c).map (·.1) = (Led c₀).map (·.1))
    (hk : ∀ p ∈ ps c₀, m₀ p.1 = some p.2) (hp : P 0 c₀)
    (turn : ∀ (i : Nat) (n : Int) (t : Tok) (c : σ) (u : Str → Option Value) h tk own, ns.reverse[i]? = some n → OwnOff own ((Led c₀).map (·.1)) → P i c → Fr h₀ env.locals h (fun y => if y = x then some (.int n t) else kstB u (ps c) y) → News h₀ env.locals h (Led c ++ own) →
      wpAny (model prog w) A (execs body env) (FoPost h₀ env.locals Led ps (P (i + 1)) own { s with heap := h, toks := tk } Q) E { s with heap := h, toks := tk })
    (done : ∀ (c : σ) (u : Str → Option Value) h tk, P ns.length c → Fr h₀ env.locals h (kstB u (ps c)) → News h₀ env.locals h (Led c) → Q .next { s with heap := h, toks := tk }) :
    wpAny (model prog w) A (pyIter (.ref I)) (fun it s₂ => LoopAtV prog w A h₀ env x body Q E it s₂) E s := by
  have hls : s.heap.IsList l its := news_list N hm
  have hsz : its.toList.length = its.size := by simp
  have hit : s.heap.IsRevIter I l ((its.size : Int) - 1) := ⟨_, (N _ hI).1, rfl, by rw [← hsz]; rfl⟩
  refine wpAny_pyIter_revIter hit ?_
  have W := Walks.listRev (prog := prog) (w := w) hh I l hne its
  have hlen : its.size = ns.length := by rw [← hi.length]; simp
  rw [hlen] at W
  refine loop_invN (news := Led c₀) (fun i m nx => ∃ c : σ, nx = Led c ∧ (∀ p ∈ ps c, m p.1 = some p.2) ∧ P i c) W ?_ ?_ ?_ ?_ ⟨Nat.zero_le _, by rw [← hlen]; simpa using hit, hls⟩ F (fun p hp => N p (hn p hp)) ⟨c₀, rfl, hk, hp⟩ ?_ ?_
  · intro hm'
    rcases List.mem_cons.mp hm' with e | hm'
    · exact (N _ hI).2.1 e.symm
    · exact (N _ hm).2.1 (List.mem_singleton.mp hm').symm
  · intro b hb
    rw [List.mem_singleton.mp hb]
    exact (N _ hI).2.2
  · intro p hp hI'
    exact hI0 (List.mem_singleton.mp hI' ▸ List.mem_map_of_mem hp)
  · intro p hp hI'
    rcases List.mem_cons.mp hI' with e | hI'
    · exact hI0 (e ▸ List.mem_map_of_mem hp)
    · exact hl0 (List.mem_singleton.mp hI' ▸ List.mem_map_of_mem hp)
  · rintro i v m₁ nx h tk own hin hP _ hoff ⟨c, rfl, hk', hp'⟩ F₁ N₁
    obtain ⟨t, ht⟩ := ints_get hi (ns.length - 1 - i) (by omega)
    have hv : v = .int (ns.getD (ns.length - 1 - i) 0) t := by
      have hP' : its[ns.length - 1 - i]? = some v := hP
      rw [← Array.getElem?_toList, ht] at hP'
      exact (Option.some.inj hP').symm
    subst hv
    have em : kstB m₁ (ps c) = m₁ := by funext y; exact kstB_eq hk' fun _ => rfl
    refine wpAny_mono (turn i (ns.getD (ns.length - 1 - i) 0) t c m₁ h tk own (by have hlt : ns.length - 1 - i < ns.length := (by omega); rw [List.getElem?_reverse hin, List.getD_eq_getElem?_getD, List.getElem?_eq_getElem hlt]; rfl) hoff hp' (by rw [em]; exact F₁) N₁) (fun f s₂ q => ?_) fun _ _ x => x
    cases f with
    | ret v => exact q
    | brk => exact q
    | next =>
      obtain ⟨c', h', tk', m', news', e, F', N', h1, h2, h3, h4⟩ := q
      exact ⟨h', tk', m', news', Led c', e, F', N', h1, h2, hadr c', c', rfl, h3, h4⟩
    | cont =>
      obtain ⟨c', h', tk', m', news', e, F', N', h1, h2, h3, h4⟩ := q
      exact ⟨h', tk', m', news', Led c', e, F', N', h1, h2, hadr c', c', rfl, h3, h4⟩
  · rintro m₁ nx h tk ⟨c, rfl, hk', hp'⟩ F₁ N₁
    exact done c m₁ h tk hp' (kst_fr hk' F₁) N₁
end
local macro_rules | `(tactic| walk_at "exec For Name Call cons nil") => `(tactic| (k_extra "myfor"))
local macro_rules | `(tactic| walk_at "pyIter ref") => `(tactic| (k_extra "myiter"))
local macro_rules | `(tactic| walk_at "call ref") => `(tactic| (k_extra "mycall"))
local macro_rules | `(tactic| walk_at "assign Tuple") => `(tactic| (k_here; k_dflt (refine' unpackN_ ?k1 ?k2 ?k3 ?k4 ?k5 ?k6 ?_; (case k1 => k_asm); (case k2 => k_asm); (case k3 => exact News.isTup (by k_asm) (by k_mem)); (case k4 => first | exact rfl | ((rename Around.handled _ = none => hh9); exact hh9)); (case k5 => first | exact rfl | ((rename Around.handled _ = none => hh9); exact hh9)); (case k6 => first | exact rfl | ((rename Around.handled _ = none => hh9); exact hh9)); k_whole); intro h' F' N'; (try k_sweep)))
variable {w : World} {p : Program} {loose : List Str} {mean : ExcName → Option Value} {mg mb : Str → Option Value}
set_option pp.deepTerms false
set_option pp.deepTerms.threshold 6
theorem dpos_ {a b : Int} {t1 t2 : Tok} (ha : 0 ≤ a ∧ a < 2 ^ 30) (hb : 0 < b ∧ b < 2 ^ 29) :
    TSpec w p loose mean mg mb 49 80 120 [.int a t1, .int b t2] (fun _ => True) (fun h h' r => ∃ t u1 u2 k, r = .ref t ∧ h.get? t = none ∧ h'.get? t = some { cls := .type "tuple", data := .seq #[.int (a / b) u1, .int (a % b) u2] k }) := by
  unfold TSpec
  w_top off
  k_fill
  intro A Q E s g ps1 ps2 hh hdp hun X T g30 g37 hg TT _ hret
  refine enter (binds := [(Str.ofString "a", .int a t1), (Str.ofString "b", .int b t2)]) (by omega) (X.keeps hg) (T.nolimit.keeps hg) (by k_is) (by k_is) (BindsTo.of_eq rfl) (locs rfl) (by decide) rfl rfl rfl ?_
  intro L h₁ F
  obtain ⟨h₀, F1, N1, C1, hg0, hk0, hz0, l30, l37⟩ := set_aside F TT g30 g37 hg
  clear F
  have X1 := X.keeps hg0
  have T1 := T.keeps hg0
  have hn2 : Builtin.Int.intBits b ≤ 29 := intBits_le_iff.mpr (by omega)
  have hn1 : 1 ≤ Builtin.Int.intBits b := by
    rcases Nat.eq_zero_or_pos (Builtin.Int.intBits b) with h | h
    · have := intBits_le_iff.mp (Nat.le_of_eq h); omega
    · exact h
  have hbn := intBits_le_iff.mp (Nat.le_refl (Builtin.Int.intBits b))
  k_with_none
  k_with "mycall" => refine stop_ ?_
  k_with "myfor" => refine stop_ ?_
  k_with "myiter" => refine stop_ ?_
  k_steps
  unfold Stop
  (rename Fr _ _ _ _ => F9); (rename News _ _ _ _ => N9)
  refine' use_tspec (rest := []) (cs := []) (i2d_ (n := (Builtin.Int.intBits b : Int)) ha (by omega)) ?hh ?dp ?hu X1 T1 F9 N9 C1 all0 trivial ?_
  case hh => exact hh
  case dp => simp only [depth_deeper]; omega
  case hu => simp only [units_deeper]; omega
  rintro _ h2 tk2 ps1' ps2' cs' F8 N8 C8 _ kk ⟨D, ⟨its⟩, nE, ds, rfl, hD, eD, ID, hlen, hdig, hval⟩
  simp only [List.nil_append] at N8
  have N7 := news_one F9 N8 eD hD
  clear N8 F9 N9
  k_steps
  unfold Stop
  (rename Fr _ _ _ _ => F9); (rename News _ _ _ _ => N9)
  refine For_invVF F9 rfl rfl ?_
  k_steps
  unfold Stop
  rename_i lq _ hlq _ I _ F9' N9' hI
  have hcq : ∀ p ∈ cs', p.1 < lq := ktn_ltOf hlq.2.2.2
  have hnb : ((Builtin.Int.intBits b : Int)).toNat = Builtin.Int.intBits b := Int.toNat_natCast _
  rw [hnb] at hdig hval
  refine foRev (σ := Array Value × Nat × Int × Tok) (fun c => (lq, listOf c.1 c.2.1) :: (30, tabObj ps1') :: (37, tabObj ps2') :: cs') (fun c => [(Str.ofString "r", .int c.2.2.1 c.2.2.2), (Str.ofString "q_digits", .ref lq), (Str.ofString "b", .int b t2), (Str.ofString "n", .int (Builtin.Int.intBits b) _)])
    (fun i c => ∃ qs, IntsAre c.1.toList qs ∧ qs.length = i ∧ (∀ q ∈ qs, 0 ≤ q) ∧ 0 ≤ c.2.2.1 ∧ c.2.2.1 < b ∧ val (Builtin.Int.intBits b) (ds.reverse.take i).reverse = val (Builtin.Int.intBits b) qs.reverse * b + c.2.2.1)
    (#[], 0, 0, _) hh F9' N9' (.tail _ (.tail _ (.head _))) (.head _) (Nat.ne_of_lt hI.2.1) ID ?e1 ?e2 (all1 (.tail _ (.head _)) (all1 (.tail _ (.tail _ (.tail _ (.head _)))) (all1 (.tail _ (.tail _ (.tail _ (.tail _ (.head _))))) fun p hp => .tail _ (.tail _ (.tail _ (.tail _ (.tail _ hp))))))) (fun _ => rfl) (all1 rfl (all1 rfl (all1 rfl (all1 rfl all0)))) ⟨[], .nil, rfl, all0, Int.le_refl _, hb.1, by simp [val]⟩ ?_ ?_
  case e1 =>
    intro hm
    rcases List.mem_cons.mp hm with e | hm
    · exact Nat.ne_of_lt hlq.1 e
    rcases List.mem_cons.mp hm with e | hm
    · have h1 := (N9' _ (.tail _ (.tail _ (.head _)))).1
      have h2 := (N9' _ (.tail _ (.tail _ (.tail _ (.head _))))).1
      have e : D = 30 := e
      rw [e] at h1; rw [h1] at h2; cases h2
    rcases List.mem_cons.mp hm with e | hm
    · have h1 := (N9' _ (.tail _ (.tail _ (.head _)))).1
      have h2 := (N9' _ (.tail _ (.tail _ (.tail _ (.tail _ (.head _)))))).1
      have e : D = 37 := e
      rw [e] at h1; rw [h1] at h2; cases h2
    obtain ⟨q, hq, e⟩ := List.mem_map.mp hm
    exact code_ne (C8.c q hq) (N9' q (.tail _ (.tail _ (.tail _ (.tail _ (.tail _ hq)))))).1 (N9' _ (.tail _ (.tail _ (.head _)))).1 (fun _ h => nomatch h) e
  case e2 =>
    intro hm
    rcases List.mem_cons.mp hm with e | hm
    · exact Nat.ne_of_gt hI.1 e
    rcases List.mem_cons.mp hm with e | hm
    · exact Nat.ne_of_gt hI.2.2.1 e
    rcases List.mem_cons.mp hm with e | hm
    · exact Nat.ne_of_gt hI.2.2.2.1 e
    obtain ⟨q, hq, e⟩ := List.mem_map.mp hm
    exact Nat.ne_of_lt (ktn_ltOf hI.2.2.2.2 q hq) e
  · clear F9' N9'
    rintro i d t ⟨vsq, nq, r, tr⟩ u h tk9 own hi hoff ⟨qs, IQ, q1, q2, q3, q4, q5⟩ F N
    dsimp only at *
    simp only [List.cons_append] at N
    have hlq2 := hlq.2.1
    have hlq3 := hlq.2.2.1
    have hlt : i < ds.length := by have := (List.getElem?_eq_some_iff.mp hi).1; simpa using this
    have hd : 0 ≤ d ∧ d < 2 ^ Builtin.Int.intBits b := hdig d (by have := List.mem_of_getElem? hi; simpa using this)
    have hp29 : (2 : Int) ^ Builtin.Int.intBits b ≤ 2 ^ 29 := two_pow_le hn2
    have hp0 : (0 : Int) < 2 ^ Builtin.Int.intBits b := Int.pow_pos (by decide)
    have hm0 : 0 ≤ r * 2 ^ Builtin.Int.intBits b := Int.mul_nonneg q3 (Int.le_of_lt hp0)
    have hm1 : r * 2 ^ Builtin.Int.intBits b ≤ 2 ^ 29 * 2 ^ 29 := Int.mul_le_mul (by omega) hp29 (Int.le_of_lt hp0) (by decide)
    have hco : OwnOff (cs' ++ own) [lq] := by
      intro q hq b' hb'
      rw [List.mem_singleton.mp hb']
      rcases List.mem_append.mp hq with hq | hq
      · exact Nat.ne_of_lt (hcq q hq)
      · exact hoff q hq lq (.head _)
    generalize hz : cs' ++ own = rest9 at N hco
    k_steps
    unfold Stop
    (rename Fr _ _ _ _ => F9); (rename News _ _ _ _ => N9)
    simp only [hnb] at *
    have hlqh := (N9 _ (.head _)).1
    refine' use_spec (div21_ (a := r * 2 ^ Builtin.Int.intBits b + d) ⟨by omega, by omega⟩ ⟨hb.1, by omega⟩ (by omega)) ?hh ?dp ?hu X1 T1 F9 N9 trivial ?_
    case hh => exact hh
    case dp => simp only [depth_deeper]; omega
    case hu => simp only [units_deeper]; omega
    rintro _ h5 tk5 F8 N8 kk5 ⟨t9, u1, u2, rfl, ht9, et9⟩
    have N7 := news_one F9 N8 et9 ht9
    clear N8 F9 N9
    have ht30 : t9 ≠ lq := by
      intro q
      rw [q, hlqh] at ht9
      cases ht9
    k_steps
    (rename Fr _ _ _ _ => F6); (rename News _ _ _ _ => N6)
    refine fo_next (_, _, _, _) F6 N6 (all1 (.tail _ (.head _)) (all1 (.tail _ (.tail _ (.head _))) (all1 (.tail _ (.tail _ (.tail _ (.head _)))) fun q hq => .tail _ (.tail _ (.tail _ (.tail _ (hz ▸ List.mem_append_left _ hq))))))) (fun q hq => .tail _ (.tail _ (.tail _ (.tail _ (hz ▸ List.mem_append_right _ hq))))) (all1 rfl (all1 rfl (all1 rfl (all1 rfl all0)))) ⟨_, ints_push IQ, by simp [q1], ?_, Int.emod_nonneg _ (Int.ne_of_gt hb.1), Int.emod_lt_of_pos _ hb.1, ?_⟩
    · intro q hq
      rcases List.mem_append.mp hq with hq | hq
      · exact q2 q hq
      · rw [List.mem_singleton.mp hq]; exact Int.ediv_nonneg (by omega) (Int.le_of_lt hb.1)
    · rw [List.take_add_one, hi]
      simp only [Option.toList_some, List.reverse_append, List.reverse_cons, List.reverse_nil, List.nil_append, List.cons_append, val, q5]
      have e := Int.mul_ediv_add_emod (r * 2 ^ Builtin.Int.intBits b + d) b
      exact step_arith e
  · rintro ⟨vsq, nq, r, tr⟩ u h tk9 ⟨qs, IQ, q1, q2, q3, q4, q5⟩ F N
    dsimp only at *
    k_steps
    (rename Fr _ _ _ _ => F9); (rename News _ _ _ _ => N9)
    have hlq2 := hlq.2.1
    have hlq3 := hlq.2.2.1
    have hupd : ∀ p ∈ (30, tabObj ps1') :: (37, tabObj ps2') :: cs', p.1 ≠ lq := all1 (Nat.ne_of_lt hlq2) (all1 (Nat.ne_of_lt hlq3) fun q hq => Nat.ne_of_lt (hcq q hq))
    have hvl : vsq.toList.length ≤ 60 := by rw [IQ.length]; omega
    refine kl_reverse (its := vsq) F9 N9 rfl (Upd.head hupd) (by rw [sizeLine_eq]; omega) ?_
    clear F9 N9
    intro h5 F9 N9
    k_steps
    unfold Stop
    (rename Fr _ _ _ _ => F8); (rename News _ _ _ _ => N8)
    have hV0 : 0 ≤ val (Builtin.Int.intBits b) qs.reverse := val_nonneg fun q hq => q2 q (List.mem_reverse.mp hq)
    rw [← List.length_reverse (as := ds), List.take_length, List.reverse_reverse, hval] at q5
    have hV1 : val (Builtin.Int.intBits b) qs.reverse ≤ val (Builtin.Int.intBits b) qs.reverse * b := by
      have := Int.mul_le_mul_of_nonneg_left (show (1 : Int) ≤ b by omega) hV0
      rw [Int.mul_one] at this; exact this
    have hu9 := (Int.ediv_emod_unique hb.1 (a := a) (r := r) (q := val (Builtin.Int.intBits b) qs.reverse)).mpr ⟨by rw [Int.mul_comm]; omega, q3, q4⟩
    have N7' : News h₀ L _ ((30, tabObj ps1') :: (37, tabObj ps2') :: ([(lq, listOf vsq.toList.reverse.toArray nq)] ++ cs')) := all1 (N8 _ (.tail _ (.head _))) (all1 (N8 _ (.tail _ (.tail _ (.head _)))) (all1 (N8 _ (.head _)) fun q hq => N8 q (.tail _ (.tail _ (.tail _ hq)))))
    refine' use_tspec (d2i_ (n := (Builtin.Int.intBits b : Int)) (vs := vsq.toList.reverse) (xs := qs.reverse) (by omega) IQ.reverse (by simp; omega) (fun q hq => q2 q (List.mem_reverse.mp hq)) (by rw [hnb]; omega)) ?hh ?dp ?hu X1 T1 F8 N7' C8 ?hr ?hp ?_
    case hh => exact hh
    case dp => simp only [depth_deeper]; omega
    case hu => simp only [units_deeper]; omega
    case hr => exact all1 ⟨Nat.ne_of_gt hlq2, Nat.ne_of_gt hlq3, fun ⟨_, _, _, h, _⟩ => nomatch h⟩ all0
    case hp => exact news_list N8 (.head _)
    rintro _ h6 tk6 p1 p2 cs2 F7 N7 C7 _ kk6 ⟨t6, rfl⟩
    rw [hnb]
    clear F8 N8 N7'
    simp only [List.cons_append, List.nil_append] at N7
    k_steps
    (rename Fr _ _ _ _ => F6); (rename News _ _ _ _ => N6)
    rw [← hu9.1, ← hu9.2] at N6
    have hT := (N6 _ (.head _))
    have h30 := (N6 _ (.tail _ (.head _))).1
    have h37 := (N6 _ (.tail _ (.tail _ (.head _)))).1
    refine hret _ _ _ p1 p2 (fun b' o' h1 h2 e' => F6.keep b' o' (hk0 b' o' h1 h2 e')) (tabs_back F6 (fun q hq => N6 q (.tail _ hq)) (fun q hq => .tail _ hq) C7) (C7.d.kept hz0) (C7.e.kept hz0) ⟨_, _, _, _, rfl, hz0 _ hT.2.2 (fun q => ?_) (fun q => ?_), hT.1⟩
    · have h1 := hT.1; rw [q, h30] at h1; cases h1
    · have h1 := hT.1; rw [q, h37] at h1; cases h1
end Mine
-- B12
namespace Mine
set_option maxRecDepth 100000
set_option maxHeartbeats 4000000
local macro_rules | `(tactic| walk_at "call ref") => `(tactic| (k_extra "mycall"))
local macro_rules | `(tactic| walk_at "assign Tuple") => `(tactic| (k_here; k_dflt (refine' unpackN_ ?k1 ?k2 ?k3 ?k4 ?k5 ?k6 ?_; (case k1 => k_asm); (case k2 => k_asm); (case k3 => exact News.isTup (by k_asm) (by k_mem)); (case k4 => first | exact rfl | ((rename Around.handled _ = none => hh9); exact hh9)); (case k5 => first | exact rfl | ((rename Around.handled _ = none => hh9); exact hh9)); (case k6 => first | exact rfl | ((rename Around.handled _ = none => hh9); exact hh9)); k_whole); intro h' F' N'; (try k_sweep)))
variable {w : World} {p : Program} {loose : List Str} {mean : ExcName → Option Value} {mg mb : Str → Option Value}
set_option pp.deepTerms false
set_option pp.deepTerms.threshold 6
/-- the pair that int_divmod hands back -/
noncomputable def PairOut (a b : Int) (h h' : Heap) (r : Value) : Prop := ∃ t u1 u2 k, r = .ref t ∧ h.get? t = none ∧ h'.get? t = some { cls := .type "tuple", data := .seq #[.int (a / b) u1, .int (a % b) u2] k }
theorem idm_pos {a b : Int} {t1 t2 : Tok} (ha : 0 ≤ a ∧ a < 2 ^ 30) (hb : 0 < b ∧ b < 2 ^ 29) :
    TSpec w p loose mean mg mb 56 81 130 [.int a t1, .int b t2] (fun _ => True) (PairOut a b) := by
  unfold TSpec
  w_top off
  k_fill
  intro A Q E s g ps1 ps2 hh hdp hun X T g30 g37 hg TT _ hret
  refine enter (binds := [(Str.ofString "a", .int a t1), (Str.ofString "b", .int b t2)]) (by omega) (X.keeps hg) (T.nolimit.keeps hg) (by k_is) (by k_is) (BindsTo.of_eq rfl) (locs rfl) (by decide) rfl rfl rfl ?_
  intro L h₁ F
  obtain ⟨h₀, F1, N1, C1, hg0, hk0, hz0, l30, l37⟩ := set_aside F TT g30 g37 hg
  clear F
  have X1 := X.keeps hg0
  have T1 := T.keeps hg0
  have hb1 := hb.1
  have ha1 := ha.1
  k_with_none
  k_with "mycall" => refine stop_ ?_
  k_steps
  · exfalso; omega
  unfold Stop
  (rename Fr _ _ _ _ => F9); (rename News _ _ _ _ => N9)
  refine' use_tspec (rest := []) (cs := []) (dpos_ ha hb) ?hh ?dp ?hu X1 T1 F9 N9 C1 all0 trivial ?_
  case hh => exact hh
  case dp => simp only [depth_deeper]; omega
  case hu => simp only [units_deeper]; omega
  rintro _ h2 tk2 p1 p2 cs2 F8 N8 C8 _ kk ⟨t, u1, u2, k, rfl, ht, et⟩
  simp only [List.nil_append] at N8
  have N7 := news_one F9 N8 et ht
  clear F9 N9
  k_steps
  (rename Fr _ _ _ _ => F6); (rename News _ _ _ _ => N6)
  have hT := N6 _ (.head _)
  have h30 := (N6 _ (.tail _ (.head _))).1
  have h37 := (N6 _ (.tail _ (.tail _ (.head _)))).1
  refine hret _ _ _ p1 p2 (fun b' o' h1 h2 e' => F6.keep b' o' (hk0 b' o' h1 h2 e')) (tabs_back F6 (fun q hq => N6 q (.tail _ hq)) (fun q hq => hq) C8) (C8.d.kept hz0) (C8.e.kept hz0) ⟨_, _, _, _, rfl, hz0 _ hT.2.2 (fun q => ?_) (fun q => ?_), hT.1⟩
  · have h1 := hT.1; rw [q, h30] at h1; cases h1
  · have h1 := hT.1; rw [q, h37] at h1; cases h1
theorem neg_div {a b : Int} (ha : a < 0) (hb : 0 < b) : a / b = -(((-a - 1)) / b) - 1 ∧ a % b = b - ((-a - 1)) % b - 1 := by
  have e := Int.mul_ediv_add_emod (-a - 1) b
  have h0 := Int.emod_nonneg (-a - 1) (Int.ne_of_gt hb)
  have h1 := Int.emod_lt_of_pos (-a - 1) hb
  refine (Int.ediv_emod_unique hb).mpr ⟨?_, by omega, by omega⟩
  rw [Int.mul_sub, Int.mul_neg, Int.mul_one]
  omega
theorem idm_neg {a b : Int} {t1 t2 : Tok} (ha : a < 0 ∧ -(2 ^ 30) < a) (hb : 0 < b ∧ b < 2 ^ 29) :
    TSpec w p loose mean mg mb 56 82 140 [.int a t1, .int b t2] (fun _ => True) (PairOut a b) := by
  unfold TSpec
  k_fill
  intro A Q E s g ps1 ps2 hh hdp hun X T g30 g37 hg TT _ hret
  refine enter (binds := [(Str.ofString "a", .int a t1), (Str.ofString "b", .int b t2)]) (by omega) (X.keeps hg) (T.nolimit.keeps hg) (by k_is) (by k_is) (BindsTo.of_eq rfl) (locs rfl) (by decide) rfl rfl rfl ?_
  intro L h₁ F
  obtain ⟨h₀, F1, N1, C1, hg0, hk0, hz0, l30, l37⟩ := set_aside F TT g30 g37 hg
  clear F
  have X1 := X.keeps hg0
  have T1 := T.keeps hg0
  have hb1 := hb.1
  have ha1 := ha.1
  k_with_none
  k_with "mycall" => refine stop_ ?_
  k_steps
  · exfalso; omega
  unfold Stop
  (rename Fr _ _ _ _ => F9); (rename News _ _ _ _ => N9)
  refine' use_tspec (rest := []) (cs := []) (idm_pos (a := -a - 1) (b := b) ⟨by omega, by omega⟩ hb) ?hh ?dp ?hu X1 T1 F9 N9 C1 all0 trivial ?_
  case hh => exact hh
  case dp => simp only [depth_deeper]; omega
  case hu => simp only [units_deeper]; omega
  rintro _ h2 tk2 p1 p2 cs2 F8 N8 C8 _ kk ⟨t, u1, u2, k, rfl, ht, et⟩
  simp only [List.nil_append] at N8
  have N7 := news_one F9 N8 et ht
  clear F9 N9 N8
  k_steps
  (rename Fr _ _ _ _ => F6); (rename News _ _ _ _ => N6)
  have hT := N6 _ (.head _)
  have h30 := (N6 _ (.tail _ (.tail _ (.head _)))).1
  have h37 := (N6 _ (.tail _ (.tail _ (.tail _ (.head _))))).1
  have e1 := (neg_div ha1 hb1).1
  have e2 : a % b = b + (-((-a - 1) % b) - 1) := by have := (neg_div ha1 hb1).2; omega
  refine hret _ _ _ p1 p2 (fun b' o' h1 h2 e' => F6.keep b' o' (hk0 b' o' h1 h2 e')) (tabs_back F6 (fun q hq => N6 q (.tail _ (.tail _ hq))) (fun q hq => hq) C8) (C8.d.kept hz0) (C8.e.kept hz0) ?_
  unfold PairOut
  rw [e1, e2]
  refine ⟨_, _, _, _, rfl, hz0 _ hT.2.2 (fun q => ?_) (fun q => ?_), hT.1⟩
  · have h1 := hT.1; rw [q, h30] at h1; cases h1
  · have h1 := hT.1; rw [q, h37] at h1; cases h1
/-- int_divmod tells the quotient, rounded down, and the rest -/
theorem idm_ {a b : Int} {t1 t2 : Tok} (ha : -(2 ^ 30) < a ∧ a < 2 ^ 30) (hb : 0 < b ∧ b < 2 ^ 29) :
    TSpec w p loose mean mg mb 56 82 140 [.int a t1, .int b t2] (fun _ => True) (PairOut a b) := by
  by_cases h : 0 ≤ a
  · intro A Q E s g ps1 ps2 hh hdp hun
    exact idm_pos ⟨h, ha.2⟩ hb A Q E s g ps1 ps2 hh (by omega) (by omega)
  · exact idm_neg ⟨by omega, ha.1⟩ hb
end Mine
-- B13
namespace Mine
set_option maxRecDepth 100000
set_option maxHeartbeats 4000000
local macro_rules | `(tactic| walk_at "call ref") => `(tactic| (k_extra "mycall"))
local macro_rules | `(tactic| walk_at "exec While Compare cons nil") => `(tactic| (k_extra "mywhile"))
local macro_rules | `(tactic| walk_at "assign Tuple") => `(tactic| (k_here; k_dflt (refine' unpackN_ ?k1 ?k2 ?k3 ?k4 ?k5 ?k6 ?_; (case k1 => k_asm); (case k2 => k_asm); (case k3 => exact News.isTup (by k_asm) (by k_mem)); (case k4 => first | exact rfl | ((rename Around.handled _ = none => hh9); exact hh9)); (case k5 => first | exact rfl | ((rename Around.handled _ = none => hh9); exact hh9)); (case k6 => first | exact rfl | ((rename Around.handled _ = none => hh9); exact hh9)); k_whole); intro h' F' N'; (try k_sweep)))
local macro_rules | `(tactic| walk_at "subscriptTail Name UnaryOp ref int") => `(tactic| (k_here; with_unfolding_all refine' item_neg ?k1 ?k2 ?k3 ?k4 ?k5 ?_ ?k6; (case k1 => k_asm); (case k2 => k_mem); (case k3 => first | with_reducible assumption | exact ints_push (by with_reducible assumption)); (case k4 => ((try simp only [List.length_append, List.length_cons, List.length_nil]); omega)); (case k5 => decide); (case k6 => with_unfolding_all rfl); k_whole; intro t'; try dsimp only))
variable {w : World} {p : Program} {loose : List Str} {mean : ExcName → Option Value} {mg mb : Str → Option Value}
/-- Euclid's run; none where it would leave the small numbers -/
noncomputable def eucl : Nat → Int → Int → List Int → Option (List Int)
  | 0, _, _, _ => none
  | f + 1, small, great, row => if 0 < small then (if small < 1000 ∧ 0 ≤ great ∧ great < 1000 ∧ row.length < 50 then eucl f (great % small) small (row ++ [great / small]) else none) else some row
noncomputable def evened (row : List Int) : List Int := if row.length % 2 = 1 then row.set (row.length - 1) (row.getD (row.length - 1) 0 - 1) ++ [1] else row
section
variable {prog : Program} {A : Around} {E : Value → Shared → Prop} {s : Shared} {h₀ : Heap} {L l : Addr} {m : Str → Option Value} {rest : List (Addr × Obj)} {its : Array Value} {n : Nat} {xs : List Int} {t u : Tok} {x : Int} {Q : Unit → Shared → Prop}
/-- a store from the end of a list of the ledger's -/
theorem set_neg {j : Nat} (F : Fr h₀ L s.heap m) (N : News h₀ L s.heap ((l, listOf its n) :: rest)) (hne : ∀ p ∈ rest, p.1 ≠ l) (I : IntsAre its.toList xs) (hj : j < xs.length) (hjs : j < 1000)
    (h : ∀ h' its', Fr h₀ L h' m → News h₀ L h' ((l, listOf its' n) :: rest) → IntsAre its'.toList (xs.set (xs.length - (j + 1)) x) → Q () { s with heap := h' }) {k : Int} (hk : k = Int.negSucc j) :
    wpAny (model prog w) A (setItem (.ref l) (.int k t) (.int x u)) Q E s := by
  have hl := (N _ (.head _)).1
  have hL : s.heap.IsList l its := ⟨_, hl, rfl, n, rfl⟩
  have hsz : its.size = xs.length := by rw [← I.length]; simp
  have hidx : (Int.negSucc j + (its.size : Int)).toNat = xs.length - (j + 1) := by rw [hsz]; omega
  have hlt : xs.length - (j + 1) < its.size := by omega
  have hx : its[xs.length - (j + 1)]? = some its[xs.length - (j + 1)] := Array.getElem?_eq_getElem hlt
  have hu := news_upd (f := Obj.mapSeq (·.setIfInBounds (xs.length - (j + 1)) (.int x u))) (o' := listOf (its.setIfInBounds (xs.length - (j + 1)) (.int x u)) n) F (pre := []) N (fun _ h => nomatch h) hne (by simp [Obj.mapSeq]) rfl
  have hI : IntsAre (its.setIfInBounds (xs.length - (j + 1)) (.int x u)).toList (xs.set (xs.length - (j + 1)) x) := by
    rw [Array.toList_setIfInBounds]
    exact ints_set I _
  have hQ := h _ _ hu.1 hu.2 hI
  unfold setItem
  try with_reducible refine wpAny_holding ?_
  first | refine wpAny_bind (wpAny_pure ?_) | skip
  refine wpAny_bind (wpAny_sequenceKey hL.typeIs (by decide) ?_)
  refine wpAny_bind (wpAny_callSpecial?_slot (name := Str.ofString "__setitem__") hL.typeIs slot_list_setitem
    (wpAny_call_entry slot_list_setitem hL.typeIs entry_list_setitem ?_ (args_list_setitem _ _ _)))
  show wpAny _ _ (Builtin.List.listSubscript? (.int k t) >>= _) _ _ s
  refine wpAny_bind (wpAny_listSubscript_int (fitsIndex_neg (by omega) (by omega)) ?_)
  subst hk
  show wpAny _ _ ((Builtin.List.listItems (.ref l) >>= fun xs => pure ((seqIndex? (Int.negSucc j) xs.size).bind fun i => xs[i]?.map (i, ·))) >>= _) _ _ s
  refine wpAny_bind (wpAny_bind ?_)
  show wpAny _ _ (seqItems? (.ref l) >>= _) _ _ s
  refine wpAny_bind (wpAny_seqItems hl rfl (wpAny_pure (wpAny_pure ?_)))
  rw [seqIndex_neg (by omega) (by omega), hidx]
  simp only [Option.bind_some, hx, Option.map_some]
  show wpAny _ _ (setSeqItemAt l _ _ >>= _) _ _ s
  refine wpAny_bind (wpAny_setSeqItemAt hl rfl ?_)
  first
    | exact wpAny_bind (wpAny_pure (wpAny_pure ⟨.none, rfl, wpAny_pure hQ⟩))
    | exact wpAny_pure ⟨.none, rfl, wpAny_pure hQ⟩
end
set_option pp.deepTerms false
set_option pp.deepTerms.threshold 6
theorem quot_ {up lo : Int} {t1 t2 : Tok} {f9 : Nat} {row9 : List Int} (hr9 : eucl f9 up lo [] = some row9) :
    TSpec w p loose mean mg mb 88 83 150 [.int up t1, .int lo t2] (fun _ => True) (fun h h' r => ∃ D its nE, r = .ref D ∧ h.get? D = none ∧ h'.get? D = some (listOf its nE) ∧ IntsAre its.toList (evened row9)) := by
  unfold TSpec
  w_top off
  k_fill
  intro A Q E s g ps1 ps2 hh hdp hun X T g30 g37 hg TT _ hret
  refine enter (binds := [(Str.ofString "upper", .int up t1), (Str.ofString "lower", .int lo t2)]) (by omega) (X.keeps hg) (T.nolimit.keeps hg) (by k_is) (by k_is) (BindsTo.of_eq rfl) (locs rfl) (by decide) rfl rfl rfl ?_
  intro L h₁ F
  obtain ⟨h₀, F1, N1, C1, hg0, hk0, hz0, l30, l37⟩ := set_aside F TT g30 g37 hg
  clear F
  have X1 := X.keeps hg0
  have T1 := T.keeps hg0
  k_with_none
  k_with "mycall" => refine stop_ ?_
  k_with "mywhile" => refine stop_ ?_
  k_steps
  unfold Stop
  rename_i lr _ hlr _ _ _ F9 N9
  obtain ⟨hlr1, hlr2⟩ := hlr
  refine wh (σ := Array Value × Nat × Int × Tok × Int × Tok × Nat × Array Value × Array Value × List (Addr × Obj)) (fun c => (lr, listOf c.1 c.2.1) :: (30, tabObj c.2.2.2.2.2.2.2.1) :: (37, tabObj c.2.2.2.2.2.2.2.2.1) :: c.2.2.2.2.2.2.2.2.2)
    (fun c => [(Str.ofString "small", .int c.2.2.1 c.2.2.2.1), (Str.ofString "great", .int c.2.2.2.2.1 c.2.2.2.2.2.1), (Str.ofString "row", .ref lr)])
    (fun c => TabsL h₀ ps1 ps2 c.2.2.2.2.2.2.2.2.2 c.2.2.2.2.2.2.2.1 c.2.2.2.2.2.2.2.2.1 ∧ OwnOff c.2.2.2.2.2.2.2.2.2 [lr] ∧ ∃ row, IntsAre c.1.toList row ∧ eucl c.2.2.2.2.2.2.1 c.2.2.1 c.2.2.2.2.1 row = some row9 ∧ row.length ≤ 50) (fun c => c.2.2.2.2.2.2.1) (#[], 0, up, _, lo, _, f9, ps1, ps2, []) F9 N9 (fun _ h => h) (all1 rfl (all1 rfl (all1 rfl all0))) ⟨C1, fun _ h => (nomatch h), [], .nil, hr9, by decide⟩ ?_
  clear F9 N9
  rintro ⟨vsr, nr, small, ts, great, tg, f, p1, p2, cs⟩ u h tk9 ⟨CC, hoff, row, IR, he, hrl⟩ F N
  dsimp only at *
  k_steps
  · unfold Stop
    rename 0 < small => g1
    cases f with
    | zero => cases he
    | succ f =>
    simp only [eucl, if_pos g1] at he
    split at he
    case isFalse => cases he
    rename_i hb
    obtain ⟨b1, b2, b3, b4⟩ := hb
    (rename Fr _ _ _ _ => F9); (rename News _ _ _ _ => N9)
    have N8 : News h₀ L h ((30, tabObj p1) :: (37, tabObj p2) :: ([(lr, listOf vsr nr)] ++ cs)) := all1 (N9 _ (.tail _ (.head _))) (all1 (N9 _ (.tail _ (.tail _ (.head _)))) (all1 (N9 _ (.head _)) fun q hq => N9 q (.tail _ (.tail _ (.tail _ hq)))))
    refine' use_tspec (idm_ (a := great) (b := small) ⟨by omega, by omega⟩ ⟨g1, by omega⟩) ?hh ?dp ?hu X1 T1 F9 N8 CC ?hr trivial ?_
    case hh => exact hh
    case dp => simp only [depth_deeper]; omega
    case hu => simp only [units_deeper]; omega
    case hr => exact all1 ⟨Nat.ne_of_gt hlr1, Nat.ne_of_gt hlr2, fun ⟨_, _, _, h, _⟩ => nomatch h⟩ all0
    rintro _ h2 tk2 p1' p2' cs' F8 N8' C8 hoff' kk ⟨t, u1, u2, k, rfl, ht, et⟩
    have hnt : t ≠ lr := by
      intro q
      rw [q, (N9 _ (.head _)).1] at ht
      cases ht
    replace hnt := neN hnt
    have N7 := news_one F9 N8' et ht
    simp only [List.cons_append, List.nil_append] at N7
    simp only [List.map_cons, List.map_nil] at hoff'
    clear N8 N8' F9 N9
    k_steps
    (rename Fr _ _ _ _ => F6); (rename News _ _ _ _ => N6)
    exact wh_next (_, _, _, _, _, _, f, p1', p2', cs') F6 N6 (all1 (.tail _ (.tail _ (.tail _ (.head _)))) (all1 (.tail _ (.head _)) (all1 (.tail _ (.tail _ (.head _))) fun q hq => .tail _ (.tail _ (.tail _ (.tail _ hq)))))) (all1 rfl (all1 rfl (all1 rfl all0))) ⟨C8, hoff', _, ints_push IR, he, by simp; omega⟩ (Nat.lt_succ_self _)
  · rename ¬ 0 < small => g1
    rename _ = 1 => g2
    have hrow : row = row9 := by
      cases f with
      | zero => cases he
      | succ f => simp only [eucl, if_neg g1] at he; exact Option.some.inj he
    subst hrow
    have g3 : row.length % 2 = 1 := by rw [Int.fmod_eq_emod_of_nonneg _ (by decide)] at g2; omega
    (rename Fr _ _ _ _ => F9); (rename News _ _ _ _ => N9)
    have hidx : (-1 + (row.length : Int)).toNat = row.length - 1 := by omega
    with_unfolding_all refine set_neg (j := 0) F9 N9 (all1 (Nat.ne_of_lt hlr1) (all1 (Nat.ne_of_lt hlr2) fun q hq => hoff q hq lr (.head _))) IR (by omega) (by decide) ?_ rfl
    intro h5 vsr2 F8 N8 I8
    clear F9 N9
    rw [show row.length - (0 + 1) = row.length - 1 from rfl, hidx] at I8
    have hl2 : (row.set (row.length - 1) (row.getD (row.length - 1) 0 - 1)).length ≤ 50 := by rw [List.length_set]; exact hrl
    have hev : evened row = row.set (row.length - 1) (row.getD (row.length - 1) 0 - 1) ++ [1] := by rw [evened, if_pos g3]
    generalize row.set (row.length - 1) (row.getD (row.length - 1) 0 - 1) = row2 at I8 hl2 hev
    have hl3 : vsr2.size ≤ 50 := by have := I8.length; simp at this; omega
    k_steps
    (rename Fr _ _ _ _ => F6); (rename News _ _ _ _ => N6)
    refine hret _ _ _ p1 p2 (fun b' o' h1 h2 e' => F6.keep b' o' (hk0 b' o' h1 h2 e')) (tabs_back F6 (fun q hq => N6 q (.tail _ hq)) (fun q hq => hq) CC) (CC.d.kept hz0) (CC.e.kept hz0) ⟨lr, _, _, rfl, hz0 _ (N6 _ (.head _)).2.2 (Nat.ne_of_gt hlr1) (Nat.ne_of_gt hlr2), (N6 _ (.head _)).1, ?_⟩
    rw [hev]
    exact ints_push I8
  · rename ¬ 0 < small => g1
    rename _ ≠ 1 => g2
    have hrow : row = row9 := by
      cases f with
      | zero => cases he
      | succ f => simp only [eucl, if_neg g1] at he; exact Option.some.inj he
    subst hrow
    have g3 : ¬ row.length % 2 = 1 := by rw [Int.fmod_eq_emod_of_nonneg _ (by decide)] at g2; omega
    (rename Fr _ _ _ _ => F6); (rename News _ _ _ _ => N6)
    refine hret _ _ _ p1 p2 (fun b' o' h1 h2 e' => F6.keep b' o' (hk0 b' o' h1 h2 e')) (tabs_back F6 (fun q hq => N6 q (.tail _ hq)) (fun q hq => hq) CC) (CC.d.kept hz0) (CC.e.kept hz0) ⟨lr, vsr, nr, rfl, hz0 _ (N6 _ (.head _)).2.2 (Nat.ne_of_gt hlr1) (Nat.ne_of_gt hlr2), (N6 _ (.head _)).1, ?_⟩
    rw [evened, if_neg g3]
    exact IR
end Mine
-- Q1
namespace Mine
section
variable {prog : Program} {w : World} {A : Around} {E : Value → Shared → Prop} {s : Shared} {h₀ : Heap} {L l : Addr} {news : List (Addr × Obj)} {its : Array Value} {n : Nat} {xs : List Int} {u : Tok} {Q : Value → Shared → Prop} {value slice : Expr}
/-- an item of a list of the ledger's -/
theorem item_pos {j : Nat} (N : News h₀ L s.heap news) (hm : (l, listOf its n) ∈ news) (I : IntsAre its.toList xs) (h1 : j < xs.length) (hj : j < 1000) (h : ∀ t, Q (.int (xs.getD j 0) t) s)
    (hs : subscripted slice false (.ref l) (.int (j : Int) u) = operate [.ref l, .int (j : Int) u] (getItem (.ref l) (.int (j : Int) u))) :
    wpAny (model prog w) A (subscriptTail value slice (.ref l) (.int (j : Int) u)) Q E s := by
  have hl := news_list N hm
  have hsz : its.size = xs.length := by rw [← I.length]; simp
  obtain ⟨t, ht⟩ := ints_get I j h1
  refine tail_any hl.typeIs slot_list_getitem.lookup (wpAny_getItem_list hl (Int.natCast_nonneg j) (by omega) ?_ (h t)) hs
  rw [Int.toNat_natCast, ← Array.getElem?_toList]
  exact ht
theorem item_at {j : Nat} {k : Int} (hk : k = (j : Int)) (N : News h₀ L s.heap news) (hm : (l, listOf its n) ∈ news) (I : IntsAre its.toList xs) (h1 : j < xs.length) (hj : j < 1000) (h : ∀ t, Q (.int (xs.getD j 0) t) s)
    (hs : subscripted slice false (.ref l) (.int k u) = operate [.ref l, .int k u] (getItem (.ref l) (.int k u))) :
    wpAny (model prog w) A (subscriptTail value slice (.ref l) (.int k u)) Q E s := by
  subst hk
  exact item_pos N hm I h1 hj h hs
end
end Mine
-- R1
namespace Mine
section
/-- a replacing of a by b, on the signs' numbers -/
noncomputable def repL (a b : List Nat) : List Nat → Nat → List Nat
  | [], _ => []
  | _ :: r, k + 1 => repL a b r k
  | c :: r, 0 => if a.isPrefixOf (c :: r) then b ++ repL a b r (a.length - 1) else c :: repL a b r 0
noncomputable def occF (a : List Nat) : List Nat → Nat → Nat → List Nat
  | [], _, _ => []
  | c :: r, i, free => if free ≤ i ∧ a.isPrefixOf (c :: r) = true then i :: occF a r (i + 1) (i + a.length) else occF a r (i + 1) free
theorem pre_take {a l : List Nat} : a.isPrefixOf l = true ↔ l.take a.length = a := by
  rw [List.isPrefixOf_iff_prefix, List.prefix_iff_eq_take]
  exact ⟨fun h => h.symm, fun h => h.symm⟩
open StrLaws in
theorem occ_run {x a : List Nat} (ha : a ≠ []) : ∀ (rest : List Nat) (i free : Nat) (found : Array Nat), x.drop i = rest → i + rest.length = x.length → found.size ≤ i →
    (forIn (List.range' i (rest.length + 1)) (found, free) (occBody ⟨x.toArray⟩ ⟨a.toArray⟩ x.length (x.length + 1))).run.fst.toList = found.toList ++ occF a rest i free := by
  have hl : 0 < a.length := by cases a with | nil => exact absurd rfl ha | cons _ _ => simp
  have hsz : (Str.mk a.toArray).length = a.length := by simp [Str.length]
  intro rest
  induction rest with
  | nil =>
    intro i free found h1 h2 h3
    simp only [List.length_nil, Nat.zero_add, List.range'_one, List.forIn_cons, List.forIn_nil, occF, List.append_nil]
    unfold occBody
    rw [if_neg (by rw [hsz]; simp only [List.length_nil] at h2; omega)]
    rfl
  | cons c r ih =>
    intro i free found h1 h2 h3
    have hd : x.drop (i + 1) = r := by rw [← List.drop_drop, h1]; rfl
    simp only [List.length_cons] at h2
    have hS : Builtin.Str.subAt ⟨x.toArray⟩ ⟨a.toArray⟩ i = true ↔ a.isPrefixOf (c :: r) = true := by
      rw [StrLaws.subAt_eq, hsz, pre_take]
      show ((x.drop i).take a.length == a) = true ↔ _
      rw [h1, beq_iff_eq]
    have hfit : a.isPrefixOf (c :: r) = true → i + a.length ≤ x.length := by
      intro h
      have := (pre_take.mp h)
      have h4 : ((c :: r).take a.length).length = a.length := by rw [this]
      rw [List.length_take, List.length_cons] at h4
      omega
    rw [List.length_cons, List.range'_succ, List.forIn_cons]
    unfold occBody
    by_cases hc : free ≤ i ∧ a.isPrefixOf (c :: r) = true
    · rw [if_pos ⟨⟨⟨by dsimp only; omega, hc.1⟩, by rw [hsz]; exact hfit hc.2⟩, hS.mpr hc.2⟩]
      have := ih (i + 1) (i + a.length) (found.push i) hd (by omega) (by rw [Array.size_push]; omega)
      rw [occF, if_pos hc]
      rw [Array.toList_push, List.append_assoc] at this
      rw [hsz]
      exact this
    · rw [if_neg (fun h => hc ⟨h.1.1.2, hS.mp h.2⟩), occF, if_neg hc]
      exact ih (i + 1) free found hd (by omega) (by omega)
theorem occ_is {x a : List Nat} (ha : a ≠ []) : Builtin.Str.occurrences ⟨x.toArray⟩ ⟨a.toArray⟩ 0 x.length (x.length + 1) = occF a x 0 0 := by
  have := occ_run (x := x) ha x 0 0 #[] rfl (by simp) (by simp)
  rw [StrLaws.occ_eq]
  simpa using this
theorem glued2 {b p : Str} {q : Str} {r : List Str} : (Builtin.Str.glued b (p :: q :: r)).cps.toList = p.cps.toList ++ b.cps.toList ++ (Builtin.Str.glued b (q :: r)).cps.toList := by
  rw [StrLaws.glued_eq_join, StrLaws.glued_eq_join, Str.join]
  · simp [Str.cps_append]
  · intro h; cases h
theorem glued1 {b p : Str} : (Builtin.Str.glued b [p]).cps.toList = p.cps.toList := by
  rw [StrLaws.glued_eq_join, Str.join]
theorem rep_run {x a b : List Nat} (ha : a ≠ []) : ∀ (rest : List Nat) (i free p : Nat), x.drop i = rest → i + rest.length = x.length → (free ≤ i ∧ p ≤ i) ∨ p = free →
    (Builtin.Str.glued ⟨b.toArray⟩ (StrLaws.partsFrom ⟨x.toArray⟩ a.length p (occF a rest i free))).cps.toList = (x.drop p).take (i - p) ++ repL a b rest (free - i) := by
  have hl : 0 < a.length := by cases a with | nil => exact absurd rfl ha | cons _ _ => simp
  have hx : (Str.mk x.toArray).length = x.length := by simp [Str.length]
  intro rest
  induction rest with
  | nil =>
    intro i free p h1 h2 h3
    rw [occF, StrLaws.partsFrom, glued1, StrLaws.strSub_toList, hx, repL, List.append_nil]
    simp only [List.length_nil, Nat.add_zero] at h2
    rw [h2]
  | cons c r ih =>
    intro i free p h1 h2 h3
    have hd : x.drop (i + 1) = r := by rw [← List.drop_drop, h1]; rfl
    simp only [List.length_cons] at h2
    by_cases hf : free ≤ i
    · have hp : p ≤ i := by omega
      have e0 : free - i = 0 := by omega
      by_cases hc : a.isPrefixOf (c :: r) = true
      · rw [occF, if_pos ⟨hf, hc⟩, StrLaws.partsFrom, e0, repL, if_pos hc]
        obtain ⟨q, rr, e⟩ := StrLaws.partsFrom_ne ⟨x.toArray⟩ a.length (i + a.length) (occF a r (i + 1) (i + a.length))
        have := ih (i + 1) (i + a.length) (i + a.length) hd (by omega) (.inr rfl)
        rw [e] at this ⊢
        rw [glued2, this, StrLaws.strSub_toList, show i + 1 - (i + a.length) = 0 from by omega, show i + a.length - (i + 1) = a.length - 1 from by omega, List.take_zero, List.nil_append, List.append_assoc]
      · rw [occF, if_neg (fun h => hc h.2), e0, repL, if_neg hc, ih (i + 1) free p hd (by omega) (.inl ⟨by omega, by omega⟩), show free - (i + 1) = 0 from by omega, show i + 1 - p = (i - p) + 1 from by omega, List.take_add_one]
        have : (x.drop p)[i - p]? = some c := by
          rw [List.getElem?_drop, show p + (i - p) = i from by omega, ← Nat.add_zero i, ← List.getElem?_drop, h1]
          rfl
        rw [this]
        simp
    · have hp : p = free := by omega
      rw [occF, if_neg (fun h => hf h.1), ih (i + 1) free p hd (by omega) (.inr hp), show i + 1 - p = 0 from by omega, show i - p = 0 from by omega, show free - i = (free - (i + 1)) + 1 from by omega, repL]
noncomputable def sOf (l : List Nat) : Str := ⟨l.toArray⟩
theorem kind1 {a : List Nat} (h : a.all (· < 256) = true) : Builtin.Str.strKind (sOf a) = 1 := by
  unfold Builtin.Str.strKind
  rw [if_pos]
  show a.toArray.all _ = true
  simpa using h
theorem kind_ge (x : Str) : 1 ≤ Builtin.Str.strKind x := by
  unfold Builtin.Str.strKind
  split
  · exact Nat.le_refl _
  · split <;> decide
theorem repL_short {a b : List Nat} : ∀ x : List Nat, x.length < a.length → repL a b x 0 = x
  | [], _ => rfl
  | c :: r, h => by
    have : ¬ a.isPrefixOf (c :: r) = true := fun q => by
      have := (List.isPrefixOf_iff_prefix.mp q).length_le
      omega
    rw [repL, if_neg this, repL_short r (by simp at h; omega)]
theorem glued_parts {x a b : List Nat} (ha : a ≠ []) : (Builtin.Str.glued (sOf b) (Builtin.Str.partsBetween (sOf x) (Builtin.Str.occurrences (sOf x) (sOf a) 0 x.length (x.length + 1)) a.length)) = sOf (repL a b x 0) := by
  have h := rep_run (x := x) (b := b) ha x 0 0 0 rfl (by simp) (.inl ⟨Nat.le_refl _, Nat.le_refl _⟩)
  rw [← occ_is ha] at h
  apply Str.ext'
  apply Array.toList_inj.mp
  rw [StrLaws.partsBetween_eq]
  simpa [sOf] using h
theorem join_split {x a b : List Nat} (ha : a ≠ []) (hk : a.all (· < 256) = true) : Txt.join (sOf b) (Txt.split (sOf x) (sOf a)) = sOf (repL a b x 0) := by
  have hx : (sOf x).length = x.length := by simp [sOf, Str.length]
  have hA : (sOf a).length = a.length := by simp [sOf, Str.length]
  unfold Txt.join Txt.split
  rw [hx, hA, kind1 hk]
  have hk2 : decide (Builtin.Str.strKind (sOf x) < 1) = false := by have := kind_ge (sOf x); simp; omega
  rw [hk2, Bool.or_false]
  by_cases hs : x.length < a.length
  · rw [if_pos (by simpa using hs), repL_short x hs]
    apply Str.ext'
    apply Array.toList_inj.mp
    exact glued1
  · rw [if_neg (by simpa using hs)]
    by_cases ho : (Builtin.Str.occurrences (sOf x) (sOf a) 0 x.length (x.length + 1)).isEmpty = true
    · rw [if_pos ho]
      have := glued_parts (x := x) (b := b) ha
      rw [List.isEmpty_iff.mp ho] at this
      rw [← this]
      apply Str.ext'
      apply Array.toList_inj.mp
      rw [StrLaws.partsBetween_eq, StrLaws.partsFrom, glued1, glued1, StrLaws.strSub_toList, hx]
      simp [sOf]
    · rw [if_neg ho]
      exact glued_parts ha
theorem join_ok {x a b : List Nat} (hx : x.length ≤ 1000) (hb : b.length ≤ 1000) : JoinOk (sOf b) (Txt.split (sOf x) (sOf a)) = true := by
  have hxl : (sOf x).length = x.length := by simp [sOf, Str.length]
  have hbl : (sOf b).length = b.length := by simp [sOf, Str.length]
  have key : ∀ parts : List Str, (parts.map (·.length)).sum ≤ 1000 → parts.length ≤ 1002 → JoinOk (sOf b) parts = true := by
    intro parts h1 h2
    unfold JoinOk Builtin.Str.tooLong
    rw [StrLaws.joinTotal, hbl, sizeLine_eq]
    have h3 : parts.length * b.length ≤ 1002 * 1000 := Nat.mul_le_mul h2 hb
    simp
    omega
  have one : JoinOk (sOf b) [sOf x] = true := key _ (by simp [hxl]; exact hx) (by simp)
  unfold Txt.split
  split
  · exact one
  · split
    · exact one
    · have h1 := StrLaws.occ_length_le (sOf x) (sOf a) 0 (sOf x).length ((sOf x).length + 1)
      have h2 : (Builtin.Str.glued (sOf a) (Builtin.Str.partsBetween (sOf x) (Builtin.Str.occurrences (sOf x) (sOf a) 0 (sOf x).length ((sOf x).length + 1)) (sOf a).length)).length = (sOf x).length := by rw [StrLaws.glued_between_self]
      rw [size_glued] at h2
      refine key _ ?_ ?_
      · omega
      · rw [length_partsBetween]
        omega
/-- replace, on the signs' numbers -/
noncomputable def replL : List Nat → List (List Nat) → Option (List Nat)
  | x, a :: b :: r => if x.length ≤ 1000 ∧ a ≠ [] ∧ a.all (· < 256) = true ∧ b.length ≤ 1000 then replL (repL a b x 0) r else none
  | x, [] => some x
  | _, [_] => none
theorem replL_F : ∀ (n : Nat) (x : List Nat) (ss : List (List Nat)) (y : List Nat), ss.length ≤ n → replL x ss = some y → replF (sOf x) (ss.map sOf) = some (sOf y)
  | _, x, [], y, _, h => by
    rw [replL] at h
    cases h
    rfl
  | _, x, [_], y, _, h => by cases h
  | 0, x, a :: b :: r, y, hn, _ => by simp at hn
  | n + 1, x, a :: b :: r, y, hn, h => by
    rw [replL] at h
    split at h
    case isFalse => cases h
    rename_i hc
    obtain ⟨c1, c2, c3, c4⟩ := hc
    have hxl : (sOf x).length = x.length := by simp [sOf, Str.length]
    have hal : ((sOf a).length == 0) = false := by
      have : (sOf a).length = a.length := by simp [sOf, Str.length]
      rw [this]
      cases a with
      | nil => exact absurd rfl c2
      | cons _ _ => rfl
    rw [List.map_cons, List.map_cons, replF, if_pos ⟨by rw [hxl]; exact c1, hal, join_ok c1 c4⟩, join_split c2 c3]
    exact replL_F n _ r y (by simp at hn; omega) h
noncomputable def noughtsL (n : Int) : List Nat := List.replicate n.toNat 48 ++ [49]
theorem s0 : Str.ofString "0" = sOf [48] := by decide +kernel
theorem s1 : Str.ofString "1" = sOf [49] := by decide +kernel
theorem s2 : Str.ofString "2" = sOf [50] := by decide +kernel
theorem mul_run : ∀ (n : Nat) (acc : Array Nat), ((List.replicate n #[48]).foldl (· ++ ·) acc).toList = acc.toList ++ List.replicate n 48
  | 0, acc => by simp
  | n + 1, acc => by
    rw [List.replicate_succ, List.foldl_cons, mul_run n, Array.toList_append, List.append_assoc]
    rfl
theorem noughts_is (n : Int) : noughts n = sOf (noughtsL n) := by
  apply Str.ext'
  apply Array.toList_inj.mp
  show (Txt.mul (Str.ofString "0") n ++ Str.ofString "1").cps.toList = noughtsL n
  rw [Str.cps_append, Array.toList_append, s0, s1, noughtsL]
  refine congrArg (· ++ [49]) ?_
  unfold Txt.mul
  split
  · rw [show n.toNat = 0 from by omega]
    rfl
  · split
    · rename_i h1 h2
      have : n = 1 := by
        have hl : ((sOf [48]).length == 0) = false := rfl
        rw [hl, Bool.or_false] at h2
        exact beq_iff_eq.mp h2
      rw [this]
      rfl
    · exact mul_run _ #[]
noncomputable def sixTL (n : Int) : List (List Nat) := [[49], [50], [48], noughtsL n, [50], [48]]
noncomputable def sixBL (n : Int) : List (List Nat) := [noughtsL n, [50], [48], [49], [50], [48]]
theorem sixT_is (n : Int) : sixT n = (sixTL n).map sOf := by
  rw [sixT, s0, s1, s2, noughts_is]
  rfl
theorem sixB_is (n : Int) : sixB n = (sixBL n).map sOf := by
  rw [sixB, s0, s1, s2, noughts_is]
  rfl
theorem pairs_is {f : Int → List Str} {g : Int → List (List Nat)} (h : ∀ n, f n = (g n).map sOf) (l : List Int) : pairsOf f l = (l.flatMap g).map sOf := by
  induction l with
  | nil => rfl
  | cons n r ih =>
    rw [pairsOf, List.flatMap_cons, List.flatMap_cons, List.map_append, h]
    exact congrArg _ ih
theorem there_is {x y : List Nat} {l : List Int} (h : replL x (l.flatMap sixTL) = some y) : replF (sOf x) (pairsOf sixT l) = some (sOf y) := by
  rw [pairs_is sixT_is]
  exact replL_F _ _ _ _ (Nat.le_refl _) h
theorem back_is {x y : List Nat} {l : List Int} (h : replL x (l.flatMap sixBL) = some y) : replF (sOf x) (pairsOf sixB l) = some (sOf y) := by
  rw [pairs_is sixB_is]
  exact replL_F _ _ _ _ (Nat.le_refl _) h
end
end Mine
-- P1
namespace Mine
set_option maxRecDepth 100000
set_option maxHeartbeats 4000000
/-- what the law's run comes to at upper up and lower lo -/
noncomputable def stepsOf (ev : List Int) : List Int := (ev.getD 0 0 - 1) :: ev.drop 1
noncomputable def wordOf (up lo : Int) : Str × List Int × List Int := walkF up lo lo.toNat (Str.ofString "") [0] [up]
/-- the facts of one pair; nothing of the program in them -/
structure Facts (up lo : Int) (row los ups : List Int) (word : Str) (ones rests : List Int) (e : Nat) : Prop where
  euc : eucl 30 up lo [] = some row
  cnv : convF (evened row) [1] [0] 0 1 = some (los, ups)
  wk : wordOf up lo = (word, ones, rests)
  ev : 0 < (evened row).length ∧ (evened row).length < 30
  stp : ∀ n ∈ stepsOf (evened row), 0 ≤ n ∧ n ≤ 100
  there : replF (Str.ofString "0") (pairsOf sixT (stepsOf (evened row)).reverse) = some word
  back : replF word (pairsOf sixB (stepsOf (evened row))) = some (Str.ofString "0")
  last : los.getD (los.length - 1) 0 = word.length
  ln : 0 < los.length ∧ los.length < 100 ∧ ups.length < 100 ∧ 0 < ones.length ∧ ones.length < 100 ∧ rests.length = ones.length
  dm : ∀ k, k < ones.length → ones[k]? = some (up * ((k : Int) + 1) / lo) ∧ rests[k]? = some (up * ((k : Int) + 1) % lo)
  tk : ∀ k, k < ones.length → takenF los ups 30 (k : Int) 0 = ones[k]?
  en : ones.getD (ones.length - 1) 0 = (e : Int) ∧ e < 100
  bis : ∀ j, j < e → bisectL ones ((j : Int) + 1) = - ((- lo * ((j : Int) + 1)) / up) - 1
/-- continuations that take their number, list, worked out -/
noncomputable def fN (n : Nat) (k : Nat → Bool) : Bool := match n with | 0 => k 0 | m + 1 => k (m + 1)
theorem fN_is (n : Nat) (k : Nat → Bool) : fN n k = k n := by cases n <;> rfl
noncomputable def fI (v : Int) (k : Int → Bool) : Bool := match v with | .ofNat n => fN n fun m => k (.ofNat m) | .negSucc n => fN n fun m => k (.negSucc m)
theorem fI_is (v : Int) (k : Int → Bool) : fI v k = k v := by
  cases v with
  | ofNat n => exact fN_is n fun m => k (.ofNat m)
  | negSucc n => exact fN_is n fun m => k (.negSucc m)
noncomputable def fL {α : Type} (f : α → (α → Bool) → Bool) : List α → (List α → Bool) → Bool
  | [], k => k []
  | x :: r, k => f x fun x' => fL f r fun r' => k (x' :: r')
theorem fL_is {α : Type} {f : α → (α → Bool) → Bool} (hf : ∀ x k, f x k = k x) : ∀ (l : List α) (k : List α → Bool), fL f l k = k l
  | [], _ => rfl
  | x :: r, k => by rw [fL, hf, fL_is hf r]
noncomputable def takenC (los ups : List Int) : Nat → Int → Int → (Option Int → Bool) → Bool
  | 0, _, _, k => k none
  | f + 1, left, ones, k => if 0 < left then fI (bisectR los left - 1) fun j => if 0 ≤ j ∧ j < (los.length : Int) ∧ j < (ups.length : Int) then fI (left - los.getD j.toNat 0) fun left' => fI (ones + ups.getD j.toNat 0) fun ones' => takenC los ups f left' ones' k else k none else k (some ones)
theorem takenC_is {los ups : List Int} : ∀ (f : Nat) (left ones : Int) (k : Option Int → Bool), takenC los ups f left ones k = k (takenF los ups f left ones)
  | 0, _, _, _ => rfl
  | f + 1, left, ones, k => by
    simp only [takenC, takenF, fI_is, takenC_is f]
    split
    · split <;> rfl
    · rfl
noncomputable def walkC (up lo : Int) : Nat → Str → List Int → List Int → Int → Int → (Str × List Int × List Int → Bool) → Bool
  | 0, w, os, rs, _, _, k => k (w, os, rs)
  | f + 1, w, os, rs, o, r, k =>
    if lo ≤ r + up then fI (o + 1) fun o' => fI (r + up - lo) fun r' => if r' = up then k (w ++ sOf [49], os ++ [o'], rs ++ [r']) else walkC up lo f (w ++ sOf [49]) (os ++ [o']) (rs ++ [r']) o' r' k
    else fI (o + 0) fun o' => fI (r + up) fun r' => if r' = up then k (w ++ sOf [48], os ++ [o'], rs ++ [r']) else walkC up lo f (w ++ sOf [48]) (os ++ [o']) (rs ++ [r']) o' r' k
theorem walkC_is {up lo : Int} : ∀ (f : Nat) (w : Str) (os rs : List Int) (o r : Int) (k : Str × List Int × List Int → Bool), walkC up lo f w (os ++ [o]) (rs ++ [r]) o r k = k (walkF up lo f w (os ++ [o]) (rs ++ [r]))
  | 0, _, _, _, _, _, _ => rfl
  | f + 1, w, os, rs, o, r, k => by
    simp only [walkC, walkF, fI_is, walkC_is f, snoc_last, s0, s1]
    by_cases hc : lo ≤ r + up
    · simp only [if_pos hc]
      split <;> rfl
    · simp only [if_neg hc]
      split <;> rfl
theorem word_C {up lo : Int} (k : Str × List Int × List Int → Bool) : walkC up lo lo.toNat (sOf []) [0] [up] 0 up k = k (wordOf up lo) := by
  rw [wordOf, show Str.ofString "" = sOf [] from by decide +kernel]
  exact walkC_is lo.toNat (sOf []) [] [] 0 up k
noncomputable def chk2 (up lo : Int) (ev st los ups : List Int) (word : List Nat) (ones rests : List Int) (e : Nat) : Bool :=
  decide (0 < ev.length ∧ ev.length < 30) && st.all (fun n => decide (0 ≤ n ∧ n ≤ 100))
  && decide (replL [48] (st.reverse.flatMap sixTL) = some word)
  && decide (replL word (st.flatMap sixBL) = some [48])
  && decide (los.getD (los.length - 1) 0 = (word.length : Int))
  && decide (0 < los.length ∧ los.length < 100 ∧ ups.length < 100 ∧ 0 < ones.length ∧ ones.length < 100 ∧ rests.length = ones.length)
  && (List.range ones.length).all (fun k => decide (ones[k]? = some (up * ((k : Int) + 1) / lo) ∧ rests[k]? = some (up * ((k : Int) + 1) % lo)))
  && (List.range ones.length).all (fun k => takenC los ups 30 (k : Int) 0 fun r => decide (r = ones[k]?))
  && decide (ones.getD (ones.length - 1) 0 = (e : Int) ∧ e < 100)
  && (List.range e).all (fun j => decide (bisectL ones ((j : Int) + 1) = - ((- lo * ((j : Int) + 1)) / up) - 1))
noncomputable def chk1 (up lo : Int) (row los ups : List Int) (wd : Str × List Int × List Int) : Bool :=
  fL fI (evened row) fun ev => fL fI (stepsOf ev) fun st => fL fI los fun los => fL fI ups fun ups => fL fN wd.1.cps.toList fun word => fL fI wd.2.1 fun ones => fL fI wd.2.2 fun rests =>
    fN (ones.getD (ones.length - 1) 0).toNat fun e => chk2 up lo ev st los ups word ones rests e
noncomputable def chk (up lo : Int) : Bool :=
  match eucl 30 up lo [] with
  | none => false
  | some row =>
    match convF (evened row) [1] [0] 0 1 with
    | none => false
    | some c => walkC up lo lo.toNat (sOf []) [0] [up] 0 up (chk1 up lo row c.1 c.2)
theorem chk_facts {up lo : Int} (h : chk up lo = true) : ∃ row los ups word ones rests e, Facts up lo row los ups word ones rests e := by
  unfold chk at h
  split at h
  case h_1 => cases h
  rename_i row e1
  split at h
  case h_1 => cases h
  rename_i c e2
  rw [word_C] at h
  unfold chk1 at h
  simp only [fL_is fI_is, fL_is fN_is, fN_is] at h
  simp only [chk2, takenC_is, Bool.and_eq_true, decide_eq_true_eq, List.all_eq_true, List.mem_range] at h
  obtain ⟨⟨⟨⟨⟨⟨⟨⟨⟨h1, h2⟩, h3⟩, h4⟩, h5⟩, h6⟩, h7⟩, h8⟩, h9⟩, h10⟩ := h
  exact ⟨row, c.1, c.2, _, _, _, _, e1, e2, rfl, h1, h2, by rw [s0, there_is h3]; rfl, by rw [s0]; exact back_is h4, by rw [h5]; simp [Str.length, wordOf], h6, h7, h8, h9, h10⟩
noncomputable def chkAll (lo : Nat) : Bool := (List.range (lo - 1)).all fun b => chk ((b + 1 : Nat) : Int) (lo : Int)
theorem chk5 : chkAll 5 = true := by decide +kernel
theorem chk6 : chkAll 6 = true := by decide +kernel
theorem chk7 : chkAll 7 = true := by decide +kernel
theorem chk8 : chkAll 8 = true := by decide +kernel
theorem chk9 : chkAll 9 = true := by decide +kernel
theorem chk10 : chkAll 10 = true := by decide +kernel
theorem chk11 : chkAll 11 = true := by decide +kernel
theorem chk12 : chkAll 12 = true := by decide +kernel
theorem chk13 : chkAll 13 = true := by decide +kernel
theorem chk14 : chkAll 14 = true := by decide +kernel
theorem chk15 : chkAll 15 = true := by decide +kernel
theorem chk16 : chkAll 16 = true := by decide +kernel
theorem chk17 : chkAll 17 = true := by decide +kernel
theorem chk18 : chkAll 18 = true := by decide +kernel
theorem chk19 : chkAll 19 = true := by decide +kernel
theorem chk20 : chkAll 20 = true := by decide +kernel
theorem chk_at {up lo : Int} (h1 : 5 ≤ lo) (h2 : lo ≤ 20) (h3 : 1 ≤ up) (h4 : up ≤ lo - 1) : chk up lo = true := by
  have one : ∀ n : Nat, lo = (n : Int) → chkAll n = true → chk up lo = true := by
    intro n e h
    rw [chkAll, List.all_eq_true] at h
    have := h (up.toNat - 1) (List.mem_range.mpr (by omega))
    rw [show ((up.toNat - 1 + 1 : Nat) : Int) = up from by omega, ← e] at this
    exact this
  have hc : lo = 5 ∨ lo = 6 ∨ lo = 7 ∨ lo = 8 ∨ lo = 9 ∨ lo = 10 ∨ lo = 11 ∨ lo = 12 ∨ lo = 13 ∨ lo = 14 ∨ lo = 15 ∨ lo = 16 ∨ lo = 17 ∨ lo = 18 ∨ lo = 19 ∨ lo = 20 := by omega
  rcases hc with e | e | e | e | e | e | e | e | e | e | e | e | e | e | e | e
  · exact one 5 e chk5
  · exact one 6 e chk6
  · exact one 7 e chk7
  · exact one 8 e chk8
  · exact one 9 e chk9
  · exact one 10 e chk10
  · exact one 11 e chk11
  · exact one 12 e chk12
  · exact one 13 e chk13
  · exact one 14 e chk14
  · exact one 15 e chk15
  · exact one 16 e chk16
  · exact one 17 e chk17
  · exact one 18 e chk18
  · exact one 19 e chk19
  · exact one 20 e chk20
theorem facts_at {up lo : Int} (h1 : 5 ≤ lo) (h2 : lo ≤ 20) (h3 : 1 ≤ up) (h4 : up ≤ lo - 1) : ∃ row los ups word ones rests e, Facts up lo row los ups word ones rests e := chk_facts (chk_at h1 h2 h3 h4)
end Mine
-- C1
namespace Mine
set_option maxRecDepth 100000
set_option maxHeartbeats 4000000
/-- the codes of tables behind a call: those that stood, and new ones -/
theorem tabCodes2 {h₀ h h' : Heap} {L : Addr} {m : Str → Option Value} {o1 o2 ps1 ps2 p1 p2 : Array Value} {cs : List (Addr × Obj)} (F' : Fr h₀ L h' m) (C : TabsL h₀ o1 o2 cs ps1 ps2) (T : Tabs h' p1 p2) (k1 : Kept h ps1 p1) (k2 : Kept h ps2 p2)
    (hk : ∀ b o, h₀.get? b = some o → h.get? b = some o) (hL : ∃ o, h.get? L = some o) : ∃ nw, News h₀ L h' nw ∧ (∀ p ∈ nw, h.get? p.1 = none) ∧ (∀ p ∈ nw, CodeLike p.2) ∧ TabL h₀ (cs ++ nw) q1 ⟨32, 4, 0, 0⟩ p1 ∧ TabL h₀ (cs ++ nw) q2 ⟨47, 4, 0, 0⟩ p2 := by
  have one : ∀ {qual : Str} {pos : Pos} {ps ps' : Array Value}, TabL h₀ cs qual pos ps → TabSt h' qual pos ps' → Kept h ps ps' → ∃ nw, News h₀ L h' nw ∧ (∀ p ∈ nw, h.get? p.1 = none) ∧ (∀ p ∈ nw, CodeLike p.2) ∧ TabL h₀ (cs ++ nw) qual pos ps' := by
    intro qual pos ps ps' x y k
    rcases k with rfl | ⟨c', e, hn⟩
    · refine ⟨[], News.nil, all0, all0, ?_⟩
      rw [List.append_nil]
      exact x
    · rcases y with h1 | ⟨c2, oc, vs, t, h1, h2, h3, h4⟩
      · rw [h1] at e; cases e
      · rw [h1] at e
        cases e
        refine ⟨[(c', oc)], all1 ⟨h2, fun q => ?_, ?_⟩ all0, all1 hn all0, all1 ⟨vs, qual, t, h3, h4⟩ all0, .inr ⟨c', oc, vs, t, h1, .inl (List.mem_append_right _ (.head _)), h3, h4⟩⟩
        · obtain ⟨o, ho⟩ := hL
          have q' : c' = L := q
          rw [q', ho] at hn
          cases hn
        · cases q : h₀.get? c' with
          | none => rfl
          | some o => rw [hk _ _ q] at hn; cases hn
  obtain ⟨n1, a1, b1, c1, d1⟩ := one C.a T.2.2.1 k1
  obtain ⟨n2, a2, b2, c2, d2⟩ := one C.b T.2.2.2 k2
  have mono : ∀ {x y : List (Addr × Obj)} {qual : Str} {pos : Pos} {ps : Array Value}, TabL h₀ x qual pos ps → (∀ p ∈ x, p ∈ y) → TabL h₀ y qual pos ps := fun x k => x.imp id fun ⟨c', oc, vs, t, e, e1, r⟩ => ⟨c', oc, vs, t, e, e1.imp (k _) id, r⟩
  refine ⟨n1 ++ n2, fun p hp => (List.mem_append.mp hp).elim (a1 p) (a2 p), fun p hp => (List.mem_append.mp hp).elim (b1 p) (b2 p), fun p hp => (List.mem_append.mp hp).elim (c1 p) (c2 p), mono d1 fun p hp => ?_, mono d2 fun p hp => ?_⟩
  · rcases List.mem_append.mp hp with hp | hp
    · exact List.mem_append_left _ hp
    · exact List.mem_append_right _ (List.mem_append_left _ hp)
  · rcases List.mem_append.mp hp with hp | hp
    · exact List.mem_append_left _ hp
    · exact List.mem_append_right _ (List.mem_append_right _ hp)
/-- a contract that may fill the tables, at a call whose ledger's objects may be of any kind -/
theorem use_tspec2 {w : World} {p : Program} {loose : List Str} {mean : ExcName → Option Value} {mg mb : Str → Option Value} {f : Addr} {dN uN : Nat} {args : List Value} {Pre : Heap → Prop} {Out : Heap → Heap → Value → Prop}
    {A : Around} {Q E : Value → Shared → Prop} {s : Shared} {h₀ : Heap} {L : Addr} {m : Str → Option Value} {rest cs : List (Addr × Obj)} {o1 o2 ps1 ps2 : Array Value}
    (S : TSpec w p loose mean mg mb f dN uN args Pre Out) (hh : A.handled = none) (hdp : A.depth + dN < recursionLimit) (hu : A.units + uN < cLine)
    (X : (hd.heap_39 w.params).In h₀) (T : Top p loose mean mg mb h₀) (F : Fr h₀ L s.heap m) (N : News h₀ L s.heap ((30, tabObj ps1) :: (37, tabObj ps2) :: (rest ++ cs))) (C : TabsL h₀ o1 o2 cs ps1 ps2)
    (hr : ∀ p ∈ rest, (@Ne Nat p.1 30) ∧ (@Ne Nat p.1 37)) (hpre : Pre s.heap)
    (h : ∀ r h' tk' ps1' ps2' nw, Fr h₀ L h' m → News h₀ L h' ((30, tabObj ps1') :: (37, tabObj ps2') :: (rest ++ (cs ++ nw))) → TabsL h₀ o1 o2 (cs ++ nw) ps1' ps2' → (∀ p ∈ nw, s.heap.get? p.1 = none) → (∀ p ∈ nw, CodeLike p.2) →
      (∀ b o, b ≠ 30 → b ≠ 37 → s.heap.get? b = some o → h'.get? b = some o) → Out s.heap h' r → Q r { s with heap := h', toks := tk' }) :
    wpAny (model PySem.Challenge.rw_pe0176_01.row.prog w) A (call (.ref f) args) Q E s := by
  have e30 := N _ (.head _)
  have e37 := N _ (.tail _ (.head _))
  have kc : ∀ p ∈ cs, s.heap.get? p.1 = some p.2 := fun p hp => (N p (.tail _ (.tail _ (List.mem_append_right _ hp)))).1
  refine S A Q E s h₀ ps1 ps2 hh hdp hu X T e30.2.2 e37.2.2 F.keep ⟨e30.1, e37.1, C.a.st F.keep kc, C.b.st F.keep kc⟩ hpre fun r h' tk' ps1' ps2' kk T' k1 k2 o => ?_
  have F' : Fr h₀ L h' m := ⟨let ⟨o, es, ep, e, r⟩ := F.ns; ⟨o, es, ep, kk _ _ (Ne.symm e30.2.1) (Ne.symm e37.2.1) e, r⟩, fun b o e => kk b o (fun q => by rw [q, e30.2.2] at e; cases e) (fun q => by rw [q, e37.2.2] at e; cases e) (F.keep b o e), F.above⟩
  obtain ⟨nw, NW, nf, nc, ta, tb⟩ := tabCodes2 F' C T' k1 k2 F.keep (let ⟨o, _, _, e, _⟩ := F.ns; ⟨o, e⟩)
  have NR : ∀ p ∈ rest, h'.get? p.1 = some p.2 ∧ p.1 ≠ L ∧ h₀.get? p.1 = none := fun p hp => by
    have z := N p (.tail _ (.tail _ (List.mem_append_left _ hp)))
    exact ⟨kk _ _ (hr p hp).1 (hr p hp).2 z.1, z.2⟩
  have NC : ∀ p ∈ cs, h'.get? p.1 = some p.2 ∧ p.1 ≠ L ∧ h₀.get? p.1 = none := fun p hp => by
    have z := N p (.tail _ (.tail _ (List.mem_append_right _ hp)))
    have nt : ∀ (b : Addr) (vs : Array Value), s.heap.get? b = some (tabObj vs) → (vs[1]? = none ∨ ∃ k, vs[1]? = some (rawInt k)) → p.1 ≠ b := by
      intro b vs hb hv q
      rw [← q, z.1] at hb
      obtain ⟨us, qn, tn, u1, u2⟩ := C.c p hp
      rw [Option.some.inj hb] at u1
      cases u1
      rcases hv with hv | ⟨k, hv⟩ <;> (rw [hv] at u2; cases u2)
    have tv : ∀ {qual : Str} {pos : Pos} {ps : Array Value}, TabL h₀ cs qual pos ps → (ps[1]? = none ∨ ∃ k, ps[1]? = some (rawInt k)) := by
      rintro qual pos ps (h | ⟨c', oc, vs, t, h, _⟩)
      · rw [h]; exact .inl rfl
      · rw [h]; exact .inr ⟨_, rfl⟩
    exact ⟨kk _ _ (nt 30 ps1 e30.1 (tv C.a)) (nt 37 ps2 e37.1 (tv C.b)) z.1, z.2⟩
  refine h r h' tk' ps1' ps2' nw F' (all1 ⟨T'.1, e30.2⟩ (all1 ⟨T'.2.1, e37.2⟩ fun p hp => (List.mem_append.mp hp).elim (NR p) fun hp => (List.mem_append.mp hp).elim (NC p) (NW p))) ⟨ta, tb, fun p hp => (List.mem_append.mp hp).elim (C.c p) (nc p), C.d.step k1 F.keep e30.1 e37.1, C.e.step k2 F.keep e30.1 e37.1⟩ nf nc kk o
section
variable {prog : Program} {w : World} {A : Around} {h₀ : Heap} {L : Addr} {m : Str → Option Value} {env : Env} {elt : Expr} {x : Str} {scope : Scope} {cl : List (Str × Addr)} {s : Shared} {S : List (Addr × Obj) → Prop} {Fin : List Value → List (Addr × Obj) → Prop}
/-- a comprehension over a range by ones, its state told by c -/
theorem comp_inv {σ : Type} {n : Nat} {a : Int} (Led : σ → List (Addr × Obj)) (P : Nat → List Value → σ → Prop) (c₀ : σ) (h0 : P 0 [] c₀)
    (turn : ∀ (i : Nat) (k : Int) t I oI C oC D m₂ ys h tk (c : σ) (E' : Value → Shared → Prop), i < n → k = a + (i : Int) → P i ys c → LCg.NsObj oC m₂ → m₂ x = some (.int k t) → Fr h₀ L h m → News h₀ L h ((I, oI) :: (C, oC) :: (D, LCg.lst ys) :: Led c) → LCg.Off3 I C D (Led c) → ((@Ne Nat I C) ∧ (@Ne Nat I D) ∧ (@Ne Nat C D)) →
      wpAny (model prog w) A (eval elt (compEnvC scope cl C env)) (LCg.CompEnd h₀ L m { s with heap := h, toks := tk } I oI C oC D (LCg.lst ys) S (fun y news' => ∃ c', news' = Led c' ∧ P (i + 1) (ys ++ [y]) c')) E' { s with heap := h, toks := tk })
    (fin : ∀ ys c, P n ys c → Fin ys (Led c)) : LCg.CompRest prog w A h₀ L m env elt x scope cl s S (fun i v => ∃ t, v = .int (a + (i : Int)) t) Fin n 0 [] (Led c₀) := by
  have key : ∀ (j i : Nat) (ys : List Value) (c : σ), i + j = n → P i ys c → LCg.CompRest prog w A h₀ L m env elt x scope cl s S (fun i v => ∃ t, v = .int (a + (i : Int)) t) Fin j i ys (Led c) := by
    intro j
    induction j with
    | zero =>
      intro i ys c hi hp
      have e : i = n := by omega
      subst e
      exact LCg.CompRest.zero (fin ys c hp)
    | succ j ih =>
      intro i ys c hi hp
      refine LCg.CompRest.succ ?_
      rintro v I oI C oC D m₂ h tk E' ⟨t, rfl⟩ hC hx F N off ne
      refine wpAny_mono (turn i _ t I oI C oC D m₂ ys h tk c E' (by omega) rfl hp hC hx F N off ne) (fun y s₂ hq => ?_) fun _ _ e => e
      obtain ⟨h', tk', nw, e, F', N', off', hS, c', hn, hp'⟩ := hq
      subst hn
      exact ⟨h', tk', Led c', e, F', N', off', hS, ih (i + 1) _ c' (by omega) hp'⟩
  exact key n 0 [] c₀ (by omega) h0
end

/-- the ledger of a comprehension whose turns call int_divmod -/
noncomputable def ledP (fixed : List (Addr × Obj)) (c : Array Value × Array Value × List (Addr × Obj) × List (Addr × Obj)) : List (Addr × Obj) := fixed ++ ((30, tabObj c.1) :: (37, tabObj c.2.1) :: (c.2.2.2 ++ c.2.2.1))
noncomputable def PairP (h₀ : Heap) (o1 o2 : Array Value) (g : Nat → Dat) (i : Nat) (ys : List Value) (c : Array Value × Array Value × List (Addr × Obj) × List (Addr × Obj)) : Prop :=
  TabsL h₀ o1 o2 c.2.2.1 c.1 c.2.1 ∧ DatAll c.2.2.2 ys ((List.range i).map g) ∧ ∀ p ∈ c.2.2.2, (@Ne Nat p.1 30) ∧ (@Ne Nat p.1 37)
noncomputable def pairD (a b : Int) : Dat := .tuple [.int (a / b), .int (a % b)]
theorem dat_snoc {news news' : List (Addr × Obj)} {vs : List Value} {ds : List Dat} {v : Value} {d : Dat} (h : DatAll news vs ds) (hs : ∀ p ∈ news, p ∈ news') (hv : DatIn news' v d) : DatAll news' (vs ++ [v]) (ds ++ [d]) := by
  induction vs generalizing ds with
  | nil => cases h; exact .cons hv .nil
  | cons x xs ih =>
    cases h with
    | cons h1 h2 => exact .cons (h1.mono hs) (ih h2)
theorem idm_reorder {h₀ h : Heap} {L : Addr} {a b c x y : Addr × Obj} {fixed ex cs : List (Addr × Obj)} (N : News h₀ L h (a :: b :: c :: (fixed ++ (x :: y :: (ex ++ cs))))) : News h₀ L h (x :: y :: ((a :: b :: c :: (fixed ++ ex)) ++ cs)) := by
  intro q hq
  refine N q ?_
  simp only [List.mem_cons, List.mem_append] at hq ⊢
  rcases hq with h | h | ((h | h | h | h | h) | h) <;> simp [h]
/-- a call of int_divmod within a comprehension's turn -/
theorem idm_turn {w : World} {p : Program} {loose : List Str} {mean : ExcName → Option Value} {mg mb : Str → Option Value} {A : Around} {Q E : Value → Shared → Prop} {s : Shared} {h₀ : Heap} {L I C D : Addr} {oI oC oD : Obj} {m : Str → Option Value}
    {fixed : List (Addr × Obj)} {o1 o2 : Array Value} {c : Array Value × Array Value × List (Addr × Obj) × List (Addr × Obj)} {a b : Int} {ta tb : Tok}
    (X : (hd.heap_39 w.params).In h₀) (T : Top p loose mean mg mb h₀) (hh : A.handled = none) (hdp : A.depth + 82 < recursionLimit) (hu : A.units + 140 < cLine) (ha : -(2 ^ 30) < a ∧ a < 2 ^ 30) (hb : 0 < b ∧ b < 2 ^ 29)
    (F : Fr h₀ L s.heap m) (N : News h₀ L s.heap ((I, oI) :: (C, oC) :: (D, oD) :: ledP fixed c)) (off : LCg.Off3 I C D (ledP fixed c)) (hf : ∀ p ∈ fixed, (@Ne Nat p.1 30) ∧ (@Ne Nat p.1 37))
    (CT : TabsL h₀ o1 o2 c.2.2.1 c.1 c.2.1) (hx : ∀ p ∈ c.2.2.2, (@Ne Nat p.1 30) ∧ (@Ne Nat p.1 37))
    (h : ∀ t u1 u2 k h' tk' p1 p2 nw, Fr h₀ L h' m → (∀ tup, tup = (⟨.type "tuple", none, .seq #[.int (a / b) u1, .int (a % b) u2] k, #[]⟩ : Obj) → News h₀ L h' ((I, oI) :: (C, oC) :: (D, oD) :: ledP fixed (p1, p2, c.2.2.1 ++ nw, (t, tup) :: c.2.2.2)) ∧ LCg.Off3 I C D (ledP fixed (p1, p2, c.2.2.1 ++ nw, (t, tup) :: c.2.2.2))) →
      TabsL h₀ o1 o2 (c.2.2.1 ++ nw) p1 p2 → t ≠ 30 → t ≠ 37 → Q (.ref t) { s with heap := h', toks := tk' }) :
    wpAny (model PySem.Challenge.rw_pe0176_01.row.prog w) A (call (.ref 56) [.int a ta, .int b tb]) Q E s := by
  have offm := off.mem
  have hI30 := offm (30, tabObj c.1) (List.mem_append_right _ (.head _))
  have hI37 := offm (37, tabObj c.2.1) (List.mem_append_right _ (.tail _ (.head _)))
  have hr : ∀ p ∈ (I, oI) :: (C, oC) :: (D, oD) :: (fixed ++ c.2.2.2), (@Ne Nat p.1 30) ∧ (@Ne Nat p.1 37) :=
    all1 ⟨Ne.symm hI30.1, Ne.symm hI37.1⟩ (all1 ⟨Ne.symm hI30.2.1, Ne.symm hI37.2.1⟩ (all1 ⟨Ne.symm hI30.2.2, Ne.symm hI37.2.2⟩ fun p hp => (List.mem_append.mp hp).elim (hf p) (hx p)))
  have N2 := idm_reorder N
  refine use_tspec2 (idm_ ha hb) hh hdp hu X T F N2 CT hr trivial ?_
  rintro _ h' tk' p1 p2 nw F' N' CT' nf nc kk ⟨t, u1, u2, k, rfl, ht, et⟩
  have hs30 := (N2 _ (.head _)).1
  have hs37 := (N2 _ (.tail _ (.head _))).1
  have ht30 : t ≠ 30 := fun q => by rw [q, hs30] at ht; cases ht
  have ht37 : t ≠ 37 := fun q => by rw [q, hs37] at ht; cases ht
  have N1 := news_one F N' et ht
  refine h t u1 u2 k h' tk' p1 p2 nw F' ?_ CT' ht30 ht37
  rintro tup rfl
  refine ⟨fun q hq => N1 q ?_, LCg.Off3.of fun q hq => ?_⟩
  · simp only [ledP, List.mem_cons, List.mem_append] at hq ⊢
    rcases hq with h | h | h | h | h | h | (h | h) | (h | h) <;> simp [h]
  · have old : ∀ p : Addr × Obj, s.heap.get? p.1 = none → p.1 ≠ I ∧ p.1 ≠ C ∧ p.1 ≠ D := by
      intro p hp
      refine ⟨fun e => ?_, fun e => ?_, fun e => ?_⟩
      · have := (N _ (.head _)).1; rw [← e, hp] at this; cases this
      · have := (N _ (.tail _ (.head _))).1; rw [← e, hp] at this; cases this
      · have := (N _ (.tail _ (.tail _ (.head _)))).1; rw [← e, hp] at this; cases this
    simp only [ledP, List.mem_cons, List.mem_append] at hq
    rcases hq with h | h | h | (h | h) | (h | h)
    · exact offm q (List.mem_append_left _ h)
    · subst h; exact hI30
    · subst h; exact hI37
    · subst h; exact old _ ht
    · exact offm q (List.mem_append_right _ (.tail _ (.tail _ (List.mem_append_left _ h))))
    · exact offm q (List.mem_append_right _ (.tail _ (.tail _ (List.mem_append_right _ h))))
    · exact old _ (nf q h)
/-- the same, its pair kept -/
theorem pair_turn {w : World} {p : Program} {loose : List Str} {mean : ExcName → Option Value} {mg mb : Str → Option Value} {A : Around} {E : Value → Shared → Prop} {s s₁ : Shared} {h₀ : Heap} {L I C D : Addr} {oI oC : Obj} {m : Str → Option Value}
    {fixed : List (Addr × Obj)} {o1 o2 : Array Value} {c : Array Value × Array Value × List (Addr × Obj) × List (Addr × Obj)} {a b : Int} {ta tb : Tok} {g : Nat → Dat} {i : Nat} {ys : List Value}
    (X : (hd.heap_39 w.params).In h₀) (T : Top p loose mean mg mb h₀) (hh : A.handled = none) (hdp : A.depth + 82 < recursionLimit) (hu : A.units + 140 < cLine) (ha : -(2 ^ 30) < a ∧ a < 2 ^ 30) (hb : 0 < b ∧ b < 2 ^ 29)
    (F : Fr h₀ L s.heap m) (N : News h₀ L s.heap ((I, oI) :: (C, oC) :: (D, LCg.lst ys) :: ledP fixed c)) (off : LCg.Off3 I C D (ledP fixed c)) (hf : ∀ p ∈ fixed, (@Ne Nat p.1 30) ∧ (@Ne Nat p.1 37))
    (hP : PairP h₀ o1 o2 g i ys c) (hg : g i = pairD a b) (he : ∃ h tk, s = { s₁ with heap := h, toks := tk }) :
    wpAny (model PySem.Challenge.rw_pe0176_01.row.prog w) A (call (.ref 56) [.int a ta, .int b tb]) (LCg.CompEnd h₀ L m s₁ I oI C oC D (LCg.lst ys) (fun _ => True) fun y news' => ∃ c', news' = ledP fixed c' ∧ PairP h₀ o1 o2 g (i + 1) (ys ++ [y]) c') E s := by
  obtain ⟨h9, tk9, rfl⟩ := he
  refine idm_turn X T hh hdp hu ha hb F N off hf hP.1 hP.2.2 ?_
  intro t u1 u2 k h' tk' p1 p2 nw F' NN CT' ht30 ht37
  obtain ⟨N', off'⟩ := NN _ rfl
  refine ⟨h', tk', _, rfl, F', N', off', trivial, _, rfl, CT', ?_, all1 ⟨ht30, ht37⟩ hP.2.2⟩
  rw [List.range_succ, List.map_append]
  refine dat_snoc hP.2.1 (fun _ hp => .tail _ hp) ?_
  rw [hg]
  exact .tuple (vs := [_, _]) (.head _) (.cons (.int _ _) (.cons (.int _ _) .nil))
theorem led_fixed {h₀ h : Heap} {L : Addr} {a b x : Addr × Obj} {fixed : List (Addr × Obj)} {c : Array Value × Array Value × List (Addr × Obj) × List (Addr × Obj)} (N : News h₀ L h (a :: b :: x :: ledP fixed c)) : News h₀ L h (a :: b :: x :: fixed) := by
  intro q hq
  refine N q ?_
  simp only [ledP, List.mem_cons, List.mem_append] at hq ⊢
  rcases hq with h | h | h | h <;> simp [h]
theorem mul_bd {x y : Int} (h1 : 0 ≤ x) (h2 : x ≤ 20) (h3 : 0 ≤ y) (h4 : y ≤ 200) : 0 ≤ x * y ∧ x * y ≤ 4000 :=
  ⟨Int.mul_nonneg h1 h3, Int.le_trans (Int.mul_le_mul h2 h4 h3 (by decide)) (by decide)⟩
/-- the ledger of a comprehension whose turns make tuples -/
noncomputable def led2 (fixed rest : List (Addr × Obj)) (c : List (Addr × Obj)) : List (Addr × Obj) := fixed ++ (c ++ rest)
theorem to_led2 {h₀ h : Heap} {L : Addr} {d : Addr × Obj} {fixed : List (Addr × Obj)} {c : Array Value × Array Value × List (Addr × Obj) × List (Addr × Obj)} (N : News h₀ L h (d :: ledP fixed c)) :
    News h₀ L h (led2 (d :: fixed) ((30, tabObj c.1) :: (37, tabObj c.2.1) :: (c.2.2.2 ++ c.2.2.1)) []) := N
theorem of_led2 {h₀ h : Heap} {L : Addr} {d : Addr × Obj} {fixed rest c : List (Addr × Obj)} (N : News h₀ L h (d :: led2 fixed rest c)) : News h₀ L h (d :: (fixed ++ (c ++ rest))) := N
noncomputable def TupP (g : Nat → Dat) (i : Nat) (ys : List Value) (c : List (Addr × Obj)) : Prop := DatAll c ys ((List.range i).map g)
theorem tup_end {h₀ h' : Heap} {L I C D D' : Addr} {oI oC : Obj} {m : Str → Option Value} {s₁ : Shared} {fixed rest c : List (Addr × Obj)} {g : Nat → Dat} {i tk k : Nat} {zs : List Value} {a b : Int} {ta tb : Tok}
    (F : Fr h₀ L h' m) (off : LCg.Off3 I C D (led2 fixed rest c)) (hQ : TupP g i zs c) (N : News h₀ L h' ((D', { cls := .type "tuple", data := .seq #[.int a ta, .int b tb] k }) :: (I, oI) :: (C, oC) :: (D, LCg.lst zs) :: (fixed ++ (c ++ rest))))
    (hn : I < D' ∧ C < D' ∧ D < D') (hg : g i = .tuple [.int a, .int b]) :
    LCg.CompEnd h₀ L m s₁ I oI C oC D (LCg.lst zs) (fun _ => True) (fun y news' => ∃ c', news' = led2 fixed rest c' ∧ TupP g (i + 1) (zs ++ [y]) c') (.ref D') { s₁ with heap := h', toks := tk } := by
  have offm := off.mem
  refine ⟨h', tk, led2 fixed rest ((D', { cls := .type "tuple", data := .seq #[.int a ta, .int b tb] k }) :: c), rfl, F, fun q hq => N q ?_, LCg.Off3.of fun q hq => ?_, trivial, _, rfl, ?_⟩
  · simp only [led2, List.mem_cons, List.mem_append] at hq ⊢
    rcases hq with h | h | h | h | (h | h) | h <;> simp [h]
  · simp only [led2, List.mem_cons, List.mem_append] at hq offm
    rcases hq with h | (h | h) | h
    · exact offm q (.inl h)
    · subst h; exact ⟨Nat.ne_of_gt hn.1, Nat.ne_of_gt hn.2.1, Nat.ne_of_gt hn.2.2⟩
    · exact offm q (.inr (.inl h))
    · exact offm q (.inr (.inr h))
  · unfold TupP
    rw [List.range_succ, List.map_append]
    refine dat_snoc hQ (fun _ hp => .tail _ hp) ?_
    rw [hg]
    exact .tuple (vs := [_, _]) (.head _) (.cons (.int _ _) (.cons (.int _ _) .nil))
theorem from_led2 {h₀ h : Heap} {L : Addr} {d d1 : Addr × Obj} {fixed c2 : List (Addr × Obj)} {c : Array Value × Array Value × List (Addr × Obj) × List (Addr × Obj)} (N : News h₀ L h (d :: led2 (d1 :: fixed) ((30, tabObj c.1) :: (37, tabObj c.2.1) :: (c.2.2.2 ++ c.2.2.1)) c2)) :
    News h₀ L h (ledP fixed (c.1, c.2.1, c.2.2.1, [])) := by
  intro q hq
  refine N q ?_
  simp only [ledP, led2, List.mem_cons, List.mem_append, List.not_mem_nil, false_or] at hq ⊢
  rcases hq with h | h | h | h <;> simp [h]
theorem ok_pairs {n : Nat} {f g : Nat → Int} : ∀ d ∈ (List.range n).map (fun k => Dat.tuple [.int (f k), .int (g k)]), kqdOk 8 d = true := by
  intro d hd
  obtain ⟨k, _, rfl⟩ := List.mem_map.mp hd
  simp [kqdOk]
theorem pairs_eq {n : Nat} {up lo : Int} {ones rests : List Int} (h : ∀ k, k < n → ones[k]? = some (up * ((k : Int) + 1) / lo) ∧ rests[k]? = some (up * ((k : Int) + 1) % lo)) :
    (List.range n).map (fun k : Nat => pairD (up * ((k : Int) + 1)) lo) = (List.range n).map (fun k => Dat.tuple [.int (ones.getD k 0), .int (rests.getD k 0)]) := by
  refine List.map_congr_left fun k hk => ?_
  have := h k (List.mem_range.mp hk)
  rw [List.getD_eq_getElem?_getD, List.getD_eq_getElem?_getD, this.1, this.2]
  rfl
theorem ints_snoc {ys : List Value} {xs zs : List Int} {v : Int} {t : Tok} (h : IntsAre ys xs) (e : zs = xs ++ [v]) : IntsAre (ys ++ [.int v t]) zs := by
  subst e
  exact h.append (.cons _ _ .nil)
theorem take_snoc {xs : List Int} {i : Nat} (h : i < xs.length) : xs.take (i + 1) = xs.take i ++ [xs.getD i 0] := by
  rw [List.take_add_one, List.getD_eq_getElem?_getD, List.getElem?_eq_getElem h]
  rfl
theorem getD_some {xs : List Int} {i : Nat} (h : i < xs.length) : xs[i]? = some (xs.getD i 0) := by
  rw [List.getD_eq_getElem?_getD, List.getElem?_eq_getElem h]
  rfl
section
variable {prog : Program} {w : World} {A : Around} {E : Value → Shared → Prop} {s : Shared} {h₀ : Heap} {L a b : Addr} {news n₁ n₂ : List (Addr × Obj)} {oa ob : Obj} {xs ys : List Value} {ka kb : Nat} {ds es : List Dat} {Q : Value → Shared → Prop}
open Classical in
/-- two lists that hold the same are not different -/
theorem ne_same (N : News h₀ L s.heap news) (ma : (a, oa) ∈ news) (ca : oa.cls = .type "list") (da : oa.data = .seq xs.toArray ka) (Da : DatAll n₁ xs ds) (sa : ∀ p ∈ n₁, p ∈ news)
    (mb : (b, ob) ∈ news) (cb : ob.cls = .type "list") (db : ob.data = .seq ys.toArray kb) (Db : DatAll n₂ ys es) (sb : ∀ p ∈ n₂, p ∈ news)
    (ha : ∀ d ∈ ds, kqdOk 8 d = true) (hb : ∀ d ∈ es, kqdOk 8 d = true) (hu : A.units + 64 < cLine) (e : ds = es) (h : Q (.bool false) s) : wpAny (model prog w) A (compareOp .NotEq (.ref a) (.ref b)) Q E s := by
  refine kqd_ne N ma ca da Da sa mb cb db Db sb ha hb hu ?_
  rw [decide_eq_true e]
  exact h
theorem ints_ne {ns ms : List Int} (ha : s.heap.IsList a xs.toArray) (hb : s.heap.IsList b ys.toArray) (hi : IntsAre xs ns) (hj : IntsAre ys ms) (hu : A.units + 64 < cLine) (e : ns = ms) (h : Q (.bool false) s) :
    wpAny (model prog w) A (compareOp .NotEq (.ref a) (.ref b)) Q E s := by
  refine ke_ne_ints ha hb hi hj hu ?_
  rw [show (!decide (ns = ms)) = false from by simp [e]]
  exact h
theorem ints_eq {ns ms : List Int} (ha : s.heap.IsList a xs.toArray) (hb : s.heap.IsList b ys.toArray) (hi : IntsAre xs ns) (hj : IntsAre ys ms) (hu : A.units + 64 < cLine) (e : ns = ms) (h : Q (.bool true) s) :
    wpAny (model prog w) A (compareOp .Eq (.ref a) (.ref b)) Q E s := by
  refine ke_eq_ints ha hb hi hj hu ?_
  rw [show decide (ns = ms) = true from by simp [e]]
  exact h
end
/-- a range that the call has made, as an entry of the ledger -/
theorem range_led {h₀ h : Heap} {L r : Addr} {a b st : Int} {t u v : Tok} {fixed : List (Addr × Obj)} {c : Array Value × Array Value × List (Addr × Obj) × List (Addr × Obj)} (R : IsRange h r a b st t u v) (hL : @Ne Nat r L) (h0 : h₀.get? r = none) (N : News h₀ L h (ledP fixed c)) :
    News h₀ L h (ledP ((r, { cls := .type "range", dict := none, data := .fields #[.int a t, .int b u, .int st v], slots := #[] }) :: fixed) c) := all1 ⟨R, hL, h0⟩ N
theorem hf_cons {x : Addr} {o : Obj} {fixed : List (Addr × Obj)} (h1 : @Ne Nat x 30) (h2 : @Ne Nat x 37) (hf : ∀ p ∈ fixed, (@Ne Nat p.1 30) ∧ (@Ne Nat p.1 37)) : ∀ p ∈ (x, o) :: fixed, (@Ne Nat p.1 30) ∧ (@Ne Nat p.1 37) := all1 ⟨h1, h2⟩ hf
theorem led_in {h₀ h : Heap} {L : Addr} {d : Addr × Obj} {fixed : List (Addr × Obj)} {c : Array Value × Array Value × List (Addr × Obj) × List (Addr × Obj)} (N : News h₀ L h (d :: ledP fixed c)) : News h₀ L h (ledP (d :: fixed) c) := N
noncomputable def NegP (h₀ : Heap) (o1 o2 : Array Value) (g : Nat → Int) (i : Nat) (ys : List Value) (c : Array Value × Array Value × List (Addr × Obj) × List (Addr × Obj)) : Prop :=
  TabsL h₀ o1 o2 c.2.2.1 c.1 c.2.1 ∧ c.2.2.2 = [] ∧ IntsAre ys ((List.range i).map g)
theorem drop_ex {h₀ h : Heap} {L : Addr} {a b x : Addr × Obj} {fixed cs ex : List (Addr × Obj)} {p1 p2 : Array Value} (N : News h₀ L h (a :: b :: x :: ledP fixed (p1, p2, cs, ex))) : News h₀ L h (a :: b :: x :: ledP fixed (p1, p2, cs, [])) := by
  intro q hq
  refine N q ?_
  simp only [ledP, List.mem_cons, List.mem_append, List.not_mem_nil, false_or] at hq ⊢
  rcases hq with h | h | h | h | h | h | h <;> simp [h]
theorem off_ex {I C D : Addr} {fixed cs ex : List (Addr × Obj)} {p1 p2 : Array Value} (off : LCg.Off3 I C D (ledP fixed (p1, p2, cs, ex))) : LCg.Off3 I C D (ledP fixed (p1, p2, cs, [])) := by
  refine LCg.Off3.of fun q hq => off.mem q ?_
  simp only [ledP, List.mem_cons, List.mem_append, List.not_mem_nil, false_or] at hq ⊢
  rcases hq with h | h | h | h <;> simp [h]
end Mine
-- C2
namespace Mine
set_option maxRecDepth 100000
theorem word_le {word y : Str} {ev : List Int} (h : replF word (pairsOf sixB (stepsOf ev)) = some y) : word.length ≤ 1000 := by
  unfold stepsOf pairsOf at h
  simp only [List.flatMap_cons, sixB, List.cons_append] at h
  unfold replF at h
  split at h
  · rename_i hb; exact hb.1
  · cases h
theorem tab_off {h₀ h : Heap} {L x b : Addr} {o : Obj} {ps : Array Value} {news : List (Addr × Obj)} (N : News h₀ L h news) (hm : (x, o) ∈ news) (hb : (b, tabObj ps) ∈ news) (hd : ∀ vs, o.data ≠ .fields vs) : @Ne Nat x b := by
  intro q
  have h1 := (N _ hm).1
  have h2 := (N _ hb).1
  have q' : x = b := q
  dsimp only at h1 h2
  rw [q', h2] at h1
  exact hd _ (by rw [← Option.some.inj h1])
theorem cell_nf {o : Obj} {v : Option Value} (h : o.data = .cell v) : ∀ vs, o.data ≠ .fields vs := fun vs e => by rw [h] at e; cases e
theorem list_nf {its : Array Value} {n : Nat} : ∀ vs, (listOf its n).data ≠ .fields vs := fun vs e => nomatch e
theorem to_ledP {h₀ h : Heap} {L : Addr} {x0 x1 x2 x3 x4 y1 y2 y3 y4 y5 y6 : Addr × Obj} {p1 p2 : Array Value} {cs : List (Addr × Obj)} (N : News h₀ L h (x0 :: x1 :: x2 :: x3 :: x4 :: (30, tabObj p1) :: (37, tabObj p2) :: y6 :: y5 :: y4 :: y3 :: y2 :: y1 :: cs)) :
    News h₀ L h (ledP [x0, x1, x3, x4, y6, y5, y4, y3, y2, y1] (p1, p2, cs, [])) := by
  intro q hq
  refine N q ?_
  simp only [ledP, List.mem_cons, List.mem_append, List.not_mem_nil, false_or, or_false] at hq ⊢
  rcases hq with (h | h | h | h | h | h | h | h | h | h) | h | h | h <;> simp [h]
theorem fun_fixed {h₀ h : Heap} {L b1 b2 a1 a2 r1 r2 r3 r4 r5 r6 : Addr} {x2 : Addr × Obj} {g1 g2 g3 g4 : Array Value} {n1 n2 n3 n4 : Nat} {o1 o2 o3 o4 o5 o6 : Obj} {v1 v2 v3 v4 v5 v6 : Option Value} {p1 p2 : Array Value} {cs : List (Addr × Obj)}
    (N : News h₀ L h ((b1, listOf g1 n1) :: (b2, listOf g2 n2) :: x2 :: (a1, listOf g3 n3) :: (a2, listOf g4 n4) :: (30, tabObj p1) :: (37, tabObj p2) :: (r6, o6) :: (r5, o5) :: (r4, o4) :: (r3, o3) :: (r2, o2) :: (r1, o1) :: cs))
    (d1 : o1.data = .cell v1) (d2 : o2.data = .cell v2) (d3 : o3.data = .cell v3) (d4 : o4.data = .cell v4) (d5 : o5.data = .cell v5) (d6 : o6.data = .cell v6) :
    ∀ p ∈ [(b1, listOf g1 n1), (b2, listOf g2 n2), (a1, listOf g3 n3), (a2, listOf g4 n4), (r6, o6), (r5, o5), (r4, o4), (r3, o3), (r2, o2), (r1, o1)], (@Ne Nat p.1 30) ∧ (@Ne Nat p.1 37) := by
  have one : ∀ {x : Addr} {o : Obj}, (x, o) ∈ ((b1, listOf g1 n1) :: (b2, listOf g2 n2) :: x2 :: (a1, listOf g3 n3) :: (a2, listOf g4 n4) :: (30, tabObj p1) :: (37, tabObj p2) :: (r6, o6) :: (r5, o5) :: (r4, o4) :: (r3, o3) :: (r2, o2) :: (r1, o1) :: cs) → (∀ vs, o.data ≠ .fields vs) → (@Ne Nat x 30) ∧ (@Ne Nat x 37) :=
    fun hm hd => ⟨tab_off N hm (by repeat first | exact .head _ | refine .tail _ ?_) hd, tab_off N hm (by repeat first | exact .head _ | refine .tail _ ?_) hd⟩
  exact all1 (one (by repeat first | exact .head _ | refine .tail _ ?_) list_nf) (all1 (one (by repeat first | exact .head _ | refine .tail _ ?_) list_nf) (all1 (one (by repeat first | exact .head _ | refine .tail _ ?_) list_nf) (all1 (one (by repeat first | exact .head _ | refine .tail _ ?_) list_nf) (all1 (one (by repeat first | exact .head _ | refine .tail _ ?_) (cell_nf d6)) (all1 (one (by repeat first | exact .head _ | refine .tail _ ?_) (cell_nf d5)) (all1 (one (by repeat first | exact .head _ | refine .tail _ ?_) (cell_nf d4)) (all1 (one (by repeat first | exact .head _ | refine .tail _ ?_) (cell_nf d3)) (all1 (one (by repeat first | exact .head _ | refine .tail _ ?_) (cell_nf d2)) (all1 (one (by repeat first | exact .head _ | refine .tail _ ?_) (cell_nf d1)) all0)))))))))
end Mine
-- L
namespace Mine
set_option maxRecDepth 100000
set_option maxHeartbeats 8000000
local macro_rules | `(tactic| walk_at "call ref") => `(tactic| (k_extra "mycall"))
local macro_rules | `(tactic| walk_at "subscriptTail Name Constant ref int") => `(tactic| (k_extra "myitem"))
local macro_rules | `(tactic| walk_at "subscriptTail Name Slice ref ref") => `(tactic| (k_extra "myslice"))
local macro_rules | `(tactic| walk_at "binaryOp Add ref ref") => `(tactic| (k_extra "mycat"))
local macro_rules | `(tactic| walk_at "call builtin:sum") => `(tactic| (k_extra "mysum"))
local macro_rules | `(tactic| walk_at "call builtin:sum cons nil") => `(tactic| (k_extra "mysum"))
local macro_rules | `(tactic| walk_at "eval ListComp") => `(tactic| (k_extra "mycomp"))
local macro_rules | `(tactic| walk_at "call builtin:len") => `(tactic| (k_extra "mylen"))
local macro_rules | `(tactic| walk_at "CompSrc") => `(tactic| (k_extra "mysrc"))
local macro_rules | `(tactic| walk_at "storeName") => `(tactic| (k_extra "mystore"))
local macro_rules | `(tactic| k_all) => `(tactic| ((rename OwnOff _ _ => ho9); exact fun q hq => ho9 q hq _ (by k_mem)))
local macro_rules | `(tactic| walk_at "assign Tuple") => `(tactic| (k_here; k_dflt (refine' unpackN_ ?k1 ?k2 ?k3 ?k4 ?k5 ?k6 ?_; (case k1 => k_asm); (case k2 => k_asm); (case k3 => exact News.isTup (by k_asm) (by k_mem)); (case k4 => first | exact rfl | ((rename Around.handled _ = none => hh9); exact hh9)); (case k5 => first | exact rfl | ((rename Around.handled _ = none => hh9); exact hh9)); (case k6 => first | exact rfl | ((rename Around.handled _ = none => hh9); exact hh9)); k_whole); intro h' F' N'; (try k_sweep)))
local macro_rules | `(tactic| walk_at "subscriptTail Name UnaryOp ref int") => `(tactic| (k_extra "myneg"))
noncomputable def Off (x y : Nat) : Prop := x ≠ y
theorem off_l {x y : Nat} (h : Off x y) : x ≠ y := h
theorem off_r {x y : Nat} (h : Off x y) : y ≠ x := fun e => h e.symm
theorem off_of {h₀ h : Heap} {L x : Addr} {p : Addr × Obj} (e : h.get? p.1 = some p.2 ∧ p.1 ≠ L ∧ h₀.get? p.1 = none) (hx : h.get? x = none) : Off x p.1 := fun q => by have := e.1; rw [show p.1 = x from q.symm, hx] at this; cases this
theorem news_tl {h₀ h : Heap} {L : Addr} {a : Addr × Obj} {r : List (Addr × Obj)} (N : News h₀ L h (a :: r)) : News h₀ L h r := fun q hq => N q (.tail _ hq)
theorem off4 {h₀ h : Heap} {L x : Addr} {p6 p5 p4 p3 : Addr × Obj} {r : List (Addr × Obj)} (N : News h₀ L h (p6 :: p5 :: p4 :: p3 :: r)) (hx : h.get? x = none) : Off x p6.1 ∧ Off x p5.1 ∧ Off x p4.1 ∧ Off x p3.1 :=
  ⟨off_of (N _ (.head _)) hx, off_of (N _ (.tail _ (.head _))) hx, off_of (N _ (.tail _ (.tail _ (.head _)))) hx, off_of (N _ (.tail _ (.tail _ (.tail _ (.head _))))) hx⟩
local macro_rules | `(tactic| k_ne) => `(tactic| (refine neN ?_; (try dsimp only); first | (refine off_l ?_; with_reducible assumption) | (refine off_r ?_; with_reducible assumption)))
theorem cell_nc {o : Obj} {v : Option Value} (h : o.data = .cell v) : ¬ CodeLike o := fun ⟨_, _, _, e, _⟩ => by rw [h] at e; cases e
theorem list_nc {its : Array Value} {n : Nat} : ¬ CodeLike (listOf its n) := fun ⟨_, _, _, e, _⟩ => nomatch e
theorem cell_ok {a L : Addr} {o : Obj} {v : Option Value} (h1 : 30 < L) (h2 : 37 < L) (h : L ≤ a) (hd : o.data = .cell v) : (a, o).1 ≠ 30 ∧ (a, o).1 ≠ 37 ∧ ¬ CodeLike (a, o).2 :=
  ⟨Nat.ne_of_gt (Nat.lt_of_lt_of_le h1 h), Nat.ne_of_gt (Nat.lt_of_lt_of_le h2 h), cell_nc hd⟩
theorem news_cut {h₀ h : Heap} {L : Addr} {x1 x2 x3 x4 x5 x6 x7 : Addr × Obj} {r : List (Addr × Obj)} (N : News h₀ L h (x1 :: x2 :: x3 :: x4 :: x5 :: x6 :: x7 :: r)) : News h₀ L h (x1 :: x5 :: x6 :: r) := by
  intro q hq
  refine N q ?_
  simp only [List.mem_cons] at hq ⊢
  rcases hq with h | h | h | h <;> simp [h]
theorem rot2 {h₀ h : Heap} {L : Addr} {a1 a2 a3 a4 a5 a6 x y : Addr × Obj} (N : News h₀ L h [a1, a2, a3, a4, a5, a6, x, y]) : News h₀ L h (y :: x :: ([a1, a2, a3, a4, a5, a6] ++ [])) := by
  intro q hq
  refine N q ?_
  simp only [List.append_nil, List.mem_cons, List.not_mem_nil, or_false] at hq ⊢
  rcases hq with h | h | h | h | h | h | h | h <;> simp [h]
section
variable {prog : Program} {w : World} {A : Around} {E : Value → Shared → Prop} {s : Shared} {h₀ : Heap} {L l : Addr} {m : Str → Option Value} {news : List (Addr × Obj)} {vs : List Value}
theorem sum_any {ns : List Int} {Q : Value → Shared → Prop} (F : Fr h₀ L s.heap m) (N : News h₀ L s.heap news) (hh : A.handled = none) (hl : s.heap.IsList l vs.toArray) (hi : IntsAre vs ns)
    (h : ∀ S h' tk t', Fr h₀ L h' m → News h₀ L h' news → Q (.int S t') { s with heap := h', toks := tk }) : wpAny (model prog w) A (call (.builtin "sum") [.ref l]) Q E s :=
  LSm.sum_ints F N hh hl hi fun h' tk t' F' N' => h _ h' tk t' F' N'
end
set_option pp.deepTerms false
set_option pp.deepTerms.threshold 5
local macro_rules | `(tactic| walk_at "subscriptTail Name Name ref int") => `(tactic| (k_extra "myitem2"))
local macro_rules | `(tactic| walk_at "compareOp NotEq ref ref") => `(tactic| (k_extra "mycmp"))
local macro_rules | `(tactic| walk_at "compareOp Eq ref ref") => `(tactic| (k_extra "mycmp"))
local macro_rules | `(tactic| walk_at "subscriptTail Call Constant ref int") => `(tactic| (k_extra "myitem3"))
theorem lawH : PySem.Challenge.rw_pe0176_01.Holds := hd (by
  w_top off
  k_go0
  all_goals try k_fold
  (rename _ = Data.cell (bindC _ _ _ (Str.ofString "rests")) => c6)
  (rename _ = Data.cell (bindC _ _ _ (Str.ofString "ones")) => c5)
  (rename _ = Data.cell (bindC _ _ _ (Str.ofString "uppers")) => c4)
  (rename _ = Data.cell (bindC _ _ _ (Str.ofString "lowers")) => c3)
  (rename _ = Data.cell (bindC _ _ _ (Str.ofString "upper")) => c2)
  (rename _ = Data.cell (bindC _ _ _ (Str.ofString "lower")) => c1)
  rename IntsAre _ _ => hI
  replace c1 := c1.trans (show _ = Data.cell none from rfl)
  replace c2 := c2.trans (show _ = Data.cell none from rfl)
  replace c3 := c3.trans (show _ = Data.cell none from rfl)
  replace c4 := c4.trans (show _ = Data.cell none from rfl)
  replace c5 := c5.trans (show _ = Data.cell none from rfl)
  replace c6 := c6.trans (show _ = Data.cell none from rfl)
  k_with_none
  k_with "mycall" => refine stop_ ?_
  k_with "mystore" => (k_here; k_dflt (refine' storeX_C ?F ?N ?c ?U ?d ?_ ?a ?b; (case a => rfl); (case b => rfl); (case F => k_asm); (case N => k_asm); (case c => rfl); (case U => k_updF); (case d => k_asm); k_whole); intro h' o' F' N' d'; (try dsimp only at N'); (try k_sweep))
  k_with "mysum" => refine stop_ ?_
  k_with "mycomp" => refine stop_ ?_
  k_steps
  unfold Stop
  (rename Fr _ _ _ _ => F9); (rename News _ _ _ _ => N9)
  refine sum_any F9 N9 ?_ (news_list N9 (.head _)) (IntsAre.pick hI _ _ _) ?_
  · with_unfolding_all rfl
  intro S1 h1 tk1 t1 F1 N1
  replace N1 : News _ _ _ _ := fun q hq => N1 q (.tail _ hq)
  clear F9 N9
  k_steps
  unfold Stop
  have hlo : 5 ≤ 5 + (S1 + 8).fmod 16 ∧ 5 + (S1 + 8).fmod 16 ≤ 20 := by
    rw [Int.fmod_eq_emod_of_nonneg _ (by decide)]
    omega
  generalize 5 + (S1 + 8).fmod 16 = lo at *
  obtain ⟨lo1, lo2⟩ := hlo
  (rename Fr _ _ _ _ => F9); (rename News _ _ _ _ => N9)
  refine sum_any F9 N9 ?_ (news_list N9 (.head _)) (IntsAre.pick hI _ _ _) ?_
  · with_unfolding_all rfl
  intro S2 h2 tk2 t2 F1 N1
  replace N1 : News _ _ _ _ := fun q hq => N1 q (.tail _ hq)
  clear F9 N9
  k_steps
  unfold Stop
  have hup : 1 ≤ 1 + (S2 + 4).fmod (lo - 1) ∧ 1 + (S2 + 4).fmod (lo - 1) ≤ lo - 1 := by
    rw [Int.fmod_eq_emod_of_nonneg _ (by omega)]
    have h1 := Int.emod_nonneg (S2 + 4) (b := lo - 1) (by omega)
    have h2 := Int.emod_lt_of_pos (S2 + 4) (b := lo - 1) (by omega)
    omega
  generalize 1 + (S2 + 4).fmod (lo - 1) = up at *
  obtain ⟨up1, up2⟩ := hup
  obtain ⟨row, los, ups, word, ones, rests, e, FF⟩ := facts_at lo1 lo2 up1 up2
  rename 37 < _ ∧ 30 < _ => l0
  have l37 := ltN l0.1
  have l30 := ltN l0.2
  clear l0
  rename Frag.In _ _ => X0
  rename Top _ _ _ _ _ _ => T0
  (rename Fr _ _ _ _ => F9); (rename News _ _ _ _ => N9)
  have N8 := rot2 N9
  refine' use_tspec (rest := [_, _, _, _, _, _]) (cs := []) (quot_ FF.euc) ?hh ?dp ?hu X0 T0 F9 N8 ⟨.inl rfl, .inl rfl, all0, .inl rfl, .inl rfl⟩ ?hr trivial ?_
  case hh => with_unfolding_all rfl
  case dp => simp only [depth_deeper]; with_unfolding_all decide
  case hu => simp only [units_deeper]; with_unfolding_all decide
  case hr => exact all1 (cell_ok l30 l37 (by repeat (first | exact Nat.le_refl _ | refine Nat.le_succ_of_le ?_)) (by with_reducible assumption)) (all1 (cell_ok l30 l37 (by repeat (first | exact Nat.le_refl _ | refine Nat.le_succ_of_le ?_)) (by with_reducible assumption)) (all1 (cell_ok l30 l37 (by repeat (first | exact Nat.le_refl _ | refine Nat.le_succ_of_le ?_)) (by with_reducible assumption)) (all1 (cell_ok l30 l37 (by repeat (first | exact Nat.le_refl _ | refine Nat.le_succ_of_le ?_)) (by with_reducible assumption)) (all1 (cell_ok l30 l37 (by repeat (first | exact Nat.le_refl _ | refine Nat.le_succ_of_le ?_)) (by with_reducible assumption)) (all1 (cell_ok l30 l37 (by repeat (first | exact Nat.le_refl _ | refine Nat.le_succ_of_le ?_)) (by with_reducible assumption)) (all0))))))
  rintro _ h3 tk3 p1 p2 cs F8 N8' C8 hoff kk ⟨D, its, nE, rfl, hD0, hD, hID⟩
  have N7 := news_one F9 N8' hD hD0
  simp only [List.cons_append, List.nil_append] at N7
  simp only [List.map_cons, List.map_nil] at hoff
  obtain ⟨nD6, nD5, nD4, nD3⟩ := off4 N9 hD0
  dsimp only at nD6 nD5 nD4 nD3
  clear N8 N8' F9 N9
  k_steps
  unfold Stop
  (rename Fr _ _ _ _ => F9); (rename News _ _ _ _ => N9)
  refine' use_spec (conv_ hID FF.cnv) ?hh ?dp ?hu X0 T0 F9 N9 (news_list N9 (.head _)) ?_
  case hh => with_unfolding_all rfl
  case dp => simp only [depth_deeper]; with_unfolding_all decide
  case hu => simp only [units_deeper]; with_unfolding_all decide
  rintro _ h4 tk4 F7 N7 k7 ⟨t, a1, a2, vs1, vs2, n1, n2, rfl, ha12, ha2t, ha1, ha2, ht, e1, e2, I1, I2, et⟩
  obtain ⟨m16, m15, m14, m13⟩ := off4 (news_tl (news_tl (news_tl N9))) ha1
  obtain ⟨m26, m25, m24, m23⟩ := off4 (news_tl (news_tl (news_tl N9))) ha2
  obtain ⟨m36, m35, m34, m33⟩ := off4 (news_tl (news_tl (news_tl N9))) ht
  dsimp only at m16 m15 m14 m13 m26 m25 m24 m23 m36 m35 m34 m33
  have N6 := news_one F9 (news_one F9 (news_one F9 N7 e2 ha2) e1 ha1) et ht
  clear N7 F9 N9
  k_here
  k_dflt (refine' unpackN_ ?k1 ?k2 ?k3 ?k4 ?k5 ?k6 ?_)
  (case k1 => k_asm)
  (case k2 => k_asm)
  (case k3 => exact News.isTup (by k_asm) (by k_mem))
  (case k4 => exact rfl)
  (case k5 => exact rfl)
  (case k6 => exact rfl)
  k_whole
  intro h' F' N'
  try k_sweep
  k_with "mystore" => refine stop_ ?_
  k_steps
  unfold Stop
  k_dflt (refine' storeX_C ?kF ?kN ?kc ?kU ?kd ?_ ?k1 ?k2)
  (case k1 => rfl)
  (case k2 => rfl)
  (case kF => k_asm)
  (case kN => k_asm)
  (case kc => rfl)
  case kU =>
    refine' UpdF.tail (by k_ne) (UpdF.tail (by k_ne) (UpdF.tail (by k_ne) (UpdF.tail (by k_ne) (UpdF.tail (by k_ne) (UpdF.tail (by k_ne) (UpdF.tail (by k_ne) (UpdF.tail (by k_ne) (UpdF.tail (by k_ne) (UpdF.head ?_)))))))))
    refine List.forall_mem_cons.mpr ⟨by k_ne, ?_⟩
    refine List.forall_mem_cons.mpr ⟨by k_ne, ?_⟩
    exact fun q hq => hoff q hq _ (by k_mem)
  (case kd => k_asm)
  k_whole
  intro h' o' F' N' d'
  try dsimp only at N'
  try k_sweep
  k_steps
  unfold Stop
  k_dflt (refine' storeX_C ?kF ?kN ?kc ?kU ?kd ?_ ?k1 ?k2)
  (case k1 => rfl)
  (case k2 => rfl)
  (case kF => k_asm)
  (case kN => k_asm)
  (case kc => rfl)
  case kU =>
    refine' UpdF.tail (by k_ne) (UpdF.tail (by k_ne) (UpdF.tail (by k_ne) (UpdF.tail (by k_ne) (UpdF.tail (by k_ne) (UpdF.tail (by k_ne) (UpdF.tail (by k_ne) (UpdF.tail (by k_ne) (UpdF.head ?_))))))))
    refine List.forall_mem_cons.mpr ⟨by k_ne, ?_⟩
    refine List.forall_mem_cons.mpr ⟨by k_ne, ?_⟩
    refine List.forall_mem_cons.mpr ⟨by k_ne, ?_⟩
    exact fun q hq => hoff q hq _ (by k_mem)
  (case kd => k_asm)
  k_whole
  intro h' o' F' N' d'
  try dsimp only at N'
  try k_sweep
  k_with "myitem" => refine stop_ ?_
  k_with "myslice" => refine stop_ ?_
  k_steps
  unfold Stop
  (rename News _ _ _ _ => N9)
  refine item_pos (j := 0) N9 (.tail _ (.tail _ (.tail _ (.head _)))) hID FF.ev.1 (by decide) ?_ (by with_unfolding_all rfl)
  intro tq
  k_steps
  unfold Stop
  k_dflt (refine' kmk_slice_ints (vs := its.toList) ?kF ?kN ?kl ?kp ?kq hID (kmk_from (x := 1) hID (by decide)) rfl ?_ ?ks ?kt ?kz)
  (case kF => k_asm)
  (case kN => k_asm)
  (case kl => exact news_list (by k_asm) (.tail _ (.tail _ (.tail _ (.tail _ (.head _))))))
  (case kp => exact IsPart.int _ _)
  (case kq => exact IsPart.none)
  (case ks => with_unfolding_all rfl)
  (case kt => intro _; with_unfolding_all rfl)
  (case kz => exact kmk_sz hID (by rw [sizeLine_eq]; have := FF.ev.2; omega))
  intro D2 ws2 h5 F5 N5 l5 I5 hC5 hL5
  k_lt l5
  clear hC5
  k_with "mycat" => refine stop_ ?_
  k_steps
  unfold Stop
  (rename Fr _ _ _ _ => F9); (rename News _ _ _ _ => N9)
  k_dflt (refine' kmk_add_ints F9 N9 (news_list N9 (.tail _ (.head _))) (news_list N9 (.head _)) (.cons _ _ .nil) I5 ?_ ?kz)
  (case kz => rw [sizeLine_eq]; have := FF.ev.2; simp only [List.length_cons, List.length_nil]; omega)
  intro D3 ws3 h6 F6 N6 l6 I6
  k_lt l6
  replace N6 := news_cut N6
  clear F9 N9 l5
  replace I6 : IntsAre ws3 (stepsOf (evened row)) := I6
  k_with_none
  k_with "mycall" => refine stop_ ?_
  k_with "mycomp" => refine stop_ ?_
  k_with "mystore" => first | ((with_reducible show wpAny _ _ (storeName _ (Str.ofString "ones") _) _ _ _); refine stop_ ?_) | ((with_reducible show wpAny _ _ (storeName _ (Str.ofString "rests") _) _ _ _); refine stop_ ?_)
  k_steps
  unfold Stop
  (rename Fr _ _ _ _ => F9); (rename News _ _ _ _ => N9)
  refine' use_spec (walk_ (up := up) (lo := lo) ⟨by omega, by omega⟩ ⟨by omega, by omega⟩) ?hh ?dp ?hu X0 T0 F9 N9 trivial ?_
  case hh => with_unfolding_all rfl
  case dp => simp only [depth_deeper]; with_unfolding_all decide
  case hu => simp only [units_deeper]; with_unfolding_all decide
  rintro _ h7 tk7 F7 N7 k8 ⟨t9, b1, b2, us1, us2, i1, i2, tw, tz, rfl, hb12, hb1, hb2, ht9, e3, e4, J1, J2, et9⟩
  have hw : walkF up lo lo.toNat (Str.ofString "") [0] [up] = (word, ones, rests) := FF.wk
  rw [hw] at J1 J2 et9
  dsimp only at J1 J2 et9
  obtain ⟨q16, q15, q14, q13⟩ := off4 (news_tl (news_tl (news_tl (news_tl (news_tl N9))))) hb1
  obtain ⟨q26, q25, q24, q23⟩ := off4 (news_tl (news_tl (news_tl (news_tl (news_tl N9))))) hb2
  obtain ⟨q36, q35, q34, q33⟩ := off4 (news_tl (news_tl (news_tl (news_tl (news_tl N9))))) ht9
  dsimp only at q16 q15 q14 q13 q26 q25 q24 q23 q36 q35 q34 q33
  have N6 := news_one F9 (news_one F9 (news_one F9 N7 e4 hb2) e3 hb1) et9 ht9
  clear N7 F9 N9
  k_here
  k_dflt (refine' unpackN_ ?k1 ?k2 ?k3 ?k4 ?k5 ?k6 ?_)
  (case k1 => k_asm)
  (case k2 => k_asm)
  (case k3 => exact News.isTup (by k_asm) (by k_mem))
  (case k4 => exact rfl)
  (case k5 => exact rfl)
  (case k6 => exact rfl)
  k_whole
  intro h' F' N'
  try k_sweep
  k_steps
  unfold Stop
  k_dflt (refine' storeX_C ?kF ?kN ?kc ?kU ?kd ?_ ?k1 ?k2)
  (case k1 => rfl)
  (case k2 => rfl)
  (case kF => k_asm)
  (case kN => k_asm)
  (case kc => rfl)
  case kU =>
    refine' UpdF.tail (by k_ne) (UpdF.tail (by k_ne) (UpdF.tail (by k_ne) (UpdF.tail (by k_ne) (UpdF.tail (by k_ne) (UpdF.tail (by k_ne) (UpdF.tail (by k_ne) (UpdF.tail (by k_ne) (UpdF.tail (by k_ne) (UpdF.head ?_)))))))))
    refine List.forall_mem_cons.mpr ⟨by k_ne, ?_⟩
    refine List.forall_mem_cons.mpr ⟨by k_ne, ?_⟩
    refine List.forall_mem_cons.mpr ⟨by k_ne, ?_⟩
    refine List.forall_mem_cons.mpr ⟨by k_ne, ?_⟩
    exact fun q hq => hoff q hq _ (by k_mem)
  (case kd => k_asm)
  k_whole
  intro h' o' F' N' d'
  try dsimp only at N'
  try k_sweep
  k_steps
  unfold Stop
  k_dflt (refine' storeX_C ?kF ?kN ?kc ?kU ?kd ?_ ?k1 ?k2)
  (case k1 => rfl)
  (case k2 => rfl)
  (case kF => k_asm)
  (case kN => k_asm)
  (case kc => rfl)
  case kU =>
    refine' UpdF.tail (by k_ne) (UpdF.tail (by k_ne) (UpdF.tail (by k_ne) (UpdF.tail (by k_ne) (UpdF.tail (by k_ne) (UpdF.tail (by k_ne) (UpdF.tail (by k_ne) (UpdF.tail (by k_ne) (UpdF.head ?_))))))))
    refine List.forall_mem_cons.mpr ⟨by k_ne, ?_⟩
    refine List.forall_mem_cons.mpr ⟨by k_ne, ?_⟩
    refine List.forall_mem_cons.mpr ⟨by k_ne, ?_⟩
    refine List.forall_mem_cons.mpr ⟨by k_ne, ?_⟩
    refine List.forall_mem_cons.mpr ⟨by k_ne, ?_⟩
    exact fun q hq => hoff q hq _ (by k_mem)
  (case kd => k_asm)
  k_whole
  intro h' o' F' N' d'
  try dsimp only at N'
  try k_sweep
  k_steps
  unfold Stop
  (rename Fr _ _ _ _ => F9); (rename News _ _ _ _ => N9)
  replace N9 := news_tl N9
  have hst : (stepsOf (evened row)).length < 30 := by have := FF.ev; simp only [stepsOf, List.length_cons, List.length_drop]; omega
  refine' use_spec (there_ I6 FF.stp (by omega)) ?hh ?dp ?hu X0 T0 F9 N9 (news_list N9 (.tail _ (.tail _ (.head _)))) ?_
  case hh => with_unfolding_all rfl
  case dp => simp only [depth_deeper]; with_unfolding_all decide
  case hu => simp only [units_deeper]; with_unfolding_all decide
  rintro _ h8 tk8 F8 N8 k9 ⟨g1, git, gk, rfl, hg1, eg1, JS⟩
  have N7 := news_one F9 N8 eg1 hg1
  have lg : git.toList.length ≤ 200 := by rw [strs_len JS, pairs_len sixT (fun _ => rfl), List.length_reverse]; omega
  clear N8 F9 N9
  refine star_seq F8 N7 (.head _) rfl rfl (.inl rfl) rfl (by rw [sizeLine_eq, ← Array.length_toList]; omega) ?_
  intro h9 F10 N10
  replace N10 := news_tl N10
  clear F8 N7
  k_steps
  unfold Stop
  (rename Fr _ _ _ _ => F9); (rename News _ _ _ _ => N9)
  simp only [List.append_nil]
  refine' use_spec (repl_ JS FF.there (by omega)) ?hh ?dp ?hu X0 T0 F9 N9 trivial ?_
  case hh => with_unfolding_all rfl
  case dp => simp only [depth_deeper]; with_unfolding_all decide
  case hu => simp only [units_deeper]; with_unfolding_all decide
  rintro _ h10 tk10 F11 N11 k10 ⟨tm, rfl⟩
  clear F9 N9
  k_steps
  unfold Stop
  (rename Fr _ _ _ _ => F9); (rename News _ _ _ _ => N9)
  refine' use_spec (back_ I6 FF.stp (by omega)) ?hh ?dp ?hu X0 T0 F9 N9 (news_list N9 (.tail _ (.tail _ (.head _)))) ?_
  case hh => with_unfolding_all rfl
  case dp => simp only [depth_deeper]; with_unfolding_all decide
  case hu => simp only [units_deeper]; with_unfolding_all decide
  rintro _ h11 tk11 F8 N8 k11 ⟨g2, git2, gk2, rfl, hg2, eg2, JB⟩
  have N7 := news_one F9 N8 eg2 hg2
  have lg2 : git2.toList.length ≤ 200 := by rw [strs_len JB, pairs_len sixB (fun _ => rfl)]; omega
  clear N8 F9 N9
  refine star_seq F8 N7 (.head _) rfl rfl (.inl rfl) rfl (by rw [sizeLine_eq, ← Array.length_toList]; omega) ?_
  intro h12 F10 N10
  replace N10 := news_tl N10
  clear F8 N7
  k_steps
  unfold Stop
  (rename Fr _ _ _ _ => F9); (rename News _ _ _ _ => N9)
  simp only [List.append_nil]
  refine' use_spec (repl_ JB FF.back (by omega)) ?hh ?dp ?hu X0 T0 F9 N9 trivial ?_
  case hh => with_unfolding_all rfl
  case dp => simp only [depth_deeper]; with_unfolding_all decide
  case hu => simp only [units_deeper]; with_unfolding_all decide
  rintro _ h13 tk13 F11 N11 k13 ⟨tn, rfl⟩
  clear F9 N9
  k_with "myneg" => refine stop_ ?_
  k_steps
  unfold Stop
  (rename Fr _ _ _ _ => F9); (rename News _ _ _ _ => N9)
  refine item_neg (j := 0) N9 (.tail _ (.tail _ (.tail _ (.head _)))) I1 (by have := FF.ln; omega) (by decide) ?_ (by with_unfolding_all rfl)
  intro tl
  rw [show los.getD (los.length - (0 + 1)) 0 = (word.length : Int) from FF.last]
  k_with "mylen" => refine stop_ ?_
  k_steps
  unfold Stop
  refine len_str (by have := word_le FF.back; omega) ?_
  k_steps
  unfold Stop
  w_top off
  k_with_none
  rename Frag.In _ _ => X0
  (rename _ = Data.cell (some (Value.ref b2)) => dc6)
  (rename _ = Data.cell (some (Value.ref b1)) => dc5)
  (rename _ = Data.cell (some (Value.ref a2)) => dc4)
  (rename _ = Data.cell (some (Value.ref a1)) => dc3)
  (rename _ = Data.cell (some (Value.int up _)) => dc2)
  (rename _ = Data.cell (some (Value.int lo _)) => dc1)
  have N2 := to_ledP N9
  have hf := fun_fixed N9 dc1 dc2 dc3 dc4 dc5 dc6
  clear N9
  have hsz1 : (us1.size : Int) = ones.length := by rw [← J1.length]; simp
  have hln := FF.ln
  k_dflt (refine LCg.ListComp_U (F₀ := F9) (by with_unfolding_all rfl) (by decide) (by rfl) (by decide) (by rfl) ?_)
  k_with "mysrc" => refine stop_ ?_
  k_with "mylen" => refine stop_ ?_
  k_steps
  unfold Stop
  refine kun_lenL (news_list N2 (.head _)) hsz1 (by omega) ?_
  k_steps
  unfold Stop
  try clear F9
  try clear N2
  (rename Fr _ _ _ _ => F9); (rename News _ _ _ _ => N9); (rename IsRange _ _ _ _ _ _ _ _ => R9)
  k_dflt (refine LCg.CompSrc.range (n := ones.length) ?hh F9 N9 R9 ?sm ?rs ?sz ?_)
  case hh => with_unfolding_all rfl
  case sm => exact small_one (by omega) (by omega) (by omega) (by omega)
  case rs => exact rangeSize_nat _ _
  case sz => rw [sizeLine_eq]; omega
  intro g'
  clear F9 N9 R9
  refine comp_inv (ledP _) (PairP _ #[] #[] (fun k => pairD (up * ((k : Int) + 1)) lo)) (p1, p2, cs, []) ⟨C8, .nil, all0⟩ ?_ ?_
  · intro i k t9' I oI C oC D9 m₂ ys h tk c E' hi hk hP hC hx F N off ne
    have NX := led_fixed N
    k_with "mycall" => refine stop_ ?_
    k_steps
    unfold Stop
    subst hk
    refine pair_turn X0 T0 ?hh ?dp ?hu ?ha ?hb F N off hf hP ?hg ⟨_, _, rfl⟩
    case hh => with_unfolding_all rfl
    case dp => simp only [depth_deeper]; with_unfolding_all decide
    case hu => simp only [units_deeper]; with_unfolding_all decide
    case ha => have := mul_bd (x := up) (y := 0 + (i : Int) + 1) (by omega) (by omega) (by omega) (by omega); omega
    case hb => omega
    case hg => rw [Int.zero_add]
  intro ys c hP
  unfold LCg.FinE
  intro D1 hq1 tkq1 F9 N9 off1
  replace N9 := to_led2 N9
  k_with_none
  k_with "mycall" => refine stop_ ?_
  k_with "mysrc" => refine stop_ ?_
  k_with "mylen" => refine stop_ ?_
  k_with "mycomp" => refine stop_ ?_
  k_with "myitem2" => refine stop_ ?_
  k_steps
  unfold Stop
  k_dflt (refine LCg.ListComp_U (F₀ := F9) (by with_unfolding_all rfl) (by decide) (by rfl) (by decide) (by rfl) ?_)
  k_steps
  unfold Stop
  refine kun_lenL (news_list N9 (.tail _ (.head _))) hsz1 (by omega) ?_
  k_steps
  unfold Stop
  try clear F9
  try clear N9
  (rename Fr _ _ _ _ => F9); (rename News _ _ _ _ => N9); (rename IsRange _ _ _ _ _ _ _ _ => R9)
  k_dflt (refine LCg.CompSrc.range (n := ones.length) ?hh F9 N9 R9 ?sm ?rs ?sz ?_)
  case hh => with_unfolding_all rfl
  case sm => exact small_one (by omega) (by omega) (by omega) (by omega)
  case rs => exact rangeSize_nat _ _
  case sz => rw [sizeLine_eq]; omega
  intro g2'
  clear F9 N9 R9
  refine comp_inv (led2 _ _) (TupP (fun k => .tuple [.int (ones.getD k 0), .int (rests.getD k 0)])) [] .nil ?_ ?_
  · intro i k t9' I oI C oC D9 m₂ zs h tk c2 E' hi hk hQ hC hx F N off ne
    simp only [led2, List.cons_append, List.nil_append] at N
    k_steps
    unfold Stop
    refine item_at (j := i) (by omega) N (.tail _ (.tail _ (.tail _ (.tail _ (.head _))))) J1 hi (by omega) ?_ (by with_unfolding_all rfl)
    intro tq1
    k_steps
    unfold Stop
    refine item_at (j := i) (by omega) N (.tail _ (.tail _ (.tail _ (.tail _ (.tail _ (.head _)))))) J2 (by omega) (by omega) ?_ (by with_unfolding_all rfl)
    intro tq2
    k_steps
    (rename I < _ ∧ C < _ ∧ D9 < _ ∧ _ => l9); (rename Fr _ _ _ _ => F8); (rename News _ _ _ _ => N8)
    exact tup_end F8 off hQ N8 ⟨l9.1, l9.2.1, l9.2.2.1⟩ rfl
  intro zs c2 hQ
  unfold LCg.FinE
  intro D2' hq2 tkq2 F9 N9 off2
  k_with "mycmp" => refine stop_ ?_
  k_steps
  unfold Stop
  refine ne_same (ds := (List.range ones.length).map _) (es := (List.range ones.length).map _) N9 (.tail _ (.head _)) rfl rfl hP.2.1 (fun q hq => .tail _ (List.mem_append_right _ (List.mem_append_right _ (.tail _ (.tail _ (List.mem_append_left _ hq)))))) (.head _) rfl rfl hQ (fun q hq => .tail _ (List.mem_append_right _ (List.mem_append_left _ hq))) ok_pairs ok_pairs ?hu (pairs_eq FF.dm) ?_
  case hu => simp only [units_deeper]; with_unfolding_all decide
  replace N9 := from_led2 N9
  k_steps
  unfold Stop
  have C7 := hP.1
  clear off2 hQ hP off1
  k_dflt (refine LCg.ListComp_U (F₀ := F9) (by with_unfolding_all rfl) (by decide) (by rfl) (by decide) (by rfl) ?_)
  k_steps
  unfold Stop
  refine kun_lenL (news_list N9 (.head _)) hsz1 (by omega) ?_
  k_steps
  unfold Stop
  try clear F9
  try clear N9
  (rename Fr _ _ _ _ => F9); (rename News _ _ _ _ => N9); (rename IsRange _ _ _ _ _ _ _ _ => R9)
  k_dflt (refine LCg.CompSrc.range (n := ones.length) ?hh F9 N9 R9 ?sm ?rs ?sz ?_)
  case hh => with_unfolding_all rfl
  case sm => exact small_one (by omega) (by omega) (by omega) (by omega)
  case rs => exact rangeSize_nat _ _
  case sz => rw [sizeLine_eq]; omega
  intro g3'
  clear F9 N9 R9
  refine comp_inv (σ := Unit) (fun _ => ledP _ _) (fun i ys _ => IntsAre ys (ones.take i)) () .nil ?_ ?_
  · intro i k t9' I oI C oC D9 m₂ zs h tk c2 E' hi hk hQ hC hx F N off ne
    obtain rfl : k = (i : Int) := by omega
    have NX := led_fixed N
    k_steps
    unfold Stop
    refine' use_spec (taken_ (r9 := ones.getD i 0) (f9 := 30) I1 I2 (by omega) (by omega) ((FF.tk i hi).trans (getD_some hi))) ?hh ?dp ?hu X0 T0 F N ⟨news_list NX (.tail _ (.tail _ (.tail _ (.tail _ (.tail _ (.head _)))))), news_list NX (.tail _ (.tail _ (.tail _ (.tail _ (.tail _ (.tail _ (.head _))))))) ⟩ ?_
    case hh => with_unfolding_all rfl
    case dp => simp only [depth_deeper]; with_unfolding_all decide
    case hu => simp only [units_deeper]; with_unfolding_all decide
    rintro _ h2' tk2' F8 N8 kk8 ⟨t8, rfl⟩
    exact ⟨h2', tk2', _, rfl, F8, N8, off, trivial, (), rfl, ints_snoc hQ (take_snoc hi)⟩
  intro zs _ hQ
  rw [List.take_length] at hQ
  unfold LCg.FinE
  intro D2' hq3 tkq3 F9 N9 off2
  k_steps
  unfold Stop
  refine ints_ne (news_list N9 (.head _)) (news_list N9 (.tail _ (.head _))) hQ J1 ?hu rfl ?_
  case hu => simp only [units_deeper]; with_unfolding_all decide
  replace N9 := news_tl N9
  clear off2 hQ
  k_with "myneg" => refine stop_ ?_
  k_steps
  unfold Stop
  refine item_neg (j := 0) N9 (.head _) J1 (by omega) (by decide) ?_ (by with_unfolding_all rfl)
  intro tq3
  rw [show ones.getD (ones.length - (0 + 1)) 0 = (e : Int) from FF.en.1]
  have he : e < 100 := FF.en.2
  have hr0 := next_is_new F9
  have hrL := Nat.ne_of_gt F9.ns.lt
  have hr30 := Nat.ne_of_gt (Heap.lt_size (N9 _ (List.mem_append_right _ (.head _))).1)
  have hr37 := Nat.ne_of_gt (Heap.lt_size (N9 _ (List.mem_append_right _ (.tail _ (.head _)))).1)
  k_with "mystore" => refine stop_ ?_
  k_steps
  unfold Stop
  try clear F9
  try clear N9
  (rename Fr _ _ _ _ => F9); (rename News _ _ _ _ => N9); (rename IsRange _ _ _ _ _ _ _ _ => R9)
  replace N9 := range_led R9 hrL hr0 N9
  clear R9
  k_with_none
  k_with "mycall" => refine stop_ ?_
  k_with "mysrc" => refine stop_ ?_
  k_with "mycmp" => refine stop_ ?_
  k_with "mycomp" => refine stop_ ?_
  k_steps
  unfold Stop
  (rename Fr _ _ _ _ => F9); (rename News _ _ _ _ => N9)
  k_dflt (refine LCg.ListComp_U (F₀ := F9) (by with_unfolding_all rfl) (by decide) (by rfl) (by decide) (by rfl) ?_)
  k_steps
  unfold Stop
  k_dflt (refine LCg.CompSrc.range (n := e) ?hh F9 N9 (N9 _ (.head _)).1 ?sm ?rs ?sz ?_)
  case hh => with_unfolding_all rfl
  case sm => exact small_one (by omega) (by omega) (by omega) (by omega)
  case rs => rw [rangeSize_one]; split <;> omega
  case sz => rw [sizeLine_eq]; omega
  intro g4'
  clear F9 N9
  refine comp_inv (σ := Unit) (fun _ => ledP _ _) (fun i ys _ => IntsAre ys ((List.range i).map fun j : Nat => bisectL ones ((j : Int) + 1))) () .nil ?_ ?_
  · intro i k t9' I oI C oC D9 m₂ zs h tk c2 E' hi hk hQ hC hx F N off ne
    obtain rfl : k = (i : Int) + 1 := by omega
    have NX := led_fixed N
    k_steps
    unfold Stop
    refine' use_spec (bis_left J1 (by omega)) ?hh ?dp ?hu X0 T0 F N (news_list NX (.tail _ (.tail _ (.tail _ (.tail _ (.head _)))))) ?_
    case hh => with_unfolding_all rfl
    case dp => simp only [depth_deeper]; with_unfolding_all decide
    case hu => simp only [units_deeper]; with_unfolding_all decide
    rintro _ h2' tk2' F8 N8 kk8 ⟨t8, rfl⟩
    exact ⟨h2', tk2', _, rfl, F8, N8, off, trivial, (), rfl, ints_snoc hQ (by rw [List.range_succ, List.map_append]; rfl)⟩
  intro ys4 _ hQ4
  unfold LCg.FinE
  intro D4 hq4 tkq4 F9 N9 off4
  have hd30 := tab_off N9 (.head _) (.tail _ (List.mem_append_right _ (.head _))) list_nf
  have hd37 := tab_off N9 (.head _) (.tail _ (List.mem_append_right _ (.tail _ (.head _)))) list_nf
  replace N9 := led_in N9
  k_steps
  unfold Stop
  k_dflt (refine LCg.ListComp_U (F₀ := F9) (by with_unfolding_all rfl) (by decide) (by rfl) (by decide) (by rfl) ?_)
  k_steps
  unfold Stop
  k_dflt (refine LCg.CompSrc.range (n := e) ?hh F9 N9 (N9 _ (.tail _ (.head _))).1 ?sm ?rs ?sz ?_)
  case hh => with_unfolding_all rfl
  case sm => exact small_one (by omega) (by omega) (by omega) (by omega)
  case rs => rw [rangeSize_one]; split <;> omega
  case sz => rw [sizeLine_eq]; omega
  intro g5'
  clear F9 N9
  refine comp_inv (ledP _) (NegP _ #[] #[] (fun j : Nat => - ((- lo * ((j : Int) + 1)) / up) - 1)) (c.1, c.2.1, c.2.2.1, []) ⟨C7, rfl, .nil⟩ ?_ ?_
  · intro i k t9' I oI C oC D9 m₂ zs h tk c2 E' hi hk hQ hC hx F N off ne
    obtain rfl : k = (i : Int) + 1 := by omega
    have NX := led_fixed N
    k_steps
    unfold Stop
    refine idm_turn X0 T0 ?hh ?dp ?hu ?ha ?hb F N off (hf_cons hd30 hd37 (hf_cons hr30 hr37 hf)) hQ.1 (by rw [hQ.2.1]; exact all0) ?_
    case hh => with_unfolding_all rfl
    case dp => simp only [depth_deeper]; with_unfolding_all decide
    case hu => simp only [units_deeper]; with_unfolding_all decide
    case ha => have := mul_bd (x := lo) (y := (i : Int) + 1) (by omega) (by omega) (by omega) (by omega); rw [Int.neg_mul]; omega
    case hb => omega
    intro t5 u5 v5 k5 h5' tk5' q1' q2' nw F8 NN CT' ht30 ht37
    obtain ⟨N8, off8⟩ := NN _ rfl
    clear NN F N NX off
    k_steps
    exact ⟨h5', _, _, rfl, F8, drop_ex N8, off_ex off8, trivial, _, rfl, CT', rfl, ints_snoc hQ.2.2 (by rw [List.range_succ, List.map_append]; rfl)⟩
  intro ys5 c5 hQ5
  unfold LCg.FinE
  intro D5 hq5 tkq5 F9 N9 off5
  k_steps
  unfold Stop
  refine ints_eq (news_list N9 (.tail _ (.head _))) (news_list N9 (.head _)) hQ4 hQ5.2.2 ?hu (List.map_congr_left fun j hj => FF.bis j (List.mem_range.mp hj)) ?_
  case hu => simp only [units_deeper]; with_unfolding_all decide
  k_steps)
end Mine
theorem PySem.Challenge.cw_pe0176_01_holds : PySem.Challenge.rw_pe0176_01.Holds := by
  exact Mine.lawH
