import PyProof.Rows.All
import Wide.All
import OpenK.AllK
import Wide.FinOn
import Lean
import PySem.Challenge.RW_rw0046_01
set_option Elab.async false
section
open PySem PySem.W PyProof.Rows
namespace Mine
set_option maxRecDepth 100000 in
set_option maxHeartbeats 8000000 in
open_top hd for PySem.Challenge.rw_rw0046_01
end Mine

end
section
open PySem PySem.W PyProof.Rows PySem.Calls PyProof.V PySem.Spec
namespace Mine

/-- a goal at which the walk halts -/
def Stop (P : Prop) : Prop := P
theorem Stop.mk {P : Prop} (h : Stop P) : P := h
theorem Stop.out {P : Prop} (h : P) : Stop P := h

/-- the end of a turn, or of a piece: letters c, the ledger Led c, the names ps c, the word P c -/
def MyEnd {σ : Type} (h₀ : Heap) (L : Addr) (s : Shared) (own : List (Addr × Obj)) (Led : σ → List (Addr × Obj)) (ps : σ → List (Str × Value)) (P : σ → Prop) (s₂ : Shared) : Prop :=
  ∃ (c : σ) (h' : Heap) (tk : Nat) (m' : Str → Option Value) (news' : List (Addr × Obj)), s₂ = { s with heap := h', toks := tk } ∧ Fr h₀ L h' m' ∧ News h₀ L h' news' ∧ (∀ p ∈ Led c, p ∈ news') ∧ (∀ p ∈ own, p ∈ news') ∧ (∀ p ∈ ps c, m' p.1 = some p.2) ∧ P c
def MyPost {σ : Type} (h₀ : Heap) (L : Addr) (s : Shared) (own : List (Addr × Obj)) (Led : σ → List (Addr × Obj)) (ps : σ → List (Str × Value)) (P : σ → Prop) (Q : Flow → Shared → Prop) (f : Flow) (s₂ : Shared) : Prop :=
  match f with
  | .ret v => Q (.ret v) s₂
  | .brk => Q .next s₂
  | _ => MyEnd h₀ L s own Led ps P s₂
def MyCut {σ : Type} (h₀ : Heap) (L : Addr) (s : Shared) (Led : σ → List (Addr × Obj)) (ps : σ → List (Str × Value)) (P : σ → Prop) (Q : Flow → Shared → Prop) (f : Flow) (s₂ : Shared) : Prop :=
  match f with
  | .next => MyEnd h₀ L s [] Led ps P s₂
  | f => Q f s₂
def NamesAre (m' : Str → Option Value) (ps : List (Str × Value)) : Prop := ∀ p ∈ ps, m' p.1 = some p.2
theorem my_end {σ : Type} {h₀ : Heap} {L : Addr} {s : Shared} {own : List (Addr × Obj)} {Led : σ → List (Addr × Obj)} {ps : σ → List (Str × Value)} {P : σ → Prop} (c : σ) {h' : Heap} {tk : Nat} {m' : Str → Option Value} {news' : List (Addr × Obj)}
    (F : Fr h₀ L h' m') (N : News h₀ L h' news') (hk : NamesAre m' (ps c)) (hn : ∀ p ∈ Led c, p ∈ news') (ho : ∀ p ∈ own, p ∈ news') (hp : P c) :
    MyEnd h₀ L s own Led ps P { s with heap := h', toks := tk } := ⟨c, h', tk, m', news', rfl, F, N, hn, ho, hk, hp⟩

theorem kst_fr {h₀ : Heap} {L : Addr} {h : Heap} {ps : List (Str × Value)} {m₁ : Str → Option Value} (h1 : ∀ p ∈ ps, m₁ p.1 = some p.2) (F : Fr h₀ L h m₁) : Fr h₀ L h (kstB m₁ ps) := by
  have em : kstB m₁ ps = m₁ := by
    funext y
    exact kstB_eq h1 fun _ => rfl
  rw [em]; exact F

section
variable {prog : Program} {w : World} {A : Around} {E : Value → Shared → Prop} {s : Shared} {env : Env} {h₀ : Heap} {L : Addr} {Q : Flow → Shared → Prop}

/-- a piece whose ways meet -/
theorem my_cut {σ : Type} {c : Sem Flow} (Led : σ → List (Addr × Obj)) (ps : σ → List (Str × Value)) (P : σ → Prop) (h₀ : Heap) (L : Addr)
    (h : wpAny (model prog w) A c (MyCut h₀ L s Led ps P Q) E s)
    (k : ∀ (c : σ) (u : Str → Option Value) h tk, P c → Fr h₀ L h (kstB u (ps c)) → News h₀ L h (Led c) → Q .next { s with heap := h, toks := tk }) : wpAny (model prog w) A c Q E s := by
  refine wpAny_mono h (fun f s₂ hf => ?_) fun _ _ x => x
  cases f with
  | ret v => exact hf
  | brk => exact hf
  | next =>
    obtain ⟨c, h', tk, m', news', rfl, F, N, hn, _, hk, hp⟩ := hf
    exact k c m' h' tk hp (kst_fr hk F) (fun p hp => N p (hn p hp))
  | cont => exact hf

theorem my_cut0 {σ : Type} {c : Sem Flow} {m₀ : Str → Option Value} {news : List (Addr × Obj)} (ps : σ → List (Str × Value)) (P : σ → Prop) (_F : Fr h₀ L s.heap m₀) (_N : News h₀ L s.heap news)
    (h : wpAny (model prog w) A c (MyCut h₀ L s (fun _ => news) ps P Q) E s)
    (k : ∀ (c : σ) (u : Str → Option Value) h tk, P c → Fr h₀ L h (kstB u (ps c)) → News h₀ L h news → Q .next { s with heap := h, toks := tk }) : wpAny (model prog w) A c Q E s :=
  my_cut (fun _ => news) ps P h₀ L h k

theorem my_cutK {σ : Type} {c : Sem Flow} {m₀ : Str → Option Value} {news : List (Addr × Obj)} (psK : List (Str × Value)) (ps : σ → List (Str × Value)) (P : σ → Prop) (_F : Fr h₀ L s.heap m₀) (_N : News h₀ L s.heap news) (_hk : ∀ p ∈ psK, m₀ p.1 = some p.2)
    (h : wpAny (model prog w) A c (MyCut h₀ L s (fun _ => news) (fun c => ps c ++ psK) P Q) E s)
    (k : ∀ (c : σ) (u : Str → Option Value) h tk, P c → Fr h₀ L h (kstB u (ps c ++ psK)) → News h₀ L h news → Q .next { s with heap := h, toks := tk }) : wpAny (model prog w) A c Q E s :=
  my_cut (fun _ => news) (fun c => ps c ++ psK) P h₀ L h k

theorem my_while {σ : Type} {test : Expr} {body : List Stmt} {pos : Pos} {m₀ : Str → Option Value} (Led : σ → List (Addr × Obj)) (ps : σ → List (Str × Value)) (P X : σ → Prop) (μ : σ → Nat) (c₀ : σ)
    (F : Fr h₀ L s.heap m₀) (N : News h₀ L s.heap (Led c₀)) (hk : ∀ p ∈ ps c₀, m₀ p.1 = some p.2) (hp : P c₀)
    (turn : ∀ (c : σ) (u : Str → Option Value) h tk, P c → Fr h₀ L h (kstB u (ps c)) → News h₀ L h (Led c) →
      wpAny (model prog w) A (isTrue test env (eval test env)) (fun b s₂ =>
        if b = true then wpAny (model prog w) A (execs body env) (MyPost h₀ L s [] Led ps (fun c' => P c' ∧ μ c' < μ c) Q) E s₂ else MyEnd h₀ L s [] Led ps X s₂) E { s with heap := h, toks := tk })
    (done : ∀ (c : σ) (u : Str → Option Value) h tk, X c → Fr h₀ L h (kstB u (ps c)) → News h₀ L h (Led c) → Q .next { s with heap := h, toks := tk })
    (hE : PassesOwn (model prog w) A env E := by passes_own) :
    wpAny (model prog w) A (exec (.While test body [] pos) env) Q E s := by
  refine While_inv2 (fun n m nx => ∃ c : σ, nx = Led c ∧ μ c = n ∧ (∀ p ∈ ps c, m p.1 = some p.2) ∧ P c) F N ⟨c₀, rfl, rfl, hk, hp⟩ ?_ hE
  rintro n m₁ nx h tk F₁ N₁ ⟨c, rfl, rfl, h1, hp'⟩
  refine wpAny_mono (turn c m₁ h tk hp' (kst_fr h1 F₁) N₁) (fun b s₂ p => ?_) fun _ _ x => x
  cases b with
  | false =>
    simp only [Bool.false_eq_true, if_false] at p ⊢
    obtain ⟨c, h', tk, m', news', rfl, F, N, hn, _, hk, hp⟩ := p
    exact done c m' h' tk hp (kst_fr hk F) (fun p hp => N p (hn p hp))
  | true =>
    simp only [if_true] at p ⊢
    refine wpAny_mono p (fun f s₃ q => ?_) fun _ _ x => x
    cases f with
    | ret v => exact q
    | brk => exact q
    | next =>
      obtain ⟨c', h', tk', m', news', rfl, F', N', hn, _, hk9, hp9, hm9⟩ := q
      exact ⟨h', tk', m', Led c', μ c', rfl, F', fun p hp => N' p (hn p hp), hm9, c', rfl, rfl, hk9, hp9⟩
    | cont =>
      obtain ⟨c', h', tk', m', news', rfl, F', N', hn, _, hk9, hp9, hm9⟩ := q
      exact ⟨h', tk', m', Led c', μ c', rfl, F', fun p hp => N' p (hn p hp), hm9, c', rfl, rfl, hk9, hp9⟩

section
variable {x : Str} {body : List Stmt}
/-- a loop over what walks, its target a local name; returns allowed -/
theorem my_loopV {σ : Type} {I : Addr} {fp wr : List Addr} {n : Nat} {V : Nat → Value → Prop} {St : Nat → Heap → Prop} {m₀ : Str → Option Value}
    (Led : σ → List (Addr × Obj)) (ps : σ → List (Str × Value)) (P : Nat → σ → Prop) (c₀ : σ) (hadr : ∀ c, (Led c).map (·.1) = (Led c₀).map (·.1))
    (W : Walks prog w A I fp wr n V St) (hLf : env.locals ∉ fp) (hwr : ∀ b ∈ wr, h₀.get? b = none) (hnw : ∀ p ∈ Led c₀, p.1 ∉ wr) (hfp : ∀ q ∈ Led c₀, q.1 ∉ fp) (hst : St 0 s.heap)
    (F : Fr h₀ env.locals s.heap m₀) (N : News h₀ env.locals s.heap (Led c₀)) (hk : ∀ p ∈ ps c₀, m₀ p.1 = some p.2) (hp : P 0 c₀)
    (turn : ∀ i v (c : σ) (u : Str → Option Value) h tk own, i < n → V i v → OwnOff own ((Led c).map (·.1)) → P i c →
      Fr h₀ env.locals h (fun y => if y = x then some v else kstB u (ps c) y) → News h₀ env.locals h (Led c ++ own) →
      wpAny (model prog w) A (execs body env) (MyPost h₀ env.locals { s with heap := h, toks := tk } own Led ps (P (i + 1)) Q) E { s with heap := h, toks := tk })
    (done : ∀ (c : σ) (u : Str → Option Value) h tk, P n c → Fr h₀ env.locals h (kstB u (ps c)) → News h₀ env.locals h (Led c) → Q .next { s with heap := h, toks := tk }) :
    LoopAtV prog w A h₀ env x body Q E (.ref I) s := by
  refine loop_invN (fun i m nx => ∃ c : σ, nx = Led c ∧ (∀ p ∈ ps c, m p.1 = some p.2) ∧ P i c) W hLf hwr hnw hfp hst F N ⟨c₀, rfl, hk, hp⟩ ?_ ?_
  · rintro i v m₁ nx h tk own hi hv ha hoff ⟨c, rfl, h1, hp'⟩ F₁ N₁
    have em : kstB m₁ (ps c) = m₁ := by
      funext y
      exact kstB_eq h1 fun _ => rfl
    refine wpAny_mono (turn i v c m₁ h tk own hi hv (by rw [ha]; exact hoff) hp' (by rw [em]; exact F₁) N₁) (fun f s₂ q => ?_) fun _ _ x => x
    have go : MyEnd h₀ env.locals { s with heap := h, toks := tk } own Led ps (P (i + 1)) s₂ →
        InvEndN h₀ env.locals (fun m nx => ∃ c : σ, nx = Led c ∧ (∀ p ∈ ps c, m p.1 = some p.2) ∧ P (i + 1) c) own ((Led c₀).map (·.1)) { s with heap := h, toks := tk } s₂ := by
      rintro ⟨c', h', tk', m', news', rfl, F', N', hn, ho, hk9, hp9⟩
      exact ⟨h', tk', m', news', Led c', rfl, F', N', hn, ho, hadr c', c', rfl, hk9, hp9⟩
    cases f with
    | ret v => exact q
    | brk => exact q
    | next => exact go q
    | cont => exact go q
  · rintro m₁ nx h tk ⟨c, rfl, h1, hp'⟩ F₁ N₁
    exact done c m₁ h tk hp' (kst_fr h1 F₁) N₁

theorem my_rangeV {σ : Type} {r : Addr} {a₀ b₀ : Int} {t₀ u₀ v₀ : Tok} {m₀ : Str → Option Value}
    (Led : σ → List (Addr × Obj)) (ps : σ → List (Str × Value)) (n : Nat) (P : Nat → σ → Prop) (c₀ : σ) (hadr : ∀ c, (Led c).map (·.1) = (Led c₀).map (·.1))
    (hh : A.handled = none) (hr : IsRange s.heap r a₀ b₀ 1 t₀ u₀ v₀) (hsmall : Builtin.Range.small a₀ b₀ 1 = true) (hn : Builtin.Range.rangeSize a₀ b₀ 1 = (n : Int))
    (F : Fr h₀ env.locals s.heap m₀) (N : News h₀ env.locals s.heap (Led c₀)) (hk : ∀ p ∈ ps c₀, m₀ p.1 = some p.2) (hp : P 0 c₀)
    (turn : ∀ i t (c : σ) (u : Str → Option Value) h tk own, i < n → OwnOff own ((Led c).map (·.1)) → P i c →
      Fr h₀ env.locals h (fun y => if y = x then some (.int (a₀ + (i : Int)) t) else kstB u (ps c) y) → News h₀ env.locals h (Led c ++ own) →
      wpAny (model prog w) A (execs body env) (MyPost h₀ env.locals { s with heap := h, toks := tk } own Led ps (P (i + 1)) Q) E { s with heap := h, toks := tk })
    (done : ∀ (c : σ) (u : Str → Option Value) h tk, P n c → Fr h₀ env.locals h (kstB u (ps c)) → News h₀ env.locals h (Led c) → Q .next { s with heap := h, toks := tk }) :
    wpAny (model prog w) A (pyIter (.ref r)) (fun it s₂ => LoopAtV prog w A h₀ env x body Q E it s₂) E s := by
  refine wpAny_pyIter_range hr hsmall ?_
  have W := Walks.range (prog := prog) (w := w) hh s.heap.objs.size a₀ 1 n
  refine my_loopV Led ps P c₀ hadr W ?_ ?_ ?_ ?_ (by show IsRangeIter _ _ _ _ _; rw [hn]; simpa using Heap.get?_push_size _ rfl) (F.push _) (fun p hp => ⟨Heap.get?_push_of_some _ (N p hp).1, (N p hp).2⟩) hk hp ?_ ?_
  · intro hm
    exact absurd F.ns.lt ((List.mem_singleton.mp hm) ▸ Nat.lt_irrefl _)
  · intro b hb
    rw [List.mem_singleton.mp hb]
    exact next_is_new F
  · intro p hp hI
    exact absurd (Heap.lt_size (N p hp).1) ((List.mem_singleton.mp hI) ▸ Nat.lt_irrefl _)
  · intro p hp hI
    exact absurd (Heap.lt_size (N p hp).1) ((List.mem_singleton.mp hI) ▸ Nat.lt_irrefl _)
  · rintro i v c u h tk own hi ⟨t, rfl⟩ hoff hp' F₁ N₁
    have e1 : a₀ + (i : Int) * 1 = a₀ + (i : Int) := by omega
    rw [e1] at F₁
    exact turn i t c u h tk own hi hoff hp' F₁ N₁
  · intro c u h tk hp' F₁ N₁
    exact done c u h tk hp' F₁ N₁

/-- a loop over a list of ints of the ledger, which stays -/
theorem my_intsV {σ : Type} {l : Addr} {vs : List Value} {ns : List Int} {nn : Nat} {m₀ : Str → Option Value}
    (Led : σ → List (Addr × Obj)) (ps : σ → List (Str × Value)) (P : Nat → σ → Prop) (c₀ : σ)
    (hh : A.handled = none) (hl : ∀ c, (l, listOf vs.toArray nn) ∈ Led c) (hi : IntsAre vs ns) (hadr : ∀ c, (Led c).map (·.1) = (Led c₀).map (·.1))
    (F : Fr h₀ env.locals s.heap m₀) (N : News h₀ env.locals s.heap (Led c₀)) (hk : ∀ p ∈ ps c₀, m₀ p.1 = some p.2) (hp : P 0 c₀)
    (turn : ∀ i k t (c : σ) (u : Str → Option Value) h tk own, ns[i]? = some k → OwnOff own ((Led c).map (·.1)) → P i c →
      Fr h₀ env.locals h (fun y => if y = x then some (.int k t) else kstB u (ps c) y) → News h₀ env.locals h (Led c ++ own) →
      wpAny (model prog w) A (execs body env) (MyPost h₀ env.locals { s with heap := h, toks := tk } own Led ps (P (i + 1)) Q) E { s with heap := h, toks := tk })
    (done : ∀ (c : σ) (u : Str → Option Value) h tk, P ns.length c → Fr h₀ env.locals h (kstB u (ps c)) → News h₀ env.locals h (Led c) → Q .next { s with heap := h, toks := tk }) :
    wpAny (model prog w) A (pyIter (.ref l)) (fun it s₂ => LoopAtV prog w A h₀ env x body Q E it s₂) E s := by
  refine iter_invNL (fun i m nx => ∃ c : σ, nx = Led c ∧ (∀ p ∈ ps c, m p.1 = some p.2) ∧ P i c) hh (hl c₀) hi F N ⟨c₀, rfl, hk, hp⟩ ?_ ?_
  · rintro i k t m₁ nx h tk own hki ha hoff _ ⟨c, rfl, h1, hp'⟩ F₁ N₁
    have em : kstB m₁ (ps c) = m₁ := by
      funext y
      exact kstB_eq h1 fun _ => rfl
    refine wpAny_mono (turn i k t c m₁ h tk own hki (by rw [ha]; exact hoff) hp' (by rw [em]; exact F₁) N₁) (fun f s₂ q => ?_) fun _ _ x => x
    have go : MyEnd h₀ env.locals { s with heap := h, toks := tk } own Led ps (P (i + 1)) s₂ →
        InvEndN h₀ env.locals (fun m nx => (l, listOf vs.toArray nn) ∈ nx ∧ ∃ c : σ, nx = Led c ∧ (∀ p ∈ ps c, m p.1 = some p.2) ∧ P (i + 1) c) own ((Led c₀).map (·.1)) { s with heap := h, toks := tk } s₂ := by
      rintro ⟨c', h', tk', m', news', rfl, F', N', hn, ho, hk9, hp9⟩
      exact ⟨h', tk', m', news', Led c', rfl, F', N', hn, ho, hadr c', hl c', c', rfl, hk9, hp9⟩
    cases f with
    | ret v => exact q
    | brk => exact q
    | next => exact go q
    | cont => exact go q
  · rintro m₁ nx h tk _ ⟨c, rfl, h1, hp'⟩ F₁ N₁
    exact done c m₁ h tk hp' (kst_fr h1 F₁) N₁
/-- a loop over a list of its own, which is forgotten behind it -/
theorem my_listV {σ : Type} {D : Addr} {vs : List Value} {nn : Nat} {m₀ : Str → Option Value} {news : List (Addr × Obj)}
    (Led : σ → List (Addr × Obj)) (ps : σ → List (Str × Value)) (P : Nat → σ → Prop) (c₀ : σ) (hadr : ∀ c, (Led c).map (·.1) = (Led c₀).map (·.1))
    (hh : A.handled = none) (F : Fr h₀ env.locals s.heap m₀) (N : News h₀ env.locals s.heap news) (hD : (D, listOf vs.toArray nn) ∈ news) (hL : ∀ p ∈ Led c₀, p ∈ news) (hne : ∀ p ∈ Led c₀, p.1 ≠ D) (hk : ∀ p ∈ ps c₀, m₀ p.1 = some p.2) (hp : P 0 c₀)
    (turn : ∀ i v (c : σ) (u : Str → Option Value) h tk own, i < vs.length → vs[i]? = some v → OwnOff own ((Led c).map (·.1)) → P i c →
      Fr h₀ env.locals h (fun y => if y = x then some v else kstB u (ps c) y) → News h₀ env.locals h (Led c ++ own) →
      wpAny (model prog w) A (execs body env) (MyPost h₀ env.locals { s with heap := h, toks := tk } own Led ps (P (i + 1)) Q) E { s with heap := h, toks := tk })
    (done : ∀ (c : σ) (u : Str → Option Value) h tk, P vs.length c → Fr h₀ env.locals h (kstB u (ps c)) → News h₀ env.locals h (Led c) → Q .next { s with heap := h, toks := tk }) :
    wpAny (model prog w) A (pyIter (.ref D)) (fun it s₂ => LoopAtV prog w A h₀ env x body Q E it s₂) E s := by
  have hol : s.heap.get? D = some (listOf vs.toArray nn) := (N _ hD).1
  have hls : s.heap.IsList D vs.toArray := ⟨_, hol, rfl, nn, rfl⟩
  have hne' : D ≠ s.heap.objs.size := Nat.ne_of_lt (Heap.lt_size hol)
  refine wpAny_pyIter_list hls ?_
  have W := Walks.list (prog := prog) (w := w) hh s.heap.objs.size D hne' vs.toArray
  rw [List.size_toArray] at W
  refine my_loopV Led ps P c₀ hadr W ?_ ?_ ?_ ?_ ⟨⟨_, Heap.get?_push_size _ rfl, rfl, rfl⟩, hls.at fun o e => Heap.get?_push_of_some _ e⟩ (F.push _) (fun p hp => ⟨Heap.get?_push_of_some _ (N p (hL p hp)).1, (N p (hL p hp)).2⟩) hk hp ?_ ?_
  · intro hm
    rcases List.mem_cons.mp hm with e | hm
    · exact absurd F.ns.lt (e ▸ Nat.lt_irrefl _)
    · exact (N _ hD).2.1 ((List.mem_singleton.mp hm).symm)
  · intro b hb
    rw [List.mem_singleton.mp hb]
    exact next_is_new F
  · intro p hp hI
    exact absurd (Heap.lt_size (N p (hL p hp)).1) ((List.mem_singleton.mp hI) ▸ Nat.lt_irrefl _)
  · intro p hp hI
    rcases List.mem_cons.mp hI with e | hm
    · exact absurd (Heap.lt_size (N p (hL p hp)).1) (e ▸ Nat.lt_irrefl _)
    · exact hne p hp (List.mem_singleton.mp hm)
  · intro i v c u h tk own hi hv hoff hp' F₁ N₁
    exact turn i v c u h tk own hi (by simpa using hv) hoff hp' F₁ N₁
  · intro c u h tk hp' F₁ N₁
    exact done c u h tk hp' F₁ N₁
end
end

def MyPostT {σ : Type} (h₀ : Heap) (L : Addr) (s : Shared) (own : List (Addr × Obj)) (Led : σ → List (Addr × Obj)) (ps : σ → List (Str × Value)) (P : σ → Prop) (f : Flow) (s₂ : Shared) : Prop :=
  match f with
  | .next => MyEnd h₀ L s own Led ps P s₂
  | _ => False
section
variable {prog : Program} {w : World} {A : Around} {E : Value → Shared → Prop} {s : Shared} {env : Env} {h₀ : Heap} {L : Addr} {Q : Flow → Shared → Prop} {target : PySem.Expr} {body : List Stmt}
/-- a loop over what walks, any target; its turns end or go on -/
theorem my_loopT {σ : Type} {I : Addr} {fp wr : List Addr} {n : Nat} {V : Nat → Value → Prop} {St : Nat → Heap → Prop} {m₀ : Str → Option Value}
    (Led : σ → List (Addr × Obj)) (ps : σ → List (Str × Value)) (P : Nat → σ → Prop) (c₀ : σ) (hadr : ∀ c, (Led c).map (·.1) = (Led c₀).map (·.1))
    (W : Walks prog w A I fp wr n V St) (hLf : env.locals ∉ fp) (hwr : ∀ b ∈ wr, h₀.get? b = none) (hnw : ∀ p ∈ Led c₀, p.1 ∉ wr) (hfp : ∀ q ∈ Led c₀, q.1 ∉ fp) (hst : St 0 s.heap)
    (hgo : ∀ i (s' : Shared) v (Q' : Unit → Shared → Prop), St i s'.heap → Q' () s' → wpAny (model prog w) A (letOwnedTupleGo target (.ref I) v) Q' E s')
    (F : Fr h₀ env.locals s.heap m₀) (N : News h₀ env.locals s.heap (Led c₀)) (hk : ∀ p ∈ ps c₀, m₀ p.1 = some p.2) (hp : P 0 c₀)
    (turn : ∀ i v (c : σ) (u : Str → Option Value) s₁ own, i < n → V i v → OwnOff own ((Led c).map (·.1)) → P i c →
      Fr h₀ env.locals s₁.heap (kstB u (ps c)) → News h₀ env.locals s₁.heap (Led c ++ own) →
      wpAny (model prog w) A (assign target env v) (fun _ s₃ => wpAny (model prog w) A (execs body env) (MyPostT h₀ env.locals s₁ own Led ps (P (i + 1))) E s₃) E s₁)
    (done : ∀ (c : σ) (u : Str → Option Value) h tk, P n c → Fr h₀ env.locals h (kstB u (ps c)) → News h₀ env.locals h (Led c) → Q .next { s with heap := h, toks := tk }) :
    LoopAtT prog w A h₀ env target body Q E (.ref I) s := by
  let J : Nat → (Str → Option Value) → List (Addr × Obj) → Prop := fun i m nx => ∃ c : σ, nx = Led c ∧ (∀ p ∈ ps c, m p.1 = some p.2) ∧ P i c
  refine ⟨I, fp, wr, n, V, St, m₀, Led c₀, J, rfl, W, hLf, hwr, hnw, hst, F, N, hgo, ⟨c₀, rfl, hk, hp⟩, ?_, ?_⟩
  · rintro i v m₁ nx s₁ own hi hv ⟨c, rfl, h1, hp'⟩ hoff hown _ _ _ F₁ N₁
    have em : kstB m₁ (ps c) = m₁ := by
      funext y
      exact kstB_eq h1 fun _ => rfl
    have hsep : OwnOff own ((Led c).map (·.1)) := by
      intro p hp b hb e
      rw [hadr c] at hb
      obtain ⟨q, hq, rfl⟩ := List.mem_map.mp hb
      exact hfp q hq (e ▸ hown p hp)
    have N₂ : News h₀ env.locals s₁.heap (Led c ++ own) := fun p hp => N₁ p ((List.mem_append.mp hp).elim (fun h => List.mem_append.mpr (.inr h)) fun h => List.mem_append.mpr (.inl h))
    refine wpAny_mono (turn i v c m₁ s₁ own hi hv hsep hp' (by rw [em]; exact F₁) N₂) (fun _ s₃ h₃ => wpAny_mono h₃ (fun f s₂ q => ?_) fun _ _ x => x) fun _ _ x => x
    cases f with
    | ret v => exact q.elim
    | brk => exact q.elim
    | cont => exact q.elim
    | next =>
      obtain ⟨c', h', tk', m', news', e, F', N', hn, ho, hk9, hp9⟩ := q
      refine ⟨rfl, h', tk', m', Led c', e, F', fun p hp => N' p ((List.mem_append.mp hp).elim (ho p) (hn p)), fun p hp hq => ?_, c', rfl, hk9, hp9⟩
      have h1 : p.1 ∈ (Led c').map (·.1) := List.mem_map.mpr ⟨p, hp, rfl⟩
      rw [hadr c', ← hadr c] at h1
      obtain ⟨q, hq1, hq2⟩ := List.mem_map.mp h1
      exact hoff q hq1 (by rw [hq2]; exact hq)
  · rintro h' tk m' news' F' N' _ ⟨c, rfl, h1, hp'⟩
    exact done c m' h' tk hp' (kst_fr h1 F') N'
theorem go_name {x : Str} {px : Pos} {it v : Value} {Q' : Unit → Shared → Prop} {s' : Shared} (h : Q' () s') : wpAny (model prog w) A (letOwnedTupleGo (.Name x px) it v) Q' E s' := by
  unfold letOwnedTupleGo
  exact wpAny_pure h
theorem my_rangeT {σ : Type} {x : Str} {px : Pos} {r : Addr} {a₀ b₀ : Int} {t₀ u₀ v₀ : Tok} {m₀ : Str → Option Value}
    (Led : σ → List (Addr × Obj)) (ps : σ → List (Str × Value)) (n : Nat) (P : Nat → σ → Prop) (c₀ : σ) (hadr : ∀ c, (Led c).map (·.1) = (Led c₀).map (·.1))
    (hh : A.handled = none) (hr : IsRange s.heap r a₀ b₀ 1 t₀ u₀ v₀) (hsmall : Builtin.Range.small a₀ b₀ 1 = true) (hn : Builtin.Range.rangeSize a₀ b₀ 1 = (n : Int))
    (F : Fr h₀ env.locals s.heap m₀) (N : News h₀ env.locals s.heap (Led c₀)) (hk : ∀ p ∈ ps c₀, m₀ p.1 = some p.2) (hp : P 0 c₀)
    (turn : ∀ i t (c : σ) (u : Str → Option Value) s₁ own, i < n → OwnOff own ((Led c).map (·.1)) → P i c →
      Fr h₀ env.locals s₁.heap (kstB u (ps c)) → News h₀ env.locals s₁.heap (Led c ++ own) →
      wpAny (model prog w) A (assign (.Name x px) env (.int (a₀ + (i : Int)) t)) (fun _ s₃ => wpAny (model prog w) A (execs body env) (MyPostT h₀ env.locals s₁ own Led ps (P (i + 1))) E s₃) E s₁)
    (done : ∀ (c : σ) (u : Str → Option Value) h tk, P n c → Fr h₀ env.locals h (kstB u (ps c)) → News h₀ env.locals h (Led c) → Q .next { s with heap := h, toks := tk }) :
    wpAny (model prog w) A (pyIter (.ref r)) (fun it s₂ => LoopAtT prog w A h₀ env (.Name x px) body Q E it s₂) E s := by
  refine wpAny_pyIter_range hr hsmall ?_
  have W := Walks.range (prog := prog) (w := w) hh s.heap.objs.size a₀ 1 n
  refine my_loopT Led ps P c₀ hadr W ?_ ?_ ?_ ?_ (by show IsRangeIter _ _ _ _ _; rw [hn]; simpa using Heap.get?_push_size _ rfl) (fun i s' v Q' _ h => go_name h) (F.push _) (fun p hp => ⟨Heap.get?_push_of_some _ (N p hp).1, (N p hp).2⟩) hk hp ?_ ?_
  · intro hm
    exact absurd F.ns.lt ((List.mem_singleton.mp hm) ▸ Nat.lt_irrefl _)
  · intro b hb
    rw [List.mem_singleton.mp hb]
    exact next_is_new F
  · intro p hp hI
    exact absurd (Heap.lt_size (N p hp).1) ((List.mem_singleton.mp hI) ▸ Nat.lt_irrefl _)
  · intro p hp hI
    exact absurd (Heap.lt_size (N p hp).1) ((List.mem_singleton.mp hI) ▸ Nat.lt_irrefl _)
  · rintro i v c u s₁ own hi ⟨t, rfl⟩ hoff hp' F₁ N₁
    have e1 : a₀ + (i : Int) * 1 = a₀ + (i : Int) := by omega
    rw [e1]
    exact turn i t c u s₁ own hi hoff hp' F₁ N₁
  · intro c u h tk hp' F₁ N₁
    exact done c u h tk hp' F₁ N₁
end
theorem names_nil {m' : Str → Option Value} : NamesAre m' [] := fun _ h => nomatch h
theorem names_cons {m' : Str → Option Value} {x : Str} {v : Value} {ps : List (Str × Value)} (h : m' x = some v) (t : NamesAre m' ps) : NamesAre m' ((x, v) :: ps) := by
  intro p hp
  rcases List.mem_cons.mp hp with rfl | hp
  · exact h
  · exact t p hp
theorem name_here {x : Str} {v w : Option Value} {r : Option Value} (e : v = w) : (if x = x then v else r) = w := by rw [if_pos rfl, e]
theorem name_next {x y : Str} {v w r : Option Value} (h : x ≠ y) (e : r = w) : (if x = y then v else r) = w := by rw [if_neg h, e]
theorem mem_eqE {l l' : List (Addr × Obj)} (e : l = l') : ∀ p ∈ l, p ∈ l' := fun _ h => e ▸ h
theorem mem_appE {l l' own : List (Addr × Obj)} (e : l = l') : ∀ p ∈ l, p ∈ l' ++ own := fun _ h => List.mem_append_left _ (e ▸ h)
theorem mem_tailE {l l' : List (Addr × Obj)} {x : Addr × Obj} (e : ∀ p ∈ l, p ∈ l') : ∀ p ∈ l, p ∈ x :: l' := fun p h => .tail _ (e p h)
theorem mem_nilE {l' : List (Addr × Obj)} : ∀ p ∈ ([] : List (Addr × Obj)), p ∈ l' := fun _ h => nomatch h
theorem mem_rightE {l own : List (Addr × Obj)} : ∀ p ∈ own, p ∈ l ++ own := fun _ h => List.mem_append_right _ h
end Mine

end
section
open PySem PySem.W PyProof.Rows PySem.Calls PyProof.V PySem.Spec
namespace Mine
def S (xs : List Nat) : Str := ⟨xs.toArray⟩
theorem S_cps (a : Str) : S a.cps.toList = a := by cases a; simp [S]
theorem S_toList (xs : List Nat) : (S xs).cps.toList = xs := by simp [S]
theorem S_len (xs : List Nat) : (S xs).length = xs.length := by simp [S, Str.length]
theorem S_inj {xs ys : List Nat} (h : S xs = S ys) : xs = ys := by rw [← S_toList xs, h, S_toList]
theorem S_beq (xs ys : List Nat) : (S xs == S ys) = (xs == ys) := by
  by_cases h : xs = ys
  · subst h; simp
  · have : S xs ≠ S ys := fun e => h (S_inj e)
    rw [beq_eq_false_iff_ne.mpr this, beq_eq_false_iff_ne.mpr h]
theorem slice_from (xs : List Nat) (k : Int) (h : 0 ≤ k) (h2 : k ≤ xs.length) : Txt.slice (S xs) (some k) none = S (xs.drop k.toNat) := by
  rw [slice_from_eq (b := xs.length) h (by rw [S_len]; exact h2) (by rw [S_len])]
  rw [S_toList]
  unfold S
  congr 2
  rw [List.take_of_length_le]
  simp; omega
theorem item_at (xs : List Nat) (k : Int) (h : 0 ≤ k) (h2 : k < xs.length) : Txt.item (S xs) k = S [xs[k.toNat]'(by omega)] := by
  refine item_meets h ?_
  have h3 : k.toNat < xs.length := by omega
  simp [S, h3]
def lcp : List Nat → List Nat → Nat
  | x :: xs, y :: ys => if x == y then lcp xs ys + 1 else 0
  | _, _ => 0
theorem lcp_eq {xs ys : List Nat} {k : Nat} (h1 : k < xs.length) (h2 : k < ys.length) (h : xs[k] = ys[k]) : lcp (xs.drop k) (ys.drop k) = lcp (xs.drop (k+1)) (ys.drop (k+1)) + 1 := by
  rw [List.drop_eq_getElem_cons h1, List.drop_eq_getElem_cons h2]
  simp [lcp, h]
theorem lcp_ne {xs ys : List Nat} {k : Nat} (h1 : k < xs.length) (h2 : k < ys.length) (h : xs[k] ≠ ys[k]) : lcp (xs.drop k) (ys.drop k) = 0 := by
  rw [List.drop_eq_getElem_cons h1, List.drop_eq_getElem_cons h2]
  simp [lcp, h]
theorem lcp_end1 {xs ys : List Nat} {k : Nat} (h1 : xs.length ≤ k) : lcp (xs.drop k) (ys.drop k) = 0 := by
  rw [List.drop_eq_nil_of_le h1]; simp [lcp]
theorem lcp_end2 {xs ys : List Nat} {k : Nat} (h1 : ys.length ≤ k) : lcp (xs.drop k) (ys.drop k) = 0 := by
  rw [List.drop_eq_nil_of_le h1]; cases xs.drop k <;> simp [lcp]
/-- the word of the first loop -/
structure PreP (xs ys : List Nat) (k : Int) : Prop where
  h0 : 0 ≤ k
  h1 : k ≤ xs.length
  h2 : k ≤ ys.length
  h3 : k.toNat + lcp (xs.drop k.toNat) (ys.drop k.toNat) = lcp xs ys
theorem PreP.start (xs ys : List Nat) : PreP xs ys 0 := ⟨by omega, by omega, by omega, by simp⟩
theorem PreP.turn {xs ys : List Nat} {k : Int} (P : PreP xs ys k) (h1 : k < xs.length) (h2 : k < ys.length) (h : (Txt.item (S xs) k == Txt.item (S ys) k) = true) : PreP xs ys (k+1) := by
  obtain ⟨a0, a1, a2, a3⟩ := P
  rw [item_at xs k a0 h1, item_at ys k a0 h2, S_beq] at h
  have e : xs[k.toNat]'(by omega) = ys[k.toNat]'(by omega) := by simpa using h
  refine ⟨by omega, by omega, by omega, ?_⟩
  rw [lcp_eq (by omega) (by omega) e] at a3
  rw [show (k+1).toNat = k.toNat + 1 by omega]
  omega
theorem PreP.out1 {xs ys : List Nat} {k : Int} (P : PreP xs ys k) (h : (xs.length : Int) ≤ k) : PreP xs ys k ∧ k.toNat = lcp xs ys := ⟨P, by
  have a3 := P.h3
  rw [lcp_end1 (by omega)] at a3; omega⟩
theorem PreP.out2 {xs ys : List Nat} {k : Int} (P : PreP xs ys k) (h : (ys.length : Int) ≤ k) : PreP xs ys k ∧ k.toNat = lcp xs ys := ⟨P, by
  have a3 := P.h3
  rw [lcp_end2 (by omega)] at a3; omega⟩
theorem PreP.out3 {xs ys : List Nat} {k : Int} (P : PreP xs ys k) (h1 : k < xs.length) (h2 : k < ys.length) (h : (Txt.item (S xs) k == Txt.item (S ys) k) = false) : PreP xs ys k ∧ k.toNat = lcp xs ys := ⟨P, by
  obtain ⟨a0, a1, a2, a3⟩ := P
  rw [item_at xs k a0 h1, item_at ys k a0 h2, S_beq] at h
  have e : xs[k.toNat]'(by omega) ≠ ys[k.toNat]'(by omega) := by simpa using h
  rw [lcp_ne (by omega) (by omega) e] at a3; omega⟩

theorem slice_to (xs : List Nat) (k : Int) (h : 0 ≤ k) (h2 : k ≤ xs.length) : Txt.slice (S xs) none (some k) = S (xs.take k.toNat) := by
  have e := beq_iff_eq.mp (slice_closes_to (x := S xs) (j := k) ⟨h, by rw [S_toList]; exact h2⟩)
  rw [e, S_toList]
  unfold S
  simp
theorem slice_to_neg (xs : List Nat) (k : Int) (h : k < 0) (h2 : 0 ≤ xs.length + k) : Txt.slice (S xs) none (some k) = S (xs.take (xs.length + k).toNat) := by
  have e : Txt.slice (S xs) none (some k) = Txt.slice (S xs) none (some (xs.length + k)) := by
    unfold Txt.slice
    have e2 : Builtin.Str.strSliceIndices none (some k) 1 (S xs).length = Builtin.Str.strSliceIndices none (some (xs.length + k)) 1 (S xs).length := by
      rw [S_len]
      have h3 : ¬ ((xs.length : Int) + k < 0) := by omega
      simp only [Builtin.Str.strSliceIndices, h, h3, if_true, if_false]
      rw [Int.add_comm k]
    rw [e2]
  rw [e, slice_to xs _ h2 (by omega)]
theorem slice_all (xs : List Nat) : Txt.slice (S xs) none none = S xs := by
  have e : Txt.slice (S xs) none none = Txt.slice (S xs) none (some xs.length) := by
    unfold Txt.slice
    have e2 : Builtin.Str.strSliceIndices none none 1 (S xs).length = Builtin.Str.strSliceIndices none (some (xs.length : Int)) 1 (S xs).length := by
      rw [S_len]
      have h3 : ¬ ((xs.length : Int) < 0) := by omega
      simp [Builtin.Str.strSliceIndices, h3]
    rw [e2]
  rw [e, slice_to xs _ (by omega) (by omega)]
  simp
theorem item_neg (xs : List Nat) (k : Int) (h : k < 0) (h2 : 0 ≤ xs.length + k) : Txt.item (S xs) k = S [xs[(xs.length + k).toNat]'(by omega)] := by
  have e : Txt.item (S xs) k = Txt.item (S xs) (xs.length + k) := by
    unfold Txt.item Txt.charAt
    have e2 : seqIndex? k (S xs).length = seqIndex? (xs.length + k) (S xs).length := by
      rw [S_len]
      have h3 : ¬ ((xs.length : Int) + k < 0) := by omega
      simp only [seqIndex?, h, h3, if_true, if_false]
      rw [Int.add_comm k]
    rw [e2]
  rw [e, item_at xs _ h2 (by omega)]
/-- common end, after j -/
def lcs (xs ys : List Nat) : Nat := lcp xs.reverse ys.reverse
def cutR (xs : List Nat) (k : Int) : List Nat := xs.take (xs.length + k).toNat
structure PostP (xs ys : List Nat) (k : Int) : Prop where
  h0 : k ≤ 0
  h1 : 0 ≤ xs.length + k
  h2 : 0 ≤ ys.length + k
  h3 : (-k).toNat + lcp (xs.reverse.drop (-k).toNat) (ys.reverse.drop (-k).toNat) = lcs xs ys
theorem PostP.start (xs ys : List Nat) : PostP xs ys 0 := ⟨by omega, by omega, by omega, by simp [lcs]⟩
theorem PostP.turn {xs ys : List Nat} {k : Int} (P : PostP xs ys k) (h1 : 0 < xs.length + k) (h2 : 0 < ys.length + k) (h : (Txt.item (S xs) (k-1) == Txt.item (S ys) (k-1)) = true) : PostP xs ys (k-1) := by
  obtain ⟨a0, a1, a2, a3⟩ := P
  rw [item_neg xs (k-1) (by omega) (by omega), item_neg ys (k-1) (by omega) (by omega), S_beq] at h
  have e : xs[(xs.length + (k-1)).toNat]'(by omega) = ys[(ys.length + (k-1)).toNat]'(by omega) := by simpa using h
  refine ⟨by omega, by omega, by omega, ?_⟩
  have e1 : xs.reverse[(-k).toNat]'(by simp; omega) = ys.reverse[(-k).toNat]'(by simp; omega) := by
    rw [List.getElem_reverse, List.getElem_reverse]
    have q1 : xs.length - 1 - (-k).toNat = (xs.length + (k-1)).toNat := by omega
    have q2 : ys.length - 1 - (-k).toNat = (ys.length + (k-1)).toNat := by omega
    simp only [q1, q2]; exact e
  rw [lcp_eq _ _ e1] at a3
  rw [show (-(k-1)).toNat = (-k).toNat + 1 by omega]
  omega
theorem PostP.out1 {xs ys : List Nat} {k : Int} (P : PostP xs ys k) (h : (xs.length : Int) + k = 0) : PostP xs ys k ∧ (-k).toNat = lcs xs ys := ⟨P, by
  have a3 := P.h3
  rw [lcp_end1 (by simp; omega)] at a3; omega⟩
theorem PostP.out2 {xs ys : List Nat} {k : Int} (P : PostP xs ys k) (h : (ys.length : Int) + k = 0) : PostP xs ys k ∧ (-k).toNat = lcs xs ys := ⟨P, by
  have a3 := P.h3
  rw [lcp_end2 (by simp; omega)] at a3; omega⟩
theorem PostP.out3 {xs ys : List Nat} {k : Int} (P : PostP xs ys k) (h1 : 0 < xs.length + k) (h2 : 0 < ys.length + k) (h : (Txt.item (S xs) (k-1) == Txt.item (S ys) (k-1)) = false) : PostP xs ys k ∧ (-k).toNat = lcs xs ys := ⟨P, by
  obtain ⟨a0, a1, a2, a3⟩ := P
  rw [item_neg xs (k-1) (by omega) (by omega), item_neg ys (k-1) (by omega) (by omega), S_beq] at h
  have e : xs[(xs.length + (k-1)).toNat]'(by omega) ≠ ys[(ys.length + (k-1)).toNat]'(by omega) := by simpa using h
  have e1 : xs.reverse[(-k).toNat]'(by simp; omega) ≠ ys.reverse[(-k).toNat]'(by simp; omega) := by
    rw [List.getElem_reverse, List.getElem_reverse]
    have q1 : xs.length - 1 - (-k).toNat = (xs.length + (k-1)).toNat := by omega
    have q2 : ys.length - 1 - (-k).toNat = (ys.length + (k-1)).toNat := by omega
    simp only [q1, q2]; exact e
  rw [lcp_ne _ _ e1] at a3; omega⟩
end Mine
namespace Mine
def inner (cost : Nat → Nat → Int) (c : Nat) : List Nat → List Int → Int → Int → Int → List Int × Int × Int
  | a :: as, r :: rs, dist, res, mn =>
    let res' := min (min res r + 2) (dist + cost c a)
    let q := inner cost c as rs r res' (if res' < mn then res' else mn)
    (res' :: q.1, q.2)
  | _, _, _, res, mn => ([], res, mn)
def outer (cost : Nat → Nat → Int) (as : List Nat) (mc : Int) : List Nat → Int → List Int → Int → Int
  | [], _, _, res => res
  | c :: bs, i, row, _ =>
    let q := inner cost c as row (i * 2) (i * 2) 9223372036854775807
    if q.2.2 > mc then mc + 1 else outer cost as mc bs (i + 1) q.1 q.2.1
def row0 (n : Nat) : List Int := (List.range n).map fun (k : Nat) => 2 * ((k : Int) + 1)
def lev4 (cost : Nat → Nat → Int) (as bs : List Nat) (mc : Int) : Int :=
  if ((bs.length : Int) - as.length) * 2 > mc then mc + 1 else outer cost as mc bs 0 (row0 as.length) 0
def lev3 (cost : Nat → Nat → Int) (as bs : List Nat) (mc : Int) : Int :=
  if as = [] ∨ bs = [] then 2 * (as.length + bs.length) else if bs.length < as.length then lev4 cost bs as mc else lev4 cost as bs mc
def lev2 (cost : Nat → Nat → Int) (xs ys : List Nat) (mc : Int) : Int := lev3 cost (cutR xs (-(lcs xs ys))) (cutR ys (-(lcs xs ys))) mc
def lev (cost : Nat → Nat → Int) (xs ys : List Nat) (mc : Int) : Int := if xs == ys then 0 else lev2 cost (xs.drop (lcp xs ys)) (ys.drop (lcp xs ys)) mc
def substCost (a b : Str) : Int := if a == b then 0 else if Txt.lower a == Txt.lower b then 1 else 2
def cst (c a : Nat) : Int := substCost (S [c]) (S [a])
theorem cutR_zero (xs : List Nat) (k : Int) (h : k = 0) : cutR xs k = xs := by
  subst h; unfold cutR; rw [List.take_of_length_le]; omega
theorem cutR_length (xs : List Nat) (k : Int) (h : k ≤ 0) (h2 : 0 ≤ xs.length + k) : ((cutR xs k).length : Int) = xs.length + k := by
  unfold cutR; rw [List.length_take]; omega
theorem lev2_eq {cost : Nat → Nat → Int} {as bs : List Nat} {mc k : Int} (h : k ≤ 0) (hk : (-k).toNat = lcs as bs) : lev2 cost as bs mc = lev3 cost (cutR as k) (cutR bs k) mc := by
  unfold lev2; rw [← hk, show -(((-k).toNat : Nat) : Int) = k by omega]
theorem lev3_nil {cost : Nat → Nat → Int} {as bs : List Nat} {mc : Int} (h : as.length = 0 ∨ bs.length = 0) : lev3 cost as bs mc = 2 * ((as.length : Int) + bs.length) := by
  unfold lev3
  have h' : as = [] ∨ bs = [] := h.imp List.eq_nil_of_length_eq_zero List.eq_nil_of_length_eq_zero
  rw [if_pos h']
theorem lev3_go {cost : Nat → Nat → Int} {as bs : List Nat} {mc : Int} (h1 : as.length ≠ 0) (h2 : bs.length ≠ 0) : lev3 cost as bs mc = lev4 cost (if bs.length < as.length then bs else as) (if bs.length < as.length then as else bs) mc := by
  unfold lev3
  have h' : ¬ (as = [] ∨ bs = []) := fun h => h.elim (fun e => h1 (by rw [e]; rfl)) (fun e => h2 (by rw [e]; rfl))
  rw [if_neg h']
  by_cases h : bs.length < as.length <;> simp [h]

/-- the word of the inner loop -/
structure InP (cost : Nat → Nat → Int) (ch : Nat) (A : List Nat) (R0 : List Int) (d0 r0 m0 : Int) (j : Nat) (row : List Int) (dist res mn : Int) : Prop where
  len : row.length = A.length
  rest : row.drop j = R0.drop j
  val : inner cost ch A R0 d0 r0 m0 = (row.take j ++ (inner cost ch (A.drop j) (R0.drop j) dist res mn).1, (inner cost ch (A.drop j) (R0.drop j) dist res mn).2)
theorem InP.start (cost : Nat → Nat → Int) (ch : Nat) (A : List Nat) (R0 : List Int) (d0 r0 m0 : Int) (h : R0.length = A.length) : InP cost ch A R0 d0 r0 m0 0 R0 d0 r0 m0 := ⟨h, rfl, by simp⟩
theorem InP.turn {cost : Nat → Nat → Int} {ch : Nat} {A : List Nat} {R0 : List Int} {d0 r0 m0 : Int} {j : Nat} {row : List Int} {dist res mn : Int} (P : InP cost ch A R0 d0 r0 m0 j row dist res mn) (hj : j < A.length) {r x mn' : Int} {a : Nat}
    (ha : A[j] = a) (hr : row.getD j 0 = r) (hx : x = min (min res r + 2) (dist + cost ch a)) (hm : mn' = if x < mn then x else mn) : InP cost ch A R0 d0 r0 m0 (j + 1) (row.set j x) r x mn' := by
  obtain ⟨len, rest, val⟩ := P
  have hj1 : j < row.length := by omega
  have hR : R0.length = row.length := by
    have h1 : (row.drop j).length = (R0.drop j).length := by rw [rest]
    simp only [List.length_drop] at h1; omega
  have hj2 : j < R0.length := by omega
  have er : R0[j] = r := by
    have h1 : (row.drop j)[0]? = (R0.drop j)[0]? := by rw [rest]
    simp [hj1, hj2] at h1
    rw [← h1, ← hr]; simp [List.getD, hj1]
  refine ⟨by simpa using len, ?_, ?_⟩
  · have h1 : (row.drop j).drop 1 = (R0.drop j).drop 1 := by rw [rest]
    simp only [List.drop_drop] at h1
    rw [List.drop_set_of_lt (by omega), h1]
  · rw [val, List.drop_eq_getElem_cons hj, List.drop_eq_getElem_cons hj2, er, ha]
    subst hm; subst hx
    simp only [inner]
    rw [List.take_add_one]
    simp [hj1, List.take_set_of_le]
theorem InP.out {cost : Nat → Nat → Int} {ch : Nat} {A : List Nat} {R0 : List Int} {d0 r0 m0 : Int} {row : List Int} {dist res mn : Int} (P : InP cost ch A R0 d0 r0 m0 A.length row dist res mn) : inner cost ch A R0 d0 r0 m0 = (row, res, mn) := by
  obtain ⟨len, rest, val⟩ := P
  rw [val, List.drop_of_length_le (Nat.le_refl _)]
  simp [inner]
  rw [← len, List.take_length]
/-- the word of the outer loop -/
structure OutP (cost : Nat → Nat → Int) (A B : List Nat) (mc : Int) (i : Nat) (row : List Int) (res : Int) : Prop where
  len : row.length = A.length
  val : outer cost A mc (B.drop i) i row res = outer cost A mc B 0 (row0 A.length) 0
theorem OutP.start (cost : Nat → Nat → Int) (A B : List Nat) (mc : Int) : OutP cost A B mc 0 (row0 A.length) 0 := ⟨by simp [row0], rfl⟩
theorem OutP.turn {cost : Nat → Nat → Int} {A B : List Nat} {mc : Int} {i : Nat} {row row' : List Int} {res res' mn : Int} (P : OutP cost A B mc i row res) (hi : i < B.length) {b : Nat} (hb : B[i] = b)
    (h : inner cost b A row (i * 2) (i * 2) 9223372036854775807 = (row', res', mn)) (hl : row'.length = A.length) (hm : ¬ mn > mc) : OutP cost A B mc (i + 1) row' res' := by
  obtain ⟨len, val⟩ := P
  refine ⟨hl, ?_⟩
  rw [← val, List.drop_eq_getElem_cons hi, hb]
  simp only [outer, h]
  rw [if_neg hm]; simp
theorem OutP.early {cost : Nat → Nat → Int} {A B : List Nat} {mc : Int} {i : Nat} {row row' : List Int} {res res' mn : Int} (P : OutP cost A B mc i row res) (hi : i < B.length) {b : Nat} (hb : B[i] = b)
    (h : inner cost b A row (i * 2) (i * 2) 9223372036854775807 = (row', res', mn)) (hm : mn > mc) : outer cost A mc B 0 (row0 A.length) 0 = mc + 1 := by
  obtain ⟨len, val⟩ := P
  rw [← val, List.drop_eq_getElem_cons hi, hb]
  simp only [outer, h]
  rw [if_pos hm]
theorem OutP.out {cost : Nat → Nat → Int} {A B : List Nat} {mc : Int} {row : List Int} {res : Int} (P : OutP cost A B mc B.length row res) : outer cost A mc B 0 (row0 A.length) 0 = res := by
  obtain ⟨len, val⟩ := P
  rw [← val, List.drop_of_length_le (Nat.le_refl _)]
  simp [outer]
theorem lev4_early {cost : Nat → Nat → Int} {A B : List Nat} {mc : Int} (h : ((B.length : Int) - A.length) * 2 > mc) : lev4 cost A B mc = mc + 1 := by unfold lev4; rw [if_pos h]
theorem lev4_go {cost : Nat → Nat → Int} {A B : List Nat} {mc : Int} (h : ¬ ((B.length : Int) - A.length) * 2 > mc) : lev4 cost A B mc = outer cost A mc B 0 (row0 A.length) 0 := by unfold lev4; rw [if_neg h]

theorem min_pick (d c r res : Int) : (if d + c < (if r < res then r else res) + 2 then d + c else (if r < res then r else res) + 2) = min (min res r + 2) (d + c) := by
  rw [Int.min_def, Int.min_def]
  (repeat' split) <;> omega
theorem InP.turnW {ch : Nat} {A : List Nat} {R0 : List Int} {d0 r0 m0 : Int} {j : Nat} {row : List Int} {dist res mn : Int} (P : InP cst ch A R0 d0 r0 m0 j row dist res mn) (hj : j < A.length) {i : Int} (hi : i = (j : Int)) {mn' x : Int}
    (hx : x = if dist + substCost (S [ch]) (Txt.item (S A) i) < (if row.getD i.toNat 0 < res then row.getD i.toNat 0 else res) + 2 then dist + substCost (S [ch]) (Txt.item (S A) i) else (if row.getD i.toNat 0 < res then row.getD i.toNat 0 else res) + 2)
    (hm : (x < mn ∧ mn' = x) ∨ (¬ x < mn ∧ mn' = mn)) : InP cst ch A R0 d0 r0 m0 (j + 1) (row.set i.toNat x) (row.getD i.toNat 0) x mn' := by
  subst hi
  rw [item_at A j (by omega) (by omega)] at hx
  simp only [Int.toNat_natCast] at hx ⊢
  refine P.turn hj rfl rfl ?_ ?_
  · rw [hx, min_pick]; rfl
  · rcases hm with ⟨h1, h2⟩ | ⟨h1, h2⟩
    · rw [if_pos h1, h2]
    · rw [if_neg h1, h2]
end Mine

end
section
open PySem PySem.W PyProof.Rows PySem.Calls PyProof.V PySem.Spec
namespace Mine
section
variable {prog : Program} {w : World} {A : Around} {E : Value → Shared → Prop} {s : Shared} {h₀ : Heap} {L : Addr} {m : Str → Option Value} {news : List (Addr × Obj)} {value slice : PySem.Expr} {t : Tok} {Q : Value → Shared → Prop}
theorem sl_nn {xs : List Nat} (hx : xs.length ≤ 1000) (hF : Fr h₀ L s.heap m) (hN : News h₀ L s.heap news) (h : ∀ h' t' k, Fr h₀ L h' m → News h₀ L h' news → ((S xs).length : Int) = xs.length → Q (.str (S xs) t') { s with heap := h', toks := k })
    (hs : subscripted slice false (.str (S xs) t) (.ref s.heap.objs.size) = operate [.ref s.heap.objs.size, .str (S xs) t] (getItem (.str (S xs) t) (.ref s.heap.objs.size)) := by with_unfolding_all rfl)
    (ht : ∀ r, letTemporaryGo value (.str (S xs) t) r = pure () := by intro _; with_unfolding_all rfl) :
    wpAny (model prog w) A (subscriptTail value slice (.str (S xs) t) (.ref s.heap.objs.size)) Q E { s with heap := s.heap.push { cls := .type "slice", data := .fields #[.none, .none, .none] } } := by
  refine slice_strN_nn_len hF hN (fun h' t' k a b _ => ?_) hs ht (by rw [S_len, sizeLine_eq]; omega)
  rw [slice_all]
  exact h h' t' k a b (by rw [S_len])
theorem cutR_len (xs : List Nat) (k : Int) (h : k ≤ 0) (h2 : 0 ≤ xs.length + k) : ((S (cutR xs k)).length : Int) = xs.length + k := by
  rw [S_len]; unfold cutR; rw [List.length_take]; omega
theorem sl_ns {xs : List Nat} {j : Int} {uj : Tok} (hx : xs.length ≤ 1000) (h1 : j < 0) (h2 : 0 ≤ xs.length + j) (hF : Fr h₀ L s.heap m) (hN : News h₀ L s.heap news) (h : ∀ h' t' k, Fr h₀ L h' m → News h₀ L h' news → ((S (cutR xs j)).length : Int) = xs.length + j → Q (.str (S (cutR xs j)) t') { s with heap := h', toks := k })
    (hs : subscripted slice false (.str (S xs) t) (.ref s.heap.objs.size) = operate [.ref s.heap.objs.size, .str (S xs) t] (getItem (.str (S xs) t) (.ref s.heap.objs.size)) := by with_unfolding_all rfl)
    (ht : ∀ r, letTemporaryGo value (.str (S xs) t) r = pure () := by intro _; with_unfolding_all rfl) :
    wpAny (model prog w) A (subscriptTail value slice (.str (S xs) t) (.ref s.heap.objs.size)) Q E { s with heap := s.heap.push { cls := .type "slice", data := .fields #[.none, .int j uj, .none] } } := by
  refine slice_strN_ns_len hF hN (fun h' t' k a b _ => ?_) hs ht (by rw [S_len, sizeLine_eq]; omega)
  rw [slice_to_neg xs j h1 h2]
  exact h h' t' k a b (cutR_len xs j (by omega) h2)
theorem sl_sn {xs : List Nat} {j : Int} {uj : Tok} (hx : xs.length ≤ 1000) (h1 : 0 ≤ j) (h2 : j ≤ xs.length) (hF : Fr h₀ L s.heap m) (hN : News h₀ L s.heap news) (h : ∀ h' t' k, Fr h₀ L h' m → News h₀ L h' news → ((S (xs.drop j.toNat)).length : Int) = xs.length - j → Q (.str (S (xs.drop j.toNat)) t') { s with heap := h', toks := k })
    (hs : subscripted slice false (.str (S xs) t) (.ref s.heap.objs.size) = operate [.ref s.heap.objs.size, .str (S xs) t] (getItem (.str (S xs) t) (.ref s.heap.objs.size)) := by with_unfolding_all rfl)
    (ht : ∀ r, letTemporaryGo value (.str (S xs) t) r = pure () := by intro _; with_unfolding_all rfl) :
    wpAny (model prog w) A (subscriptTail value slice (.str (S xs) t) (.ref s.heap.objs.size)) Q E { s with heap := s.heap.push { cls := .type "slice", data := .fields #[.int j uj, .none, .none] } } := by
  refine slice_strN_sn_len hF hN (fun h' t' k a b _ => ?_) hs ht (by rw [S_len, sizeLine_eq]; omega)
  rw [slice_from xs j h1 h2]
  exact h h' t' k a b (by rw [S_len, List.length_drop]; omega)
end

theorem ints_of_get : ∀ {us : List Value} {ns : List Int}, us.length = ns.length → (∀ (j : Nat) (v : Value) (n : Int), us[j]? = some v → ns[j]? = some n → ∃ t, v = .int n t) → IntsAre us ns
  | [], [], _, _ => .nil
  | [], _ :: _, h, _ => by cases h
  | _ :: _, [], h, _ => by cases h
  | v :: r, n :: q, h, g => by
    obtain ⟨t, rfl⟩ := g 0 v n rfl rfl
    exact .cons _ _ (ints_of_get (by simpa using h) fun j v n h1 h2 => g (j + 1) v n h1 h2)
theorem row0_len (n : Nat) : (row0 n).length = n := by simp [row0]
theorem row0_get (n j : Nat) (h : j < n) : (row0 n)[j]? = some (2 + (j : Int) * 2) := by
  simp [row0, h]; omega
section
variable {prog : Program} {w : World} {A : Around} {E : Value → Shared → Prop} {s : Shared} {h₀ : Heap} {L : Addr} {m : Str → Option Value} {news : List (Addr × Obj)} {Q : Value → Shared → Prop}
theorem size2 (n : Nat) : Builtin.Range.rangeSize 2 (2 * ((n : Int) + 1)) 2 = (n : Int) := by
  unfold Builtin.Range.rangeSize
  rw [if_pos (by decide)]
  by_cases h : n = 0
  · subst h; rw [if_neg (by omega)]; rfl
  · rw [if_pos (by omega)]; omega
theorem fits_long {x : Int} (h1 : -10000 ≤ x) (h2 : x ≤ 10000) : Builtin.Range.rangeFitsLong x = true := by
  unfold Builtin.Range.rangeFitsLong
  simp only [Bool.and_eq_true, decide_eq_true_eq]
  omega
theorem small2 (n : Nat) (hn : n ≤ 1000) : Builtin.Range.small 2 (2 * ((n : Int) + 1)) 2 = true := by
  unfold Builtin.Range.small
  rw [size2, fits_long (x := 2) (by omega) (by omega), fits_long (x := 2 * ((n : Int) + 1)) (by omega) (by omega), fits_long (x := (n : Int)) (by omega) (by omega), if_pos (by decide), fits_long (by omega) (by omega)]
  simp
theorem list_range2 {r : Addr} {t₀ u₀ v₀ : Tok} {n : Nat} {b : Int} (hh : A.handled = none) (hb : b = 2 * ((n : Int) + 1)) (hn : n ≤ 1000) (F : Fr h₀ L s.heap m) (N : News h₀ L s.heap news) (hr : IsRange s.heap r 2 b 2 t₀ u₀ v₀)
    (h : ∀ D us c h' tk, Fr h₀ L h' m → News h₀ L h' ((D, listOf (List.toArray us) c) :: news) → (∀ p ∈ news, p.1 < D) → IntsAre us (row0 n) → Q (.ref D) { s with heap := h', toks := tk }) :
    wpAny (model prog w) A (call (.type "list") [.ref r]) Q E s := by
  subst hb
  refine call_list_range hh hr (small2 n hn) (size2 n) (by omega) fun h' tk acc c hk hD hI => ?_
  have hD' : h'.get? s.heap.objs.size = some (listOf (List.toArray acc.toList) c) := by
    rw [Array.toArray_toList]
    exact hD
  refine h _ acc.toList c h' tk (F.keeps hk) (news_pushed F N hk hD' rfl) (fun p hp => Heap.lt_size (N p hp).1) (ints_of_get (by rw [Array.length_toList, row0_len]; exact hI.1) fun j v k hj hk' => ?_)
  have hlt : j < n := by
    rcases Nat.lt_or_ge j n with q | q
    · exact q
    · rw [List.getElem?_eq_none (by rw [row0_len]; exact q)] at hk'; cases hk'
  rw [row0_get n j hlt] at hk'
  obtain ⟨t, ht⟩ := hI.2 j v (by rw [← hj, Array.getElem?_toList])
  exact ⟨t, by rw [ht, Option.some.inj hk']⟩
end

structure RC where
  us : List Value
  row : List Int
  cnt : Nat
  res : Int
  tr : Tok
structure RI where
  us : List Value
  row : List Int
  cnt : Nat
  dist : Int
  res : Int
  mn : Int
  td : Tok
  tr : Tok
  tm : Tok
theorem small0 (n : Nat) (hn : n ≤ 1000) : Builtin.Range.small 0 n 1 = true := by
  unfold Builtin.Range.small
  have e : Builtin.Range.rangeSize 0 (n : Int) 1 = (n : Int) := by
    unfold Builtin.Range.rangeSize
    rw [if_pos (by decide)]
    by_cases h : n = 0
    · subst h; rw [if_neg (by omega)]; rfl
    · rw [if_pos (by omega)]; omega
  rw [e, fits_long (x := 0) (by omega) (by omega), fits_long (x := (n : Int)) (by omega) (by omega), fits_long (x := 1) (by omega) (by omega), if_pos (by decide), fits_long (by omega) (by omega)]
  simp
theorem size0 (n : Nat) : Builtin.Range.rangeSize 0 (n : Int) 1 = (n : Int) := by
  unfold Builtin.Range.rangeSize
  rw [if_pos (by decide)]
  by_cases h : n = 0
  · subst h; rw [if_neg (by omega)]; rfl
  · rw [if_pos (by omega)]; omega
theorem item_le40 (x : Str) (i : Int) : (Txt.item x i).length ≤ 40 := Nat.le_trans (Nat.le_of_eq (len_item x i)) (by decide)
theorem upd_own2 {D : Addr} {o o' : Obj} {news own own2 : List (Addr × Obj)} {x y : Obj} (h1 : ∀ p ∈ news, p.1 < D) (h2 : OwnOff own (List.map (·.1) ((D, x) :: news))) (h3 : OwnOff own2 (List.map (·.1) ((D, y) :: news.append own))) :
    Upd D o o' (((D, o) :: news.append own) ++ own2) (((D, o') :: news.append own) ++ own2) := by
  refine Upd.head fun p hp => ?_
  rcases List.mem_append.mp hp with hp | hp
  · rcases List.mem_append.mp hp with hp | hp
    · exact Nat.ne_of_lt (h1 p hp)
    · exact h2 p hp D (List.mem_cons_self ..)
  · exact h3 p hp D (List.mem_cons_self ..)
theorem news_t1 {h₀ h : Heap} {L : Addr} {q : Addr × Obj} {news : List (Addr × Obj)} (N : News h₀ L h (q :: news)) : News h₀ L h news := fun p hp => N p (.tail _ hp)
theorem news_t2 {h₀ h : Heap} {L : Addr} {q : Addr × Obj} {news own : List (Addr × Obj)} (N : News h₀ L h (q :: news.append own)) : News h₀ L h news := fun p hp => N p (.tail _ (List.mem_append_left _ hp))
theorem news_t3 {h₀ h : Heap} {L : Addr} {news own : List (Addr × Obj)} (N : News h₀ L h (news ++ own)) : News h₀ L h news := fun p hp => N p (List.mem_append_left _ hp)
end Mine

end
section
open PySem PySem.W PyProof.Rows
namespace Mine

/-- a call of the def at f, on vs, gives R: whatever stands below, nothing else is turned -/
def Claim (lvl : Nat) (w : World) (mean : ExcName → Option Value) (mg mb : Str → Option Value) (f : Addr) (pre : Prop) (vs : List Value) (R : Tok → Value) : Prop :=
  ∀ (news : List (Addr × Obj)) (dp un : Nat) (gd : Option (List Code)) (cn : Str) (cs : Scope) (a : Addr) (ccd : Value) (cl : List (Str × Addr)) (outer : List Env) (A₀ : Around) (base h₀ : Heap) (L : Addr) (m : Str → Option Value) (s : Shared) (Q E : Value → Shared → Prop),
    Below A₀ base outer h₀ → Fr h₀ L s.heap m → (hd.heap_39 w.params).In h₀ → News h₀ L s.heap news → Top hd.view_39 (looseW hd.view_39 []) mean mg mb h₀ → cs.kind = .function →
    pre → dp + lvl < recursionLimit → un + 8 * lvl < cLine → CbRet h₀ L m news s Q R →
    wpAny (model PySem.Challenge.rw_rw0046_01.row.prog w) (ktrTop dp un gd cn cs L a ccd cl outer) (call (.ref f) vs) Q E s
theorem claim_use {lvl : Nat} {w : World} {mean : ExcName → Option Value} {mg mb : Str → Option Value} {f : Addr} {pre : Prop} {vs : List Value} {R : Tok → Value} (C : Claim lvl w mean mg mb f pre vs R)
    {dp un : Nat} {gd : Option (List Code)} {cn : Str} {cs : Scope} {a : Addr} {ccd : Value} {cl : List (Str × Addr)} {outer : List Env} {A₀ : Around} {base h₀ : Heap} {L : Addr} {m : Str → Option Value} {news : List (Addr × Obj)} {s : Shared} {Q E : Value → Shared → Prop}
    (B : Below A₀ base outer h₀) (F : Fr h₀ L s.heap m) (X : (hd.heap_39 w.params).In h₀) (N : News h₀ L s.heap news) (T : Top hd.view_39 (looseW hd.view_39 []) mean mg mb h₀) (hk : cs.kind = .function)
    (hp : pre) (hd : dp + lvl < recursionLimit) (hu : un + 8 * lvl < cLine) (ret : CbRet h₀ L m news s Q R) :
    wpAny (model PySem.Challenge.rw_rw0046_01.row.prog w) (ktrTop dp un gd cn cs L a ccd cl outer) (call (.ref f) vs) Q E s :=
  C news dp un gd cn cs a ccd cl outer A₀ base h₀ L m s Q E B F X N T hk hp hd hu ret
set_option maxRecDepth 100000 in
set_option maxHeartbeats 8000000 in
theorem subst_claim (w : World) (mean) (mg mb) (a b : Str) (ta tb : Tok) : Claim 1 w mean mg mb 35 (a.length ≤ 40 ∧ b.length ≤ 40) [.str a ta, .str b tb] (fun t => .int (substCost a b) t) := by
  unfold Claim
  w_on
  w_strict (
    k_fill
    dsimp only [CbRet]
    intros; rename_i hret
    refine wpAny_call ?_
    (k_dflt cell_enter)
    k_steps
    all_goals (refine cb_retI hret ?_ (by k_asm) (by k_asm))
    all_goals (simp_all [substCost]))
end Mine

end
section
open PySem PySem.W PyProof.Rows
namespace Mine
local macro_rules | `(tactic| walk_at "exec While") => `(tactic| refine Stop.mk ?_)
local macro_rules | `(tactic| walk_at "pyIter ref") => `(tactic| refine Stop.mk ?_)
local macro_rules | `(tactic| walk_at "exec Assign") => `(tactic| ((with_reducible show wpAny _ _ (exec (PySem.Stmt.Assign _ (PySem.Expr.Subscript _ (PySem.Expr.Slice _ (some (PySem.Expr.BoolOp _ _ _)) _ _) _) _) _) _ _ _); refine Stop.mk ?_))
local macro_rules | `(tactic| walk_at "subscriptTail Name Slice str ref") => `(tactic| ((with_reducible rename Fr _ _ _ _ => F'); (with_reducible rename News _ _ _ _ => N'); first
  | (refine sl_nn (s := ⟨_, _, _, _, _⟩) (by omega) F' N' ?_; intro _ _ _ _ _ _; (try dsimp only))
  | (refine sl_ns (s := ⟨_, _, _, _, _⟩) (by omega) (by omega) (by omega) F' N' ?_; intro _ _ _ _ _ _; (try dsimp only))
  | (refine sl_sn (s := ⟨_, _, _, _, _⟩) (by omega) (by omega) (by omega) F' N' ?_; intro _ _ _ _ _ _; (try dsimp only))))
local macro_rules | `(tactic| walk_at "exec If") => `(tactic| ((with_reducible show wpAny _ _ (exec (PySem.Stmt.If _ (PySem.Stmt.Assign [PySem.Expr.Tuple _ _ _] _ _ :: _) _ _) _) _ _ _); refine Stop.mk ?_))
local macro_rules | `(tactic| walk_at "call type:list") => `(tactic| (k_here; (with_reducible show wpAny _ _ (call (Value.type _) [Value.ref _]) _ _ _); (rename IsRange _ _ _ _ _ _ _ _ => rgX); (with_unfolding_all refine' list_range2 ?k0 ?kb ?kn ?k1 ?k2 ?k3 ?_; (case k0 => rfl); (case k1 => k_asm); (case k2 => k_asm); (case k3 => first | exact rgX | assumption); (case kb => assumption); (case kn => omega); k_whole); intro D' vs' c' h' tk' F' N' l1 hI'; (try k_lt l1); (try k_sweep)))
local macro_rules | `(tactic| walk_at "exec For Name Call cons nil") => `(tactic| (k_here; (rename Fr _ _ _ _ => lF'); (with_unfolding_all refine' For_invVF lF' ?k1 ?k2 ?_; (case k1 => exact rfl); (case k2 => exact rfl); k_whole)))
local macro_rules | `(tactic| walk_at "call ref") => `(tactic| (k_here; (with_reducible show wpAny _ _ (call (Value.ref _) [Value.str _ _, Value.str _ _]) _ _ _); k_dflt (refine' claim_use (subst_claim _ _ _ _ _ _ _ _) ?k1 ?k2 ?k3 ?k4 ?k5 ?kK ?kp ?kd ?ku ?_; (case k1 => k_asm); (case k2 => k_asm); (case k3 => k_asm); (case k4 => k_asm); (case k5 => k_asm); (case kK => first | exact rfl | assumption); (case kp => exact ⟨by first | omega | exact item_le40 _ _, by first | omega | exact item_le40 _ _⟩); (case kd => ktr_room); (case ku => ktr_units)); intro t9 h9 tk9 F9 N9; (try dsimp only); (try k_fold)))
local macro_rules | `(tactic| walk_at "setItem ref int") => `(tactic| (k_here; (with_reducible show wpAny _ _ (setItem (Value.ref _) (Value.int _ _) (Value.int _ _)) _ _ _); k_dflt (refine' ksa_set ?k1 ?k2 ?k3 ?k4 ?k5 ?k6 ?k7 ?_; (case k1 => k_asm); (case k2 => k_asm); (case k3 => exact upd_own2 (by assumption) (by assumption) (by assumption)); (case k4 => with_reducible assumption); (case k5 => ksa_idx); (case k6 => ksa_idx); (case k7 => ksa_idx); k_whole); intro h' F' N' hi' hl' hs'; (try k_sweep)))
local macro_rules | `(tactic| walk_at "execs cons") => `(tactic| (k_here; dsimp only; k_gentoks))
local macro_rules | `(tactic| walk_at "my name") => `(tactic| first | ((with_reducible refine name_here ?_); rfl) | (refine name_next (by decide +kernel) ?_; walk_at "my name"))
local macro_rules | `(tactic| walk_at "my names") => `(tactic| first | exact names_nil | ((refine names_cons ?_ ?_); (focus (walk_at "my name")); walk_at "my names"))
local macro_rules | `(tactic| walk_at "my all") => `(tactic| first | exact List.forall_mem_nil _ | (refine List.forall_mem_cons.mpr ⟨by k_mem, ?_⟩; walk_at "my all"))
local macro_rules | `(tactic| walk_at "my sub") => `(tactic| first | ((refine mem_eqE ?_); rfl) | ((refine mem_appE ?_); rfl) | ((refine mem_tailE ?_); walk_at "my sub") | (walk_at "my all") | kst_in)
local macro_rules | `(tactic| walk_at "my own") => `(tactic| first | exact mem_nilE | exact mem_rightE | (refine mem_tailE ?_; walk_at "my own"))
local macro_rules | `(tactic| walk_at "my ends") => `(tactic| ((case e1 => walk_at "my names"); (case e2 => walk_at "my sub"); (case e3 => first | exact mem_nilE | exact mem_rightE | (walk_at "my own") | kst_in); (try dsimp only)))
local macro_rules | `(tactic| walk_at "my close 2") => `(tactic| (rename Fr _ _ _ _ => fE; rename News _ _ _ _ => nE; (refine' my_end ⟨_, _⟩ fE nE ?e1 ?e2 ?e3 ?e4); walk_at "my ends"))
local macro_rules | `(tactic| walk_at "my close 4") => `(tactic| (rename Fr _ _ _ _ => fE; rename News _ _ _ _ => nE; (refine' my_end ⟨_, _, _, _⟩ fE nE ?e1 ?e2 ?e3 ?e4); walk_at "my ends"))
local macro_rules | `(tactic| walk_at "my close 3") => `(tactic| (rename Fr _ _ _ _ => fE; rename News _ _ _ _ => nE; (refine' my_end ⟨_, _, _⟩ fE nE ?e1 ?e2 ?e3 ?e4); walk_at "my ends"))
local macro_rules | `(tactic| walk_at "my close 5") => `(tactic| (rename Fr _ _ _ _ => fE; rename News _ _ _ _ => nE; (refine' my_end ⟨_, _, _, _, _⟩ fE nE ?e1 ?e2 ?e3 ?e4); walk_at "my ends"))
local macro_rules | `(tactic| walk_at "my close 9") => `(tactic| (rename Fr _ _ _ _ => fE; rename News _ _ _ _ => nE; (refine' my_end ⟨_, _, _, _, _, _, _, _, _⟩ fE nE ?e1 ?e2 ?e3 ?e4); walk_at "my ends"))
local macro_rules | `(tactic| walk_at "my close 1") => `(tactic| (rename Fr _ _ _ _ => fE; rename News _ _ _ _ => nE; (refine' my_end _ fE nE ?e1 ?e2 ?e3 ?e4); walk_at "my ends"))
local macro_rules | `(tactic| walk_at "my close 0") => `(tactic| (rename Fr _ _ _ _ => fE; rename News _ _ _ _ => nE; (refine' my_end () fE nE ?e1 ?e2 ?e3 ?e4); walk_at "my ends"))
set_option maxRecDepth 100000 in
set_option maxHeartbeats 8000000 in
theorem lev_claim (w : World) (mean) (mg mb) (xs ys : List Nat) (ta tb : Tok) (mc : Int) (tm : Tok) : Claim 2 w mean mg mb 42 ((S xs).length ≤ 40 ∧ (S ys).length ≤ 40) [.str (S xs) ta, .str (S ys) tb, .int mc tm] (fun t => .int (lev cst xs ys mc) t) := by
  unfold Claim
  w_on
  w_strict (
    k_fill
    dsimp only [CbRet]
    intros; rename_i hS _ _ hret
    refine wpAny_call ?_
    (k_dflt cell_enter)
    k_steps
    · refine cb_retI hret ?_ (by k_asm) (by k_asm)
      rename (S xs == S ys) = true => he
      rw [S_beq] at he
      simp [lev, he]
    · rename (S xs == S ys) = false => he
      rw [S_beq] at he
      have hl : lev cst xs ys mc = lev2 cst (xs.drop (lcp xs ys)) (ys.drop (lcp xs ys)) mc := by simp only [lev, he]; rfl
      rw [hl] at hret
      clear hl
      refine Stop.out ?_
      rename Fr _ _ _ _ => F1
      rename News _ _ _ _ => N1
      refine my_while (σ := Int × Tok) (fun _ => _) (fun c => [(Str.ofString "pre", .int c.1 c.2), (Str.ofString "a", .str (S xs) ta), (Str.ofString "b", .str (S ys) tb), (Str.ofString "max_cost", .int mc tm)])
        (fun c => PreP xs ys c.1) (fun c => PreP xs ys c.1 ∧ c.1.toNat = lcp xs ys) (fun c => (S xs).length - c.1.toNat) (0, _) F1 N1 (by with_unfolding_all kst_all) (PreP.start xs ys) ?_ ?_
      · clear F1 N1
        rintro ⟨k, t⟩ u h tk hP F1 N1
        dsimp only [kstB] at F1 hP ⊢
        have hx := S_len xs
        have hy := S_len ys
        have k0 := hP.h0
        have k1 := hP.h1
        have k2 := hP.h2
        k_steps
        · dsimp only [MyPost]
          walk_at "my close 2"
          have q1 : k < xs.length := by omega
          have q2 : k < ys.length := by omega
          exact ⟨PreP.turn hP q1 q2 (by assumption), by omega⟩
        · walk_at "my close 2"
          exact PreP.out3 hP (by omega) (by omega) (by assumption)
        · walk_at "my close 2"
          exact PreP.out2 hP (by omega)
        · walk_at "my close 2"
          exact PreP.out1 hP (by omega)
      · clear F1 N1
        rintro ⟨k, t⟩ u h tk ⟨hP, hk⟩ F1 N1
        dsimp only [kstB] at F1 hP hk ⊢
        have hx := S_len xs
        have hy := S_len ys
        have k0 := hP.h0
        have k1 := hP.h1
        have k2 := hP.h2
        k_steps
        refine Stop.out ?_
        rename Fr _ _ _ _ => F2
        rename News _ _ _ _ => N2
        rw [hk] at F2
        have l1 : (S (xs.drop (lcp xs ys))).length ≤ 40 := by rw [S_len, List.length_drop]; omega
        have l2 : (S (ys.drop (lcp xs ys))).length ≤ 40 := by rw [S_len, List.length_drop]; omega
        generalize xs.drop (lcp xs ys) = as at *
        generalize ys.drop (lcp xs ys) = bs at *
        clear hP hk k0 k1 k2 hx hy
        refine my_while (σ := Int × Tok) (fun _ => _) (fun c => [(Str.ofString "post", .int c.1 c.2), (Str.ofString "a", .str (S as) _), (Str.ofString "b", .str (S bs) _), (Str.ofString "max_cost", .int mc tm)])
          (fun c => PostP as bs c.1) (fun c => PostP as bs c.1 ∧ (-c.1).toNat = lcs as bs) (fun c => ((S as).length + c.1).toNat) (0, _) F2 N2 (by with_unfolding_all kst_all) (PostP.start as bs) ?_ ?_
        · clear F2 N2
          rintro ⟨k, t⟩ u h tk hP F1 N1
          dsimp only [kstB] at F1 hP ⊢
          have hx := S_len as
          have hy := S_len bs
          have k0 := hP.h0
          have k1 := hP.h1
          have k2 := hP.h2
          k_steps
          all_goals first
            | (exfalso; omega)
            | (dsimp only [MyPost]; walk_at "my close 2"; exact ⟨PostP.turn hP (by omega) (by omega) (by assumption), by omega⟩)
            | (walk_at "my close 2"; first | exact PostP.out1 hP (by omega) | exact PostP.out2 hP (by omega) | exact PostP.out3 hP (by omega) (by omega) (by assumption))
        · clear F2 N2
          rintro ⟨k, t⟩ u h tk ⟨hP, hk⟩ F1 N1
          dsimp only [kstB] at F1 hP hk ⊢
          have hx := S_len as
          have hy := S_len bs
          have k0 := hP.h0
          have k1 := hP.h1
          have k2 := hP.h2
          have z1 := cutR_length as k k0 k1
          have z2 := cutR_length bs k k0 k2
          k_steps
          rw [lev2_eq k0 hk] at hret
          refine Stop.out ?_
          rename Fr _ _ _ _ => F3
          rename News _ _ _ _ => N3
          refine my_cut0 (σ := Tok × Tok) (fun c => [(Str.ofString "post", .int k t), (Str.ofString "a", .str (S (cutR as k)) c.1), (Str.ofString "b", .str (S bs) c.2), (Str.ofString "max_cost", .int mc tm)]) (fun _ => True) F3 N3 ?_ ?_
          · refine wpAny_Assign_Name ?_
            k_steps
            all_goals (try dsimp only [MyCut])
            all_goals (try rw [cutR_zero as k (by omega)])
            all_goals walk_at "my close 2"
          · clear F3 N3
            rintro ⟨t9, t9'⟩ u9 h9 tk9 _ F3 N3
            dsimp only [kstB] at F3
            try dsimp only
            k_steps
            refine Stop.out ?_
            refine my_cut0 (σ := Tok × Tok) (fun c => [(Str.ofString "post", .int k t), (Str.ofString "a", .str (S (cutR as k)) c.1), (Str.ofString "b", .str (S (cutR bs k)) c.2), (Str.ofString "max_cost", .int mc tm)]) (fun _ => True) F3 N3 ?_ ?_
            · refine wpAny_Assign_Name ?_
              k_steps
              all_goals (try dsimp only [MyCut])
              all_goals (try rw [cutR_zero bs k (by omega)])
              all_goals walk_at "my close 2"
            · clear F3 N3
              rintro ⟨t8, t8'⟩ u8 h8 tk8 _ F3 N3
              dsimp only [kstB] at F3
              try dsimp only
              have l1 : (S (cutR as k)).length ≤ 40 := by rw [S_len]; omega
              have l2 : (S (cutR bs k)).length ≤ 40 := by rw [S_len]; omega
              generalize cutR as k = as' at *
              generalize cutR bs k = bs' at *
              clear z1 z2 k0 k1 k2 hx hy hP hk
              have hx := S_len as'
              have hy := S_len bs'
              k_steps
              rotate_left
              · refine cb_retI hret ?_ (by k_asm) (by k_asm)
                rw [lev3_nil (by omega), hx, hy]
              · refine cb_retI hret ?_ (by k_asm) (by k_asm)
                rw [lev3_nil (by omega), hx, hy]
              rw [lev3_go (by omega) (by omega)] at hret
              refine Stop.out ?_
              refine my_cut0 (σ := Tok × Tok) (fun c => [(Str.ofString "a", .str (S (if bs'.length < as'.length then bs' else as')) c.1), (Str.ofString "b", .str (S (if bs'.length < as'.length then as' else bs')) c.2), (Str.ofString "max_cost", .int mc tm)]) (fun _ => True) F3 N3 ?_ ?_
              · refine wpAny_If ?_
                k_steps
                all_goals (try dsimp only [MyCut])
                · rw [if_pos (show bs'.length < as'.length by omega), if_pos (show bs'.length < as'.length by omega)]
                  walk_at "my close 2"
                · rw [if_neg (show ¬ bs'.length < as'.length by omega), if_neg (show ¬ bs'.length < as'.length by omega)]
                  walk_at "my close 2"
              · clear F3 N3
                rintro ⟨t8, t8'⟩ u8 h8 tk8 _ F3 N3
                dsimp only [kstB] at F3
                try dsimp only
                have l1' : (if bs'.length < as'.length then bs' else as').length ≤ 40 := by split <;> omega
                have l2' : (if bs'.length < as'.length then as' else bs').length ≤ 40 := by split <;> omega
                have l3' : (if bs'.length < as'.length then bs' else as').length ≤ (if bs'.length < as'.length then as' else bs').length := by split <;> omega
                have l4' : 0 < (if bs'.length < as'.length then bs' else as').length := by split <;> omega
                generalize (if bs'.length < as'.length then bs' else as') = A at *
                generalize (if bs'.length < as'.length then as' else bs') = B at *
                have hA := S_len A
                have hB := S_len B
                have hb9 : 2 * (((S A).length : Int) + 1) = 2 * ((A.length : Int) + 1) := by rw [hA]
                k_steps
                · refine cb_retI hret ?_ (by k_asm) (by k_asm)
                  rw [hA, hB] at *
                  rw [lev4_early (by omega)]
                rw [lev4_go (by omega)] at hret
                refine Stop.out ?_
                rename Fr _ _ _ _ => F4
                rename News _ _ _ _ => N4
                rename IsRange _ _ _ _ _ _ _ _ => rgX
                refine my_rangeV (σ := RC) (fun c => (_, listOf c.us.toArray c.cnt) :: _)
                  (fun c => [(Str.ofString "result", .int c.res c.tr), (Str.ofString "row", .ref _), (Str.ofString "a", .str (S A) t8), (Str.ofString "b", .str (S B) t8'), (Str.ofString "max_cost", .int mc tm)])
                  (S B).length (fun i c => IntsAre c.us c.row ∧ OutP cst A B mc i c.row c.res) ⟨_, row0 A.length, _, 0, _⟩ (fun _ => rfl) rfl rgX (small0 _ (by omega)) (size0 _) F4 N4 (by with_unfolding_all kst_all) ⟨by assumption, OutP.start _ _ _ _⟩ ?_ ?_
                · clear F4 N4 rgX
                  rintro i t ⟨us, row, cnt, res, tr⟩ u h tk own hi hoff ⟨hI, hP⟩ F5 N5
                  dsimp only [kstB] at F5 N5 hI hP hoff ⊢
                  k_steps
                  refine Stop.out ?_
                  rename Fr _ _ _ _ => F6
                  rename News _ _ _ _ => N6
                  rename IsRange _ _ _ _ _ _ _ _ => rgX
                  obtain ⟨ch, hch⟩ : ∃ ch, B[i] = ch := ⟨_, rfl⟩
                  have hit : Txt.item (S B) (i : Int) = S [ch] := by rw [item_at B i (by omega) (by omega), ← hch]; rfl
                  simp only [Int.zero_add, hit] at F6
                  have hc1 := S_len [ch]
                  rw [List.length_singleton] at hc1
                  refine my_rangeV (σ := RI) (fun c => (_, listOf c.us.toArray c.cnt) :: _)
                    (fun c => [(Str.ofString "distance", .int c.dist c.td), (Str.ofString "result", .int c.res c.tr), (Str.ofString "minimum", .int c.mn c.tm), (Str.ofString "row", .ref _), (Str.ofString "bchar", .str (S [ch]) _), (Str.ofString "bindex", .int i t), (Str.ofString "a", .str (S A) t8), (Str.ofString "b", .str (S B) t8'), (Str.ofString "max_cost", .int mc tm)])
                    (S A).length (fun j c => IntsAre c.us c.row ∧ InP cst ch A row (i * 2) (i * 2) 9223372036854775807 j c.row c.dist c.res c.mn) ⟨_, row, _, i * 2, i * 2, 9223372036854775807, _, _, _⟩ (fun _ => rfl) rfl rgX (small0 _ (by omega)) (size0 _) F6 N6 (by with_unfolding_all kst_all) ⟨by assumption, InP.start _ _ _ _ _ _ _ hP.len⟩ ?_ ?_
                  · clear F6 N6 rgX
                    rintro j t2 ⟨us2, row2, cnt2, dist, res2, mn, td, tr2, tm2⟩ u h tk own2 hj hoff2 ⟨hI2, hP2⟩ F7 N7
                    dsimp only [kstB] at F7 N7 hI2 hP2 hoff2 ⊢
                    have hl2 : row2.length = A.length := hP2.len
                    k_steps
                    all_goals (try dsimp only [MyPost])
                    · walk_at "my close 9"
                      refine ⟨by assumption, ?_⟩
                      exact hP2.turnW (i := 0 + (j : Int)) (by omega) (by omega) rfl (.inl ⟨by assumption, rfl⟩)
                    · walk_at "my close 9"
                      refine ⟨by assumption, ?_⟩
                      exact hP2.turnW (i := 0 + (j : Int)) (by omega) (by omega) rfl (.inr ⟨by first | assumption | exact Int.not_lt.mpr (by assumption) | omega, rfl⟩)
                  · clear F6 N6 rgX
                    rintro ⟨us2, row2, cnt2, dist, res2, mn, td, tr2, tm2⟩ u h tk ⟨hI2, hP2⟩ F7 N7
                    dsimp only [kstB] at F7 N7 hI2 hP2 ⊢
                    have hl2 : row2.length = A.length := hP2.len
                    rw [hA] at hP2
                    have hin := hP2.out
                    k_steps
                    · dsimp only
                      dsimp only [MyPost]
                      k_steps
                      refine cb_retI hret ?_ (by k_asm) (news_t2 (by assumption))
                      rw [hP.early (by omega) hch hin (by omega)]
                    · dsimp only [MyPost]
                      walk_at "my close 5"
                      refine ⟨by assumption, ?_⟩
                      exact hP.turn (by omega) hch hin hl2 (by omega)
                · clear F4 N4 rgX
                  rintro ⟨us, row, cnt, res, tr⟩ u h tk ⟨hI, hP⟩ F5 N5
                  dsimp only [kstB] at F5 N5 hI hP ⊢
                  rw [hB] at hP
                  have hout := hP.out
                  k_steps
                  refine cb_retI hret ?_ (by k_asm) (news_t1 (by assumption))
                  rw [hout])
end Mine

end
section
open PySem PySem.W PyProof.Rows PySem.Calls PyProof.V PySem.Spec PySem.Builtin PySem.Builtin.Str
namespace Mine
def wantOf (cs : List Nat) : List Nat := [46, 46, 46] ++ cs.flatMap fun c => [c, 46, 46, 46]
def isSub : List Nat → List Nat → Bool
  | [], _ => true
  | _ :: _, [] => false
  | c :: cs, t :: ts => if c == t then isSub cs ts else isSub (c :: cs) ts
theorem isSub_none {c : Nat} {cs : List Nat} : ∀ {ts : List Nat}, (∀ t ∈ ts, t ≠ c) → isSub (c :: cs) ts = false
  | [], _ => rfl
  | t :: ts, h => by
    have h1 : ¬ (c == t) = true := by simpa using (h t (List.mem_cons_self ..)).symm
    rw [isSub, if_neg h1]
    exact isSub_none fun x hx => h x (List.mem_cons_of_mem _ hx)
theorem isSub_found {c : Nat} {cs : List Nat} : ∀ (q : Nat) {ts : List Nat}, ts[q]? = some c → (∀ j, j < q → ts[j]? ≠ some c) → isSub (c :: cs) ts = isSub cs (ts.drop (q + 1))
  | 0, [], h, _ => by cases h
  | 0, t :: ts, h, _ => by
    have e : t = c := by simpa using h
    subst e
    simp [isSub]
  | q + 1, [], h, _ => by cases h
  | q + 1, t :: ts, h, g => by
    have h1 : ¬ (c == t) = true := by
      have := g 0 (Nat.succ_pos _)
      simpa using fun e : c = t => this (by simp [e])
    rw [isSub, if_neg h1]
    rw [isSub_found q (by simpa using h) fun j hj => by simpa using g (j + 1) (by omega)]
    simp
theorem from_nn {n : Nat} {i : Int} (h : 0 ≤ i) : fromIndex n i = i.toNat := by
  unfold fromIndex; rw [if_neg (by omega)]; omega
theorem gives_find4 (x y : Str) (i : Int) (t u v z : Tok) : Gives («str.find» ⟨[.str x t, .str y u, .int i v, .int x.length z], []⟩) (.int (Txt.find3 x y i)) := by
  have e : min (fromIndex x.length (x.length : Int)) x.length = x.length := by rw [from_nn (by omega)]; simp
  show Gives (match occurrences x y (fromIndex x.length i) (min (fromIndex x.length (x.length : Int)) x.length) 1 with | k :: _ => retInt k | [] => (do rule "str.find.not-found"; retInt (-1))) _
  rw [e]
  unfold Txt.find3
  cases occurrences x y (fromIndex x.length i) x.length 1 with
  | nil => exact .rule (.of_eq rfl)
  | cons k _ => exact .of_eq rfl
theorem call_find4 {prog : Program} {w : World} {A : Around} {E : Value → Shared → Prop} {s : Shared} {x y : Str} {t u v z : Tok} {i j : Int} {Q : Value → Shared → Prop} (hj : j = x.length)
    (hq : Q (.int (Txt.find3 x y i) s.toks) { s with toks := s.toks + 1 }) : wpAny (model prog w) A (call (.builtin "str.find") [.str x t, .str y u, .int i v, .int j z]) Q E s := by
  subst hj
  exact call_gives F.slot_str_find (typeIs_str _ _ _) F.entry_str_find (F.args_str_find_4 _ _ _ _) (gives_find4 x y i t u v z) hq
theorem find_nil {ts : List Nat} {i : Int} (h0 : 0 ≤ i) (h1 : i ≤ ts.length) : Txt.find3 (S ts) (S []) i = i := by
  unfold Txt.find3
  have hat : ∀ k, k ≤ ts.length → StrLaws.At (S ts) (S []) (S ts).length k := fun k hk => ⟨by rw [S_len, S_len]; simpa using hk, by
    unfold subAt
    simp [S, Str.length]⟩
  rcases StrLaws.occ_head_from (S ts) (S []) (fromIndex (S ts).length i) 1 (Nat.le_refl 1) with ⟨_, hn⟩ | ⟨k, r, h0', hlo, hk, hn⟩
  · exact absurd (hat i.toNat (by omega)) (hn _ (by rw [from_nn h0]; exact Nat.le_refl _))
  · rw [h0']
    rw [from_nn h0] at hlo hn
    have : k = i.toNat := by
      rcases Nat.lt_or_ge i.toNat k with h | h
      · exact absurd (hat i.toNat (by omega)) (hn i.toNat (Nat.le_refl _) h)
      · omega
    subst this
    show ((i.toNat : Nat) : Int) = i
    omega
/-- the word of the loop over the pieces -/
structure ElP (cs ts : List Nat) (i : Nat) (p : Int) : Prop where
  h0 : 0 ≤ p
  h1 : p ≤ ts.length
  h2 : isSub (cs.drop (i - 1)) (ts.drop p.toNat) = isSub cs ts
theorem ElP.start (cs ts : List Nat) : ElP cs ts 0 0 := ⟨by omega, by omega, by simp⟩
def pieces (cs : List Nat) : List Str := S [] :: (cs.map fun c => S [c]) ++ [S []]
theorem pieces_len (cs : List Nat) : (pieces cs).length = cs.length + 2 := by simp [pieces]
theorem ElP.turn {cs ts : List Nat} {i : Nat} {p : Int} (P : ElP cs ts i p) {y : Str} (hy : (pieces cs)[i]? = some y) :
    (Txt.find3 (S ts) y p < 0 → isSub cs ts = false) ∧ (¬ Txt.find3 (S ts) y p < 0 → ElP cs ts (i + 1) (Txt.find3 (S ts) y p + y.length)) := by
  obtain ⟨h0, h1, h2⟩ := P
  have empty : y = S [] → (i = 0 ∨ i = cs.length + 1) → (Txt.find3 (S ts) y p < 0 → isSub cs ts = false) ∧ (¬ Txt.find3 (S ts) y p < 0 → ElP cs ts (i + 1) (Txt.find3 (S ts) y p + y.length)) := by
    rintro rfl hi
    rw [find_nil h0 h1]
    refine ⟨fun h => by omega, fun _ => ⟨by rw [S_len]; simp; omega, by rw [S_len]; simp; omega, ?_⟩⟩
    rw [S_len]
    rw [← h2]
    have e : (p + (([] : List Nat).length : Nat)).toNat = p.toNat := by simp
    rw [e]
    rcases hi with rfl | rfl
    · rfl
    · rw [List.drop_of_length_le (show cs.length ≤ cs.length + 1 + 1 - 1 by omega), List.drop_of_length_le (show cs.length ≤ cs.length + 1 - 1 by omega)]
  unfold pieces at hy
  rcases Nat.lt_trichotomy i (cs.length + 1) with hi | hi | hi
  · cases i with
    | zero => exact empty (by simpa using hy.symm) (.inl rfl)
    | succ i =>
      have hc : i < cs.length := by omega
      have hy' : y = S [cs[i]] := by
        rw [List.cons_append, List.getElem?_cons_succ, List.getElem?_append_left (by simpa using hc), List.getElem?_map, List.getElem?_eq_getElem hc] at hy
        simpa using hy.symm
      subst hy'
      have e1 : cs.drop (i + 1 - 1) = cs[i] :: cs.drop (i + 1) := by rw [Nat.add_sub_cancel]; exact List.drop_eq_getElem_cons hc
      rw [e1] at h2
      rcases StrLaws.find3_spec (S ts) cs[i] p with ⟨h, hn⟩ | ⟨k, h, hlo, hlt, hk, hn⟩
      · have h' : Txt.find3 (S ts) (S [cs[i]]) p = -1 := h
        rw [h']
        refine ⟨fun _ => ?_, fun h => absurd (by decide) h⟩
        rw [← h2]
        refine isSub_none fun t ht e => ?_
        obtain ⟨j, hj, hjt⟩ := List.mem_iff_getElem.mp ht
        rw [List.getElem_drop] at hjt
        rw [List.length_drop] at hj
        rw [from_nn h0, S_len] at hn
        refine hn (p.toNat + j) (by omega) (by omega) ?_
        rw [← e, ← hjt]
        simp [S, Array.getD]
        rw [dif_pos (by omega)]
      · have h' : Txt.find3 (S ts) (S [cs[i]]) p = (k : Int) := h
        rw [h']
        rw [from_nn h0] at hlo hn
        rw [S_len] at hlt
        have hget : ∀ v, v < ts.length → (S ts).cps.getD v 0 = ts.getD v 0 := fun v hv => by simp [S, Array.getD, List.getD, hv]
        refine ⟨fun h => by omega, fun _ => ⟨by omega, by rw [S_len]; simp; omega, ?_⟩⟩
        rw [S_len, ← h2]
        have e2 : ((k : Int) + (([cs[i]] : List Nat).length : Nat)).toNat = k + 1 := by rw [List.length_singleton]; omega
        rw [e2]
        rw [isSub_found (k - p.toNat) (ts := ts.drop p.toNat) ?_ ?_]
        · rw [List.drop_drop, show i + 1 + 1 - 1 = i + 1 by omega]
          congr 2; omega
        · rw [List.getElem?_drop, show p.toNat + (k - p.toNat) = k by omega]
          rw [hget k hlt] at hk
          simp [List.getD, hlt] at hk
          rw [List.getElem?_eq_getElem hlt, hk]
        · intro j hj e
          rw [List.getElem?_drop] at e
          have hj2 : p.toNat + j < ts.length := by omega
          refine hn (p.toNat + j) (by omega) (by omega) ?_
          rw [hget _ hj2]
          simp [List.getD, e]
  · refine empty ?_ (.inr hi)
    subst hi
    rw [List.getElem?_append_right (by simp)] at hy
    simp at hy
    exact hy.symm
  · rw [List.getElem?_eq_none (by simp; omega)] at hy
    cases hy
theorem pieces_short {cs : List Nat} {i : Nat} {y : Str} (h : (pieces cs)[i]? = some y) : y.length ≤ 1 := by
  have hm := List.mem_of_getElem? h
  unfold pieces at hm
  rcases List.mem_append.mp hm with hm | hm
  · rcases List.mem_cons.mp hm with rfl | hm
    · rw [S_len]; simp
    · obtain ⟨c, _, rfl⟩ := List.mem_map.mp hm
      rw [S_len]; simp
  · rw [List.mem_singleton.mp hm, S_len]; simp
theorem ElP.out {cs ts : List Nat} {p : Int} (P : ElP cs ts (cs.length + 2) p) : isSub cs ts = true := by
  have h2 := P.h2
  rw [List.drop_of_length_le (by omega)] at h2
  rw [← h2]; simp [isSub]

def dots : Str := S [46, 46, 46]
theorem dots_eq : Str.ofString "..." = dots := by decide +kernel
def dotF (c : Nat) : Nat := if c = 46 then 46 else 0
theorem dotF_list (l : List Nat) : (l == [46, 46, 46]) = (l.map dotF == [46, 46, 46]) := by
  have h : ∀ x : Nat, (dotF x = 46) = (x = 46) := fun x => by unfold dotF; by_cases h : x = 46 <;> simp [h]
  match l with
  | [] => rfl
  | [a] => simp
  | [a, b] => simp
  | [a, b, c] => 
    rw [Bool.eq_iff_iff]
    simp [h]
  | a :: b :: c :: d :: r => simp
theorem subAt_dots (xs : List Nat) (i : Nat) : subAt (S xs) dots i = subAt (S (xs.map dotF)) dots i := by
  rw [StrLaws.subAt_eq, StrLaws.subAt_eq, S_toList, S_toList]
  show ((xs.drop i).take 3 == [46, 46, 46]) = (((xs.map dotF).drop i).take 3 == [46, 46, 46])
  rw [dotF_list, List.map_take, List.map_drop]
theorem occ_dots (xs : List Nat) (lo hi lim : Nat) : occurrences (S xs) dots lo hi lim = occurrences (S (xs.map dotF)) dots lo hi lim := by
  unfold occurrences
  simp only [subAt_dots xs]
theorem dotF_letter {c : Nat} (h : c ≠ 46) : dotF c = 0 := by unfold dotF; rw [if_neg h]
theorem occ_want (cs : List Nat) (hn : cs.length ≤ 4) (hc : ∀ c ∈ cs, c ≠ 46) : occurrences (S (wantOf cs)) dots 0 (S (wantOf cs)).length ((S (wantOf cs)).length + 1) = (List.range (cs.length + 1)).map (4 * ·) := by
  rw [occ_dots, S_len]
  match cs, hn with
  | [], _ => decide +kernel
  | [a], _ =>
    have ha := dotF_letter (hc a (by simp))
    simp only [wantOf, List.flatMap_cons, List.flatMap_nil, List.cons_append, List.nil_append, List.map_cons, List.map_nil, ha, List.length_cons, List.length_nil]
    decide +kernel
  | [a, b], _ =>
    have ha := dotF_letter (hc a (by simp))
    have hb := dotF_letter (hc b (by simp))
    simp only [wantOf, List.flatMap_cons, List.flatMap_nil, List.cons_append, List.nil_append, List.map_cons, List.map_nil, ha, hb, List.length_cons, List.length_nil]
    decide +kernel
  | [a, b, c], _ =>
    have ha := dotF_letter (hc a (by simp))
    have hb := dotF_letter (hc b (by simp))
    have hc' := dotF_letter (hc c (by simp))
    simp only [wantOf, List.flatMap_cons, List.flatMap_nil, List.cons_append, List.nil_append, List.map_cons, List.map_nil, ha, hb, hc', List.length_cons, List.length_nil]
    decide +kernel
  | [a, b, c, d], _ =>
    have ha := dotF_letter (hc a (by simp))
    have hb := dotF_letter (hc b (by simp))
    have hc' := dotF_letter (hc c (by simp))
    have hd := dotF_letter (hc d (by simp))
    simp only [wantOf, List.flatMap_cons, List.flatMap_nil, List.cons_append, List.nil_append, List.map_cons, List.map_nil, ha, hb, hc', hd, List.length_cons, List.length_nil]
    decide +kernel
  | a :: b :: c :: d :: e :: r, h => exact absurd h (by simp)
theorem want_len (cs : List Nat) : (wantOf cs).length = 4 * cs.length + 3 := by
  unfold wantOf
  simp
  induction cs with
  | nil => rfl
  | cons c r ih => simp; omega
theorem split_want (cs : List Nat) (hn : cs.length ≤ 4) (hc : ∀ c ∈ cs, c ≠ 46) : Txt.split (S (wantOf cs)) dots = pieces cs := by
  have hk : Builtin.Str.strKind dots = 1 := by decide +kernel
  unfold Txt.split
  rw [occ_want cs hn hc, hk]
  have h1 : ¬ ((S (wantOf cs)).length < dots.length) := by
    rw [S_len, want_len]; show ¬ (_ < 3); omega
  have h2 : ¬ (Builtin.Str.strKind (S (wantOf cs)) < 1) := by
    unfold Builtin.Str.strKind; split
    · omega
    · split <;> omega
  rw [if_neg (by simp [h1, h2]), if_neg (by simp)]
  match cs, hn with
  | [], _ => decide +kernel
  | [a], _ => rfl
  | [a, b], _ => rfl
  | [a, b, c], _ => rfl
  | [a, b, c, d], _ => rfl
  | a :: b :: c :: d :: e :: r, h => exact absurd h (by simp)
theorem in_want (cs : List Nat) : (occurrences (S (wantOf cs)) dots 0 (S (wantOf cs)).length 1).isEmpty = false := by
  rcases StrLaws.occ_head_from (S (wantOf cs)) dots 0 1 (Nat.le_refl 1) with ⟨_, hn⟩ | ⟨i, r, h, _⟩
  · exfalso
    refine hn 0 (Nat.le_refl _) ⟨?_, ?_⟩
    · rw [S_len, want_len]; show 0 + 3 ≤ _; omega
    · rw [StrLaws.subAt_eq, S_toList]
      show ((wantOf cs).drop 0).take 3 == [46, 46, 46]
      simp [wantOf]
  · rw [h]; rfl

section
variable {prog : Program} {w : World} {A : Around} {E : Value → Shared → Prop} {s : Shared} {h₀ : Heap} {L D : Addr} {m : Str → Option Value} {news : List (Addr × Obj)} {us : List Value} {n : Nat} {value slice : PySem.Expr} {u : Tok} {v : Value} {Q : Value → Shared → Prop}
theorem call_split_want {cs : List Nat} {y : Str} {t : Tok} (hn : cs.length ≤ 4) (hc : ∀ c ∈ cs, c ≠ 46) (hy : y = Str.ofString "...") (F : Fr h₀ L s.heap m) (N : News h₀ L s.heap news)
    (h : ∀ D us h' k, StrsAre us (pieces cs) → Fr h₀ L h' m → News h₀ L h' ((D, listOf us.toArray 0) :: news) → (∀ p ∈ news, p.1 < D) → us.length = cs.length + 2 → (∃ t₀, us[0]? = some (.str (S []) t₀)) → (∃ t₁, us[cs.length + 1]? = some (.str (S []) t₁)) → Q (.ref D) { s with heap := h', toks := k }) :
    wpAny (model prog w) A (call (.builtin "str.split") [.str (S (wantOf cs)) t, .str y u]) Q E s := by
  subst hy
  refine KSpl.split1 F N (by decide +kernel) (fun D l h' k e a F' N' l1 => ?_) (by rw [S_len, want_len, sizeLine_eq]; omega)
  rw [dots_eq, split_want cs hn hc] at e
  rw [e] at a
  refine h D _ h' k a F' N' l1 (by rw [a.len_eq, pieces_len]) (a.at (by rfl)) (a.at ?_)
  unfold pieces
  rw [List.getElem?_append_right (by simp)]
  simp
theorem len_us {k : Nat} (N : News h₀ L s.heap news) (hm : (D, listOf us.toArray n) ∈ news) (hlen : us.length = k) (hk : k ≤ 10000) (h : ∀ t, Q (.int k t) { s with toks := s.toks + 1 + 1 }) : wpAny (model prog w) A (call (.builtin "len") [.ref D]) Q E s := by
  have hl : s.heap.IsList D us.toArray := PySem.IsL.isList (n := n) (N _ hm).1
  refine PyProof.Rows.len_list hl (by rw [List.size_toArray, hlen]; omega) ?_
  rw [List.size_toArray, hlen]
  exact h _
theorem item_first (N : News h₀ L s.heap news) (hm : (D, listOf us.toArray n) ∈ news) (hx : us[0]? = some v) (h : Q v s)
    (hs : subscripted slice false (.ref D) (.int 0 u) = operate [.ref D, .int 0 u] (getItem (.ref D) (.int 0 u)) := by with_unfolding_all rfl) :
    wpAny (model prog w) A (subscriptTail value slice (.ref D) (.int 0 u)) Q E s :=
  have hl : s.heap.IsList D us.toArray := PySem.IsL.isList (n := n) (N _ hm).1
  tail_any hl.typeIs slot_list_getitem.lookup (wpAny_getItem_list hl (by decide) (by decide) (by simpa using hx) h) hs
theorem item_last {k : Nat} (N : News h₀ L s.heap news) (hm : (D, listOf us.toArray n) ∈ news) (hlen : us.length = k + 1) (hx : us[k]? = some v) (h : Q v s)
    (hs : subscripted slice false (.ref D) (.int (-1) u) = operate [.ref D, .int (-1) u] (getItem (.ref D) (.int (-1) u)) := by with_unfolding_all rfl) :
    wpAny (model prog w) A (subscriptTail value slice (.ref D) (.int (-1) u)) Q E s :=
  have hl : s.heap.IsList D us.toArray := PySem.IsL.isList (n := n) (N _ hm).1
  tail_any hl.typeIs slot_list_getitem.lookup (wpAny_getItem_list_neg hl (by decide) (by rw [List.size_toArray, hlen]; omega) (by decide) (by
    rw [List.size_toArray, hlen]
    have e : (-1 + ((k + 1 : Nat) : Int)).toNat = k := by omega
    rw [e]; simpa using hx) h) hs
end
end Mine

end
section
open PySem PySem.W PyProof.Rows
namespace Mine
local macro_rules | `(tactic| walk_at "my name") => `(tactic| first | ((with_reducible refine name_here ?_); rfl) | (refine name_next (by decide +kernel) ?_; walk_at "my name"))
local macro_rules | `(tactic| walk_at "my names") => `(tactic| first | exact names_nil | ((refine names_cons ?_ ?_); (focus (walk_at "my name")); walk_at "my names"))
local macro_rules | `(tactic| walk_at "my all") => `(tactic| first | exact List.forall_mem_nil _ | (refine List.forall_mem_cons.mpr ⟨by k_mem, ?_⟩; walk_at "my all"))
local macro_rules | `(tactic| walk_at "my sub") => `(tactic| first | ((refine mem_eqE ?_); rfl) | ((refine mem_appE ?_); rfl) | ((refine mem_tailE ?_); walk_at "my sub") | (walk_at "my all") | kst_in)
local macro_rules | `(tactic| walk_at "my own") => `(tactic| first | exact mem_nilE | exact mem_rightE | (refine mem_tailE ?_; walk_at "my own"))
local macro_rules | `(tactic| walk_at "my ends") => `(tactic| ((case e1 => walk_at "my names"); (case e2 => walk_at "my sub"); (case e3 => first | exact mem_nilE | exact mem_rightE | (walk_at "my own") | kst_in); (try dsimp only)))
local macro_rules | `(tactic| walk_at "my close 2") => `(tactic| (rename Fr _ _ _ _ => fE; rename News _ _ _ _ => nE; (refine' my_end ⟨_, _⟩ fE nE ?e1 ?e2 ?e3 ?e4); walk_at "my ends"))
local macro_rules | `(tactic| walk_at "my close 4") => `(tactic| (rename Fr _ _ _ _ => fE; rename News _ _ _ _ => nE; (refine' my_end ⟨_, _, _, _⟩ fE nE ?e1 ?e2 ?e3 ?e4); walk_at "my ends"))
local macro_rules | `(tactic| walk_at "my close 3") => `(tactic| (rename Fr _ _ _ _ => fE; rename News _ _ _ _ => nE; (refine' my_end ⟨_, _, _⟩ fE nE ?e1 ?e2 ?e3 ?e4); walk_at "my ends"))
local macro_rules | `(tactic| walk_at "my close 5") => `(tactic| (rename Fr _ _ _ _ => fE; rename News _ _ _ _ => nE; (refine' my_end ⟨_, _, _, _, _⟩ fE nE ?e1 ?e2 ?e3 ?e4); walk_at "my ends"))
local macro_rules | `(tactic| walk_at "my close 9") => `(tactic| (rename Fr _ _ _ _ => fE; rename News _ _ _ _ => nE; (refine' my_end ⟨_, _, _, _, _, _, _, _, _⟩ fE nE ?e1 ?e2 ?e3 ?e4); walk_at "my ends"))
local macro_rules | `(tactic| walk_at "my close 1") => `(tactic| (rename Fr _ _ _ _ => fE; rename News _ _ _ _ => nE; (refine' my_end _ fE nE ?e1 ?e2 ?e3 ?e4); walk_at "my ends"))
local macro_rules | `(tactic| walk_at "my close 0") => `(tactic| (rename Fr _ _ _ _ => fE; rename News _ _ _ _ => nE; (refine' my_end () fE nE ?e1 ?e2 ?e3 ?e4); walk_at "my ends"))
local macro_rules | `(tactic| walk_at "pyIter ref") => `(tactic| refine Stop.mk ?_)
local macro_rules | `(tactic| walk_at "exec For Name Name cons nil") => `(tactic| (k_here; (rename Fr _ _ _ _ => lF'); (with_unfolding_all refine' For_invVF lF' ?k1 ?k2 ?_; (case k1 => exact rfl); (case k2 => exact rfl); k_whole)))
local macro_rules | `(tactic| walk_at "execs cons") => `(tactic| (k_here; dsimp only; k_gentoks))
local macro_rules | `(tactic| walk_at "call builtin:str.split") => `(tactic| (k_here; (with_reducible show wpAny _ _ (call (Value.builtin "str.split") _) _ _ _); k_dflt (refine' call_split_want ?k1 ?k2 ?k3 ?k4 ?k5 ?_; (case k1 => assumption); (case k2 => assumption); (case k3 => exact rfl); (case k4 => k_asm); (case k5 => k_asm); k_whole); rintro D' us' h' k' e' F' N' l1 hl' ⟨t₀, x0'⟩ ⟨t₁, x1'⟩; (try dsimp only)))
local macro_rules | `(tactic| walk_at "subscriptTail Name Constant ref int") => `(tactic| (k_here; (with_reducible show wpAny _ _ (subscriptTail _ _ (Value.ref _) (Value.int _ _)) _ _ _); k_dflt (refine' item_first ?k1 ?k2 ?k3 ?_ ?k4); (case k1 => k_asm); (case k2 => k_mem); (case k3 => assumption); (case k4 => with_unfolding_all rfl)))
local macro_rules | `(tactic| walk_at "subscriptTail Name UnaryOp ref int") => `(tactic| (k_here; (with_reducible show wpAny _ _ (subscriptTail _ _ (Value.ref _) (Value.int _ _)) _ _ _); k_dflt (refine' item_last ?k1 ?k2 ?k5 ?k3 ?_ ?k4); (case k1 => k_asm); (case k2 => k_mem); (case k5 => assumption); (case k3 => assumption); (case k4 => with_unfolding_all rfl)))
local macro_rules | `(tactic| walk_at "call builtin:len") => `(tactic| (k_here; (with_reducible show wpAny _ _ (call (Value.builtin _) [Value.ref _]) _ _ _); k_dflt (refine' len_us ?k1 ?k2 ?k3 ?k4 ?_; (case k1 => k_asm); (case k2 => k_mem); (case k3 => assumption); (case k4 => omega); k_whole); intro _; (try dsimp only)))
local macro_rules | `(tactic| walk_at "call builtin:str.find") => `(tactic| (k_here; k_dflt (refine' call_find4 ?k1 ?_); (case k1 => first | rfl | omega); (try dsimp only)))
set_option maxRecDepth 100000 in
set_option maxHeartbeats 1000000 in
theorem ell_claim (w : World) (mean) (mg mb) (cs ts : List Nat) (ta tb : Tok) (hcs : cs.length ≤ 4) (hc46 : ∀ c ∈ cs, c ≠ 46) : Claim 1 w mean mg mb 21 ((S ts).length ≤ 40) [.str (S (wantOf cs)) ta, .str (S ts) tb] (fun _ => .bool (isSub cs ts)) := by
  unfold Claim
  w_on
  w_strict (
    k_fill
    dsimp only [CbRet]
    intros; rename_i hS _ _ hret
    have hw1 := S_len (wantOf cs)
    have hw2 := want_len cs
    have hnil : (S []).length = 0 := S_len []
    refine wpAny_call ?_
    (k_dflt cell_enter)
    k_steps
    · exfalso
      rename (Builtin.Str.occurrences _ _ _ _ _).isEmpty = true => hx
      rw [dots_eq, in_want] at hx
      exact absurd hx (by decide)
    refine Stop.out ?_
    rename Fr _ _ _ _ => F1
    rename News _ _ _ _ => N1
    rename StrsAre _ _ => hst
    rename (∀ (p : Addr × Obj), p ∈ _ → p.1 < _) => hlow
    rename (List.length _ = cs.length + 2) => hul
    refine my_listV (σ := Int × Tok) (fun _ => _) (fun c => [(Str.ofString "startpos", .int c.1 c.2), (Str.ofString "endpos", .int ((S ts).length) _), (Str.ofString "got", .str (S ts) tb)]) (fun i c => ElP cs ts i c.1) (0, _) (fun _ => rfl) rfl F1 N1 (.tail _ (.head _)) (fun p hp => .tail _ (.tail _ hp)) (fun p hp => Nat.ne_of_lt (hlow p hp)) (by with_unfolding_all kst_all) (ElP.start cs ts) ?_ ?_
    · clear F1 N1
      rintro i v ⟨p, tp⟩ u h tk own hi hv hoff hP F2 N2
      obtain ⟨y, t, rfl, hy⟩ := hst.item i v hv
      have hT := hP.turn hy
      have hyl := pieces_short hy
      dsimp only [kstB] at F2 N2 hP hoff hT ⊢
      k_steps
      all_goals (try dsimp only [MyPost])
      · k_steps
        refine cb_retB hret ?_ (by k_asm) (news_t3 (by assumption))
        exact (hT.1 (by assumption)).symm
      · walk_at "my close 2"
        exact hT.2 (by assumption)
    · clear F1 N1
      rintro ⟨p, tp⟩ u h tk hP F2 N2
      rw [hul] at hP
      have hout := hP.out
      dsimp only [kstB] at F2 N2 hP ⊢
      k_steps
      refine cb_retB hret ?_ (by k_asm) (by k_asm)
      exact hout.symm)
end Mine

end
section
open PySem PySem.W PyProof.Rows PySem.Calls PyProof.V PySem.Spec
namespace Mine
def Bt (xs : List Nat) : Array UInt8 := (xs.map UInt8.ofNat).toArray
def apL (n : Nat) (acc : List Nat) : List Nat := if n = 0 then acc else apL (n / 16) ((65 + n % 16) :: acc)
termination_by n
decreasing_by omega
theorem apL_zero (acc : List Nat) : apL 0 acc = acc := by rw [apL]; simp
theorem apL_go {n : Nat} (h : n ≠ 0) (acc : List Nat) : apL n acc = apL (n / 16) ((65 + n % 16) :: acc) := by rw [apL]; rw [if_neg h]
structure AC where
  n : Int
  acc : List Nat
  tn : Tok
  tv : Tok
structure ApP (N : Nat) (n : Int) (acc : List Nat) : Prop where
  h0 : 0 ≤ n
  h1 : acc.length + n.toNat ≤ 65536
  h2 : apL n.toNat acc = apL N ([] : List Nat)
theorem ApP.start {N : Nat} {n : Int} (h : n = N) (hN : N ≤ 65536) : ApP N n [] := ⟨by omega, by simp; omega, by rw [h]; simp⟩
theorem Bt_size (xs : List Nat) : (Bt xs).size = xs.length := by simp [Bt]

def APb : Array UInt8 := #[65, 66, 67, 68, 69, 70, 71, 72, 73, 74, 75, 76, 77, 78, 79, 80]
theorem ap_pick : ∀ k : Nat, k < 16 → KBy.picked APb (some (k : Int)) (some ((k : Int) + 1)) = Bt [65 + k] := by decide +kernel
theorem Bt_app (xs ys : List Nat) : Bt xs ++ Bt ys = Bt (xs ++ ys) := by simp [Bt]
section
variable {prog : Program} {w : World} {A : Around} {E : Value → Shared → Prop} {s : Shared} {h₀ : Heap} {L : Addr} {m : Str → Option Value} {news : List (Addr × Obj)} {value slice : PySem.Expr} {t uk uj : Tok} {k j : Int} {Q : Value → Shared → Prop}
theorem ap_slice (h0 : 0 ≤ k) (h1 : k < 16) (hj : j = k + 1) (hF : Fr h₀ L s.heap m) (hN : News h₀ L s.heap news)
    (h : ∀ h' t' tk, Fr h₀ L h' m → News h₀ L h' news → Q (.bytes (Bt [65 + k.toNat]) t') { s with heap := h', toks := tk })
    (hs : subscripted slice false (.bytes APb t) (.ref s.heap.objs.size) = operate [.ref s.heap.objs.size, .bytes APb t] (getItem (.bytes APb t) (.ref s.heap.objs.size)) := by with_unfolding_all rfl)
    (ht : ∀ r, letTemporaryGo value (.bytes APb t) r = pure () := by intro _; with_unfolding_all rfl) :
    wpAny (model prog w) A (subscriptTail value slice (.bytes APb t) (.ref s.heap.objs.size)) Q E { s with heap := s.heap.push { cls := .type "slice", data := .fields #[.int k uk, .int j uj, .none] } } := by
  subst hj
  have e : KBy.picked APb (some k) (some (k + 1)) = Bt [65 + k.toNat] := by
    have h := ap_pick k.toNat (by omega)
    rw [Int.toNat_of_nonneg h0] at h
    exact h
  refine KBc.slice_K (lo := some k) (hi := some (k + 1)) hF hN rfl (by constructor) (by constructor) (by decide +kernel) (fun h' t' tk F' N' _ => ?_) hs ht
  rw [e]
  exact h h' t' tk F' N'
end
theorem ApP.turn {N : Nat} {n : Int} {acc : List Nat} (P : ApP N n acc) (hn : n ≠ 0) : ApP N (n.fdiv 16) ((65 + (n.fmod 16).toNat) :: acc) ∧ (n.fdiv 16).toNat < n.toNat := by
  obtain ⟨h0, h1, h2⟩ := P
  have e1 : n.fdiv 16 = n / 16 := Int.fdiv_eq_ediv_of_nonneg n (by decide)
  have e2 : n.fmod 16 = n % 16 := Int.fmod_eq_emod_of_nonneg n (by decide)
  rw [e1, e2]
  refine ⟨⟨by omega, by rw [List.length_cons]; omega, ?_⟩, by omega⟩
  rw [apL_go (by omega : n.toNat ≠ 0)] at h2
  rw [← h2]
  congr 1
  · omega
  · congr 1; omega
theorem ApP.out {N : Nat} {n : Int} {acc : List Nat} (P : ApP N n acc) (hn : n = 0) : acc = apL N [] := by
  have h2 := P.h2
  subst hn
  rw [← h2]; exact (apL_zero acc).symm
theorem ap_digits {n d : Nat} {acc : List Nat} (hd : d < 16) (h : n * 16 + d ≠ 0) : apL (n * 16 + d) acc = apL n ((65 + d) :: acc) := by
  rw [apL_go h]
  congr 1
  · omega
  · congr 1; omega
theorem add_Bt {prog : Program} {w : World} {A : Around} {E : Value → Shared → Prop} {s : Shared} {xs ys : List Nat} {t u : Tok} {Q : Value → Shared → Prop} (hsz : xs.length + ys.length ≤ 16777216) (h : ∀ t' k, Q (.bytes (Bt (xs ++ ys)) t') { s with toks := k }) :
    wpAny (model prog w) A (binaryOp .Add (.bytes (Bt xs) t) (.bytes (Bt ys) u)) Q E s := by
  refine KBy.add_bytes (by rw [Bt_size, Bt_size]; exact hsz) fun t' k => ?_
  rw [Bt_app]; exact h t' k
end Mine

end
section
open PySem PySem.W PyProof.Rows
namespace Mine
local macro_rules | `(tactic| walk_at "my name") => `(tactic| first | ((with_reducible refine name_here ?_); rfl) | (refine name_next (by decide +kernel) ?_; walk_at "my name"))
local macro_rules | `(tactic| walk_at "my names") => `(tactic| first | exact names_nil | ((refine names_cons ?_ ?_); (focus (walk_at "my name")); walk_at "my names"))
local macro_rules | `(tactic| walk_at "my all") => `(tactic| first | exact List.forall_mem_nil _ | (refine List.forall_mem_cons.mpr ⟨by k_mem, ?_⟩; walk_at "my all"))
local macro_rules | `(tactic| walk_at "my sub") => `(tactic| first | ((refine mem_eqE ?_); rfl) | ((refine mem_appE ?_); rfl) | ((refine mem_tailE ?_); walk_at "my sub") | (walk_at "my all") | kst_in)
local macro_rules | `(tactic| walk_at "my own") => `(tactic| first | exact mem_nilE | exact mem_rightE | (refine mem_tailE ?_; walk_at "my own"))
local macro_rules | `(tactic| walk_at "my ends") => `(tactic| ((case e1 => walk_at "my names"); (case e2 => walk_at "my sub"); (case e3 => first | exact mem_nilE | exact mem_rightE | (walk_at "my own") | kst_in); (try dsimp only)))
local macro_rules | `(tactic| walk_at "my close 2") => `(tactic| (rename Fr _ _ _ _ => fE; rename News _ _ _ _ => nE; (refine' my_end ⟨_, _⟩ fE nE ?e1 ?e2 ?e3 ?e4); walk_at "my ends"))
local macro_rules | `(tactic| walk_at "my close 4") => `(tactic| (rename Fr _ _ _ _ => fE; rename News _ _ _ _ => nE; (refine' my_end ⟨_, _, _, _⟩ fE nE ?e1 ?e2 ?e3 ?e4); walk_at "my ends"))
local macro_rules | `(tactic| walk_at "my close 3") => `(tactic| (rename Fr _ _ _ _ => fE; rename News _ _ _ _ => nE; (refine' my_end ⟨_, _, _⟩ fE nE ?e1 ?e2 ?e3 ?e4); walk_at "my ends"))
local macro_rules | `(tactic| walk_at "my close 5") => `(tactic| (rename Fr _ _ _ _ => fE; rename News _ _ _ _ => nE; (refine' my_end ⟨_, _, _, _, _⟩ fE nE ?e1 ?e2 ?e3 ?e4); walk_at "my ends"))
local macro_rules | `(tactic| walk_at "my close 9") => `(tactic| (rename Fr _ _ _ _ => fE; rename News _ _ _ _ => nE; (refine' my_end ⟨_, _, _, _, _, _, _, _, _⟩ fE nE ?e1 ?e2 ?e3 ?e4); walk_at "my ends"))
local macro_rules | `(tactic| walk_at "my close 1") => `(tactic| (rename Fr _ _ _ _ => fE; rename News _ _ _ _ => nE; (refine' my_end _ fE nE ?e1 ?e2 ?e3 ?e4); walk_at "my ends"))
local macro_rules | `(tactic| walk_at "my close 0") => `(tactic| (rename Fr _ _ _ _ => fE; rename News _ _ _ _ => nE; (refine' my_end () fE nE ?e1 ?e2 ?e3 ?e4); walk_at "my ends"))
local macro_rules | `(tactic| walk_at "subscriptTail Name Slice bytes ref") => `(tactic| (k_here; (with_reducible rename Fr _ _ _ _ => F'); (with_reducible rename News _ _ _ _ => N'); (refine ap_slice (s := ⟨_, _, _, _, _⟩) (by omega) (by omega) rfl F' N' ?_); intro _ _ _ _ _; (try dsimp only)))
local macro_rules | `(tactic| walk_at "binaryOp Add bytes bytes") => `(tactic| (k_here; (with_reducible show wpAny _ _ (binaryOp Operator.Add (Value.bytes (Bt _) _) (Value.bytes (Bt _) _)) _ _ _); (refine add_Bt (by simp only [List.length_cons, List.length_nil]; omega) ?_); intro _ _; (try dsimp only)))
local macro_rules | `(tactic| walk_at "exec While") => `(tactic| refine Stop.mk ?_)
local macro_rules | `(tactic| walk_at "execs cons") => `(tactic| (k_here; dsimp only; k_gentoks))
set_option maxRecDepth 100000 in
set_option maxHeartbeats 1000000 in
theorem ap_claim (w : World) (mean) (mg mb) (i : Int) (ti : Tok) : Claim 1 w mean mg mb 28 (i.natAbs < 65536) [.int i ti] (fun t => .bytes (Bt (apL i.natAbs [])) t) := by
  unfold Claim
  w_on
  w_strict (
    k_fill
    dsimp only [CbRet]
    intros; rename_i hS _ _ hret
    refine wpAny_call ?_
    (k_dflt cell_enter)
    k_steps
    refine Stop.out ?_
    rename Fr _ _ _ _ => F1
    rename News _ _ _ _ => N1
    have habs : (if i < 0 then -i else i) = (i.natAbs : Int) := by split <;> omega
    rw [habs] at F1
    refine my_while (σ := AC) (fun _ => _) (fun c => [(Str.ofString "num", .int c.n c.tn), (Str.ofString "val", .bytes (Bt c.acc) c.tv), (Str.ofString "AP", .bytes APb _)])
      (fun c => ApP i.natAbs c.n c.acc) (fun c => c.acc = apL i.natAbs []) (fun c => c.n.toNat) ⟨_, [], _, _⟩ F1 N1 (by with_unfolding_all kst_all) (ApP.start rfl (by omega)) ?_ ?_
    · clear F1 N1
      rintro ⟨n, acc, tn, tv⟩ u h tk hP F2 N2
      have h0 := hP.h0
      have h1 := hP.h1
      have hB := Bt_size acc
      dsimp only [kstB] at F2 N2 hP h0 h1 hB ⊢
      have hd1 : 0 ≤ n.fmod 16 := by rw [Int.fmod_eq_emod_of_nonneg n (by decide)]; omega
      have hd2 : n.fmod 16 < 16 := by rw [Int.fmod_eq_emod_of_nonneg n (by decide)]; omega
      k_steps
      · dsimp only [MyPost]
        walk_at "my close 4"
        exact hP.turn (by assumption)
      · walk_at "my close 4"
        exact hP.out (by assumption)
    · clear F1 N1
      rintro ⟨n, acc, tn, tv⟩ u h tk hP F2 N2
      dsimp only [kstB] at F2 N2 hP ⊢
      subst hP
      k_steps
      exact hret _ _ _ (by k_asm) (by k_asm))
end Mine

end
section
open PySem PySem.W PyProof.Rows PySem.Calls PyProof.V PySem.Spec
namespace Mine
theorem norm4 {h₀ h : Heap} {L fl : Addr} {a d : Addr × Obj} {r : List (Addr × Obj)} {e0 e1 e2 e3 : Int} {t0 t1 t2 t3 : Tok} {n : Nat} {P : Prop}
    (N : News h₀ L h (a :: (fl, listOf (((#[Value.int e0 t0].push (.int e1 t1)).push (.int e2 t2)).push (.int e3 t3)) n) :: d :: r))
    (k : ∀ f0 f1 f2 f3 : Int, f0 = e0 → f1 = e1 → f2 = e2 → f3 = e3 → News h₀ L h (a :: (fl, listOf [Value.int f0 t0, .int f1 t1, .int f2 t2, .int f3 t3].toArray n) :: r) → P) : P :=
  k e0 e1 e2 e3 rfl rfl rfl rfl fun p hp => N p (by
    rcases List.mem_cons.mp hp with rfl | hp
    · exact .head _
    · rcases List.mem_cons.mp hp with rfl | hp
      · exact .tail _ (.head _)
      · exact .tail _ (.tail _ (.tail _ hp)))
theorem fmod_lt (x : Int) {k : Int} (h : 0 < k) : 0 ≤ x.fmod k ∧ x.fmod k < k := by
  rw [Int.fmod_eq_emod_of_nonneg x (Int.le_of_lt h)]
  exact ⟨Int.emod_nonneg x (by omega), Int.emod_lt_of_pos x h⟩
structure Figs (f0 f1 f2 f3 : Int) : Prop where
  h0 : 1 ≤ f0
  h1 : f0 < f1
  h2 : f1 < f2
  h3 : f2 < f3
  h4 : f3 ≤ 12
theorem figs_ok {f0 f1 f2 f3 a b c d : Int} (h0 : f0 = 1 + a.fmod 3) (h1 : f1 = 1 + a.fmod 3 + 1 + b.fmod 3) (h2 : f2 = 1 + a.fmod 3 + 1 + b.fmod 3 + 1 + c.fmod 3) (h3 : f3 = 1 + a.fmod 3 + 1 + b.fmod 3 + 1 + c.fmod 3 + 1 + d.fmod 3) : Figs f0 f1 f2 f3 := by
  have := fmod_lt a (k := 3) (by decide)
  have := fmod_lt b (k := 3) (by decide)
  have := fmod_lt c (k := 3) (by decide)
  have := fmod_lt d (k := 3) (by decide)
  constructor <;> omega
theorem small_ok (x : Int) : (x.fmod 162).fdiv 81 = 0 ∨ (x.fmod 162).fdiv 81 = 1 := by
  have := fmod_lt x (k := 162) (by decide)
  rw [Int.fdiv_eq_ediv_of_nonneg _ (by decide)]
  omega
/-- letters of the words loop -/
structure WC where
  us : List Value
  n : Nat
  oK : Obj

def sel4 {α : Type} (k : Nat) (a b c d : α) : List α := (if k.testBit 0 then [a] else []) ++ (if k.testBit 1 then [b] else []) ++ (if k.testBit 2 then [c] else []) ++ (if k.testBit 3 then [d] else [])
def wordL (f0 f1 f2 f3 : Int) (k : Nat) : List Nat := (sel4 k f0 f1 f2 f3).map fun f => 65 + f.toNat
theorem small16 : Builtin.Range.small 1 16 1 = true := by decide +kernel
theorem size16 : Builtin.Range.rangeSize 1 16 1 = ((15 : Nat) : Int) := by decide +kernel

theorem map_sel4 {α β : Type} (f : α → β) (k : Nat) (a b c d : α) : (sel4 k a b c d).map f = sel4 k (f a) (f b) (f c) (f d) := by
  unfold sel4
  cases k.testBit 0 <;> cases k.testBit 1 <;> cases k.testBit 2 <;> cases k.testBit 3 <;> rfl
theorem bits_eq : ∀ i : Nat, i < 15 → List.filter (fun a : Int => Builtin.bitAnd ((1 + (i : Int)).fdiv (2 ^ a.toNat)) 1 != 0) (rangeInts 0 1 ((4 : Int) - 0).toNat) = sel4 (i + 1) 0 1 2 3 := by decide +kernel
theorem chosen_eq {i : Nat} (hi : i < 15) (f0 f1 f2 f3 : Int) :
    List.map (fun a : Int => [f0, f1, f2, f3].getD a.toNat 0) (List.filter (fun a : Int => Builtin.bitAnd ((1 + (i : Int)).fdiv (2 ^ a.toNat)) 1 != 0) (rangeInts 0 1 ((4 : Int) - 0).toNat)) = sel4 (i + 1) f0 f1 f2 f3 := by
  rw [bits_eq i hi, map_sel4]; rfl
theorem sel4_len {α : Type} (k : Nat) (a b c d : α) : (sel4 k a b c d).length ≤ 4 := by
  unfold sel4
  cases k.testBit 0 <;> cases k.testBit 1 <;> cases k.testBit 2 <;> cases k.testBit 3 <;> simp
theorem sel4_mem {α : Type} {k : Nat} {a b c d x : α} (h : x ∈ sel4 k a b c d) : x = a ∨ x = b ∨ x = c ∨ x = d := by
  unfold sel4 at h
  rcases List.mem_append.mp h with h | h
  · rcases List.mem_append.mp h with h | h
    · rcases List.mem_append.mp h with h | h
      · split at h
        · exact .inl (List.mem_singleton.mp h)
        · cases h
      · split at h
        · exact .inr (.inl (List.mem_singleton.mp h))
        · cases h
    · split at h
      · exact .inr (.inr (.inl (List.mem_singleton.mp h)))
      · cases h
  · split at h
    · exact .inr (.inr (.inr (List.mem_singleton.mp h)))
    · cases h
def numI (l : List Int) : Int := l.foldl (fun n f => n * 16 + f) 0
theorem numI_snoc (l : List Int) (f : Int) : numI (l ++ [f]) = numI l * 16 + f := by simp [numI]
theorem snoc_rec {P : List Int → Prop} (h0 : P []) (h1 : ∀ r f, P r → P (r ++ [f])) : ∀ l, P l := by
  intro l
  rw [← List.reverse_reverse l]
  induction l.reverse with
  | nil => exact h0
  | cons f r ih => rw [List.reverse_cons]; exact h1 _ _ ih
theorem numI_bound : ∀ (l : List Int), (∀ x ∈ l, 1 ≤ x ∧ x ≤ 15) → 0 ≤ numI l ∧ numI l < 16 ^ l.length := by
  refine snoc_rec (fun _ => by simp [numI]) fun r f ih => ?_
  · intro h
    have h1 := ih fun x hx => h x (List.mem_append_left _ hx)
    have h2 := h f (by simp)
    rw [numI_snoc, List.length_append, List.length_singleton, Int.pow_succ]
    omega
theorem numI_small (l : List Int) (h : ∀ x ∈ l, 1 ≤ x ∧ x ≤ 15) (hl : l.length ≤ 4) : 0 ≤ numI l ∧ numI l < 65536 := by
  have h1 := numI_bound l h
  have h2 : (16 : Int) ^ l.length ≤ 16 ^ 4 := by
    have := Nat.pow_le_pow_right (show 1 ≤ 16 by decide) hl
    exact_mod_cast this
  exact ⟨h1.1, Int.lt_of_lt_of_le h1.2 h2⟩
theorem apL_num : ∀ (l : List Int) (acc : List Nat), (∀ x ∈ l, 1 ≤ x ∧ x ≤ 15) → apL (numI l).natAbs acc = (l.map fun f => 65 + f.toNat) ++ acc := by
  refine snoc_rec (fun acc _ => by simp [numI, apL_zero]) fun r f ih => ?_
  · intro acc h
    have h1 := numI_bound r fun x hx => h x (List.mem_append_left _ hx)
    have h2 := h f (by simp)
    have e : (numI (r ++ [f])).natAbs = (numI r).natAbs * 16 + f.toNat := by rw [numI_snoc]; omega
    rw [e, ap_digits (by omega) (by omega), ih _ fun x hx => h x (List.mem_append_left _ hx)]
    simp
end Mine

end
section
open PySem PySem.W PyProof.Rows PySem.Calls PyProof.V PySem.Spec
namespace Mine
/-- renaming -/
structure Ren (ρ : Nat → Nat) (cost pc : Nat → Nat → Int) : Prop where
  inj : ∀ a b, a < 8 → b < 8 → (ρ a == ρ b) = (a == b)
  cst : ∀ a b, a < 8 → b < 8 → cost (ρ a) (ρ b) = pc a b
def Low (xs : List Nat) : Prop := ∀ x ∈ xs, x < 8
theorem Low.tail {x : Nat} {xs : List Nat} (h : Low (x :: xs)) : Low xs := fun y hy => h y (.tail _ hy)
theorem Low.head {x : Nat} {xs : List Nat} (h : Low (x :: xs)) : x < 8 := h x (.head _)
theorem Low.drop {xs : List Nat} (h : Low xs) (k : Nat) : Low (xs.drop k) := fun y hy => h y (List.mem_of_mem_drop hy)
theorem Low.take {xs : List Nat} (h : Low xs) (k : Nat) : Low (xs.take k) := fun y hy => h y (List.mem_of_mem_take hy)
theorem Low.reverse {xs : List Nat} (h : Low xs) : Low xs.reverse := fun y hy => h y (List.mem_reverse.mp hy)
section
variable {ρ : Nat → Nat} {cost pc : Nat → Nat → Int} (R : Ren ρ cost pc)
include R
theorem lcp_map : ∀ {xs ys : List Nat}, Low xs → Low ys → lcp (xs.map ρ) (ys.map ρ) = lcp xs ys
  | [], _, _, _ => by simp [lcp]
  | _ :: _, [], _, _ => by simp [lcp]
  | x :: xs, y :: ys, hx, hy => by
    simp only [List.map_cons, lcp]
    rw [R.inj x y hx.head hy.head, lcp_map hx.tail hy.tail]
theorem eq_map : ∀ {xs ys : List Nat}, Low xs → Low ys → (xs.map ρ == ys.map ρ) = (xs == ys)
  | [], [], _, _ => rfl
  | [], _ :: _, _, _ => rfl
  | _ :: _, [], _, _ => rfl
  | x :: xs, y :: ys, hx, hy => by
    simp only [List.map_cons]
    rw [List.cons_beq_cons, List.cons_beq_cons, R.inj x y hx.head hy.head, eq_map hx.tail hy.tail]
theorem isSub_map : ∀ {cs ts : List Nat}, Low cs → Low ts → isSub (cs.map ρ) (ts.map ρ) = isSub cs ts
  | [], _, _, _ => by simp [isSub]
  | _ :: _, [], _, _ => by simp [isSub]
  | c :: cs, t :: ts, hc, ht => by
    simp only [List.map_cons, isSub]
    rw [R.inj c t hc.head ht.head, isSub_map hc.tail ht.tail]
    have h := isSub_map (cs := c :: cs) (ts := ts) hc ht.tail
    rw [List.map_cons] at h
    rw [h]
theorem inner_map {c : Nat} (hc : c < 8) : ∀ {as : List Nat} {row : List Int} {d r m : Int}, Low as → inner cost (ρ c) (as.map ρ) row d r m = inner pc c as row d r m
  | [], row, d, r, m, _ => by simp [inner]
  | a :: as, [], d, r, m, _ => by simp [inner]
  | a :: as, q :: row, d, r, m, h => by
    simp only [List.map_cons, inner]
    rw [R.cst c a hc h.head, inner_map hc h.tail]
theorem outer_map {as : List Nat} (ha : Low as) {mc : Int} : ∀ {bs : List Nat} {i : Int} {row : List Int} {r : Int}, Low bs → outer cost (as.map ρ) mc (bs.map ρ) i row r = outer pc as mc bs i row r
  | [], i, row, r, _ => by simp [outer]
  | b :: bs, i, row, r, h => by
    simp only [List.map_cons, outer]
    rw [inner_map R h.head ha, outer_map ha h.tail]
theorem lev4_map {as bs : List Nat} (ha : Low as) (hb : Low bs) {mc : Int} : lev4 cost (as.map ρ) (bs.map ρ) mc = lev4 pc as bs mc := by
  unfold lev4
  rw [List.length_map, List.length_map, outer_map R ha hb]
theorem lev3_map {as bs : List Nat} (ha : Low as) (hb : Low bs) {mc : Int} : lev3 cost (as.map ρ) (bs.map ρ) mc = lev3 pc as bs mc := by
  unfold lev3
  rw [List.length_map, List.length_map, lev4_map R ha hb, lev4_map R hb ha]
  simp only [List.map_eq_nil_iff]
theorem lev2_map {as bs : List Nat} (ha : Low as) (hb : Low bs) {mc : Int} : lev2 cost (as.map ρ) (bs.map ρ) mc = lev2 pc as bs mc := by
  have e : lcs (as.map ρ) (bs.map ρ) = lcs as bs := by
    unfold lcs
    rw [← List.map_reverse, ← List.map_reverse, lcp_map R ha.reverse hb.reverse]
  unfold lev2
  rw [e]
  unfold cutR
  rw [List.length_map, List.length_map, ← List.map_take, ← List.map_take]
  exact lev3_map R (ha.take _) (hb.take _)
theorem lev_map {as bs : List Nat} (ha : Low as) (hb : Low bs) {mc : Int} : lev cost (as.map ρ) (bs.map ρ) mc = lev pc as bs mc := by
  unfold lev
  rw [eq_map R ha hb, lcp_map R ha hb, ← List.map_drop, ← List.map_drop, lev2_map R (ha.drop _) (hb.drop _)]
end
def low (c : Nat) : Nat := if 65 ≤ c ∧ c ≤ 90 then c + 32 else c
theorem lower_one : ∀ c : Nat, c < 128 → Txt.lower (S [c]) = S [low c] := by decide +kernel
theorem cst_eq {c a : Nat} (hc : c < 128) (ha : a < 128) : cst c a = if c = a then 0 else if low c = low a then 1 else 2 := by
  unfold cst substCost
  rw [lower_one c hc, lower_one a ha, S_beq, S_beq]
  simp only [beq_iff_eq, List.cons.injEq, and_true]
def pc (a b : Nat) : Int := if a = b then 0 else if a % 4 = b % 4 then 1 else 2
def code (f0 f1 f2 f3 : Int) (i : Nat) : Nat := (if 4 ≤ i then 97 else 65) + (if i % 4 = 0 then f0 else if i % 4 = 1 then f1 else if i % 4 = 2 then f2 else f3).toNat
theorem code_up {f0 f1 f2 f3 : Int} (h : Figs f0 f1 f2 f3) {i : Nat} (hi : i < 4) : 66 ≤ code f0 f1 f2 f3 i ∧ code f0 f1 f2 f3 i ≤ 77 := by
  obtain ⟨h0, h1, h2, h3, h4⟩ := h
  unfold code
  rcases i with _ | _ | _ | _ | i <;> try omega
  all_goals simp
  all_goals omega
theorem code_next {f0 f1 f2 f3 : Int} {i : Nat} (hi : i < 4) : code f0 f1 f2 f3 (i + 4) = code f0 f1 f2 f3 i + 32 := by
  unfold code
  rw [if_pos (show 4 ≤ i + 4 by omega), if_neg (show ¬ 4 ≤ i by omega), show (i + 4) % 4 = i % 4 by omega]
  omega
theorem code_inj {f0 f1 f2 f3 : Int} (h : Figs f0 f1 f2 f3) {i j : Nat} (hi : i < 4) (hj : j < 4) : code f0 f1 f2 f3 i = code f0 f1 f2 f3 j ↔ i = j := by
  obtain ⟨h0, h1, h2, h3, h4⟩ := h
  unfold code
  rcases i with _ | _ | _ | _ | i <;> try omega
  all_goals (rcases j with _ | _ | _ | _ | j <;> try omega)
  all_goals simp
  all_goals omega
theorem low_up {c : Nat} (h : 65 ≤ c) (h2 : c ≤ 90) : low c = c + 32 := by unfold low; rw [if_pos ⟨h, h2⟩]
theorem low_lo {c : Nat} (h : 91 ≤ c) : low c = c := by unfold low; rw [if_neg (by omega)]
theorem code_fall (f0 f1 f2 f3 : Int) {a : Nat} (ha : a < 8) : code f0 f1 f2 f3 a = code f0 f1 f2 f3 (a % 4) + 32 * (a / 4) := by
  by_cases h : a < 4
  · rw [Nat.mod_eq_of_lt h, Nat.div_eq_of_lt h]; rfl
  · have e : a = (a % 4) + 4 := by omega
    have e2 : a / 4 = 1 := by omega
    rw [e2, show code f0 f1 f2 f3 a = code f0 f1 f2 f3 (a % 4 + 4) by rw [← e], code_next (Nat.mod_lt _ (by decide))]
theorem code_low {f0 f1 f2 f3 : Int} (h : Figs f0 f1 f2 f3) {a : Nat} (ha : a < 8) : low (code f0 f1 f2 f3 a) = code f0 f1 f2 f3 (a % 4) + 32 := by
  have hb := code_up h (Nat.mod_lt a (by decide : 0 < 4))
  have hc := code_fall f0 f1 f2 f3 ha
  by_cases h4 : a < 4
  · rw [low_up (by omega) (by omega)]; omega
  · rw [low_lo (by omega)]; omega
theorem code_ren {f0 f1 f2 f3 : Int} (h : Figs f0 f1 f2 f3) : Ren (code f0 f1 f2 f3) cst pc := by
  have hm := fun a : Nat => Nat.mod_lt a (by decide : 0 < 4)
  have key : ∀ a b, a < 8 → b < 8 → (code f0 f1 f2 f3 a = code f0 f1 f2 f3 b ↔ a = b) := by
    intro a b ha hb
    have h1 := code_fall f0 f1 f2 f3 ha
    have h2 := code_fall f0 f1 f2 f3 hb
    have h3 := code_up h (hm a)
    have h4 := code_up h (hm b)
    have h5 := code_inj h (hm a) (hm b)
    omega
  refine ⟨fun a b ha hb => ?_, fun a b ha hb => ?_⟩
  · have h := key a b ha hb
    by_cases e : a = b
    · subst e; simp
    · rw [beq_eq_false_iff_ne.mpr e, beq_eq_false_iff_ne.mpr fun e' => e (h.mp e')]
  · have h1 := code_fall f0 f1 f2 f3 ha
    have h2 := code_fall f0 f1 f2 f3 hb
    have h3 := code_up h (hm a)
    have h4 := code_up h (hm b)
    rw [cst_eq (by omega) (by omega), code_low h ha, code_low h hb]
    unfold pc
    have h5 := code_inj h (hm a) (hm b)
    simp only [key a b ha hb, Nat.add_right_cancel_iff, h5]
theorem wordL_code (f0 f1 f2 f3 : Int) (k : Nat) : wordL f0 f1 f2 f3 k = (sel4 k 0 1 2 3).map (code f0 f1 f2 f3) := by
  unfold wordL
  rw [map_sel4, map_sel4]
  simp [code]
theorem sel4_low (k : Nat) {a b c d : Nat} (ha : a < 8) (hb : b < 8) (hc : c < 8) (hd : d < 8) : Low (sel4 k a b c d) := by
  intro x hx
  rcases sel4_mem hx with rfl | rfl | rfl | rfl <;> assumption
theorem low_code {f0 f1 f2 f3 : Int} (h : Figs f0 f1 f2 f3) {i : Nat} (hi : i < 4) : low (code f0 f1 f2 f3 i) = code f0 f1 f2 f3 (i + 4) := by
  rw [code_next hi, code_low h (by omega), Nat.mod_eq_of_lt hi]
theorem wordL_lower {f0 f1 f2 f3 : Int} (h : Figs f0 f1 f2 f3) (k : Nat) : (wordL f0 f1 f2 f3 k).map low = (sel4 k 4 5 6 7).map (code f0 f1 f2 f3) := by
  rw [wordL_code, map_sel4, map_sel4, map_sel4, low_code h (by decide), low_code h (by decide), low_code h (by decide), low_code h (by decide)]
def incl (m k : Nat) : Bool := m &&& k == m
theorem sub_tab : ∀ m < 16, ∀ k < 16, isSub (sel4 m 0 1 2 3) (sel4 k 0 1 2 3) = incl m k := by decide +kernel
theorem told_eq {f0 f1 f2 f3 : Int} (h : Figs f0 f1 f2 f3) {m k : Nat} (hm : m < 16) (hk : k < 16) : isSub (wordL f0 f1 f2 f3 m) (wordL f0 f1 f2 f3 k) = incl m k := by
  rw [wordL_code, wordL_code, isSub_map (code_ren h) (sel4_low _ (by decide) (by decide) (by decide) (by decide)) (sel4_low _ (by decide) (by decide) (by decide) (by decide)), sub_tab m hm k hk]
abbrev priceOk (due price : Int) (t : Bool) : Prop := due ≤ price ∧ (price = due ↔ t = true)
theorem price_tab0 : ∀ m < 16, ∀ k < 16, m = 0 ∨ k = 0 ∨ priceOk (2 * (((sel4 k 0 1 2 3).length : Int) - (sel4 m 0 1 2 3).length)) (lev pc (sel4 m 0 1 2 3) (sel4 k 0 1 2 3) (2 * (((sel4 k 0 1 2 3).length : Int) - (sel4 m 0 1 2 3).length))) (incl m k) := by decide +kernel
theorem price_tab1 : ∀ m < 16, ∀ k < 16, m = 0 ∨ k = 0 ∨ priceOk (2 * (((sel4 k 0 1 2 3).length : Int) - (sel4 m 0 1 2 3).length) + (sel4 m 0 1 2 3).length) (lev pc (sel4 m 0 1 2 3) (sel4 k 4 5 6 7) (2 * (((sel4 k 0 1 2 3).length : Int) - (sel4 m 0 1 2 3).length) + (sel4 m 0 1 2 3).length)) (incl m k) := by decide +kernel
theorem wordL_len (f0 f1 f2 f3 : Int) (k : Nat) : (wordL f0 f1 f2 f3 k).length = (sel4 k 0 1 2 3).length := by rw [wordL_code, List.length_map]
theorem price_ok0 {f0 f1 f2 f3 : Int} (h : Figs f0 f1 f2 f3) {m k : Nat} (hm : m < 16) (hk : k < 16) (m0 : m ≠ 0) (k0 : k ≠ 0) {due : Int} (hd : due = 2 * (((wordL f0 f1 f2 f3 k).length : Int) - (wordL f0 f1 f2 f3 m).length)) :
    priceOk due (lev cst (wordL f0 f1 f2 f3 m) (wordL f0 f1 f2 f3 k) due) (incl m k) := by
  subst hd
  rw [wordL_len, wordL_len, wordL_code, wordL_code, lev_map (code_ren h) (sel4_low _ (by decide) (by decide) (by decide) (by decide)) (sel4_low _ (by decide) (by decide) (by decide) (by decide))]
  exact ((price_tab0 m hm k hk).resolve_left m0).resolve_left k0
theorem price_ok1 {f0 f1 f2 f3 : Int} (h : Figs f0 f1 f2 f3) {m k : Nat} (hm : m < 16) (hk : k < 16) (m0 : m ≠ 0) (k0 : k ≠ 0) {due : Int} (hd : due = 2 * (((wordL f0 f1 f2 f3 k).length : Int) - (wordL f0 f1 f2 f3 m).length) + (wordL f0 f1 f2 f3 m).length) :
    priceOk due (lev cst (wordL f0 f1 f2 f3 m) ((wordL f0 f1 f2 f3 k).map low) due) (incl m k) := by
  subst hd
  rw [wordL_lower h, wordL_len, wordL_len, wordL_code, lev_map (code_ren h) (sel4_low _ (by decide) (by decide) (by decide) (by decide)) (sel4_low _ (by decide) (by decide) (by decide) (by decide))]
  exact ((price_tab1 m hm k hk).resolve_left m0).resolve_left k0
-- the letters the other way round
theorem turn_tab : ∀ m < 16, isSub (sel4 m 0 1 2 3) [3, 2, 1, 0] = decide ((sel4 m 0 1 2 3).length ≤ 1) := by decide +kernel
theorem turned_eq {f0 f1 f2 f3 : Int} (h : Figs f0 f1 f2 f3) {m : Nat} (hm : m < 16) : isSub (wordL f0 f1 f2 f3 m) (wordL f0 f1 f2 f3 15).reverse = decide ((wordL f0 f1 f2 f3 m).length ≤ 1) := by
  rw [wordL_len, wordL_code, wordL_code, ← List.map_reverse, isSub_map (code_ren h) (sel4_low _ (by decide) (by decide) (by decide) (by decide)) (by unfold Low; decide)]
  exact turn_tab m hm
theorem len_pos : ∀ m < 16, m ≠ 0 → 1 ≤ (sel4 m 0 1 2 3).length := by decide +kernel

/-! the sum -/
def shareF (k : Nat) (s m : Nat) : Nat := if incl m k then s &&& m else s
def sharedOf (fam : List Nat) (k : Nat) : Nat := fam.foldl (shareF k) 15
def foundOf (fam : List Nat) (k : Nat) : Bool := fam.any fun m => incl m k
def weight (k : Nat) : Int := [0, 6, 2, 2, 6].getD (sel4 k 0 1 2 3).length 0
def term (fam : List Nat) (k : Nat) : Int := if foundOf fam k then ((sel4 (sharedOf fam k) 0 1 2 3).length : Int) * weight k else 0
def amt (fam : List Nat) : Nat → Int
  | 0 => 0
  | n + 1 => amt fam n + term fam (n + 1)
def bit (k x : Nat) : Int := if k.testBit x then 1 else 0
theorem pop_eq (k : Nat) : ((sel4 k 0 1 2 3).length : Int) = bit k 0 + bit k 1 + bit k 2 + bit k 3 := by
  unfold sel4 bit
  cases k.testBit 0 <;> cases k.testBit 1 <;> cases k.testBit 2 <;> cases k.testBit 3 <;> rfl
theorem shared_bit (k x : Nat) : ∀ (fam : List Nat) (s : Nat), (fam.foldl (shareF k) s).testBit x = (s.testBit x && fam.all fun m => !(incl m k) || m.testBit x)
  | [], s => by simp
  | m :: r, s => by
    rw [List.foldl_cons, shared_bit k x r, List.all_cons]
    unfold shareF
    cases incl m k <;> simp [Nat.testBit_and, Bool.and_assoc]
theorem incl_mono_tab : ∀ m < 16, ∀ k < 16, ∀ x < 4, k.testBit x = true → (incl m (k - 2 ^ x) = (incl m k && !(m.testBit x))) := by decide +kernel
theorem incl_out_tab : ∀ m < 16, ∀ k < 16, ∀ x < 4, k.testBit x = false → incl m k = true → m.testBit x = false := by decide +kernel
def gF (fam : List Nat) (k : Nat) : Int := if foundOf fam k then 1 else 0
theorem fam_in {fam : List Nat} (hf : ∀ m ∈ fam, m < 16) {k x : Nat} (hk : k < 16) (hx : x < 4) (hb : k.testBit x = true) :
    foundOf fam (k - 2 ^ x) = !(fam.all fun m => !(incl m k) || m.testBit x) := by
  unfold foundOf
  induction fam with
  | nil => rfl
  | cons m r ih =>
    rw [List.any_cons, List.all_cons, ih fun m hm => hf m (.tail _ hm), incl_mono_tab m (hf m (.head _)) k hk x hx hb]
    cases incl m k <;> cases m.testBit x <;> simp
theorem fam_out {fam : List Nat} (hf : ∀ m ∈ fam, m < 16) {k x : Nat} (hk : k < 16) (hx : x < 4) (hb : k.testBit x = false) (hg : foundOf fam k = true) :
    (fam.all fun m => !(incl m k) || m.testBit x) = false := by
  unfold foundOf at hg
  obtain ⟨m, hm, hi⟩ := List.any_eq_true.mp hg
  rw [List.all_eq_false]
  refine ⟨m, hm, ?_⟩
  rw [hi, incl_out_tab m (hf m hm) k hk x hx hb hi]; simp
theorem bit15 : ∀ x < 4, (15 : Nat).testBit x = true := by decide
theorem step_bit {fam : List Nat} (hf : ∀ m ∈ fam, m < 16) {k x : Nat} (hk : k < 16) (hx : x < 4) :
    (if foundOf fam k then bit (sharedOf fam k) x else 0) = if k.testBit x then gF fam k - gF fam (k - 2 ^ x) else 0 := by
  unfold bit sharedOf gF
  rw [shared_bit, bit15 x hx, Bool.true_and]
  cases hb : k.testBit x
  · cases hg : foundOf fam k
    · rfl
    · rw [fam_out hf hk hx hb hg]; rfl
  · have h := fam_in hf hk hx hb
    cases hg : foundOf fam k
    · have : (fam.all fun m => !(incl m k) || m.testBit x) = true := by
        rw [List.all_eq_true]
        intro m hm
        have h9 : incl m k = false := by
          unfold foundOf at hg
          rw [List.any_eq_false] at hg
          exact Bool.eq_false_iff.mpr (hg m hm)
        rw [h9]; rfl
      rw [this] at h
      rw [h]; rfl
    · rw [h]
      cases (fam.all fun m => !(incl m k) || m.testBit x) <;> rfl
def dx (fam : List Nat) (k x : Nat) : Int := if k.testBit x then gF fam k - gF fam (k - 2 ^ x) else 0
theorem term_eq {fam : List Nat} (hf : ∀ m ∈ fam, m < 16) {k : Nat} (hk : k < 16) : term fam k = (dx fam k 0 + dx fam k 1 + dx fam k 2 + dx fam k 3) * weight k := by
  unfold term dx
  rw [← step_bit hf hk (by decide : 0 < 4), ← step_bit hf hk (by decide : 1 < 4), ← step_bit hf hk (by decide : 2 < 4), ← step_bit hf hk (by decide : 3 < 4), pop_eq]
  cases foundOf fam k <;> simp
theorem amt_24 {fam : List Nat} (hf : ∀ m ∈ fam, m < 16 ∧ m ≠ 0) (hne : fam ≠ []) : amt fam 15 = 24 := by
  have h0 : gF fam 0 = 0 := by
    unfold gF foundOf
    have : (fam.any fun m => incl m 0) = false := by
      rw [List.any_eq_false]
      intro m hm h
      unfold incl at h
      rw [Nat.and_zero, beq_iff_eq] at h
      exact (hf m hm).2 h.symm
    rw [this]; rfl
  have h15 : gF fam 15 = 1 := by
    unfold gF foundOf
    have : (fam.any fun m => incl m 15) = true := by
      obtain ⟨m, r, rfl⟩ := List.exists_cons_of_ne_nil hne
      rw [List.any_cons]
      have h : ∀ m < 16, incl m 15 = true := by decide +kernel
      rw [h m (hf m (.head _)).1]; rfl
    rw [this]; rfl
  have ht := fun k (hk : k < 16) => term_eq (fam := fam) (fun m hm => (hf m hm).1) hk
  simp only [amt]
  rw [ht 1 (by decide), ht 2 (by decide), ht 3 (by decide), ht 4 (by decide), ht 5 (by decide), ht 6 (by decide), ht 7 (by decide), ht 8 (by decide), ht 9 (by decide), ht 10 (by decide), ht 11 (by decide), ht 12 (by decide), ht 13 (by decide), ht 14 (by decide), ht 15 (by decide)]
  rw [show weight 1 = 6 from rfl, show weight 2 = 6 from rfl, show weight 3 = 2 from rfl, show weight 4 = 6 from rfl, show weight 5 = 2 from rfl, show weight 6 = 2 from rfl, show weight 7 = 2 from rfl, show weight 8 = 6 from rfl, show weight 9 = 2 from rfl, show weight 10 = 2 from rfl, show weight 11 = 2 from rfl, show weight 12 = 2 from rfl, show weight 13 = 2 from rfl, show weight 14 = 2 from rfl, show weight 15 = 6 from rfl]
  rw [show dx fam 1 0 = gF fam 1 - gF fam 0 from rfl]
  rw [show dx fam 1 1 = 0 from rfl]
  rw [show dx fam 1 2 = 0 from rfl]
  rw [show dx fam 1 3 = 0 from rfl]
  rw [show dx fam 2 0 = 0 from rfl]
  rw [show dx fam 2 1 = gF fam 2 - gF fam 0 from rfl]
  rw [show dx fam 2 2 = 0 from rfl]
  rw [show dx fam 2 3 = 0 from rfl]
  rw [show dx fam 3 0 = gF fam 3 - gF fam 2 from rfl]
  rw [show dx fam 3 1 = gF fam 3 - gF fam 1 from rfl]
  rw [show dx fam 3 2 = 0 from rfl]
  rw [show dx fam 3 3 = 0 from rfl]
  rw [show dx fam 4 0 = 0 from rfl]
  rw [show dx fam 4 1 = 0 from rfl]
  rw [show dx fam 4 2 = gF fam 4 - gF fam 0 from rfl]
  rw [show dx fam 4 3 = 0 from rfl]
  rw [show dx fam 5 0 = gF fam 5 - gF fam 4 from rfl]
  rw [show dx fam 5 1 = 0 from rfl]
  rw [show dx fam 5 2 = gF fam 5 - gF fam 1 from rfl]
  rw [show dx fam 5 3 = 0 from rfl]
  rw [show dx fam 6 0 = 0 from rfl]
  rw [show dx fam 6 1 = gF fam 6 - gF fam 4 from rfl]
  rw [show dx fam 6 2 = gF fam 6 - gF fam 2 from rfl]
  rw [show dx fam 6 3 = 0 from rfl]
  rw [show dx fam 7 0 = gF fam 7 - gF fam 6 from rfl]
  rw [show dx fam 7 1 = gF fam 7 - gF fam 5 from rfl]
  rw [show dx fam 7 2 = gF fam 7 - gF fam 3 from rfl]
  rw [show dx fam 7 3 = 0 from rfl]
  rw [show dx fam 8 0 = 0 from rfl]
  rw [show dx fam 8 1 = 0 from rfl]
  rw [show dx fam 8 2 = 0 from rfl]
  rw [show dx fam 8 3 = gF fam 8 - gF fam 0 from rfl]
  rw [show dx fam 9 0 = gF fam 9 - gF fam 8 from rfl]
  rw [show dx fam 9 1 = 0 from rfl]
  rw [show dx fam 9 2 = 0 from rfl]
  rw [show dx fam 9 3 = gF fam 9 - gF fam 1 from rfl]
  rw [show dx fam 10 0 = 0 from rfl]
  rw [show dx fam 10 1 = gF fam 10 - gF fam 8 from rfl]
  rw [show dx fam 10 2 = 0 from rfl]
  rw [show dx fam 10 3 = gF fam 10 - gF fam 2 from rfl]
  rw [show dx fam 11 0 = gF fam 11 - gF fam 10 from rfl]
  rw [show dx fam 11 1 = gF fam 11 - gF fam 9 from rfl]
  rw [show dx fam 11 2 = 0 from rfl]
  rw [show dx fam 11 3 = gF fam 11 - gF fam 3 from rfl]
  rw [show dx fam 12 0 = 0 from rfl]
  rw [show dx fam 12 1 = 0 from rfl]
  rw [show dx fam 12 2 = gF fam 12 - gF fam 8 from rfl]
  rw [show dx fam 12 3 = gF fam 12 - gF fam 4 from rfl]
  rw [show dx fam 13 0 = gF fam 13 - gF fam 12 from rfl]
  rw [show dx fam 13 1 = 0 from rfl]
  rw [show dx fam 13 2 = gF fam 13 - gF fam 9 from rfl]
  rw [show dx fam 13 3 = gF fam 13 - gF fam 5 from rfl]
  rw [show dx fam 14 0 = 0 from rfl]
  rw [show dx fam 14 1 = gF fam 14 - gF fam 12 from rfl]
  rw [show dx fam 14 2 = gF fam 14 - gF fam 10 from rfl]
  rw [show dx fam 14 3 = gF fam 14 - gF fam 6 from rfl]
  rw [show dx fam 15 0 = gF fam 15 - gF fam 14 from rfl]
  rw [show dx fam 15 1 = gF fam 15 - gF fam 13 from rfl]
  rw [show dx fam 15 2 = gF fam 15 - gF fam 11 from rfl]
  rw [show dx fam 15 3 = gF fam 15 - gF fam 7 from rfl]
  omega
end Mine

end
section
open PySem PySem.W PyProof.Rows PySem.Calls PyProof.V PySem.Spec
namespace Mine
section
variable {prog : Program} {w : World} {A : Around} {E : Value → Shared → Prop} {s : Shared} {h₀ : Heap} {L D : Addr} {m : Str → Option Value} {news : List (Addr × Obj)} {Q : Value → Shared → Prop}
theorem bytes_Bt {ys : List Value} {l : List Int} (F : Fr h₀ L s.heap m) (N : News h₀ L s.heap news) (hh : A.handled = none) (hl : s.heap.IsList D ys.toArray)
    (hc : CarriedAll ys (List.map (fun a => PyData.int (65 + a)) (List.filter (fun _ => true) l))) (hm : ∀ x ∈ l, 1 ≤ x ∧ x ≤ 15) (hn : l.length ≤ 4)
    (h : ∀ h' t' k, Fr h₀ L h' m → News h₀ L h' news → Q (.bytes (Bt (l.map fun f => 65 + f.toNat)) t') { s with heap := h', toks := k }) : wpAny (model prog w) A (call (.type "bytes") [.ref D]) Q E s := by
  rw [show List.filter (fun _ => true) l = l from List.filter_eq_self.mpr fun _ _ => rfl] at hc
  have hi : IntsAre ys (l.map fun a => 65 + a) := CarriedAll.intsOf hc
  refine KBa.make_K F N hh hl hi ?_ (by rw [List.length_map]; omega) fun h' t' k F' N' _ => ?_
  · intro x hx
    obtain ⟨y, hy, rfl⟩ := List.mem_map.mp hx
    have := hm y hy
    omega
  · have e : byteArr (l.map fun a => 65 + a) = Bt (l.map fun f => 65 + f.toNat) := by
      unfold byteArr Bt
      rw [List.map_map, List.map_map]
      congr 1
      refine List.map_congr_left fun y hy => ?_
      have := hm y hy
      show ((65 + y).toNat.toUInt8) = UInt8.ofNat (65 + y.toNat)
      rw [show (65 + y).toNat = 65 + y.toNat by omega]
    rw [e]
    exact h h' t' k F' N'
theorem bytes_word {ys : List Value} {k : Nat} {f0 f1 f2 f3 : Int} (F : Fr h₀ L s.heap m) (N : News h₀ L s.heap news) (hh : A.handled = none) (hl : s.heap.IsList D ys.toArray)
    (hc : CarriedAll ys (List.map (fun a => PyData.int (65 + a)) (List.filter (fun _ => true) (sel4 k f0 f1 f2 f3)))) (hm : ∀ x ∈ sel4 k f0 f1 f2 f3, 1 ≤ x ∧ x ≤ 15) (hn : (sel4 k f0 f1 f2 f3).length ≤ 4)
    (h : ∀ h' t' k', Fr h₀ L h' m → News h₀ L h' news → Q (.bytes (Bt (wordL f0 f1 f2 f3 k)) t') { s with heap := h', toks := k' }) : wpAny (model prog w) A (call (.type "bytes") [.ref D]) Q E s :=
  bytes_Bt F N hh hl hc hm hn h
theorem ne_same {b : Array UInt8} {t u : Tok} (h : Q (.bool false) s) : wpAny (model prog w) A (compareOp .NotEq (.bytes b t) (.bytes b u)) Q E s := by
  refine ne_bytes ?_
  rw [bne_self_eq_false]
  exact h
end

theorem word_small {f0 f1 f2 f3 : Int} {k : Nat} (h : ∀ x ∈ sel4 k f0 f1 f2 f3, 1 ≤ x ∧ x ≤ 15) : ∀ x ∈ wordL f0 f1 f2 f3 k, x < 256 := by
  intro x hx
  obtain ⟨y, hy, rfl⟩ := List.mem_map.mp hx
  have := h y hy
  omega
theorem word_short (f0 f1 f2 f3 : Int) (k : Nat) : (wordL f0 f1 f2 f3 k).length ≤ 1000 := by
  have := sel4_len k f0 f1 f2 f3
  unfold wordL
  rw [List.length_map]
  omega
theorem word_short2 {f0 f1 f2 f3 : Int} {k : Nat} (_h : ∀ x ∈ sel4 k f0 f1 f2 f3, 1 ≤ x ∧ x ≤ 15) : (wordL f0 f1 f2 f3 k).length ≤ 1000 := word_short f0 f1 f2 f3 k
section
variable {prog : Program} {w : World} {A : Around} {E : Value → Shared → Prop} {s : Shared} {h₀ : Heap} {L l : Addr} {m : Str → Option Value} {all rest own : List (Addr × Obj)} {Q : Value → Shared → Prop}
theorem append_top {us : List Value} {n : Nat} {x : Value} (ho : OwnOff own (((l, listOf us.toArray n) :: rest).map (·.1))) (F : Fr h₀ L s.heap m) (N : News h₀ L s.heap all)
    (hs : ∀ p ∈ ((l, listOf us.toArray n) :: rest) ++ own, p ∈ all) (hr : ∀ p ∈ rest, p.1 ≠ l) (hn : us.length ≤ 10000)
    (h : ∀ h', Fr h₀ L h' m → News h₀ L h' (((l, listOf (us ++ [x]).toArray (n + 1)) :: rest) ++ own) → Q .none { s with heap := h' }) : wpAny (model prog w) A (call (.builtin "list.append") [.ref l, x]) Q E s := by
  have N' : News h₀ L s.heap (((l, listOf us.toArray n) :: rest) ++ own) := fun p hp => N p (hs p hp)
  have e : us.toArray.push x = (us ++ [x]).toArray := by simp
  have U : Upd l (listOf us.toArray n) (listOf (us.toArray.push x) (n + 1)) (((l, listOf us.toArray n) :: rest) ++ own) (((l, listOf (us.toArray.push x) (n + 1)) :: rest) ++ own) := by
    refine Upd.head fun p hp => ?_
    rcases List.mem_append.mp hp with hp | hp
    · exact hr p hp
    · exact ho p hp l (List.mem_cons_self ..)
  refine append_K F N' U (fun h' F' N'' => ?_) (by rw [List.size_toArray, sizeLine_eq]; omega)
  rw [e] at N''
  exact h h' F' N''
end
theorem strs_len : ∀ {us : List Value} {ys : List Str}, StrsAre us ys → us.length = ys.length
  | _, _, .nil => rfl
  | _, _, .cons _ _ r => by rw [List.length_cons, List.length_cons, strs_len r]
theorem strs_short {us : List Value} {g : Nat → Str} {i : Nat} (h : StrsAre us ((List.range (i + 1)).map g)) (hi : i < 16) : us.length ≤ 10000 := by
  rw [strs_len h, List.length_map, List.length_range]; omega
theorem append_top5 {prog : Program} {w : World} {A : Around} {E : Value → Shared → Prop} {s : Shared} {h₀ : Heap} {L l a1 a2 a3 a4 : Addr} {o1 o2 o3 o4 : Obj} {m : Str → Option Value} {all own : List (Addr × Obj)} {Q : Value → Shared → Prop} {us : List Value} {n : Nat} {x : Value} (ho : OwnOff own [l, a1, a2, a3, a4]) (F : Fr h₀ L s.heap m) (N : News h₀ L s.heap all)
    (hs : ∀ p ∈ [(l, listOf us.toArray n), (a1, o1), (a2, o2), (a3, o3), (a4, o4)] ++ own, p ∈ all) (hr : ∀ p ∈ [(a1, o1), (a2, o2), (a3, o3), (a4, o4)], p.1 ≠ l) (hn : us.length ≤ 10000)
    (h : ∀ h', Fr h₀ L h' m → News h₀ L h' ([(l, listOf (us ++ [x]).toArray (n + 1)), (a1, o1), (a2, o2), (a3, o3), (a4, o4)] ++ own) → Q .none { s with heap := h' }) : wpAny (model prog w) A (call (.builtin "list.append") [.ref l, x]) Q E s :=
  append_top (rest := [(a1, o1), (a2, o2), (a3, o3), (a4, o4)]) ho F N hs hr hn h
/-! texts -/
theorem S_app (xs ys : List Nat) : S xs ++ S ys = S (xs ++ ys) := by
  show (⟨xs.toArray ++ ys.toArray⟩ : Str) = ⟨(xs ++ ys).toArray⟩
  simp
def sepL (sep : List Nat) : List Nat → List Nat
  | [] => []
  | [c] => [c]
  | c :: d :: r => c :: sep ++ sepL sep (d :: r)
theorem join_S (sep : List Nat) : ∀ xs : List Nat, Str.join (S sep) (xs.map fun c => S [c]) = S (sepL sep xs)
  | [] => rfl
  | [c] => rfl
  | c :: d :: r => by
    have h := join_S sep (d :: r)
    simp only [List.map_cons] at h ⊢
    show S [c] ++ S sep ++ Str.join (S sep) (S [d] :: r.map fun c => S [c]) = _
    rw [h, S_app, S_app, sepL]
    rfl
theorem sepL_nil : ∀ xs : List Nat, sepL [] xs = xs
  | [] => rfl
  | [c] => rfl
  | c :: d :: r => by
    have h := sepL_nil (d :: r)
    simp only [sepL] at h ⊢
    rw [h]; rfl
theorem want_sep : ∀ (c : Nat) (r : List Nat), [46, 46, 46] ++ sepL [46, 46, 46] (c :: r) ++ [46, 46, 46] = wantOf (c :: r)
  | c, [] => rfl
  | c, d :: r => by
    have h := want_sep d r
    unfold wantOf at h ⊢
    simp only [List.flatMap_cons, sepL, List.cons_append, List.nil_append] at h ⊢
    injection h with _ h
    injection h with _ h
    injection h with _ h
    rw [h]
theorem want_glue {cs : List Nat} (h : cs ≠ []) : S [46, 46, 46] ++ S (sepL [46, 46, 46] cs) ++ S [46, 46, 46] = S (wantOf cs) := by
  obtain ⟨c, r, rfl⟩ := List.exists_cons_of_ne_nil h
  rw [S_app, S_app, want_sep]
theorem empty_S : Str.ofString "" = S [] := by decide

section
variable {prog : Program} {w : World} {A : Around} {E : Value → Shared → Prop} {s : Shared} {D : Addr} {ys : List Value} {t : Tok} {Q : Value → Shared → Prop}
theorem join_word {xs : List Nat} (hl : s.heap.IsList D ys.toArray) (hc : CarriedAll ys (xs.map fun k => PyData.str (S [k]))) (hn : xs.length ≤ 1000)
    (h : ∀ t' k, Q (.str (S xs) t') { s with toks := k }) : wpAny (model prog w) A (call (.builtin "str.join") [.str (Str.ofString "") t, .ref D]) Q E s := by
  refine KT.join_1 hl hc (fun a _ => rfl) (by omega) fun t' k _ => ?_
  have e : Txt.join (Str.ofString "") (xs.map fun k => S [k]) = S xs := by
    show Builtin.Str.glued (Str.ofString "") _ = _
    rw [StrLaws.glued_eq_join, empty_S, join_S, sepL_nil]
  rw [e]
  exact h t' k
end

/-! a comprehension over bytes -/
section
variable {prog : Program} {w : World} {A : Around} {E : Value → Shared → Prop} {s : Shared} {h₀ : Heap} {L : Addr} {m : Str → Option Value} {env : Env}
def SrcB (prog : Program) (w : World) (A : Around) (h₀ : Heap) (L : Addr) (m : Str → Option Value) (env : Env) (elt : PySem.Expr) (x : Str) (scope : Scope) (cl : List (Str × Addr)) (Fin : Shared → List Value → List (Addr × Obj) → Prop) (xv : Value) (s₁ : Shared) : Prop :=
  ∃ b t news, xv = .bytes b t ∧ A.handled = none ∧ Fr h₀ L s₁.heap m ∧ News h₀ L s₁.heap news ∧ b.size ≤ sizeLine ∧
    ∀ s₂ : Shared, (∃ h, s₂ = { s₁ with heap := h }) → LCg.CompRest prog w A h₀ L m env elt x scope cl s₂ (fun _ => True) (fun i v => ∃ c u, b[i]? = some c ∧ v = .int (c.toNat : Int) u) (Fin s₂) b.size 0 [] news
theorem ListComp_B {elt iter : PySem.Expr} {x : Str} {px : Pos} {scope : Scope} {cl : List (Str × Addr)} {pos : Pos} {Q : Value → Shared → Prop} (_F₀ : Fr h₀ L s.heap m)
    (hclos : closureFor scope env = pure cl) (hcell : ∀ y ∈ scope.names, y.2 ≠ .cell) (hkind : scope.kind = .function)
    (hnames : ∀ y ∈ scope.names, y.2 = .local → scope.names.lookup y.1 = some .local) (hx : scope.names.lookup x = some .local)
    (h : wpAny (model prog w) A (eval iter env) (SrcB prog w A h₀ L m env elt x scope cl (fun s₂ => LCg.FinE h₀ L m s₂ Q)) E s)
    (hs : ∀ x, foldedSetIterable iter env x = pure x := by intro _; rfl) :
    wpAny (model prog w) A (eval (.ListComp elt [⟨.Name x px, iter, [], 0⟩] scope pos) env) Q E s := by
  rw [eval_ListComp]
  refine wpAny_comprehension_free (use := none) rfl hs hclos hkind hnames (wpAny_mono h (fun xv s₁ h₁ => ?_) fun _ _ e => e)
  obtain ⟨b, t, news, rfl, hh, F, N, hsz, R⟩ := h₁
  refine KBw.pyIter_bytes ?_
  refine LCg.block_U (S := fun _ => True) (KBw.walks hh s₁.heap.objs.size b t) hsz (fun i h st => by obtain ⟨o, e, _⟩ := st; exact ⟨o, e⟩)
    (fun i h h' o nw st e e' _ _ _ => by obtain ⟨o', q, r⟩ := st; rw [e] at q; cases q; exact ⟨o, e', r⟩) hcell hkind hx ⟨_, Heap.get?_push_size _ rfl, rfl, rfl⟩ (fun b hb => ?_)
    (F.keeps fun _ _ e => Heap.get?_push_of_some _ e) (N.grown fun _ _ e => Heap.get?_push_of_some _ e) (Nat.ne_of_lt F.ns.lt) (next_is_new F) (fun p hp => Nat.ne_of_lt (Heap.lt_size (N p hp).1)) trivial (R _ ⟨_, rfl⟩) ?_
  · rw [List.mem_singleton.mp hb]
    show s₁.heap.objs.size < (s₁.heap.push _).objs.size
    rw [Heap.size_push]; exact Nat.lt_succ_self _
  · intro D C h tk m' ys news' F' N' o1 hn hC₀ hD₀ hCL hDL hCD offC fin
    refine ⟨m', hn, fun h'' hs'' => fin D h'' tk (F'.change hs'' hCL hC₀) (fun p hp => ?_) o1⟩
    refine ⟨hs''.extBut _ _ ?_ (N' p hp).1, (N' p hp).2⟩
    rcases List.mem_cons.mp hp with rfl | hp
    · exact Ne.symm hCD
    · exact offC p hp
theorem Bt_get {xs : List Nat} (hx : ∀ x ∈ xs, x < 256) {i : Nat} {c : UInt8} (h : (Bt xs)[i]? = some c) : xs[i]? = some c.toNat := by
  unfold Bt at h
  rw [List.getElem?_toArray, List.getElem?_map] at h
  cases hg : xs[i]? with
  | none => rw [hg] at h; cases h
  | some y =>
    rw [hg] at h
    have e : UInt8.ofNat y = c := Option.some.inj h
    rw [← e]
    have := hx y (List.mem_of_getElem? hg)
    rw [UInt8.toNat_ofNat', Nat.mod_eq_of_lt this]
theorem SrcB.word {elt : PySem.Expr} {x : Str} {scope : Scope} {cl : List (Str × Addr)} {Fin : Shared → List Value → List (Addr × Obj) → Prop} {xs : List Nat} {t : Tok} {news : List (Addr × Obj)} {s₁ : Shared}
    (hh : A.handled = none) (F : Fr h₀ L s₁.heap m) (N : News h₀ L s₁.heap news) (hx : ∀ x ∈ xs, x < 256) (hn : xs.length ≤ 1000)
    (turn : ∀ k t I oI C oC D m₂ ys h tk (E' : Value → Shared → Prop), 0 ≤ k → k < 256 → LCg.NsObj oC m₂ → m₂ x = some (.int k t) → Fr h₀ L h m → News h₀ L h ((I, oI) :: (C, oC) :: (D, LCg.lst ys) :: news) → LCg.Off3 I C D news → ((@Ne Nat I C) ∧ (@Ne Nat I D) ∧ (@Ne Nat C D)) →
      wpAny (model prog w) A (eval elt (compEnvC scope cl C env)) (LCg.CompEnd h₀ L m { s₁ with heap := h, toks := tk } I oI C oC D (LCg.lst ys) (fun _ => True) (fun y news' => KCtEl news (S [k.toNat]) y news')) E' { s₁ with heap := h, toks := tk })
    (fin : ∀ g ys, CarriedAll ys (xs.map fun k => PyData.str (S [k])) → Fin { s₁ with heap := g } ys news) : SrcB prog w A h₀ L m env elt x scope cl Fin (.bytes (Bt xs) t) s₁ := by
  refine ⟨Bt xs, t, news, rfl, hh, F, N, by rw [Bt_size, sizeLine_eq]; omega, ?_⟩
  rintro s₂ ⟨g, rfl⟩
  refine kct_rest (ks := xs.map fun c : Nat => (c : Int)) (fun k => S [k.toNat]) (by rw [List.length_map, Bt_size]) ?_ ?_ ?_
  · rintro i v hi ⟨c, u, hc, rfl⟩
    exact ⟨_, u, by rw [List.getElem?_map, Bt_get hx hc]; rfl, rfl⟩
  · intro k t I oI C oC D m₂ ys h tk E' hk hC hx' F' N' off ne _
    obtain ⟨c, hc', rfl⟩ := List.mem_map.mp hk
    have := hx c hc'
    exact turn _ t I oI C oC D m₂ ys h tk E' (by omega) (by omega) hC hx' F' N' off ne
  · intro ys hc _
    refine fin g ys ?_
    rw [List.map_map] at hc
    exact hc
end
end Mine

end
section
open PySem PySem.W PyProof.Rows PySem.Calls PyProof.V PySem.Spec Builtin Builtin.Str
namespace Mine
theorem join_tree_str (sep y : Str) (t u : Tok) : «str.join» ⟨[.str sep t, .str y u], []⟩ = (do
    let ty ← typeOf (.str y u)
    if (ty == .type "list" || ty == .type "tuple") = true then (do
      match ← seqItems? (.str y u) with
      | some xs => joinTail sep xs.toList
      | none => unsupported "internal:str.join")
    else (do
      let it ← (pyIter (.str y u)).tryCatch fun e => do
        if ← isInstance e (.type "TypeError") then rule "str.join.not-iterable"; raiseError "TypeError" "can only join an iterable" else throw e
      let items ← collect it
      joinTail sep items)) := rfl
theorem S_chars (xs : List Nat) : (S xs).cps.toList = xs := S_toList xs
theorem items_signs {xs : List Nat} {acc : Array Value} (h : ItemsOf (SignAt (S xs)) acc xs.length) : ∃ l : List (Str × Tok), strValues l = acc.toList ∧ l.map (·.1) = xs.map fun c => S [c] := by
  have key : ∀ (vs : List Value) (xs : List Nat), vs.length = xs.length → (∀ (j : Nat) (v : Value), vs[j]? = some v → ∃ (c : Nat) (u : Tok), xs[j]? = some c ∧ v = Value.str (S [c]) u) → ∃ l : List (Str × Tok), strValues l = vs ∧ l.map (·.1) = xs.map fun c => S [c] := by
    intro vs
    induction vs with
    | nil => intro xs h _; cases xs with
      | nil => exact ⟨[], rfl, rfl⟩
      | cons _ _ => cases h
    | cons v r ih => intro xs h g; cases xs with
      | nil => cases h
      | cons c q =>
        obtain ⟨c', u, e, rfl⟩ := g 0 v rfl
        cases Option.some.inj e
        obtain ⟨l, h1, h2⟩ := ih q (by simpa using h) fun j v hj => g (j + 1) v hj
        exact ⟨(S [c], u) :: l, by rw [← h1]; rfl, by rw [List.map_cons, h2]; rfl⟩
  refine key acc.toList xs (by rw [Array.length_toList]; exact h.1) fun j v hj => ?_
  obtain ⟨c, u, hc, rfl⟩ := h.2 j v (by rw [← Array.getElem?_toList]; exact hj)
  refine ⟨c, u, ?_, rfl⟩
  rw [← Array.getElem?_toList, S_toList] at hc
  exact hc
section
variable {prog : Program} {w : World} {A : Around} {E : Value → Shared → Prop} {s : Shared} {h₀ : Heap} {L : Addr} {m : Str → Option Value} {news : List (Addr × Obj)} {Q : Value → Shared → Prop}
theorem dots_S : Str.ofString "..." = S [46, 46, 46] := by decide
theorem sum_ones (xs : List Nat) : ((xs.map fun c => S [c]).map (·.length)).sum = xs.length := by
  induction xs with
  | nil => rfl
  | cons c r ih =>
    have e : (S [c]).length = 1 := S_len [c]
    simp only [List.map_cons, List.sum_cons, List.length_cons, ih, e]; omega
theorem join_sep {xs : List Nat} {t u : Tok} (hh : A.handled = none) (FF : Fr h₀ L s.heap m) (N : News h₀ L s.heap news) (ha : ∀ x ∈ xs, x < 128) (hn : xs.length ≤ 1000)
    (h : ∀ h' t' k, Fr h₀ L h' m → News h₀ L h' news → Q (.str (S (sepL [46, 46, 46] xs)) t') { s with heap := h', toks := k }) :
    wpAny (model prog w) A (call (.builtin "str.join") [.str (Str.ofString "...") t, .str (S xs) u]) Q E s := by
  have hall : (S xs).cps.all (· < 128) = true := by
    rw [← Array.all_toList, S_toList, List.all_eq_true]
    intro x hx
    exact decide_eq_true (ha x hx)
  refine wpAny_call (codeAny_call_builtin F.slot_str_join.plain F.entry_str_join (F.slot_str_join.check _ _ _ _ _ _ _ _ (typeIs_str _ _ _) (F.args_str_join_2 _ _) ?_))
  rw [join_tree_str]
  refine wpAny_bind (wpAny_typeOf (T := "str") (v := .str (S xs) u) rfl ?_)
  show wpAny _ A.in1 ((pyIter (.str (S xs) u)).tryCatch _ >>= fun it => collect it >>= fun items => joinTail (Str.ofString "...") items) _ _ s
  refine wpAny_bind (wpAny_tryCatch (wpAny_pyIter_ascii hall ?_))
  refine wpAny_bind (wpAny_collect_strIter (ty := "str_ascii_iterator") (x := S xs) (t := u) hh (.inl rfl) ⟨_, Heap.get?_push_size _ rfl, rfl, rfl⟩ (fun s' acc hk hg hd ho hacc => ?_) ?_)
  · have e : (S xs).cps.size = xs.length := S_len xs
    rw [e] at hacc
    obtain ⟨l, hl, hl2⟩ := items_signs hacc
    rw [← hl]
    have hk' : ∀ b o, s.heap.get? b = some o → s'.heap.get? b = some o := fun b o e => hk b o (fun q => Nat.lt_irrefl _ (q ▸ Heap.lt_size e)) (Heap.get?_push_of_some _ e)
    have hok : JoinOk (Str.ofString "...") (l.map (·.1)) = true := by
      refine joinOk_of_weight ?_ (by decide)
      rw [hl2, sum_ones, List.length_map]; omega
    have hok' := hok
    unfold JoinOk at hok
    rw [Bool.not_eq_true'] at hok
    have g : Gives (joinTail (Str.ofString "...") (strValues l)) (joinMade (Str.ofString "...") l) := by
      have g0 := gives_joinTail (Str.ofString "...") l hok
      cases l with
      | nil => exact g0
      | cons p r => cases r with
        | nil => exact g0
        | cons q r' => exact g0
    refine g prog w A (wants Q E) s' (post_join l ⟨joinFit_length hok, fun t' k => ?_⟩)
    have ej : Txt.join (Str.ofString "...") (l.map (·.1)) = S (sepL [46, 46, 46] xs) := by
      show Builtin.Str.glued (Str.ofString "...") _ = _
      rw [StrLaws.glued_eq_join, hl2, dots_S, join_S]
    rw [ej]
    have es : ({ s' with toks := k } : Shared) = { s with heap := s'.heap, toks := k } := by
      cases s'
      simp only at hg hd ho ⊢
      subst hg hd ho
      rfl
    show Q _ { s' with toks := k }
    rw [es]
    exact h _ _ _ (FF.keeps hk') (N.grown hk')
  · have e : (S xs).cps.size = xs.length := S_len xs
    rw [e, sizeLine_eq]; omega
end
theorem words0 {f0 f1 f2 f3 : Int} {t : Tok} : StrsAre [.str (Str.ofString "") t] ((List.range (0 + 1)).map fun k => S (wordL f0 f1 f2 f3 k)) := by
  rw [empty_S]
  exact .cons _ _ .nil
/-! the family -/
def famI (ns : List Int) : List Int := (List.take (if (if (ns.length : Int) < 4 then (ns.length : Int) else 4) > 2 then (if (ns.length : Int) < 4 then (ns.length : Int) else 4) else 2).toNat (ns ++ [2, 11])).map fun k => 1 + k.fmod 15
def famN (ns : List Int) : List Nat := (famI ns).map Int.toNat
theorem fam_len (ns : List Int) : 2 ≤ (List.take (if (if (ns.length : Int) < 4 then (ns.length : Int) else 4) > 2 then (if (ns.length : Int) < 4 then (ns.length : Int) else 4) else 2).toNat (ns ++ [2, 11])).length ∧
    (List.take (if (if (ns.length : Int) < 4 then (ns.length : Int) else 4) > 2 then (if (ns.length : Int) < 4 then (ns.length : Int) else 4) else 2).toNat (ns ++ [2, 11])).length ≤ 4 := by
  rw [List.length_take, List.length_append, List.length_cons, List.length_cons, List.length_nil]
  split <;> split <;> omega
theorem famI_in {ns : List Int} {x : Int} (h : x ∈ famI ns) : 1 ≤ x ∧ x ≤ 15 := by
  obtain ⟨y, _, rfl⟩ := List.mem_map.mp h
  have := fmod_lt y (k := 15) (by decide)
  omega
theorem famN_ok (ns : List Int) : ∀ x ∈ famN ns, x < 16 ∧ x ≠ 0 := by
  intro x hx
  obtain ⟨y, hy, rfl⟩ := List.mem_map.mp hx
  have := famI_in hy
  omega
theorem famN_ne (ns : List Int) : famN ns ≠ [] := by
  intro h
  have h1 := fam_len ns
  have h2 := congrArg List.length h
  unfold famN famI at h2
  rw [List.length_map, List.length_map, List.length_nil] at h2
  omega
theorem famI_eq (ns : List Int) : famI ns = (famN ns).map fun n : Nat => (n : Int) := by
  unfold famN
  rw [List.map_map]
  conv => lhs; rw [← List.map_id (famI ns)]
  refine List.map_congr_left fun y hy => ?_
  have := famI_in hy
  show y = ((y.toNat : Nat) : Int)
  omega
theorem famN_len (ns : List Int) : (famN ns).length ≤ 4 := by
  unfold famN famI
  rw [List.length_map, List.length_map]
  exact (fam_len ns).2
section
variable {prog : Program} {w : World} {A : Around} {h₀ : Heap} {L ax : Addr} {m : Str → Option Value} {env : Env} {elt : PySem.Expr} {x : Str} {scope : Scope} {cl : List (Str × Addr)} {Fin : Shared → List Value → List (Addr × Obj) → Prop} {vs : List Value} {k : Nat} {news : List (Addr × Obj)} {s₁ : Shared} {ns : List Int}
theorem fam_src (hh : A.handled = none) (F : Fr h₀ L s₁.heap m) (N : News h₀ L s₁.heap news) (hm : (ax, ({ cls := .type "list", data := .seq vs.toArray k } : Obj)) ∈ news)
    (hi : IntsAre vs (List.take (if (if (ns.length : Int) < 4 then (ns.length : Int) else 4) > 2 then (if (ns.length : Int) < 4 then (ns.length : Int) else 4) else 2).toNat (ns ++ [2, 11])))
    (turn : ∀ k t I oI C oC D m₂ ys h tk (E' : Value → Shared → Prop), LCg.NsObj oC m₂ → m₂ x = some (.int k t) → Fr h₀ L h m → News h₀ L h ((I, oI) :: (C, oC) :: (D, LCg.lst ys) :: news) → LCg.Off3 I C D news → ((@Ne Nat I C) ∧ (@Ne Nat I D) ∧ (@Ne Nat C D)) →
      wpAny (model prog w) A (eval elt (compEnvC scope cl C env)) (LCg.CompEnd h₀ L m { s₁ with heap := h, toks := tk } I oI C oC D (LCg.lst ys) (LCg.SrcAt h₀ ax vs.toArray) (fun y news' => KCfEl news (1 + k.fmod 15) y news')) E' { s₁ with heap := h, toks := tk })
    (fin : ∀ g ys, IntsAre ys ((famN ns).map fun n : Nat => (n : Int)) → Fin { s₁ with heap := g } ys news) : LCg.CompSrc prog w A h₀ L m env elt x scope cl Fin (.ref ax) s₁ := by
  have hl := (fam_len ns).2
  refine LCg.CompSrc.ledger hh F N hm (by rw [List.size_toArray, hi.length, sizeLine_eq]; omega) fun g => ?_
  refine kcf_list (fun k => 1 + k.fmod 15) hi (fun k t I oI C oC D m₂ ys h tk E' _ hC hx' F' N' off ne _ => turn k t I oI C oC D m₂ ys h tk E' hC hx' F' N' off ne) ?_
  intro ys hI
  refine fin g ys ?_
  rw [← famI_eq]
  exact hI
end

theorem word15 (f0 f1 f2 f3 : Int) : wordL f0 f1 f2 f3 15 = [65 + f0.toNat, 65 + f1.toNat, 65 + f2.toNat, 65 + f3.toNat] := rfl
theorem len15 (f0 f1 f2 f3 : Int) : (S (wordL f0 f1 f2 f3 15)).length = 4 := rfl
theorem lenF {f0 f1 f2 f3 : Int} (_h : Figs f0 f1 f2 f3) : (S (wordL f0 f1 f2 f3 15)).length = 4 := rfl
theorem word_shortF {f0 f1 f2 f3 : Int} (_h : Figs f0 f1 f2 f3) (k : Nat) : (wordL f0 f1 f2 f3 k).length ≤ 1000 := word_short _ _ _ _ k
theorem turned_conv (f0 f1 f2 f3 : Int) : ((rangeKs 0 4).map fun k => PyData.str (Txt.item (S (wordL f0 f1 f2 f3 15)) (3 - k))) = (wordL f0 f1 f2 f3 15).reverse.map fun k => PyData.str (S [k]) := by
  rw [word15]
  show [PyData.str (Txt.item _ (3 - (0 + (0 : Nat)))), PyData.str (Txt.item _ (3 - (0 + (1 : Nat)))), PyData.str (Txt.item _ (3 - (0 + (2 : Nat)))), PyData.str (Txt.item _ (3 - (0 + (3 : Nat))))] = _
  rw [item_at _ (3 - (0 + ((0 : Nat) : Int))) (by decide) (by simp), item_at _ (3 - (0 + ((1 : Nat) : Int))) (by decide) (by simp), item_at _ (3 - (0 + ((2 : Nat) : Int))) (by decide) (by simp), item_at _ (3 - (0 + ((3 : Nat) : Int))) (by decide) (by simp)]
  rfl
section
variable {prog : Program} {w : World} {A : Around} {E : Value → Shared → Prop} {s : Shared} {h₀ : Heap} {L D : Addr} {m : Str → Option Value} {news : List (Addr × Obj)} {Q : Value → Shared → Prop} {value slice : PySem.Expr} {u : Tok}
theorem strs_at : ∀ {us : List Value} {ys : List Str} {i : Nat} {y : Str}, StrsAre us ys → ys[i]? = some y → ∃ t, us[i]? = some (.str y t)
  | _, _, 0, _, .cons y t _, h => ⟨t, by cases Option.some.inj h; rfl⟩
  | _, _, i + 1, _, .cons y t r, h => strs_at (i := i) r h
theorem item_word {us : List Value} {n c : Nat} {k : Int} {g : Nat → Str} (N : News h₀ L s.heap news) (hm : (D, listOf us.toArray n) ∈ news) (hus : StrsAre us ((List.range c).map g)) (h0 : 0 ≤ k) (h1 : k < c) (hc : c ≤ 1000)
    (h : ∀ t, Q (.str (g k.toNat) t) s)
    (hs : subscripted slice false (.ref D) (.int k u) = operate [.ref D, .int k u] (getItem (.ref D) (.int k u)) := by with_unfolding_all rfl) :
    wpAny (model prog w) A (subscriptTail value slice (.ref D) (.int k u)) Q E s := by
  have hl : s.heap.IsList D us.toArray := PySem.IsL.isList (n := n) (N _ hm).1
  obtain ⟨t, ht⟩ := strs_at (i := k.toNat) (y := g k.toNat) hus (by rw [List.getElem?_map, List.getElem?_range (by omega)]; rfl)
  exact tail_any hl.typeIs slot_list_getitem.lookup (wpAny_getItem_list hl h0 (by omega) (by simpa using ht) (h t)) hs
end
end Mine

end
section
open PySem PySem.W PyProof.Rows PySem.Calls PyProof.V PySem.Spec Builtin Builtin.Str
namespace Mine
theorem word4 (f0 f1 f2 f3 : Int) (k : Nat) : (wordL f0 f1 f2 f3 k).length ≤ 4 := by
  unfold wordL
  rw [List.length_map]
  exact sel4_len k f0 f1 f2 f3
theorem word46 (f0 f1 f2 f3 : Int) (k : Nat) : ∀ c ∈ wordL f0 f1 f2 f3 k, c ≠ 46 := by
  intro c hc
  obtain ⟨y, _, rfl⟩ := List.mem_map.mp hc
  omega
theorem word40 (f0 f1 f2 f3 : Int) (k : Nat) : (S (wordL f0 f1 f2 f3 k)).length ≤ 40 := by
  rw [S_len]; have := word4 f0 f1 f2 f3 k; omega
theorem word40r (f0 f1 f2 f3 : Int) (k : Nat) : (S (wordL f0 f1 f2 f3 k).reverse).length ≤ 40 := by
  rw [S_len, List.length_reverse]; have := word4 f0 f1 f2 f3 k; omega
theorem word40l (f0 f1 f2 f3 : Int) (k : Nat) : (S ((wordL f0 f1 f2 f3 k).map low)).length ≤ 40 := by
  rw [S_len, List.length_map]; have := word4 f0 f1 f2 f3 k; omega
theorem word128 {f0 f1 f2 f3 : Int} (h : Figs f0 f1 f2 f3) (k : Nat) : ∀ c ∈ wordL f0 f1 f2 f3 k, c < 128 := by
  intro c hc
  obtain ⟨y, hy, rfl⟩ := List.mem_map.mp hc
  obtain ⟨q0, q1, q2, q3, q4⟩ := h
  rcases sel4_mem hy with rfl | rfl | rfl | rfl <;> omega
theorem word_ne {f0 f1 f2 f3 : Int} {k : Nat} (h : k < 16 ∧ k ≠ 0) : wordL f0 f1 f2 f3 k ≠ [] := by
  intro e
  have h1 := len_pos k h.1 h.2
  have h2 := congrArg List.length e
  rw [wordL_len, List.length_nil] at h2
  omega
theorem lower_S {xs : List Nat} (h : ∀ c ∈ xs, c < 128) : Txt.lower (S xs) = S (xs.map low) := by
  rw [lower_ascii (by rw [S_toList]; exact h)]
  show (⟨(xs.toArray).map lo1⟩ : Str) = ⟨(xs.map low).toArray⟩
  rw [List.map_toArray]
  rfl
section
variable {prog : Program} {w : World} {A : Around} {E : Value → Shared → Prop} {s : Shared} {t u : Tok} {Q : Value → Shared → Prop}
theorem add_dots1 {xs : List Nat} (hn : (S xs).length ≤ 1000) (h : ∀ t' k, Q (.str (S ([46, 46, 46] ++ xs)) t') { s with toks := k }) : wpAny (model prog w) A (binaryOp .Add (.str (Str.ofString "...") t) (.str (S xs) u)) Q E s := by
  refine PyProof.Rows.add_str (fun t' k => ?_) ?_
  · rw [dots_S, S_app]; exact h t' k
  · rw [dots_S, S_len [46, 46, 46], sizeLine_eq]; simp only [List.length_cons, List.length_nil]; omega
theorem sepL_len (sep : List Nat) : ∀ xs : List Nat, (sepL sep xs).length ≤ (sep.length + 1) * xs.length
  | [] => by simp [sepL]
  | [c] => by simp only [sepL, List.length_cons, List.length_nil]; omega
  | c :: d :: r => by
    have h := sepL_len sep (d :: r)
    simp only [sepL, List.length_cons, List.length_append] at h ⊢
    rw [Nat.mul_add (sep.length + 1) (r.length + 1) 1]
    omega
theorem add_dots2 {cs : List Nat} (hn : cs.length ≤ 4) (hc : cs ≠ []) (h : ∀ t' k, Q (.str (S (wantOf cs)) t') { s with toks := k }) :
    wpAny (model prog w) A (binaryOp .Add (.str (S ([46, 46, 46] ++ sepL [46, 46, 46] cs)) t) (.str (Str.ofString "...") u)) Q E s := by
  have h9 := sepL_len [46, 46, 46] cs
  refine PyProof.Rows.add_str (fun t' k => ?_) ?_
  · rw [dots_S, ← S_app, want_glue hc]; exact h t' k
  · rw [dots_S, S_len, S_len, sizeLine_eq]; simp only [List.length_cons, List.length_nil, List.length_append] at h9 ⊢; omega
theorem sep_small (f0 f1 f2 f3 : Int) (k : Nat) : (S (sepL [46, 46, 46] (wordL f0 f1 f2 f3 k))).length ≤ 1000 := by
  have h := sepL_len [46, 46, 46] (wordL f0 f1 f2 f3 k)
  have := word4 f0 f1 f2 f3 k
  rw [S_len]
  simp only [List.length_cons, List.length_nil] at h
  omega
theorem lower_call {xs : List Nat} (ha : ∀ c ∈ xs, c < 128) (hn : xs.length ≤ 1000) (h : ∀ t' k, Q (.str (S (xs.map low)) t') { s with toks := k }) : wpAny (model prog w) A (call (.builtin "str.lower") [.str (S xs) t]) Q E s :=
  SCL.lower (by rw [S_len]; omega) fun _ => by
    rw [lower_S ha]
    exact h _ _
end
theorem fam_at {l : List Nat} {i : Nat} {k : Int} (h : (l.map fun n : Nat => (n : Int))[i]? = some k) : ∃ mm : Nat, l[i]? = some mm ∧ k = (mm : Int) := by
  rw [List.getElem?_map] at h
  cases e : l[i]? with
  | none => rw [e] at h; cases h
  | some y => rw [e] at h; exact ⟨y, rfl, (Option.some.inj h).symm⟩
theorem news_fam {h₀ h : Heap} {L : Addr} {a b c d e : Addr × Obj} {r : List (Addr × Obj)} (N : News h₀ L h (a :: b :: c :: d :: e :: r)) : News h₀ L h (b :: r) := fun p hp => N p (by
  rcases List.mem_cons.mp hp with rfl | hp
  · exact .tail _ (.head _)
  · exact .tail _ (.tail _ (.tail _ (.tail _ (.tail _ hp)))))
section
variable {prog : Program} {w : World} {A : Around} {E : Value → Shared → Prop} {s : Shared} {t u : Tok} {Q : Value → Shared → Prop} {h₀ : Heap} {L D : Addr} {news : List (Addr × Obj)} {value slice : PySem.Expr}
theorem len_word {xs : List Nat} (hn : xs.length ≤ 1000) (h : ∀ t' k, Q (.int (xs.length : Int) t') { s with toks := k }) : wpAny (model prog w) A (call (.builtin "len") [.str (S xs) t]) Q E s := by
  refine SBL.len (by rw [S_len]; omega) ?_
  rw [S_len]
  exact h _ _
theorem item_wordN {us : List Value} {n c mm : Nat} {g : Nat → Str} (N : News h₀ L s.heap news) (hm : (D, listOf us.toArray n) ∈ news) (hus : StrsAre us ((List.range c).map g)) (h1 : mm < c) (hc : c ≤ 1000)
    (h : ∀ t, Q (.str (g mm) t) s)
    (hs : subscripted slice false (.ref D) (.int (mm : Int) u) = operate [.ref D, .int (mm : Int) u] (getItem (.ref D) (.int (mm : Int) u)) := by with_unfolding_all rfl) :
    wpAny (model prog w) A (subscriptTail value slice (.ref D) (.int (mm : Int) u)) Q E s :=
  item_word N hm hus (by omega) (by omega) hc (fun t => by rw [Int.toNat_natCast]; exact h t) hs
end
theorem alone_eq {f0 f1 f2 f3 : Int} (h : Figs f0 f1 f2 f3) {m : Nat} (hm : m < 16 ∧ m ≠ 0) : ((((wordL f0 f1 f2 f3 m).length : Nat) : Int) == 1) = isSub (wordL f0 f1 f2 f3 m) (wordL f0 f1 f2 f3 15).reverse := by
  rw [turned_eq h hm.1]
  have h1 := len_pos m hm.1 hm.2
  rw [← wordL_len f0 f1 f2 f3 m] at h1
  by_cases e : (wordL f0 f1 f2 f3 m).length = 1
  · rw [e]; rfl
  · rw [decide_eq_false (by omega), beq_eq_false_iff_ne]; omega
theorem turned_dead1 {f0 f1 f2 f3 : Int} (h : Figs f0 f1 f2 f3) {m : Nat} (hm : m < 16 ∧ m ≠ 0) (d : ((isSub (wordL f0 f1 f2 f3 m) (wordL f0 f1 f2 f3 15).reverse == true) != ((((wordL f0 f1 f2 f3 m).length : Nat) : Int) == 1)) = true) : False := by
  rw [alone_eq h hm] at d
  cases isSub (wordL f0 f1 f2 f3 m) (wordL f0 f1 f2 f3 15).reverse <;> simp at d
theorem turned_dead2 {f0 f1 f2 f3 : Int} (h : Figs f0 f1 f2 f3) {m : Nat} (hm : m < 16 ∧ m ≠ 0) (d : ((isSub (wordL f0 f1 f2 f3 m) (wordL f0 f1 f2 f3 15).reverse == false) == ((((wordL f0 f1 f2 f3 m).length : Nat) : Int) == 1)) = true) : False := by
  rw [alone_eq h hm] at d
  cases isSub (wordL f0 f1 f2 f3 m) (wordL f0 f1 f2 f3 15).reverse <;> simp at d
/-! the last loop -/
structure KC where
  am : Int
  ta : Tok
  oK : Obj
structure MC where
  sh : Nat
  ts : Tok
  fo : Bool
def txtL (sm : Int) (xs : List Nat) : List Nat := if sm = 0 then xs else xs.map low
theorem txt40 (sm f0 f1 f2 f3 : Int) (k : Nat) : (S (txtL sm (wordL f0 f1 f2 f3 k))).length ≤ 40 := by
  unfold txtL
  split
  · exact word40 _ _ _ _ _
  · exact word40l _ _ _ _ _
theorem txt_low {sm : Int} (xs : List Nat) (h : sm ≠ 0) : txtL sm xs = xs.map low := by unfold txtL; rw [if_neg h]
theorem txt_plain {sm : Int} (xs : List Nat) (h : sm = 0) : txtL sm xs = xs := by unfold txtL; rw [if_pos h]
theorem price_okS {f0 f1 f2 f3 sm : Int} (h : Figs f0 f1 f2 f3) (hS : sm = 0 ∨ sm = 1) {m k : Nat} (hm : m < 16 ∧ m ≠ 0) (hk : k < 16 ∧ k ≠ 0) {due : Int} (hd : due = 2 * (((wordL f0 f1 f2 f3 k).length : Int) - (wordL f0 f1 f2 f3 m).length) + sm * (wordL f0 f1 f2 f3 m).length) :
    due ≤ lev cst (wordL f0 f1 f2 f3 m) (txtL sm (wordL f0 f1 f2 f3 k)) due ∧ (lev cst (wordL f0 f1 f2 f3 m) (txtL sm (wordL f0 f1 f2 f3 k)) due == due) = isSub (wordL f0 f1 f2 f3 m) (wordL f0 f1 f2 f3 k) := by
  have key : priceOk due (lev cst (wordL f0 f1 f2 f3 m) (txtL sm (wordL f0 f1 f2 f3 k)) due) (incl m k) := by
    rcases hS with rfl | rfl
    · rw [txt_plain _ rfl]
      exact price_ok0 h hm.1 hk.1 hm.2 hk.2 (by omega)
    · rw [txt_low _ (by decide)]
      exact price_ok1 h hm.1 hk.1 hm.2 hk.2 (by omega)
  refine ⟨key.1, ?_⟩
  rw [told_eq h hm.1 hk.1]
  generalize lev cst (wordL f0 f1 f2 f3 m) (txtL sm (wordL f0 f1 f2 f3 k)) due = p at key
  by_cases e : p = due
  · rw [key.2.mp e, e, beq_self_eq_true]
  · rw [beq_eq_false_iff_ne.mpr e]
    cases hi : incl m k
    · rfl
    · exact absurd (key.2.mpr hi) e
theorem told_dead1 {b p : Bool} (h : p = b) (d : ((b == true) != p) = true) : False := by subst h; cases p <;> simp at d
theorem told_dead2 {b p : Bool} (h : p = b) (d : ((b == false) == p) = true) : False := by subst h; cases p <;> simp at d
theorem bitAnd_nat (a b : Nat) : Builtin.bitAnd (a : Int) (b : Int) = ((a &&& b : Nat) : Int) := by
  first | rfl | (unfold Builtin.bitAnd; simp)
theorem shared_le (k : Nat) : ∀ (l : List Nat) (s : Nat), l.foldl (shareF k) s ≤ s
  | [], s => Nat.le_refl _
  | m :: r, s => by
    rw [List.foldl_cons]
    refine Nat.le_trans (shared_le k r _) ?_
    unfold shareF
    split
    · exact Nat.and_le_left
    · exact Nat.le_refl _
theorem share_snoc {l : List Nat} {i m k s : Nat} (hm : l[i]? = some m) : (l.take (i + 1)).foldl (shareF k) s = shareF k ((l.take i).foldl (shareF k) s) m := by
  rw [List.take_add_one, hm]; simp [List.foldl_append]
theorem any_snoc {l : List Nat} {i m : Nat} {p : Nat → Bool} (hm : l[i]? = some m) : (l.take (i + 1)).any p = ((l.take i).any p || p m) := by
  rw [List.take_add_one, hm]; simp
theorem turn_yes {l : List Nat} {i m k s : Nat} (hm : l[i]? = some m) (hs : s = (l.take i).foldl (shareF k) 15) (hi : incl m k = true) :
    s &&& m = (l.take (i + 1)).foldl (shareF k) 15 ∧ true = (l.take (i + 1)).any fun m => incl m k := by
  rw [share_snoc hm, any_snoc hm, ← hs, hi]
  refine ⟨?_, by simp⟩
  unfold shareF
  rw [hi, if_pos rfl]
theorem turn_no {l : List Nat} {i m k s : Nat} {fo : Bool} (hm : l[i]? = some m) (hs : s = (l.take i).foldl (shareF k) 15) (hf : fo = (l.take i).any fun m => incl m k) (hi : incl m k = false) :
    s = (l.take (i + 1)).foldl (shareF k) 15 ∧ fo = (l.take (i + 1)).any fun m => incl m k := by
  rw [share_snoc hm, any_snoc hm, ← hs, ← hf, hi]
  refine ⟨?_, by simp⟩
  unfold shareF
  rw [hi, if_neg (by decide)]
section
variable {prog : Program} {w : World} {A : Around} {E : Value → Shared → Prop} {s : Shared} {u : Tok} {Q : Value → Shared → Prop} {h₀ : Heap} {L D : Addr} {news : List (Addr × Obj)} {value slice : PySem.Expr}
theorem item_weight {n k : Nat} {t0 t1 t2 t3 t4 : Tok} {f0 f1 f2 f3 : Int} {d : Option Addr} {sl : Array (Option Value)} (N : News h₀ L s.heap news) (hm : (D, ({ cls := .type "tuple", dict := d, data := .seq #[.int 0 t0, .int 6 t1, .int 2 t2, .int 2 t3, .int 6 t4] n, slots := sl } : Obj)) ∈ news)
    (h : ∀ t, Q (.int (weight k) t) s)
    (hs : subscripted slice false (.ref D) (.int ((wordL f0 f1 f2 f3 k).length : Int) u) = operate [.ref D, .int ((wordL f0 f1 f2 f3 k).length : Int) u] (getItem (.ref D) (.int ((wordL f0 f1 f2 f3 k).length : Int) u)) := by with_unfolding_all rfl) :
    wpAny (model prog w) A (subscriptTail value slice (.ref D) (.int ((wordL f0 f1 f2 f3 k).length : Int) u)) Q E s := by
  have ht : IsTup s.heap D ([.int 0 t0, .int 6 t1, .int 2 t2, .int 2 t3, .int 6 t4] : List Value).toArray := News.isTup N hm
  have h4 := sel4_len k 0 1 2 3
  have hw := wordL_len f0 f1 f2 f3 k
  generalize hl : (wordL f0 f1 f2 f3 k).length = l at hs hw ⊢
  unfold weight at h
  rw [← hw] at h h4
  have hj : ∀ l : Nat, l < 5 → seqIndex? (l : Int) 5 = some l := by decide +kernel
  obtain ⟨t, hx⟩ : ∃ t, ([.int 0 t0, .int 6 t1, .int 2 t2, .int 2 t3, .int 6 t4] : List Value)[l]? = some (.int ([0, 6, 2, 2, 6].getD l 0) t) := by
    rcases l with _ | _ | _ | _ | _ | l
    · exact ⟨_, rfl⟩
    · exact ⟨_, rfl⟩
    · exact ⟨_, rfl⟩
    · exact ⟨_, rfl⟩
    · exact ⟨_, rfl⟩
    · omega
  exact item_tupleT ht (by omega) (by omega) (hj l (by omega)) hx (h t) hs
theorem term_yes {fam : List Nat} {am : Int} {k : Nat} {f0 f1 f2 f3 : Int} {sh : Nat} {fo : Bool} (ham : am = amt fam k) (hsh : sh = fam.foldl (shareF (k + 1)) 15) (hfo : fo = fam.any fun m => incl m (k + 1)) (h : fo = true) :
    am + ((wordL f0 f1 f2 f3 sh).length : Int) * weight (k + 1) = amt fam (k + 1) := by
  have e : foundOf fam (k + 1) = true := by rw [← h, hfo]; rfl
  rw [amt, term, e, if_pos rfl, ham, wordL_len, hsh]
  rfl
theorem term_no {fam : List Nat} {am : Int} {k : Nat} {fo : Bool} (ham : am = amt fam k) (hfo : fo = fam.any fun m => incl m (k + 1)) (h : fo = false) :
    am = amt fam (k + 1) := by
  have e : foundOf fam (k + 1) = false := by rw [← h, hfo]; rfl
  rw [amt, term, e, if_neg (by decide), ham]
  omega
end
end Mine

end
section
open PySem PySem.W PyProof.Rows
namespace Mine
local macro_rules | `(tactic| walk_at "my name") => `(tactic| first | ((with_reducible refine name_here ?_); rfl) | (refine name_next (by decide +kernel) ?_; walk_at "my name"))
local macro_rules | `(tactic| walk_at "my names") => `(tactic| first | exact names_nil | ((refine names_cons ?_ ?_); (focus (walk_at "my name")); walk_at "my names"))
local macro_rules | `(tactic| walk_at "my all") => `(tactic| first | exact List.forall_mem_nil _ | (refine List.forall_mem_cons.mpr ⟨by k_mem, ?_⟩; walk_at "my all"))
local macro_rules | `(tactic| walk_at "my sub") => `(tactic| first | ((refine mem_eqE ?_); rfl) | ((refine mem_appE ?_); rfl) | ((refine mem_tailE ?_); walk_at "my sub") | (walk_at "my all") | kst_in)
local macro_rules | `(tactic| walk_at "my own") => `(tactic| first | exact mem_nilE | exact mem_rightE | (refine mem_tailE ?_; walk_at "my own"))
local macro_rules | `(tactic| walk_at "my ends") => `(tactic| ((case e1 => walk_at "my names"); (case e2 => walk_at "my sub"); (case e3 => first | exact mem_nilE | exact mem_rightE | (walk_at "my own") | kst_in); (try dsimp only)))
local macro_rules | `(tactic| walk_at "my close 2") => `(tactic| (rename Fr _ _ _ _ => fE; rename News _ _ _ _ => nE; (refine' my_end ⟨_, _⟩ fE nE ?e1 ?e2 ?e3 ?e4); walk_at "my ends"))
local macro_rules | `(tactic| walk_at "my close 4") => `(tactic| (rename Fr _ _ _ _ => fE; rename News _ _ _ _ => nE; (refine' my_end ⟨_, _, _, _⟩ fE nE ?e1 ?e2 ?e3 ?e4); walk_at "my ends"))
local macro_rules | `(tactic| walk_at "my close 3") => `(tactic| (rename Fr _ _ _ _ => fE; rename News _ _ _ _ => nE; (refine' my_end ⟨_, _, _⟩ fE nE ?e1 ?e2 ?e3 ?e4); walk_at "my ends"))
local macro_rules | `(tactic| walk_at "my close 5") => `(tactic| (rename Fr _ _ _ _ => fE; rename News _ _ _ _ => nE; (refine' my_end ⟨_, _, _, _, _⟩ fE nE ?e1 ?e2 ?e3 ?e4); walk_at "my ends"))
local macro_rules | `(tactic| walk_at "my close 9") => `(tactic| (rename Fr _ _ _ _ => fE; rename News _ _ _ _ => nE; (refine' my_end ⟨_, _, _, _, _, _, _, _, _⟩ fE nE ?e1 ?e2 ?e3 ?e4); walk_at "my ends"))
local macro_rules | `(tactic| walk_at "my close 1") => `(tactic| (rename Fr _ _ _ _ => fE; rename News _ _ _ _ => nE; (refine' my_end _ fE nE ?e1 ?e2 ?e3 ?e4); walk_at "my ends"))
local macro_rules | `(tactic| walk_at "my close 0") => `(tactic| (rename Fr _ _ _ _ => fE; rename News _ _ _ _ => nE; (refine' my_end () fE nE ?e1 ?e2 ?e3 ?e4); walk_at "my ends"))
local macro_rules | `(tactic| walk_at "call ref") => `(tactic| k_dflt ((k_here; (with_reducible show wpAny _ _ (call (Value.ref _) [Value.int _ _]) _ _ _); (refine' claim_use (ap_claim _ _ _ _ _ _) ?k1 ?k2 ?k3 ?k4 ?k5 ?kK ?kp ?kd ?ku ?_); (case k1 => k_asm); (case k2 => k_asm); (case k3 => k_asm); (case k4 => k_asm); (case k5 => k_asm); (case kK => first | exact rfl | assumption); (case kp => first | omega | (rw [Int.natAbs_neg]; omega)); (case kd => ktr_room); (case ku => ktr_units); intro t9 h9 tk9 F9 N9; (try dsimp only); (try k_fold))))
local macro_rules | `(tactic| walk_at "call builtin:str.join") => `(tactic| (k_here; k_dflt (refine' join_sep ?k1 ?k2 ?k3 ?k4 ?k5 ?_; (case k1 => rfl); (case k2 => k_asm); (case k3 => k_asm); (case k4 => exact word128 (by assumption) _); (case k5 => exact word_short _ _ _ _ _)); intro _ _ _ F' N'; (try dsimp only)))
local macro_rules | `(tactic| walk_at "binaryOp Add str str") => `(tactic| (k_here; (with_reducible show wpAny _ _ (binaryOp Operator.Add (Value.str (S (_ ++ _)) _) (Value.str (Str.ofString _) _)) _ _ _); k_dflt (refine' add_dots2 ?k1 ?k2 ?_; (case k1 => exact word4 _ _ _ _ _); (case k2 => exact word_ne (by assumption))); intro _ _; (try dsimp only)))
local macro_rules | `(tactic| walk_at "binaryOp Add str str") => `(tactic| (k_here; (with_reducible show wpAny _ _ (binaryOp Operator.Add (Value.str (Str.ofString _) _) (Value.str (S _) _)) _ _ _); k_dflt (refine' add_dots1 ?k1 ?_; (case k1 => exact sep_small _ _ _ _ _)); intro _ _; (try dsimp only)))
local macro_rules | `(tactic| walk_at "call builtin:str.lower") => `(tactic| (k_here; k_dflt (refine' lower_call ?k1 ?k2 ?_; (case k1 => exact word128 (by assumption) _); (case k2 => exact word_short _ _ _ _ _)); intro _ _; (try dsimp only)))
local macro_rules | `(tactic| walk_at "call ref") => `(tactic| k_dflt ((k_here; (with_reducible show wpAny _ _ (call (Value.ref _) [Value.str _ _, Value.str _ _]) _ _ _); (refine' claim_use (ell_claim _ _ _ _ _ _ _ _ ?h1 ?h2) ?k1 ?k2 ?k3 ?k4 ?k5 ?kK ?kp ?kd ?ku ?_); (case h1 => exact word4 _ _ _ _ _); (case h2 => exact word46 _ _ _ _ _); (case k1 => k_asm); (case k2 => k_asm); (case k3 => k_asm); (case k4 => k_asm); (case k5 => k_asm); (case kK => first | exact rfl | assumption); (case kp => first | exact word40 _ _ _ _ _ | exact word40r _ _ _ _ _); (case kd => ktr_room); (case ku => ktr_units); intro t9 h9 tk9 F9 N9; (try dsimp only); (try k_fold))))
local macro_rules | `(tactic| walk_at "call ref") => `(tactic| k_dflt ((k_here; (with_reducible show wpAny _ _ (call (Value.ref _) [Value.str _ _, Value.str _ _, Value.int _ _]) _ _ _); (refine' claim_use (lev_claim _ _ _ _ _ _ _ _ _ _) ?k1 ?k2 ?k3 ?k4 ?k5 ?kK ?kp ?kd ?ku ?_); (case k1 => k_asm); (case k2 => k_asm); (case k3 => k_asm); (case k4 => k_asm); (case k5 => k_asm); (case kK => first | exact rfl | assumption); (case kp => exact ⟨by first | exact word40 _ _ _ _ _ | exact word40l _ _ _ _ _, by first | exact word40 _ _ _ _ _ | exact word40l _ _ _ _ _⟩); (case kd => ktr_room); (case ku => ktr_units); intro t9 h9 tk9 F9 N9; (try dsimp only); (try k_fold))))
local macro_rules | `(tactic| walk_at "exec For Name Name cons nil") => `(tactic| (k_of "member" => (k_here; (rename Fr _ _ _ _ => lF'); (with_unfolding_all refine' For_invVF lF' ?k1 ?k2 ?_; (case k1 => exact rfl); (case k2 => exact rfl); k_whole))))
local macro_rules | `(tactic| walk_at "pyIter ref") => `(tactic| (k_of "member" => (refine Stop.mk ?_)))
local macro_rules | `(tactic| walk_at "call builtin:len") => `(tactic| (k_here; k_dflt (refine' len_word ?k1 ?_; (case k1 => exact word_short _ _ _ _ _)); intro _ _; (try dsimp only)))
local macro_rules | `(tactic| walk_at "exec Assign") => `(tactic| (k_here; (with_reducible show wpAny _ _ (exec (PySem.Stmt.Assign _ (PySem.Expr.IfExp _ _ _ _) _) _) _ _ _); refine Stop.mk ?_))
local macro_rules | `(tactic| walk_at "call ref") => `(tactic| k_dflt ((k_here; (with_reducible show wpAny _ _ (call (Value.ref _) [Value.str _ _, Value.str _ _, Value.int _ _]) _ _ _); (refine' claim_use (lev_claim _ _ _ _ _ _ _ _ _ _) ?k1 ?k2 ?k3 ?k4 ?k5 ?kK ?kp ?kd ?ku ?_); (case k1 => k_asm); (case k2 => k_asm); (case k3 => k_asm); (case k4 => k_asm); (case k5 => k_asm); (case kK => first | exact rfl | assumption); (case kp => exact ⟨word40 _ _ _ _ _, txt40 _ _ _ _ _ _⟩); (case kd => ktr_room); (case ku => ktr_units); intro t9 h9 tk9 F9 N9; (try dsimp only); (try k_fold))))
local macro_rules | `(tactic| walk_at "subscriptTail Tuple cons Call ref int") => `(tactic| (k_here; k_dflt (refine' item_weight ?k1 ?k2 ?_ ?k7; (case k1 => k_asm); (case k2 => k_mem); (case k7 => with_unfolding_all rfl)); intro _; (try dsimp only)))
local macro_rules | `(tactic| walk_at "call type:bytes") => `(tactic| (k_here; (with_reducible show wpAny _ _ (call (Value.type "bytes") [Value.ref _]) _ _ _); k_dflt (refine' bytes_word ?k1 ?k2 ?k3 ?k4 ?k5 ?k6 ?k7 ?_; (case k1 => k_asm); (case k2 => k_asm); (case k3 => rfl); (case k4 => kba_isList); (case k5 => assumption); (case k6 => assumption); (case k7 => assumption)); intro _ _ _ F' N'))
local macro_rules | `(tactic| walk_at "compareOp NotEq bytes bytes") => `(tactic| (k_here; (refine ne_same ?_); (try dsimp only)))
local macro_rules | `(tactic| walk_at "eval ListComp") => `(tactic| (k_here; (with_reducible show wpAny _ _ (eval (PySem.Expr.ListComp _ [⟨PySem.Expr.Name (Str.ofString "octet") _, _, _, _⟩] _ _) _) _ _ _); k_dflt (refine ListComp_B (by k_asm) (by with_unfolding_all rfl) (by decide) (by rfl) (by decide) (by rfl) ?_)))
local macro_rules | `(tactic| walk_at "SrcB") => `(tactic| (k_here; k_dflt (refine' SrcB.word ?k1 ?k2 ?k3 ?k4 ?k5 (fun k' t' I' oI' C' oC' D' m' ys' h' tk' E' hlo' hhi' hC' hx' F' N' off' ne' => ?_) (fun g' ys' hcY' => ?_); (case k1 => rfl); (case k2 => k_asm); (case k3 => k_asm); (case k4 => assumption); (case k5 => assumption))))
local macro_rules | `(tactic| walk_at "CompEnd") => `(tactic| (k_here; k_dflt (exact LCg.CompEnd.intro (by k_asm) (by k_asm) _ (fun _ h => h) (by assumption) (by first | exact True.intro | lcg_src) ⟨rfl, _, rfl⟩)))
local macro_rules | `(tactic| walk_at "call builtin:str.join") => `(tactic| (k_here; k_dflt (refine' join_word ?k1 ?k2 ?k3 ?_; (case k1 => first | is_list | exact News.isList (by k_asm) (by k_mem)); (case k2 => assumption); (case k3 => assumption)); intro _ _))
local macro_rules | `(tactic| walk_at "call builtin:list.append") => `(tactic| (k_here; k_dflt (refine' append_top5 (by assumption) (by k_asm) (by k_asm) ?k1 ?k2 ?k3 ?_; (case k1 => walk_at "my sub"); (case k2 => k_all); (case k3 => omega)); intro h' F' N'; (try k_sweep)))
local macro_rules | `(tactic| walk_at "subscriptTail") => `(tactic| (k_here; (with_reducible show wpAny _ _ (subscriptTail _ _ (Value.ref _) (Value.int _ _)) _ _ _); k_dflt (refine' item_word ?k1 ?k2 ?k3 ?k4 ?k5 ?k6 ?_ ?k7; (case k1 => k_asm); (case k2 => k_mem); (case k3 => assumption); (case k4 => omega); (case k5 => omega); (case k6 => decide); (case k7 => with_unfolding_all rfl)); intro _; (try dsimp only)))
local macro_rules | `(tactic| walk_at "subscriptTail") => `(tactic| (k_here; (with_reducible show wpAny _ _ (subscriptTail _ _ (Value.str _ _) (Value.int _ _)) _ _ _); k_dflt (refine' KXi.item (n := 4) ?k1 ?k2 ?k3 ?k4 ?_ ?k5 ?k6; (case k1 => assumption); (case k2 => omega); (case k3 => omega); (case k4 => decide); (case k5 => with_unfolding_all rfl); (case k6 => intro _; with_unfolding_all rfl)); intro _; (try dsimp only)))
local macro_rules | `(tactic| walk_at "subscriptTail") => `(tactic| (k_here; (with_reducible show wpAny _ _ (subscriptTail _ _ (Value.ref _) (Value.int (Nat.cast _) _)) _ _ _); k_dflt (refine' item_wordN ?k1 ?k2 ?k3 ?k5 ?k6 ?_ ?k7; (case k1 => k_asm); (case k2 => k_mem); (case k3 => assumption); (case k5 => omega); (case k6 => decide); (case k7 => with_unfolding_all rfl)); intro _; (try dsimp only)))
local macro_rules | `(tactic| walk_at "subscriptTail Name Name ref int") => `(tactic| (k_here; (with_reducible show wpAny _ _ (subscriptTail _ _ (Value.ref _) (Value.int (Nat.cast _) _)) _ _ _); k_dflt (refine' item_wordN ?k1 ?k2 ?k3 ?k5 ?k6 ?_ ?k7; (case k1 => k_asm); (case k2 => k_mem); (case k3 => assumption); (case k5 => omega); (case k6 => decide); (case k7 => with_unfolding_all rfl)); intro _; (try dsimp only)))
local macro_rules | `(tactic| walk_at "exec Assign cons ListComp") => `(tactic| (k_here; (with_reducible show wpAny _ _ (exec (PySem.Stmt.Assign [PySem.Expr.Name (Str.ofString "family") _] _ _) _) _ _ _); refine Stop.mk ?_))
local macro_rules | `(tactic| walk_at "CompSrc") => `(tactic| (k_here; (with_reducible show LCg.CompSrc _ _ _ _ _ _ _ _ (Str.ofString "x") _ _ _ _ _); refine Stop.mk ?_))
local macro_rules | `(tactic| walk_at "CompSrc") => `(tactic| (k_here; (with_reducible show LCg.CompSrc _ _ _ _ _ _ _ _ (Str.ofString "k") _ _ _ _ _); refine Stop.mk ?_))
local macro_rules | `(tactic| walk_at "FinA") => `(tactic| refine Stop.mk ?_)
local macro_rules | `(tactic| walk_at "subscriptTail BinOp") => `(tactic| (k_here; k_dflt (refine kba_turn (value' := PySem.Expr.Name (PySem.Str.ofString "x") ⟨0, 0, 0, 0⟩) (fun _ => rfl) ?_)))
local macro_rules | `(tactic| walk_at "exec Assign") => `(tactic| ((with_reducible show wpAny _ _ (exec (PySem.Stmt.Assign _ (PySem.Expr.Call _ [PySem.Expr.IfExp _ _ _ _] _ _) _) _) _ _ _); refine Stop.mk ?_))
local macro_rules | `(tactic| walk_at "exec For Name Name cons nil") => `(tactic| (k_of "figure" => (k_here; (rename Fr _ _ _ _ => lF'); (with_unfolding_all refine' For_invVF lF' ?k1 ?k2 ?_; (case k1 => exact rfl); (case k2 => exact rfl); k_whole))))
local macro_rules | `(tactic| walk_at "pyIter ref") => `(tactic| (k_of "figure" => (refine Stop.mk ?_)))
local macro_rules | `(tactic| walk_at "exec For Name Call cons nil") => `(tactic| (k_of "kind" => (refine Stop.mk ?_)))
local macro_rules | `(tactic| walk_at "execs cons") => `(tactic| (k_here; dsimp only; k_gentoks))
set_option maxRecDepth 100000 in
set_option maxHeartbeats 20000000 in
theorem law_holds : PySem.Challenge.rw_rw0046_01.Holds := hd (by
  w_on
  w_strict (
    k_go0
    (all_goals try k_fold)
    k_steps
    rename News _ _ _ _ => N0
    refine norm4 N0 ?_
    clear N0
    intro f0 f1 f2 f3 e0 e1 e2 e3 N1
    have hF := figs_ok e0 e1 e2 e3
    rename Fr _ _ _ _ => F1
    rename List Int => ns
    have hS := small_ok (List.sum (List.take 9 ns))
    generalize ((List.sum (List.take 9 ns)).fmod 162).fdiv 81 = sm at F1 hS
    clear e0 e1 e2 e3
    refine Stop.out ?_
    (with_unfolding_all refine For_invTF F1 ?_ (by intro _; rfl))
    k_steps
    rename Fr _ _ _ _ => F2
    rename News _ _ _ _ => N2
    rename IsRange _ _ _ _ _ _ _ _ => rgX
    refine my_rangeT (σ := WC) (fun c => [(_, listOf c.us.toArray c.n), _, (_, c.oK), _, _]) (fun c => [(Str.ofString "small", .int sm _), (Str.ofString "script", .ref _)]) 15
      (fun i c => StrsAre c.us ((List.range (i + 1)).map fun k => S (wordL f0 f1 f2 f3 k)) ∧ ∃ v, c.oK.data = Data.cell v) ⟨_, _, _⟩ (fun _ => rfl) rfl rgX small16 size16 F2 N2 (by with_unfolding_all kst_all) ⟨?_, ?_⟩ ?_ ?_
    · exact words0
    · exact ⟨_, by assumption⟩
    · clear F2 N2 rgX
      rintro i t ⟨us, n, oK⟩ u ⟨h, g, dr, tk, os⟩ own hi hoff ⟨hus, v, hoK⟩ F3 N3
      dsimp only [kstB] at F3 N3 hus hoK hoff ⊢
      k_steps
      refine Stop.out ?_
      rename Fr _ _ _ _ => F4
      rename News _ _ _ _ => N4
      rename IntsAre _ (List.map _ (List.filter _ _)) => hch
      rw [chosen_eq hi] at hch
      have hlen := sel4_len (i + 1) f0 f1 f2 f3
      have hmem : ∀ x ∈ sel4 (i + 1) f0 f1 f2 f3, 1 ≤ x ∧ x ≤ 15 := by
        intro x hx
        obtain ⟨q0, q1, q2, q3, q4⟩ := hF
        rcases sel4_mem hx with rfl | rfl | rfl | rfl <;> omega
      refine my_intsV (σ := Int × Tok) (fun _ => _) (fun c => [(Str.ofString "number", .int c.1 c.2), (Str.ofString "chosen", .ref _), (Str.ofString "small", .int sm _), (Str.ofString "script", .ref _)])
        (fun j c => c.1 = numI ((sel4 (i + 1) f0 f1 f2 f3).take j)) (0, _) rfl (fun _ => .head _) hch (fun _ => rfl) F4 N4 (by with_unfolding_all kst_all) (by simp [numI]) ?_ ?_
      · clear F4 N4
        rintro j f tf ⟨nu, tn⟩ u2 h2 tk2 own2 hj hoff2 hP F5 N5
        dsimp only [kstB] at F5 N5 hP hoff2 ⊢
        have hb1 := numI_small ((sel4 (i + 1) f0 f1 f2 f3).take j) (fun x hx => hmem x (List.mem_of_mem_take hx)) (by rw [List.length_take]; omega)
        have hb2 := hmem f (List.mem_of_getElem? hj)
        rw [← hP] at hb1
        k_steps
        dsimp only [MyPost]
        walk_at "my close 2"
        rw [List.take_add_one, hj, hP]
        exact (numI_snoc _ _).symm
      · clear F4 N4
        rintro ⟨nu, tn⟩ u2 h2 tk2 hP F5 N5
        dsimp only [kstB] at F5 N5 hP ⊢
        rw [List.take_length] at hP
        have hb1 := numI_small (sel4 (i + 1) f0 f1 f2 f3) hmem hlen
        rw [← hP] at hb1
        k_steps
        refine Stop.out ?_
        rename Fr _ _ _ _ => F6
        rename News _ _ _ _ => N6
        refine my_cutK (σ := Tok) [(Str.ofString "chosen", .ref _), (Str.ofString "small", .int sm _), (Str.ofString "script", .ref _)] (fun c => [(Str.ofString "written", .bytes (Bt (wordL f0 f1 f2 f3 (i + 1))) c)]) (fun _ => True) F6 N6 (by with_unfolding_all kst_all) ?_ ?_
        · rename _ = numI (sel4 _ _ _ _ _) => hP
          rename 0 ≤ _ ∧ _ < (65536 : Int) => hb1
          rename (∀ x ∈ sel4 _ _ _ _ _, _ ∧ _) => hmem
          have hw := apL_num _ [] hmem
          rw [← hP, List.append_nil] at hw
          have hw2 := hw
          rw [← Int.natAbs_neg] at hw2
          refine wpAny_Assign_Name ?_
          k_steps
          all_goals (dsimp only [MyCut]; (rename Fr _ _ _ _ => fE; rename News _ _ _ _ => nE; first | rw [hw] at fE | rw [hw2] at fE); walk_at "my close 1")
        · intros
          rename _ = numI (sel4 _ _ _ _ _) => hP
          rename 0 ≤ _ ∧ _ < (65536 : Int) => hb1
          rename (∀ x ∈ sel4 _ _ _ _ _, _ ∧ _) => hmem
          have hwx := word_small hmem
          have hwl := word_short2 hmem
          (rename Fr _ _ _ _ => F0; simp only [List.cons_append, List.nil_append] at F0; dsimp only [kstB] at F0)
          rename StrsAre _ _ => hus
          have hul := strs_short hus (by omega)
          k_steps
          all_goals (try (first | exact Str.empty | exact (0 : Addr) | exact Value.none))
          dsimp only [MyPostT]
          walk_at "my close 3"
          refine ⟨?_, ?_⟩
          · rw [List.range_succ, List.map_append]
            exact kct_snoc hus
          · exact ⟨_, by assumption⟩
    · clear F2 N2 rgX
      rintro ⟨us, n, oK⟩ u h tk ⟨hus, vK, hoK⟩ F3 N3
      dsimp only [kstB] at F3 N3 hus hoK ⊢
      k_steps
      refine Stop.out ?_
      refine LCg.Assign_ListComp_U (F₀ := by k_asm) (by rfl) (by with_unfolding_all rfl) (by with_unfolding_all rfl) (by decide) (by rfl) (by decide) (by rfl) (by rfl) (by rfl) ?_
      k_steps
      refine Stop.out ?_
      rename IntsAre _ (List.take _ (_ ++ _)) => hi
      refine fam_src (by rfl) (by k_asm) (by k_asm) (by k_mem) hi ?_ ?_
      · intro k t I oI C oC D m₂ ys h tk E' hC hx' F' N' off ne
        k_steps
      intro g ys hfam
      unfold LCg.FinA
      intro D h tk F5 N5 off5
      simp only [LCg.Off1, and_true] at off5
      dsimp only
      k_steps
      refine Stop.out ?_
      have h15 := lenF hF
      refine LCg.CompSrc.range (n := 4) (by rfl) (by k_asm) (by k_asm) (by assumption) (by decide +kernel) (by decide +kernel) (by rw [sizeLine_eq]; omega) ?_
      intro g2
      refine kct_range (fun k => Txt.item (S (wordL f0 f1 f2 f3 15)) (3 - k)) ?_ ?_
      · intro k t I oI C oC D m₂ ys h tk E' hlo hhi hC' hx' F' N' off' ne' _
        k_steps
      intro ys hc _
      rw [turned_conv] at hc
      have hwl := word_shortF hF 15
      rw [← List.length_reverse] at hwl
      k_steps
      all_goals (try (first | exact Str.empty | exact (0 : Addr) | exact Value.none))
      refine Stop.out ?_
      rename Fr _ _ _ _ => F6
      rename News _ _ _ _ => N6
      replace N6 := news_fam N6
      rename IntsAre _ (List.map _ (famN _)) => hfam
      refine my_intsV (σ := Unit) (fun _ => _) (fun _ => [(Str.ofString "family", .ref D), (Str.ofString "turned", .str (S (wordL f0 f1 f2 f3 15).reverse) _), (Str.ofString "small", .int sm _)])
          (fun _ _ => True) () rfl (fun _ => .head _) hfam (fun _ => rfl) F6 N6 (by with_unfolding_all kst_all) trivial ?_ ?_
      · clear F6 N6
        rintro i k t ⟨⟩ u h tk own hki hoff _ F7 N7
        dsimp only [kstB] at F7 N7 hoff ⊢
        obtain ⟨mm, hm, rfl⟩ := fam_at hki
        have hmm := famN_ok ns mm (List.mem_of_getElem? hm)
        k_steps
        · exact (turned_dead1 hF hmm (by assumption)).elim
        · exact (turned_dead2 hF hmm (by assumption)).elim
        · dsimp only [MyPost]
          walk_at "my close 0"
          all_goals trivial
      · clear F6 N6
        rintro ⟨⟩ u h tk _ F7 N7
        dsimp only [kstB] at F7 N7 ⊢
        k_steps
        all_goals (try (first | exact Str.empty | exact (0 : Addr) | exact Value.none))
        refine Stop.out ?_
        rename IntsAre _ (List.map _ (famN _)) => hfam
        rename Fr _ _ _ _ => F1
        (with_unfolding_all refine For_invTF F1 ?_ (by intro _; rfl))
        k_steps
        rename Fr _ _ _ _ => F2
        rename News _ _ _ _ => N2
        rename IsRange _ _ _ _ _ _ _ _ => rgX
        refine my_rangeT (σ := KC) (fun c => [_, _, _, (_, c.oK), _, _]) (fun c => [(Str.ofString "amount", .int c.am c.ta), (Str.ofString "family", .ref D), (Str.ofString "small", .int sm _)]) 15
          (fun i c => c.am = amt (famN ns) i ∧ ∃ v, c.oK.data = Data.cell v) ⟨0, _, _⟩ (fun _ => rfl) rfl rgX small16 size16 F2 N2 (by with_unfolding_all kst_all) ⟨rfl, _, by assumption⟩ ?_ ?_
        · clear F2 N2 rgX
          rintro i t ⟨am, ta, oK⟩ u ⟨h, g, dr, tk, os⟩ own hi hoff ⟨ham, v, hoK⟩ F3 N3
          dsimp only [kstB] at F3 N3 ham hoK hoff ⊢
          rw [show (1 : Int) + (i : Int) = ((i + 1 : Nat) : Int) by omega]
          have hkk : i + 1 < 16 ∧ i + 1 ≠ 0 := by omega
          k_steps
          refine Stop.out ?_
          rename Fr _ _ _ _ => F4
          rename News _ _ _ _ => N4
          refine my_cutK (σ := Tok) [(Str.ofString "amount", .int am ta), (Str.ofString "family", .ref D), (Str.ofString "small", .int sm _)] (fun c => [(Str.ofString "text", .str (S (txtL sm (wordL f0 f1 f2 f3 (i + 1)))) c)]) (fun _ => True) F4 N4 (by with_unfolding_all kst_all) ?_ ?_
          · refine wpAny_Assign_Name ?_
            k_steps
            all_goals (dsimp only [MyCut])
            · rw [txt_low _ (by assumption)]
              walk_at "my close 1"
            · rw [txt_plain _ (by assumption)]
              walk_at "my close 1"
          · clear F4 N4
            rintro tx u4 h4 tk4 _ F5 N5
            simp only [List.cons_append, List.nil_append] at F5
            dsimp only [kstB] at F5 ⊢
            k_steps
            refine Stop.out ?_
            rename Fr _ _ _ _ => F6
            rename News _ _ _ _ => N6
            rename IntsAre _ (List.map _ (famN _)) => hfam
            rename Figs _ _ _ _ => hF
            rename (_ = 0 ∨ _ = 1) => hS
            rename (_ + 1 < 16 ∧ _) => hkk
            refine my_intsV (σ := MC) (fun _ => _) (fun c => [(Str.ofString "shared", .int (c.sh : Int) c.ts), (Str.ofString "found", .bool c.fo), (Str.ofString "text", .str (S (txtL sm (wordL f0 f1 f2 f3 (i + 1)))) tx), (Str.ofString "amount", .int am ta), (Str.ofString "family", .ref D), (Str.ofString "small", .int sm _)])
              (fun j c => c.sh = ((famN ns).take j).foldl (shareF (i + 1)) 15 ∧ c.fo = ((famN ns).take j).any fun m => incl m (i + 1)) ⟨15, _, false⟩ rfl (fun _ => .head _) hfam (fun _ => rfl) F6 N6 (by with_unfolding_all kst_all) ⟨by simp, by simp⟩ ?_ ?_
            · clear F6 N6
              rintro j k t ⟨sh, ts, fo⟩ u5 h5 tk5 own5 hkj hoff5 ⟨hsh, hfo⟩ F7 N7
              dsimp only [kstB] at F7 N7 hsh hfo hoff5 ⊢
              obtain ⟨mm, hm, rfl⟩ := fam_at hkj
              have hmm := famN_ok ns mm (List.mem_of_getElem? hm)
              have hpr := price_okS hF hS hmm hkk (due := _) rfl
              k_steps
              · exact (told_dead1 hpr.2 (by assumption)).elim
              · exact (told_dead2 hpr.2 (by assumption)).elim
              · rename isSub _ _ = true => hto
                rw [told_eq hF hmm.1 hkk.1] at hto
                dsimp only [MyPost]
                (rename Fr _ _ _ _ => fE; rw [bitAnd_nat] at fE)
                walk_at "my close 3"
                exact turn_yes hm hsh hto
              · rename isSub _ _ = false => hto
                rw [told_eq hF hmm.1 hkk.1] at hto
                dsimp only [MyPost]
                walk_at "my close 3"
                exact turn_no hm hsh hfo hto
            · clear F6 N6
              rintro ⟨sh, ts, fo⟩ u5 h5 tk5 ⟨hsh, hfo⟩ F7 N7
              dsimp only [kstB] at F7 N7 hsh hfo ⊢
              rw [List.length_map, List.take_length] at hsh hfo
              have hsh16 : sh < 16 := by
                have := shared_le (i + 1) (famN ns) 15
                omega
              have hsl := word4 f0 f1 f2 f3 sh
              k_steps
              · dsimp only [MyPostT]
                walk_at "my close 3"
                exact ⟨term_yes ham hsh hfo (by assumption), _, by assumption⟩
              · dsimp only [MyPostT]
                walk_at "my close 3"
                exact ⟨term_no ham hfo (by assumption), _, by assumption⟩
        · clear F2 N2 rgX
          rintro ⟨am, ta, oK⟩ u h tk ⟨ham, v, hoK⟩ F3 N3
          dsimp only [kstB] at F3 N3 ham hoK ⊢
          have ham24 : am = 24 := ham.trans (amt_24 (famN_ok ns) (famN_ne ns))
          subst ham24
          k_steps
        all_goals (try (first | exact Str.empty | exact (0 : Addr) | exact Value.none))
      all_goals (try (first | exact Str.empty | exact (0 : Addr) | exact Value.none))))
end Mine

end
theorem PySem.Challenge.cw_rw0046_01_holds : PySem.Challenge.rw_rw0046_01.Holds := by
  exact Mine.law_holds
