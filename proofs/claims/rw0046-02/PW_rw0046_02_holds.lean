import PyProof.Rows.All
import Wide.All
import OpenK.AllK
import Wide.FinOn
import Lean
import PySem.Challenge.RW_rw0046_02
set_option Elab.async false
namespace Mine
open PySem PySem.W PyProof.Rows
set_option hygiene false
set_option compiler.extract_closed false
set_option genSizeOf false
set_option genInjectivity false
section
open PySem PySem.W PyProof.Rows
set_option maxRecDepth 100000 in
set_option maxHeartbeats 8000000 in
open_top hd for PySem.Challenge.rw_rw0046_02
end
section
open PySem PySem.W PyProof.Rows PySem.Calls PyProof.V PySem.Spec
/-- a goal at which the walk halts -/
noncomputable def Stop (P : Prop) : Prop := P
theorem Stop.mk {P : Prop} (h : Stop P) : P := h
theorem Stop.out {P : Prop} (h : P) : Stop P := h
/-- the end of a turn, or of a piece: letters c, the ledger Led c, the names ps c, the word P c -/
noncomputable def MyEnd {σ : Type} (h₀ : Heap) (L : Addr) (s : Shared) (own : List (Addr × Obj)) (Led : σ → List (Addr × Obj)) (ps : σ → List (Str × Value)) (P : σ → Prop) (s₂ : Shared) : Prop :=
  ∃ (c : σ) (h' : Heap) (tk : Nat) (m' : Str → Option Value) (news' : List (Addr × Obj)), s₂ = { s with heap := h', toks := tk } ∧ Fr h₀ L h' m' ∧ News h₀ L h' news' ∧ (∀ p ∈ Led c, p ∈ news') ∧ (∀ p ∈ own, p ∈ news') ∧ (∀ p ∈ ps c, m' p.1 = some p.2) ∧ P c
noncomputable def MyPost {σ : Type} (h₀ : Heap) (L : Addr) (s : Shared) (own : List (Addr × Obj)) (Led : σ → List (Addr × Obj)) (ps : σ → List (Str × Value)) (P : σ → Prop) (Q : Flow → Shared → Prop) (f : Flow) (s₂ : Shared) : Prop :=
  match f with
  | .ret v => Q (.ret v) s₂
  | .brk => Q .next s₂
  | _ => MyEnd h₀ L s own Led ps P s₂
noncomputable def MyCut {σ : Type} (h₀ : Heap) (L : Addr) (s : Shared) (Led : σ → List (Addr × Obj)) (ps : σ → List (Str × Value)) (P : σ → Prop) (Q : Flow → Shared → Prop) (f : Flow) (s₂ : Shared) : Prop :=
  match f with
  | .next => MyEnd h₀ L s [] Led ps P s₂
  | f => Q f s₂
noncomputable def NamesAre (m' : Str → Option Value) (ps : List (Str × Value)) : Prop := ∀ p ∈ ps, m' p.1 = some p.2
theorem my_end {σ : Type} {h₀ : Heap} {L : Addr} {s : Shared} {own : List (Addr × Obj)} {Led : σ → List (Addr × Obj)} {ps : σ → List (Str × Value)} {P : σ → Prop} (c : σ) {h' : Heap} {tk : Nat} {m' : Str → Option Value} {news' : List (Addr × Obj)}
    (F : Fr h₀ L h' m') (N : News h₀ L h' news') (hk : NamesAre m' (ps c)) (hn : ∀ p ∈ Led c, p ∈ news') (ho : ∀ p ∈ own, p ∈ news') (hp : P c) :
    MyEnd h₀ L s own Led ps P { s with heap := h', toks := tk } := ⟨c, h', tk, m', news', rfl, F, N, hn, ho, hk, hp⟩
theorem kst_fr {h₀ : Heap} {L : Addr} {h : Heap} {ps : List (Str × Value)} {m₁ : Str → Option Value} (h1 : ∀ p ∈ ps, m₁ p.1 = some p.2) (F : Fr h₀ L h m₁) : Fr h₀ L h (kstB m₁ ps) := by
  have em : kstB m₁ ps = m₁ := by
    funext y
    exact kstB_eq h1 fun _ => rfl
  rw [em]; exact F
section
variable {prog : Program} {w : World} {A : Around} {E : Value → Shared → Prop} {s : Shared} {env : Env} {h₀ : Heap} {L : Addr} {Q : Flow → Shared → Prop}
/-- a piece whose ways meet -/
theorem my_cut {σ : Type} {c : Sem Flow} (Led : σ → List (Addr × Obj)) (ps : σ → List (Str × Value)) (P : σ → Prop) (h₀ : Heap) (L : Addr)
    (h : wpAny (model prog w) A c (MyCut h₀ L s Led ps P Q) E s)
    (k : ∀ (c : σ) (u : Str → Option Value) h tk, P c → Fr h₀ L h (kstB u (ps c)) → News h₀ L h (Led c) → Q .next { s with heap := h, toks := tk }) : wpAny (model prog w) A c Q E s := by
  refine wpAny_mono h (fun f s₂ hf => ?_) fun _ _ x => x
  cases f with
  | ret v => exact hf
  | brk => exact hf
  | next =>
    obtain ⟨c, h', tk, m', news', rfl, F, N, hn, _, hk, hp⟩ := hf
    exact k c m' h' tk hp (kst_fr hk F) (fun p hp => N p (hn p hp))
  | cont => exact hf
theorem my_cut0 {σ : Type} {c : Sem Flow} {m₀ : Str → Option Value} {news : List (Addr × Obj)} (ps : σ → List (Str × Value)) (P : σ → Prop) (_F : Fr h₀ L s.heap m₀) (_N : News h₀ L s.heap news)
    (h : wpAny (model prog w) A c (MyCut h₀ L s (fun _ => news) ps P Q) E s)
    (k : ∀ (c : σ) (u : Str → Option Value) h tk, P c → Fr h₀ L h (kstB u (ps c)) → News h₀ L h news → Q .next { s with heap := h, toks := tk }) : wpAny (model prog w) A c Q E s :=
  my_cut (fun _ => news) ps P h₀ L h k
theorem my_while {σ : Type} {test : Expr} {body : List Stmt} {pos : Pos} {m₀ : Str → Option Value} (Led : σ → List (Addr × Obj)) (ps : σ → List (Str × Value)) (P X : σ → Prop) (μ : σ → Nat) (c₀ : σ)
    (F : Fr h₀ L s.heap m₀) (N : News h₀ L s.heap (Led c₀)) (hk : ∀ p ∈ ps c₀, m₀ p.1 = some p.2) (hp : P c₀)
    (turn : ∀ (c : σ) (u : Str → Option Value) h tk, P c → Fr h₀ L h (kstB u (ps c)) → News h₀ L h (Led c) →
      wpAny (model prog w) A (isTrue test env (eval test env)) (fun b s₂ =>
        if b = true then wpAny (model prog w) A (execs body env) (MyPost h₀ L s [] Led ps (fun c' => P c' ∧ μ c' < μ c) Q) E s₂ else MyEnd h₀ L s [] Led ps X s₂) E { s with heap := h, toks := tk })
    (done : ∀ (c : σ) (u : Str → Option Value) h tk, X c → Fr h₀ L h (kstB u (ps c)) → News h₀ L h (Led c) → Q .next { s with heap := h, toks := tk })
    (hE : PassesOwn (model prog w) A env E) :
    wpAny (model prog w) A (exec (.While test body [] pos) env) Q E s := by
  refine While_inv2 (fun n m nx => ∃ c : σ, nx = Led c ∧ μ c = n ∧ (∀ p ∈ ps c, m p.1 = some p.2) ∧ P c) F N ⟨c₀, rfl, rfl, hk, hp⟩ ?_ hE
  rintro n m₁ nx h tk F₁ N₁ ⟨c, rfl, rfl, h1, hp'⟩
  refine wpAny_mono (turn c m₁ h tk hp' (kst_fr h1 F₁) N₁) (fun b s₂ p => ?_) fun _ _ x => x
  cases b with
  | false =>
    simp only [Bool.false_eq_true, if_false] at p ⊢
    obtain ⟨c, h', tk, m', news', rfl, F, N, hn, _, hk, hp⟩ := p
    exact done c m' h' tk hp (kst_fr hk F) (fun p hp => N p (hn p hp))
  | true =>
    simp only [if_true] at p ⊢
    refine wpAny_mono p (fun f s₃ q => ?_) fun _ _ x => x
    cases f with
    | ret v => exact q
    | brk => exact q
    | next =>
      obtain ⟨c', h', tk', m', news', rfl, F', N', hn, _, hk9, hp9, hm9⟩ := q
      exact ⟨h', tk', m', Led c', μ c', rfl, F', fun p hp => N' p (hn p hp), hm9, c', rfl, rfl, hk9, hp9⟩
    | cont =>
      obtain ⟨c', h', tk', m', news', rfl, F', N', hn, _, hk9, hp9, hm9⟩ := q
      exact ⟨h', tk', m', Led c', μ c', rfl, F', fun p hp => N' p (hn p hp), hm9, c', rfl, rfl, hk9, hp9⟩
section
variable {x : Str} {body : List Stmt}
/-- a loop over what walks, its target a local name; returns allowed -/
theorem my_loopV {σ : Type} {I : Addr} {fp wr : List Addr} {n : Nat} {V : Nat → Value → Prop} {St : Nat → Heap → Prop} {m₀ : Str → Option Value}
    (Led : σ → List (Addr × Obj)) (ps : σ → List (Str × Value)) (P : Nat → σ → Prop) (c₀ : σ) (hadr : ∀ c, (Led c).map (·.1) = (Led c₀).map (·.1))
    (W : Walks prog w A I fp wr n V St) (hLf : env.locals ∉ fp) (hwr : ∀ b ∈ wr, h₀.get? b = none) (hnw : ∀ p ∈ Led c₀, p.1 ∉ wr) (hfp : ∀ q ∈ Led c₀, q.1 ∉ fp) (hst : St 0 s.heap)
    (F : Fr h₀ env.locals s.heap m₀) (N : News h₀ env.locals s.heap (Led c₀)) (hk : ∀ p ∈ ps c₀, m₀ p.1 = some p.2) (hp : P 0 c₀)
    (turn : ∀ i v (c : σ) (u : Str → Option Value) h tk own, i < n → V i v → OwnOff own ((Led c).map (·.1)) → P i c →
      Fr h₀ env.locals h (fun y => if y = x then some v else kstB u (ps c) y) → News h₀ env.locals h (Led c ++ own) →
      wpAny (model prog w) A (execs body env) (MyPost h₀ env.locals { s with heap := h, toks := tk } own Led ps (P (i + 1)) Q) E { s with heap := h, toks := tk })
    (done : ∀ (c : σ) (u : Str → Option Value) h tk, P n c → Fr h₀ env.locals h (kstB u (ps c)) → News h₀ env.locals h (Led c) → Q .next { s with heap := h, toks := tk }) :
    LoopAtV prog w A h₀ env x body Q E (.ref I) s := by
  refine loop_invN (fun i m nx => ∃ c : σ, nx = Led c ∧ (∀ p ∈ ps c, m p.1 = some p.2) ∧ P i c) W hLf hwr hnw hfp hst F N ⟨c₀, rfl, hk, hp⟩ ?_ ?_
  · rintro i v m₁ nx h tk own hi hv ha hoff ⟨c, rfl, h1, hp'⟩ F₁ N₁
    have em : kstB m₁ (ps c) = m₁ := by
      funext y
      exact kstB_eq h1 fun _ => rfl
    refine wpAny_mono (turn i v c m₁ h tk own hi hv (by rw [ha]; exact hoff) hp' (by rw [em]; exact F₁) N₁) (fun f s₂ q => ?_) fun _ _ x => x
    have go : MyEnd h₀ env.locals { s with heap := h, toks := tk } own Led ps (P (i + 1)) s₂ →
        InvEndN h₀ env.locals (fun m nx => ∃ c : σ, nx = Led c ∧ (∀ p ∈ ps c, m p.1 = some p.2) ∧ P (i + 1) c) own ((Led c₀).map (·.1)) { s with heap := h, toks := tk } s₂ := by
      rintro ⟨c', h', tk', m', news', rfl, F', N', hn, ho, hk9, hp9⟩
      exact ⟨h', tk', m', news', Led c', rfl, F', N', hn, ho, hadr c', c', rfl, hk9, hp9⟩
    cases f with
    | ret v => exact q
    | brk => exact q
    | next => exact go q
    | cont => exact go q
  · rintro m₁ nx h tk ⟨c, rfl, h1, hp'⟩ F₁ N₁
    exact done c m₁ h tk hp' (kst_fr h1 F₁) N₁
theorem my_rangeV {σ : Type} {r : Addr} {a₀ b₀ : Int} {t₀ u₀ v₀ : Tok} {m₀ : Str → Option Value}
    (Led : σ → List (Addr × Obj)) (ps : σ → List (Str × Value)) (n : Nat) (P : Nat → σ → Prop) (c₀ : σ) (hadr : ∀ c, (Led c).map (·.1) = (Led c₀).map (·.1))
    (hh : A.handled = none) (hr : IsRange s.heap r a₀ b₀ 1 t₀ u₀ v₀) (hsmall : Builtin.Range.small a₀ b₀ 1 = true) (hn : Builtin.Range.rangeSize a₀ b₀ 1 = (n : Int))
    (F : Fr h₀ env.locals s.heap m₀) (N : News h₀ env.locals s.heap (Led c₀)) (hk : ∀ p ∈ ps c₀, m₀ p.1 = some p.2) (hp : P 0 c₀)
    (turn : ∀ i t (c : σ) (u : Str → Option Value) h tk own, i < n → OwnOff own ((Led c).map (·.1)) → P i c →
      Fr h₀ env.locals h (fun y => if y = x then some (.int (a₀ + (i : Int)) t) else kstB u (ps c) y) → News h₀ env.locals h (Led c ++ own) →
      wpAny (model prog w) A (execs body env) (MyPost h₀ env.locals { s with heap := h, toks := tk } own Led ps (P (i + 1)) Q) E { s with heap := h, toks := tk })
    (done : ∀ (c : σ) (u : Str → Option Value) h tk, P n c → Fr h₀ env.locals h (kstB u (ps c)) → News h₀ env.locals h (Led c) → Q .next { s with heap := h, toks := tk }) :
    wpAny (model prog w) A (pyIter (.ref r)) (fun it s₂ => LoopAtV prog w A h₀ env x body Q E it s₂) E s := by
  refine wpAny_pyIter_range hr hsmall ?_
  have W := Walks.range (prog := prog) (w := w) hh s.heap.objs.size a₀ 1 n
  refine my_loopV Led ps P c₀ hadr W ?_ ?_ ?_ ?_ (by show IsRangeIter _ _ _ _ _; rw [hn]; simpa using Heap.get?_push_size _ rfl) (F.push _) (fun p hp => ⟨Heap.get?_push_of_some _ (N p hp).1, (N p hp).2⟩) hk hp ?_ ?_
  · intro hm
    exact absurd F.ns.lt ((List.mem_singleton.mp hm) ▸ Nat.lt_irrefl _)
  · intro b hb
    rw [List.mem_singleton.mp hb]
    exact next_is_new F
  · intro p hp hI
    exact absurd (Heap.lt_size (N p hp).1) ((List.mem_singleton.mp hI) ▸ Nat.lt_irrefl _)
  · intro p hp hI
    exact absurd (Heap.lt_size (N p hp).1) ((List.mem_singleton.mp hI) ▸ Nat.lt_irrefl _)
  · rintro i v c u h tk own hi ⟨t, rfl⟩ hoff hp' F₁ N₁
    have e1 : a₀ + (i : Int) * 1 = a₀ + (i : Int) := by omega
    rw [e1] at F₁
    exact turn i t c u h tk own hi hoff hp' F₁ N₁
  · intro c u h tk hp' F₁ N₁
    exact done c u h tk hp' F₁ N₁
/-- a loop over a list of ints of the ledger, which stays -/
theorem my_intsV {σ : Type} {l : Addr} {vs : List Value} {ns : List Int} {nn : Nat} {m₀ : Str → Option Value}
    (Led : σ → List (Addr × Obj)) (ps : σ → List (Str × Value)) (P : Nat → σ → Prop) (c₀ : σ)
    (hh : A.handled = none) (hl : ∀ c, (l, listOf vs.toArray nn) ∈ Led c) (hi : IntsAre vs ns) (hadr : ∀ c, (Led c).map (·.1) = (Led c₀).map (·.1))
    (F : Fr h₀ env.locals s.heap m₀) (N : News h₀ env.locals s.heap (Led c₀)) (hk : ∀ p ∈ ps c₀, m₀ p.1 = some p.2) (hp : P 0 c₀)
    (turn : ∀ i k t (c : σ) (u : Str → Option Value) h tk own, ns[i]? = some k → OwnOff own ((Led c).map (·.1)) → P i c →
      Fr h₀ env.locals h (fun y => if y = x then some (.int k t) else kstB u (ps c) y) → News h₀ env.locals h (Led c ++ own) →
      wpAny (model prog w) A (execs body env) (MyPost h₀ env.locals { s with heap := h, toks := tk } own Led ps (P (i + 1)) Q) E { s with heap := h, toks := tk })
    (done : ∀ (c : σ) (u : Str → Option Value) h tk, P ns.length c → Fr h₀ env.locals h (kstB u (ps c)) → News h₀ env.locals h (Led c) → Q .next { s with heap := h, toks := tk }) :
    wpAny (model prog w) A (pyIter (.ref l)) (fun it s₂ => LoopAtV prog w A h₀ env x body Q E it s₂) E s := by
  refine iter_invNL (fun i m nx => ∃ c : σ, nx = Led c ∧ (∀ p ∈ ps c, m p.1 = some p.2) ∧ P i c) hh (hl c₀) hi F N ⟨c₀, rfl, hk, hp⟩ ?_ ?_
  · rintro i k t m₁ nx h tk own hki ha hoff _ ⟨c, rfl, h1, hp'⟩ F₁ N₁
    have em : kstB m₁ (ps c) = m₁ := by
      funext y
      exact kstB_eq h1 fun _ => rfl
    refine wpAny_mono (turn i k t c m₁ h tk own hki (by rw [ha]; exact hoff) hp' (by rw [em]; exact F₁) N₁) (fun f s₂ q => ?_) fun _ _ x => x
    have go : MyEnd h₀ env.locals { s with heap := h, toks := tk } own Led ps (P (i + 1)) s₂ →
        InvEndN h₀ env.locals (fun m nx => (l, listOf vs.toArray nn) ∈ nx ∧ ∃ c : σ, nx = Led c ∧ (∀ p ∈ ps c, m p.1 = some p.2) ∧ P (i + 1) c) own ((Led c₀).map (·.1)) { s with heap := h, toks := tk } s₂ := by
      rintro ⟨c', h', tk', m', news', rfl, F', N', hn, ho, hk9, hp9⟩
      exact ⟨h', tk', m', news', Led c', rfl, F', N', hn, ho, hadr c', hl c', c', rfl, hk9, hp9⟩
    cases f with
    | ret v => exact q
    | brk => exact q
    | next => exact go q
    | cont => exact go q
  · rintro m₁ nx h tk _ ⟨c, rfl, h1, hp'⟩ F₁ N₁
    exact done c m₁ h tk hp' (kst_fr h1 F₁) N₁
/-- a loop over a list of its own, which is forgotten behind it -/
theorem my_listV {σ : Type} {D : Addr} {vs : List Value} {nn : Nat} {m₀ : Str → Option Value} {news : List (Addr × Obj)}
    (Led : σ → List (Addr × Obj)) (ps : σ → List (Str × Value)) (P : Nat → σ → Prop) (c₀ : σ) (hadr : ∀ c, (Led c).map (·.1) = (Led c₀).map (·.1))
    (hh : A.handled = none) (F : Fr h₀ env.locals s.heap m₀) (N : News h₀ env.locals s.heap news) (hD : (D, listOf vs.toArray nn) ∈ news) (hL : ∀ p ∈ Led c₀, p ∈ news) (hne : ∀ p ∈ Led c₀, p.1 ≠ D) (hk : ∀ p ∈ ps c₀, m₀ p.1 = some p.2) (hp : P 0 c₀)
    (turn : ∀ i v (c : σ) (u : Str → Option Value) h tk own, i < vs.length → vs[i]? = some v → OwnOff own ((Led c).map (·.1)) → P i c →
      Fr h₀ env.locals h (fun y => if y = x then some v else kstB u (ps c) y) → News h₀ env.locals h (Led c ++ own) →
      wpAny (model prog w) A (execs body env) (MyPost h₀ env.locals { s with heap := h, toks := tk } own Led ps (P (i + 1)) Q) E { s with heap := h, toks := tk })
    (done : ∀ (c : σ) (u : Str → Option Value) h tk, P vs.length c → Fr h₀ env.locals h (kstB u (ps c)) → News h₀ env.locals h (Led c) → Q .next { s with heap := h, toks := tk }) :
    wpAny (model prog w) A (pyIter (.ref D)) (fun it s₂ => LoopAtV prog w A h₀ env x body Q E it s₂) E s := by
  have hol : s.heap.get? D = some (listOf vs.toArray nn) := (N _ hD).1
  have hls : s.heap.IsList D vs.toArray := ⟨_, hol, rfl, nn, rfl⟩
  have hne' : D ≠ s.heap.objs.size := Nat.ne_of_lt (Heap.lt_size hol)
  refine wpAny_pyIter_list hls ?_
  have W := Walks.list (prog := prog) (w := w) hh s.heap.objs.size D hne' vs.toArray
  rw [List.size_toArray] at W
  refine my_loopV Led ps P c₀ hadr W ?_ ?_ ?_ ?_ ⟨⟨_, Heap.get?_push_size _ rfl, rfl, rfl⟩, hls.at fun o e => Heap.get?_push_of_some _ e⟩ (F.push _) (fun p hp => ⟨Heap.get?_push_of_some _ (N p (hL p hp)).1, (N p (hL p hp)).2⟩) hk hp ?_ ?_
  · intro hm
    rcases List.mem_cons.mp hm with e | hm
    · exact absurd F.ns.lt (e ▸ Nat.lt_irrefl _)
    · exact (N _ hD).2.1 ((List.mem_singleton.mp hm).symm)
  · intro b hb
    rw [List.mem_singleton.mp hb]
    exact next_is_new F
  · intro p hp hI
    exact absurd (Heap.lt_size (N p (hL p hp)).1) ((List.mem_singleton.mp hI) ▸ Nat.lt_irrefl _)
  · intro p hp hI
    rcases List.mem_cons.mp hI with e | hm
    · exact absurd (Heap.lt_size (N p (hL p hp)).1) (e ▸ Nat.lt_irrefl _)
    · exact hne p hp (List.mem_singleton.mp hm)
  · intro i v c u h tk own hi hv hoff hp' F₁ N₁
    exact turn i v c u h tk own hi (by simpa using hv) hoff hp' F₁ N₁
  · intro c u h tk hp' F₁ N₁
    exact done c u h tk hp' F₁ N₁
end
end
noncomputable def MyPostT {σ : Type} (h₀ : Heap) (L : Addr) (s : Shared) (own : List (Addr × Obj)) (Led : σ → List (Addr × Obj)) (ps : σ → List (Str × Value)) (P : σ → Prop) (f : Flow) (s₂ : Shared) : Prop :=
  match f with
  | .next => MyEnd h₀ L s own Led ps P s₂
  | _ => False
section
variable {prog : Program} {w : World} {A : Around} {E : Value → Shared → Prop} {s : Shared} {env : Env} {h₀ : Heap} {L : Addr} {Q : Flow → Shared → Prop} {target : PySem.Expr} {body : List Stmt}
theorem go_name {x : Str} {px : Pos} {it v : Value} {Q' : Unit → Shared → Prop} {s' : Shared} (h : Q' () s') : wpAny (model prog w) A (letOwnedTupleGo (.Name x px) it v) Q' E s' := by
  unfold letOwnedTupleGo
  exact wpAny_pure h
end
theorem names_nil {m' : Str → Option Value} : NamesAre m' [] := fun _ h => nomatch h
theorem names_cons {m' : Str → Option Value} {x : Str} {v : Value} {ps : List (Str × Value)} (h : m' x = some v) (t : NamesAre m' ps) : NamesAre m' ((x, v) :: ps) := by
  intro p hp
  rcases List.mem_cons.mp hp with rfl | hp
  · exact h
  · exact t p hp
theorem name_here {x : Str} {v w : Option Value} {r : Option Value} (e : v = w) : (if x = x then v else r) = w := by rw [if_pos rfl, e]
theorem name_next {x y : Str} {v w r : Option Value} (h : x ≠ y) (e : r = w) : (if x = y then v else r) = w := by rw [if_neg h, e]
theorem mem_eqE {l l' : List (Addr × Obj)} (e : l = l') : ∀ p ∈ l, p ∈ l' := fun _ h => e ▸ h
theorem mem_appE {l l' own : List (Addr × Obj)} (e : l = l') : ∀ p ∈ l, p ∈ l' ++ own := fun _ h => List.mem_append_left _ (e ▸ h)
theorem mem_tailE {l l' : List (Addr × Obj)} {x : Addr × Obj} (e : ∀ p ∈ l, p ∈ l') : ∀ p ∈ l, p ∈ x :: l' := fun p h => .tail _ (e p h)
theorem mem_nilE {l' : List (Addr × Obj)} : ∀ p ∈ ([] : List (Addr × Obj)), p ∈ l' := fun _ h => nomatch h
theorem mem_rightE {l own : List (Addr × Obj)} : ∀ p ∈ own, p ∈ l ++ own := fun _ h => List.mem_append_right _ h
end
section
open PySem PySem.W PyProof.Rows PySem.Calls PyProof.V PySem.Spec
noncomputable def S (xs : List Nat) : Str := ⟨xs.toArray⟩
theorem S_toList (xs : List Nat) : (S xs).cps.toList = xs := by simp [S]
theorem S_len (xs : List Nat) : (S xs).length = xs.length := by simp [S, Str.length]
theorem S_inj {xs ys : List Nat} (h : S xs = S ys) : xs = ys := by rw [← S_toList xs, h, S_toList]
theorem S_beq (xs ys : List Nat) : (S xs == S ys) = (xs == ys) := by
  by_cases h : xs = ys
  · subst h; simp
  · have : S xs ≠ S ys := fun e => h (S_inj e)
    rw [beq_eq_false_iff_ne.mpr this, beq_eq_false_iff_ne.mpr h]
theorem slice_from (xs : List Nat) (k : Int) (h : 0 ≤ k) (h2 : k ≤ xs.length) : Txt.slice (S xs) (some k) none = S (xs.drop k.toNat) := by
  rw [slice_from_eq (b := xs.length) h (by rw [S_len]; exact h2) (by rw [S_len])]
  rw [S_toList]
  unfold S
  congr 2
  rw [List.take_of_length_le]
  simp; omega
theorem item_at (xs : List Nat) (k : Int) (h : 0 ≤ k) (h2 : k < xs.length) : Txt.item (S xs) k = S [xs[k.toNat]'(by omega)] := by
  refine item_meets h ?_
  have h3 : k.toNat < xs.length := by omega
  simp [S, h3]
noncomputable def lcp : List Nat → List Nat → Nat
  | x :: xs, y :: ys => if x == y then lcp xs ys + 1 else 0
  | _, _ => 0
theorem lcp_eq {xs ys : List Nat} {k : Nat} (h1 : k < xs.length) (h2 : k < ys.length) (h : xs[k] = ys[k]) : lcp (xs.drop k) (ys.drop k) = lcp (xs.drop (k+1)) (ys.drop (k+1)) + 1 := by
  rw [List.drop_eq_getElem_cons h1, List.drop_eq_getElem_cons h2]
  simp [lcp, h]
theorem lcp_ne {xs ys : List Nat} {k : Nat} (h1 : k < xs.length) (h2 : k < ys.length) (h : xs[k] ≠ ys[k]) : lcp (xs.drop k) (ys.drop k) = 0 := by
  rw [List.drop_eq_getElem_cons h1, List.drop_eq_getElem_cons h2]
  simp [lcp, h]
theorem lcp_end1 {xs ys : List Nat} {k : Nat} (h1 : xs.length ≤ k) : lcp (xs.drop k) (ys.drop k) = 0 := by
  rw [List.drop_eq_nil_of_le h1]; simp [lcp]
theorem lcp_end2 {xs ys : List Nat} {k : Nat} (h1 : ys.length ≤ k) : lcp (xs.drop k) (ys.drop k) = 0 := by
  rw [List.drop_eq_nil_of_le h1]; cases xs.drop k <;> simp [lcp]
/-- the word of the first loop -/
structure PreP (xs ys : List Nat) (k : Int) : Prop where
  h0 : 0 ≤ k
  h1 : k ≤ xs.length
  h2 : k ≤ ys.length
  h3 : k.toNat + lcp (xs.drop k.toNat) (ys.drop k.toNat) = lcp xs ys
theorem PreP.start (xs ys : List Nat) : PreP xs ys 0 := ⟨by omega, by omega, by omega, by simp⟩
theorem PreP.turn {xs ys : List Nat} {k : Int} (P : PreP xs ys k) (h1 : k < xs.length) (h2 : k < ys.length) (h : (Txt.item (S xs) k == Txt.item (S ys) k) = true) : PreP xs ys (k+1) := by
  obtain ⟨a0, a1, a2, a3⟩ := P
  rw [item_at xs k a0 h1, item_at ys k a0 h2, S_beq] at h
  have e : xs[k.toNat]'(by omega) = ys[k.toNat]'(by omega) := by simpa using h
  refine ⟨by omega, by omega, by omega, ?_⟩
  rw [lcp_eq (by omega) (by omega) e] at a3
  rw [show (k+1).toNat = k.toNat + 1 by omega]
  omega
theorem PreP.out1 {xs ys : List Nat} {k : Int} (P : PreP xs ys k) (h : (xs.length : Int) ≤ k) : PreP xs ys k ∧ k.toNat = lcp xs ys := ⟨P, by
  have a3 := P.h3
  rw [lcp_end1 (by omega)] at a3; omega⟩
theorem PreP.out2 {xs ys : List Nat} {k : Int} (P : PreP xs ys k) (h : (ys.length : Int) ≤ k) : PreP xs ys k ∧ k.toNat = lcp xs ys := ⟨P, by
  have a3 := P.h3
  rw [lcp_end2 (by omega)] at a3; omega⟩
theorem PreP.out3 {xs ys : List Nat} {k : Int} (P : PreP xs ys k) (h1 : k < xs.length) (h2 : k < ys.length) (h : (Txt.item (S xs) k == Txt.item (S ys) k) = false) : PreP xs ys k ∧ k.toNat = lcp xs ys := ⟨P, by
  obtain ⟨a0, a1, a2, a3⟩ := P
  rw [item_at xs k a0 h1, item_at ys k a0 h2, S_beq] at h
  have e : xs[k.toNat]'(by omega) ≠ ys[k.toNat]'(by omega) := by simpa using h
  rw [lcp_ne (by omega) (by omega) e] at a3; omega⟩
theorem slice_to (xs : List Nat) (k : Int) (h : 0 ≤ k) (h2 : k ≤ xs.length) : Txt.slice (S xs) none (some k) = S (xs.take k.toNat) := by
  have e := beq_iff_eq.mp (slice_closes_to (x := S xs) (j := k) ⟨h, by rw [S_toList]; exact h2⟩)
  rw [e, S_toList]
  unfold S
  simp
theorem slice_to_neg (xs : List Nat) (k : Int) (h : k < 0) (h2 : 0 ≤ xs.length + k) : Txt.slice (S xs) none (some k) = S (xs.take (xs.length + k).toNat) := by
  have e : Txt.slice (S xs) none (some k) = Txt.slice (S xs) none (some (xs.length + k)) := by
    unfold Txt.slice
    have e2 : Builtin.Str.strSliceIndices none (some k) 1 (S xs).length = Builtin.Str.strSliceIndices none (some (xs.length + k)) 1 (S xs).length := by
      rw [S_len]
      have h3 : ¬ ((xs.length : Int) + k < 0) := by omega
      simp only [Builtin.Str.strSliceIndices, h, h3, if_true, if_false]
      rw [Int.add_comm k]
    rw [e2]
  rw [e, slice_to xs _ h2 (by omega)]
theorem slice_all (xs : List Nat) : Txt.slice (S xs) none none = S xs := by
  have e : Txt.slice (S xs) none none = Txt.slice (S xs) none (some xs.length) := by
    unfold Txt.slice
    have e2 : Builtin.Str.strSliceIndices none none 1 (S xs).length = Builtin.Str.strSliceIndices none (some (xs.length : Int)) 1 (S xs).length := by
      rw [S_len]
      have h3 : ¬ ((xs.length : Int) < 0) := by omega
      simp [Builtin.Str.strSliceIndices, h3]
    rw [e2]
  rw [e, slice_to xs _ (by omega) (by omega)]
  simp
theorem item_neg (xs : List Nat) (k : Int) (h : k < 0) (h2 : 0 ≤ xs.length + k) : Txt.item (S xs) k = S [xs[(xs.length + k).toNat]'(by omega)] := by
  have e : Txt.item (S xs) k = Txt.item (S xs) (xs.length + k) := by
    unfold Txt.item Txt.charAt
    have e2 : seqIndex? k (S xs).length = seqIndex? (xs.length + k) (S xs).length := by
      rw [S_len]
      have h3 : ¬ ((xs.length : Int) + k < 0) := by omega
      simp only [seqIndex?, h, h3, if_true, if_false]
      rw [Int.add_comm k]
    rw [e2]
  rw [e, item_at xs _ h2 (by omega)]
/-- common end, after j -/
noncomputable def lcs (xs ys : List Nat) : Nat := lcp xs.reverse ys.reverse
noncomputable def cutR (xs : List Nat) (k : Int) : List Nat := xs.take (xs.length + k).toNat
structure PostP (xs ys : List Nat) (k : Int) : Prop where
  h0 : k ≤ 0
  h1 : 0 ≤ xs.length + k
  h2 : 0 ≤ ys.length + k
  h3 : (-k).toNat + lcp (xs.reverse.drop (-k).toNat) (ys.reverse.drop (-k).toNat) = lcs xs ys
theorem PostP.start (xs ys : List Nat) : PostP xs ys 0 := ⟨by omega, by omega, by omega, by simp [lcs]⟩
theorem revIx {n : Nat} {k : Int} (h0 : k ≤ 0) (h1 : 0 < n + k) : n - 1 - (-k).toNat = (n + (k-1)).toNat := by omega
theorem PostP.turn {xs ys : List Nat} {k : Int} (P : PostP xs ys k) (h1 : 0 < xs.length + k) (h2 : 0 < ys.length + k) (h : (Txt.item (S xs) (k-1) == Txt.item (S ys) (k-1)) = true) : PostP xs ys (k-1) := by
  obtain ⟨a0, a1, a2, a3⟩ := P
  rw [item_neg xs (k-1) (by omega) (by omega), item_neg ys (k-1) (by omega) (by omega), S_beq] at h
  have e : xs[(xs.length + (k-1)).toNat]'(by omega) = ys[(ys.length + (k-1)).toNat]'(by omega) := by simpa using h
  refine ⟨by omega, by omega, by omega, ?_⟩
  have e1 : xs.reverse[(-k).toNat]'(by simp; omega) = ys.reverse[(-k).toNat]'(by simp; omega) := by
    rw [List.getElem_reverse, List.getElem_reverse]
    have q1 : xs.length - 1 - (-k).toNat = (xs.length + (k-1)).toNat := revIx a0 h1
    have q2 : ys.length - 1 - (-k).toNat = (ys.length + (k-1)).toNat := revIx a0 h2
    simp only [q1, q2]; exact e
  rw [lcp_eq _ _ e1] at a3
  rw [show (-(k-1)).toNat = (-k).toNat + 1 by omega]
  omega
theorem PostP.out1 {xs ys : List Nat} {k : Int} (P : PostP xs ys k) (h : (xs.length : Int) + k = 0) : PostP xs ys k ∧ (-k).toNat = lcs xs ys := ⟨P, by
  have a3 := P.h3
  rw [lcp_end1 (by simp; omega)] at a3; omega⟩
theorem PostP.out2 {xs ys : List Nat} {k : Int} (P : PostP xs ys k) (h : (ys.length : Int) + k = 0) : PostP xs ys k ∧ (-k).toNat = lcs xs ys := ⟨P, by
  have a3 := P.h3
  rw [lcp_end2 (by simp; omega)] at a3; omega⟩
theorem PostP.out3 {xs ys : List Nat} {k : Int} (P : PostP xs ys k) (h1 : 0 < xs.length + k) (h2 : 0 < ys.length + k) (h : (Txt.item (S xs) (k-1) == Txt.item (S ys) (k-1)) = false) : PostP xs ys k ∧ (-k).toNat = lcs xs ys := ⟨P, by
  obtain ⟨a0, a1, a2, a3⟩ := P
  rw [item_neg xs (k-1) (by omega) (by omega), item_neg ys (k-1) (by omega) (by omega), S_beq] at h
  have e : xs[(xs.length + (k-1)).toNat]'(by omega) ≠ ys[(ys.length + (k-1)).toNat]'(by omega) := by simpa using h
  have e1 : xs.reverse[(-k).toNat]'(by simp; omega) ≠ ys.reverse[(-k).toNat]'(by simp; omega) := by
    rw [List.getElem_reverse, List.getElem_reverse]
    have q1 : xs.length - 1 - (-k).toNat = (xs.length + (k-1)).toNat := revIx a0 h1
    have q2 : ys.length - 1 - (-k).toNat = (ys.length + (k-1)).toNat := revIx a0 h2
    simp only [q1, q2]; exact e
  rw [lcp_ne _ _ e1] at a3; omega⟩
noncomputable def inner (cost : Nat → Nat → Int) (c : Nat) : List Nat → List Int → Int → Int → Int → List Int × Int × Int
  | a :: as, r :: rs, dist, res, mn =>
    let res' := min (min res r + 2) (dist + cost c a)
    let q := inner cost c as rs r res' (if res' < mn then res' else mn)
    (res' :: q.1, q.2)
  | _, _, _, res, mn => ([], res, mn)
noncomputable def outer (cost : Nat → Nat → Int) (as : List Nat) (mc : Int) : List Nat → Int → List Int → Int → Int
  | [], _, _, res => res
  | c :: bs, i, row, _ =>
    let q := inner cost c as row (i * 2) (i * 2) 9223372036854775807
    if q.2.2 > mc then mc + 1 else outer cost as mc bs (i + 1) q.1 q.2.1
noncomputable def row0 (n : Nat) : List Int := (List.range n).map fun (k : Nat) => 2 * ((k : Int) + 1)
noncomputable def lev4 (cost : Nat → Nat → Int) (as bs : List Nat) (mc : Int) : Int :=
  if ((bs.length : Int) - as.length) * 2 > mc then mc + 1 else outer cost as mc bs 0 (row0 as.length) 0
noncomputable def lev3 (cost : Nat → Nat → Int) (as bs : List Nat) (mc : Int) : Int :=
  if as = [] ∨ bs = [] then 2 * (as.length + bs.length) else if bs.length < as.length then lev4 cost bs as mc else lev4 cost as bs mc
noncomputable def lev2 (cost : Nat → Nat → Int) (xs ys : List Nat) (mc : Int) : Int := lev3 cost (cutR xs (-(lcs xs ys))) (cutR ys (-(lcs xs ys))) mc
noncomputable def lev (cost : Nat → Nat → Int) (xs ys : List Nat) (mc : Int) : Int := if xs == ys then 0 else lev2 cost (xs.drop (lcp xs ys)) (ys.drop (lcp xs ys)) mc
noncomputable def substCost (a b : Str) : Int := if a == b then 0 else if Txt.lower a == Txt.lower b then 1 else 2
noncomputable def cst (c a : Nat) : Int := substCost (S [c]) (S [a])
theorem cutR_zero (xs : List Nat) (k : Int) (h : k = 0) : cutR xs k = xs := by
  subst h; unfold cutR; rw [List.take_of_length_le]; omega
theorem cutR_length (xs : List Nat) (k : Int) (h : k ≤ 0) (h2 : 0 ≤ xs.length + k) : ((cutR xs k).length : Int) = xs.length + k := by
  unfold cutR; rw [List.length_take]; omega
theorem lev2_eq {cost : Nat → Nat → Int} {as bs : List Nat} {mc k : Int} (h : k ≤ 0) (hk : (-k).toNat = lcs as bs) : lev2 cost as bs mc = lev3 cost (cutR as k) (cutR bs k) mc := by
  unfold lev2; rw [← hk, show -(((-k).toNat : Nat) : Int) = k by omega]
theorem lev3_nil {cost : Nat → Nat → Int} {as bs : List Nat} {mc : Int} (h : as.length = 0 ∨ bs.length = 0) : lev3 cost as bs mc = 2 * ((as.length : Int) + bs.length) := by
  unfold lev3
  have h' : as = [] ∨ bs = [] := h.imp List.eq_nil_of_length_eq_zero List.eq_nil_of_length_eq_zero
  rw [if_pos h']
theorem lev3_go {cost : Nat → Nat → Int} {as bs : List Nat} {mc : Int} (h1 : as.length ≠ 0) (h2 : bs.length ≠ 0) : lev3 cost as bs mc = lev4 cost (if bs.length < as.length then bs else as) (if bs.length < as.length then as else bs) mc := by
  unfold lev3
  have h' : ¬ (as = [] ∨ bs = []) := fun h => h.elim (fun e => h1 (by rw [e]; rfl)) (fun e => h2 (by rw [e]; rfl))
  rw [if_neg h']
  by_cases h : bs.length < as.length <;> simp [h]
/-- the word of the inner loop -/
structure InP (cost : Nat → Nat → Int) (ch : Nat) (A : List Nat) (R0 : List Int) (d0 r0 m0 : Int) (j : Nat) (row : List Int) (dist res mn : Int) : Prop where
  len : row.length = A.length
  rest : row.drop j = R0.drop j
  val : inner cost ch A R0 d0 r0 m0 = (row.take j ++ (inner cost ch (A.drop j) (R0.drop j) dist res mn).1, (inner cost ch (A.drop j) (R0.drop j) dist res mn).2)
theorem InP.start (cost : Nat → Nat → Int) (ch : Nat) (A : List Nat) (R0 : List Int) (d0 r0 m0 : Int) (h : R0.length = A.length) : InP cost ch A R0 d0 r0 m0 0 R0 d0 r0 m0 := ⟨h, rfl, by simp⟩
theorem InP.turn {cost : Nat → Nat → Int} {ch : Nat} {A : List Nat} {R0 : List Int} {d0 r0 m0 : Int} {j : Nat} {row : List Int} {dist res mn : Int} (P : InP cost ch A R0 d0 r0 m0 j row dist res mn) (hj : j < A.length) {r x mn' : Int} {a : Nat}
    (ha : A[j] = a) (hr : row.getD j 0 = r) (hx : x = min (min res r + 2) (dist + cost ch a)) (hm : mn' = if x < mn then x else mn) : InP cost ch A R0 d0 r0 m0 (j + 1) (row.set j x) r x mn' := by
  obtain ⟨len, rest, val⟩ := P
  have hj1 : j < row.length := by omega
  have hR : R0.length = row.length := by
    have h1 : (row.drop j).length = (R0.drop j).length := by rw [rest]
    simp only [List.length_drop] at h1; omega
  have hj2 : j < R0.length := by omega
  have er : R0[j] = r := by
    have h1 : (row.drop j)[0]? = (R0.drop j)[0]? := by rw [rest]
    simp [hj1, hj2] at h1
    rw [← h1, ← hr]; simp [List.getD, hj1]
  refine ⟨by simpa using len, ?_, ?_⟩
  · have h1 : (row.drop j).drop 1 = (R0.drop j).drop 1 := by rw [rest]
    simp only [List.drop_drop] at h1
    rw [List.drop_set_of_lt (by omega), h1]
  · rw [val, List.drop_eq_getElem_cons hj, List.drop_eq_getElem_cons hj2, er, ha]
    subst hm; subst hx
    simp only [inner]
    rw [List.take_add_one]
    simp [hj1, List.take_set_of_le]
theorem InP.out {cost : Nat → Nat → Int} {ch : Nat} {A : List Nat} {R0 : List Int} {d0 r0 m0 : Int} {row : List Int} {dist res mn : Int} (P : InP cost ch A R0 d0 r0 m0 A.length row dist res mn) : inner cost ch A R0 d0 r0 m0 = (row, res, mn) := by
  obtain ⟨len, rest, val⟩ := P
  rw [val, List.drop_of_length_le (Nat.le_refl _)]
  simp [inner]
  rw [← len, List.take_length]
/-- the word of the outer loop -/
structure OutP (cost : Nat → Nat → Int) (A B : List Nat) (mc : Int) (i : Nat) (row : List Int) (res : Int) : Prop where
  len : row.length = A.length
  val : outer cost A mc (B.drop i) i row res = outer cost A mc B 0 (row0 A.length) 0
theorem OutP.start (cost : Nat → Nat → Int) (A B : List Nat) (mc : Int) : OutP cost A B mc 0 (row0 A.length) 0 := ⟨by simp [row0], rfl⟩
theorem OutP.turn {cost : Nat → Nat → Int} {A B : List Nat} {mc : Int} {i : Nat} {row row' : List Int} {res res' mn : Int} (P : OutP cost A B mc i row res) (hi : i < B.length) {b : Nat} (hb : B[i] = b)
    (h : inner cost b A row (i * 2) (i * 2) 9223372036854775807 = (row', res', mn)) (hl : row'.length = A.length) (hm : ¬ mn > mc) : OutP cost A B mc (i + 1) row' res' := by
  obtain ⟨len, val⟩ := P
  refine ⟨hl, ?_⟩
  rw [← val, List.drop_eq_getElem_cons hi, hb]
  simp only [outer, h]
  rw [if_neg hm]; simp
theorem OutP.early {cost : Nat → Nat → Int} {A B : List Nat} {mc : Int} {i : Nat} {row row' : List Int} {res res' mn : Int} (P : OutP cost A B mc i row res) (hi : i < B.length) {b : Nat} (hb : B[i] = b)
    (h : inner cost b A row (i * 2) (i * 2) 9223372036854775807 = (row', res', mn)) (hm : mn > mc) : outer cost A mc B 0 (row0 A.length) 0 = mc + 1 := by
  obtain ⟨len, val⟩ := P
  rw [← val, List.drop_eq_getElem_cons hi, hb]
  simp only [outer, h]
  rw [if_pos hm]
theorem OutP.out {cost : Nat → Nat → Int} {A B : List Nat} {mc : Int} {row : List Int} {res : Int} (P : OutP cost A B mc B.length row res) : outer cost A mc B 0 (row0 A.length) 0 = res := by
  obtain ⟨len, val⟩ := P
  rw [← val, List.drop_of_length_le (Nat.le_refl _)]
  simp [outer]
theorem lev4_early {cost : Nat → Nat → Int} {A B : List Nat} {mc : Int} (h : ((B.length : Int) - A.length) * 2 > mc) : lev4 cost A B mc = mc + 1 := by unfold lev4; rw [if_pos h]
theorem lev4_go {cost : Nat → Nat → Int} {A B : List Nat} {mc : Int} (h : ¬ ((B.length : Int) - A.length) * 2 > mc) : lev4 cost A B mc = outer cost A mc B 0 (row0 A.length) 0 := by unfold lev4; rw [if_neg h]
theorem min_pick (d c r res : Int) : (if d + c < (if r < res then r else res) + 2 then d + c else (if r < res then r else res) + 2) = min (min res r + 2) (d + c) := by
  rw [Int.min_def, Int.min_def]
  (repeat' split) <;> omega
theorem InP.turnW {ch : Nat} {A : List Nat} {R0 : List Int} {d0 r0 m0 : Int} {j : Nat} {row : List Int} {dist res mn : Int} (P : InP cst ch A R0 d0 r0 m0 j row dist res mn) (hj : j < A.length) {i : Int} (hi : i = (j : Int)) {mn' x : Int}
    (hx : x = if dist + substCost (S [ch]) (Txt.item (S A) i) < (if row.getD i.toNat 0 < res then row.getD i.toNat 0 else res) + 2 then dist + substCost (S [ch]) (Txt.item (S A) i) else (if row.getD i.toNat 0 < res then row.getD i.toNat 0 else res) + 2)
    (hm : (x < mn ∧ mn' = x) ∨ (¬ x < mn ∧ mn' = mn)) : InP cst ch A R0 d0 r0 m0 (j + 1) (row.set i.toNat x) (row.getD i.toNat 0) x mn' := by
  subst hi
  rw [item_at A j (by omega) (by omega)] at hx
  simp only [Int.toNat_natCast] at hx ⊢
  refine P.turn hj rfl rfl ?_ ?_
  · rw [hx, min_pick]; rfl
  · rcases hm with ⟨h1, h2⟩ | ⟨h1, h2⟩
    · rw [if_pos h1, h2]
    · rw [if_neg h1, h2]
end
section
open PySem PySem.W PyProof.Rows PySem.Calls PyProof.V PySem.Spec
section
variable {prog : Program} {w : World} {A : Around} {E : Value → Shared → Prop} {s : Shared} {h₀ : Heap} {L : Addr} {m : Str → Option Value} {news : List (Addr × Obj)} {value slice : PySem.Expr} {t : Tok} {Q : Value → Shared → Prop}
theorem sl_nn {xs : List Nat} (hx : xs.length ≤ 1000) (hF : Fr h₀ L s.heap m) (hN : News h₀ L s.heap news) (h : ∀ h' t' k, Fr h₀ L h' m → News h₀ L h' news → ((S xs).length : Int) = xs.length → Q (.str (S xs) t') { s with heap := h', toks := k })
    (hs : subscripted slice false (.str (S xs) t) (.ref s.heap.objs.size) = operate [.ref s.heap.objs.size, .str (S xs) t] (getItem (.str (S xs) t) (.ref s.heap.objs.size)))
    (ht : ∀ r, letTemporaryGo value (.str (S xs) t) r = pure ()) :
    wpAny (model prog w) A (subscriptTail value slice (.str (S xs) t) (.ref s.heap.objs.size)) Q E { s with heap := s.heap.push { cls := .type "slice", data := .fields #[.none, .none, .none] } } := by
  refine slice_strN_nn_len hF hN (fun h' t' k a b _ => ?_) hs ht (by rw [S_len, sizeLine_eq]; omega)
  rw [slice_all]
  exact h h' t' k a b (by rw [S_len])
theorem cutR_len (xs : List Nat) (k : Int) (h : k ≤ 0) (h2 : 0 ≤ xs.length + k) : ((S (cutR xs k)).length : Int) = xs.length + k := by
  rw [S_len]; unfold cutR; rw [List.length_take]; omega
theorem sl_ns {xs : List Nat} {j : Int} {uj : Tok} (hx : xs.length ≤ 1000) (h1 : j < 0) (h2 : 0 ≤ xs.length + j) (hF : Fr h₀ L s.heap m) (hN : News h₀ L s.heap news) (h : ∀ h' t' k, Fr h₀ L h' m → News h₀ L h' news → ((S (cutR xs j)).length : Int) = xs.length + j → Q (.str (S (cutR xs j)) t') { s with heap := h', toks := k })
    (hs : subscripted slice false (.str (S xs) t) (.ref s.heap.objs.size) = operate [.ref s.heap.objs.size, .str (S xs) t] (getItem (.str (S xs) t) (.ref s.heap.objs.size)))
    (ht : ∀ r, letTemporaryGo value (.str (S xs) t) r = pure ()) :
    wpAny (model prog w) A (subscriptTail value slice (.str (S xs) t) (.ref s.heap.objs.size)) Q E { s with heap := s.heap.push { cls := .type "slice", data := .fields #[.none, .int j uj, .none] } } := by
  refine slice_strN_ns_len hF hN (fun h' t' k a b _ => ?_) hs ht (by rw [S_len, sizeLine_eq]; omega)
  rw [slice_to_neg xs j h1 h2]
  exact h h' t' k a b (cutR_len xs j (by omega) h2)
theorem sl_sn {xs : List Nat} {j : Int} {uj : Tok} (hx : xs.length ≤ 1000) (h1 : 0 ≤ j) (h2 : j ≤ xs.length) (hF : Fr h₀ L s.heap m) (hN : News h₀ L s.heap news) (h : ∀ h' t' k, Fr h₀ L h' m → News h₀ L h' news → ((S (xs.drop j.toNat)).length : Int) = xs.length - j → Q (.str (S (xs.drop j.toNat)) t') { s with heap := h', toks := k })
    (hs : subscripted slice false (.str (S xs) t) (.ref s.heap.objs.size) = operate [.ref s.heap.objs.size, .str (S xs) t] (getItem (.str (S xs) t) (.ref s.heap.objs.size)))
    (ht : ∀ r, letTemporaryGo value (.str (S xs) t) r = pure ()) :
    wpAny (model prog w) A (subscriptTail value slice (.str (S xs) t) (.ref s.heap.objs.size)) Q E { s with heap := s.heap.push { cls := .type "slice", data := .fields #[.int j uj, .none, .none] } } := by
  refine slice_strN_sn_len hF hN (fun h' t' k a b _ => ?_) hs ht (by rw [S_len, sizeLine_eq]; omega)
  rw [slice_from xs j h1 h2]
  exact h h' t' k a b (by rw [S_len, List.length_drop]; omega)
end
theorem ints_of_get : ∀ {us : List Value} {ns : List Int}, us.length = ns.length → (∀ (j : Nat) (v : Value) (n : Int), us[j]? = some v → ns[j]? = some n → ∃ t, v = .int n t) → IntsAre us ns
  | [], [], _, _ => .nil
  | [], _ :: _, h, _ => by cases h
  | _ :: _, [], h, _ => by cases h
  | v :: r, n :: q, h, g => by
    obtain ⟨t, rfl⟩ := g 0 v n rfl rfl
    exact .cons _ _ (ints_of_get (by simpa using h) fun j v n h1 h2 => g (j + 1) v n h1 h2)
theorem row0_len (n : Nat) : (row0 n).length = n := by simp [row0]
theorem row0_get (n j : Nat) (h : j < n) : (row0 n)[j]? = some (2 + (j : Int) * 2) := by
  simp [row0, h]; omega
section
variable {prog : Program} {w : World} {A : Around} {E : Value → Shared → Prop} {s : Shared} {h₀ : Heap} {L : Addr} {m : Str → Option Value} {news : List (Addr × Obj)} {Q : Value → Shared → Prop}
theorem size2 (n : Nat) : Builtin.Range.rangeSize 2 (2 * ((n : Int) + 1)) 2 = (n : Int) := by
  unfold Builtin.Range.rangeSize
  rw [if_pos (by decide)]
  by_cases h : n = 0
  · subst h; rw [if_neg (by omega)]; rfl
  · rw [if_pos (by omega)]; omega
theorem fits_long {x : Int} (h1 : -10000 ≤ x) (h2 : x ≤ 10000) : Builtin.Range.rangeFitsLong x = true := by
  unfold Builtin.Range.rangeFitsLong
  simp only [Bool.and_eq_true, decide_eq_true_eq]
  omega
theorem small2 (n : Nat) (hn : n ≤ 1000) : Builtin.Range.small 2 (2 * ((n : Int) + 1)) 2 = true := by
  unfold Builtin.Range.small
  rw [size2, fits_long (x := 2) (by omega) (by omega), fits_long (x := 2 * ((n : Int) + 1)) (by omega) (by omega), fits_long (x := (n : Int)) (by omega) (by omega), if_pos (by decide), fits_long (by omega) (by omega)]
  simp
theorem list_range2 {r : Addr} {t₀ u₀ v₀ : Tok} {n : Nat} {b : Int} (hh : A.handled = none) (hb : b = 2 * ((n : Int) + 1)) (hn : n ≤ 1000) (F : Fr h₀ L s.heap m) (N : News h₀ L s.heap news) (hr : IsRange s.heap r 2 b 2 t₀ u₀ v₀)
    (h : ∀ D us c h' tk, Fr h₀ L h' m → News h₀ L h' ((D, listOf (List.toArray us) c) :: news) → (∀ p ∈ news, p.1 < D) → IntsAre us (row0 n) → Q (.ref D) { s with heap := h', toks := tk }) :
    wpAny (model prog w) A (call (.type "list") [.ref r]) Q E s := by
  subst hb
  refine call_list_range hh hr (small2 n hn) (size2 n) (by omega) fun h' tk acc c hk hD hI => ?_
  have hD' : h'.get? s.heap.objs.size = some (listOf (List.toArray acc.toList) c) := by
    rw [Array.toArray_toList]
    exact hD
  refine h _ acc.toList c h' tk (F.keeps hk) (news_pushed F N hk hD' rfl) (fun p hp => Heap.lt_size (N p hp).1) (ints_of_get (by rw [Array.length_toList, row0_len]; exact hI.1) fun j v k hj hk' => ?_)
  have hlt : j < n := by
    rcases Nat.lt_or_ge j n with q | q
    · exact q
    · rw [List.getElem?_eq_none (by rw [row0_len]; exact q)] at hk'; cases hk'
  rw [row0_get n j hlt] at hk'
  obtain ⟨t, ht⟩ := hI.2 j v (by rw [← hj, Array.getElem?_toList])
  exact ⟨t, by rw [ht, Option.some.inj hk']⟩
end
structure RC where
  us : List Value
  row : List Int
  cnt : Nat
  res : Int
  tr : Tok
structure RI where
  us : List Value
  row : List Int
  cnt : Nat
  dist : Int
  res : Int
  mn : Int
  td : Tok
  tr : Tok
  tm : Tok
theorem small0 (n : Nat) (hn : n ≤ 1000) : Builtin.Range.small 0 n 1 = true := by
  unfold Builtin.Range.small
  have e : Builtin.Range.rangeSize 0 (n : Int) 1 = (n : Int) := by
    unfold Builtin.Range.rangeSize
    rw [if_pos (by decide)]
    by_cases h : n = 0
    · subst h; rw [if_neg (by omega)]; rfl
    · rw [if_pos (by omega)]; omega
  rw [e, fits_long (x := 0) (by omega) (by omega), fits_long (x := (n : Int)) (by omega) (by omega), fits_long (x := 1) (by omega) (by omega), if_pos (by decide), fits_long (by omega) (by omega)]
  simp
theorem size0 (n : Nat) : Builtin.Range.rangeSize 0 (n : Int) 1 = (n : Int) := by
  unfold Builtin.Range.rangeSize
  rw [if_pos (by decide)]
  by_cases h : n = 0
  · subst h; rw [if_neg (by omega)]; rfl
  · rw [if_pos (by omega)]; omega
theorem item_le40 (x : Str) (i : Int) : (Txt.item x i).length ≤ 40 := Nat.le_trans (Nat.le_of_eq (len_item x i)) (by decide)
theorem upd_own2 {D : Addr} {o o' : Obj} {news own own2 : List (Addr × Obj)} {x y : Obj} (h1 : ∀ p ∈ news, p.1 < D) (h2 : OwnOff own (List.map (·.1) ((D, x) :: news))) (h3 : OwnOff own2 (List.map (·.1) ((D, y) :: news.append own))) :
    Upd D o o' (((D, o) :: news.append own) ++ own2) (((D, o') :: news.append own) ++ own2) := by
  refine Upd.head fun p hp => ?_
  rcases List.mem_append.mp hp with hp | hp
  · rcases List.mem_append.mp hp with hp | hp
    · exact Nat.ne_of_lt (h1 p hp)
    · exact h2 p hp D (List.mem_cons_self ..)
  · exact h3 p hp D (List.mem_cons_self ..)
theorem news_t1 {h₀ h : Heap} {L : Addr} {q : Addr × Obj} {news : List (Addr × Obj)} (N : News h₀ L h (q :: news)) : News h₀ L h news := fun p hp => N p (.tail _ hp)
theorem news_t2 {h₀ h : Heap} {L : Addr} {q : Addr × Obj} {news own : List (Addr × Obj)} (N : News h₀ L h (q :: news.append own)) : News h₀ L h news := fun p hp => N p (.tail _ (List.mem_append_left _ hp))
theorem news_t3 {h₀ h : Heap} {L : Addr} {news own : List (Addr × Obj)} (N : News h₀ L h (news ++ own)) : News h₀ L h news := fun p hp => N p (List.mem_append_left _ hp)
end
section
open PySem PySem.W PyProof.Rows
/-- a call of the def at f, on vs, gives R: whatever stands below, nothing else is turned -/
noncomputable def Claim (lvl : Nat) (w : World) (mean : ExcName → Option Value) (mg mb : Str → Option Value) (f : Addr) (pre : Prop) (vs : List Value) (R : Tok → Value) : Prop :=
  ∀ (news : List (Addr × Obj)) (dp un : Nat) (gd : Option (List Code)) (cn : Str) (cs : Scope) (a : Addr) (ccd : Value) (cl : List (Str × Addr)) (outer : List Env) (A₀ : Around) (base h₀ : Heap) (L : Addr) (m : Str → Option Value) (s : Shared) (Q E : Value → Shared → Prop),
    Below A₀ base outer h₀ → Fr h₀ L s.heap m → (hd.heap_39 w.params).In h₀ → News h₀ L s.heap news → Top hd.view_39 (looseW hd.view_39 []) mean mg mb h₀ → cs.kind = .function →
    pre → dp + lvl < recursionLimit → un + 8 * lvl < cLine → CbRet h₀ L m news s Q R →
    wpAny (model PySem.Challenge.rw_rw0046_02.row.prog w) (ktrTop dp un gd cn cs L a ccd cl outer) (call (.ref f) vs) Q E s
theorem claim_use {lvl : Nat} {w : World} {mean : ExcName → Option Value} {mg mb : Str → Option Value} {f : Addr} {pre : Prop} {vs : List Value} {R : Tok → Value} (C : Claim lvl w mean mg mb f pre vs R)
    {dp un : Nat} {gd : Option (List Code)} {cn : Str} {cs : Scope} {a : Addr} {ccd : Value} {cl : List (Str × Addr)} {outer : List Env} {A₀ : Around} {base h₀ : Heap} {L : Addr} {m : Str → Option Value} {news : List (Addr × Obj)} {s : Shared} {Q E : Value → Shared → Prop}
    (B : Below A₀ base outer h₀) (F : Fr h₀ L s.heap m) (X : (hd.heap_39 w.params).In h₀) (N : News h₀ L s.heap news) (T : Top hd.view_39 (looseW hd.view_39 []) mean mg mb h₀) (hk : cs.kind = .function)
    (hp : pre) (hd : dp + lvl < recursionLimit) (hu : un + 8 * lvl < cLine) (ret : CbRet h₀ L m news s Q R) :
    wpAny (model PySem.Challenge.rw_rw0046_02.row.prog w) (ktrTop dp un gd cn cs L a ccd cl outer) (call (.ref f) vs) Q E s :=
  C news dp un gd cn cs a ccd cl outer A₀ base h₀ L m s Q E B F X N T hk hp hd hu ret
set_option maxRecDepth 100000 in
set_option maxHeartbeats 8000000 in
theorem subst_claim (w : World) (mean) (mg mb) (a b : Str) (ta tb : Tok) : Claim 1 w mean mg mb 21 (a.length ≤ 40 ∧ b.length ≤ 40) [.str a ta, .str b tb] (fun t => .int (substCost a b) t) := by
  unfold Claim
  w_on
  w_strict (
    k_fill
    dsimp only [CbRet]
    intros; rename_i hret
    refine wpAny_call ?_
    (k_dflt cell_enter)
    k_steps
    all_goals (refine cb_retI hret ?_ (by k_asm) (by k_asm))
    all_goals (simp_all [substCost]))
end
local macro_rules | `(tactic| walk_at "my name") => `(tactic| first | ((with_reducible refine name_here ?_); rfl) | (refine name_next (by decide +kernel) ?_; walk_at "my name"))
local macro_rules | `(tactic| walk_at "my names") => `(tactic| first | exact names_nil | ((refine names_cons ?_ ?_); (focus (walk_at "my name")); walk_at "my names"))
local macro_rules | `(tactic| walk_at "my all") => `(tactic| first | exact List.forall_mem_nil _ | (refine List.forall_mem_cons.mpr ⟨by k_mem, ?_⟩; walk_at "my all"))
local macro_rules | `(tactic| walk_at "my sub") => `(tactic| first | ((refine mem_eqE ?_); rfl) | ((refine mem_appE ?_); rfl) | ((refine mem_tailE ?_); walk_at "my sub") | (walk_at "my all") | kst_in)
local macro_rules | `(tactic| walk_at "my own") => `(tactic| first | exact mem_nilE | exact mem_rightE | (refine mem_tailE ?_; walk_at "my own"))
local macro_rules | `(tactic| walk_at "execs cons") => `(tactic| (dsimp only; k_gentoks))
local macro_rules | `(tactic| walk_at "my ask") => `(tactic| ((case k1 => k_asm); (case k2 => k_asm); (case k3 => k_asm); (case k4 => k_asm); (case k5 => k_asm); (case kK => first | exact rfl | assumption); (case kd => ktr_room); (case ku => ktr_units)))
local macro_rules | `(tactic| walk_at "i") => `(tactic| (intros; (try dsimp only)))
section
open PySem PySem.W PyProof.Rows
set_option compiler.extract_closed false
local macro_rules | `(tactic| walk_at "exec While") => `(tactic| refine Stop.mk ?_)
local macro_rules | `(tactic| walk_at "pyIter ref") => `(tactic| refine Stop.mk ?_)
local macro_rules | `(tactic| walk_at "exec Assign") => `(tactic| ((with_reducible show wpAny _ _ (exec (PySem.Stmt.Assign _ (PySem.Expr.Subscript _ (PySem.Expr.Slice _ (some (PySem.Expr.BoolOp _ _ _)) _ _) _) _) _) _ _ _); refine Stop.mk ?_))
local macro_rules | `(tactic| walk_at "subscriptTail Name Slice str ref") => `(tactic| ((with_reducible rename Fr _ _ _ _ => F'); (with_reducible rename News _ _ _ _ => N'); (first | refine sl_nn (s := ⟨_, _, _, _, _⟩) (by omega) F' N' ?_ (by with_unfolding_all rfl) (by intro _; with_unfolding_all rfl) | refine sl_ns (s := ⟨_, _, _, _, _⟩) (by omega) (by omega) (by omega) F' N' ?_ (by with_unfolding_all rfl) (by intro _; with_unfolding_all rfl) | refine sl_sn (s := ⟨_, _, _, _, _⟩) (by omega) (by omega) (by omega) F' N' ?_ (by with_unfolding_all rfl) (by intro _; with_unfolding_all rfl)); walk_at "i"))
local macro_rules | `(tactic| walk_at "exec If") => `(tactic| ((with_reducible show wpAny _ _ (exec (PySem.Stmt.If _ (PySem.Stmt.Assign [PySem.Expr.Tuple _ _ _] _ _ :: _) _ _) _) _ _ _); refine Stop.mk ?_))
local macro_rules | `(tactic| walk_at "call type:list") => `(tactic| ((rename IsRange _ _ _ _ _ _ _ _ => rgX); (with_unfolding_all refine' list_range2 ?k0 ?kb ?kn ?k1 ?k2 rgX ?_; (case k0 => rfl); (case k1 => k_asm); (case k2 => k_asm); (case kb => assumption); (case kn => omega)); intro D' vs' c' h' tk' F' N' l1 hI'; (try k_lt l1); (try k_sweep)))
local macro_rules | `(tactic| walk_at "exec For Name Call cons nil") => `(tactic| ((rename Fr _ _ _ _ => lF'); (with_unfolding_all refine' For_invVF lF' (by exact rfl) (by exact rfl) ?_)))
local macro_rules | `(tactic| walk_at "call ref") => `(tactic| (k_dflt (refine' claim_use (subst_claim _ _ _ _ _ _ _ _) ?k1 ?k2 ?k3 ?k4 ?k5 ?kK ?kp ?kd ?ku ?_; (case kp => exact ⟨by first | omega | exact item_le40 _ _, by first | omega | exact item_le40 _ _⟩); walk_at "my ask"); intro t9 h9 tk9 F9 N9; (try dsimp only); (try k_fold)))
local macro_rules | `(tactic| walk_at "setItem ref int") => `(tactic| (k_dflt (refine' ksa_set (by k_asm) (by k_asm) (by exact upd_own2 (by assumption) (by assumption) (by assumption)) (by with_reducible assumption) (by ksa_idx) (by ksa_idx) (by ksa_idx) ?_); intro h' F' N' hi' hl' hs'; (try k_sweep)))
theorem hideP {M : Model} {A : Around} {E : Value → Shared → Prop} {s : Shared} {α : Type} {c : Sem α} {Q : α → Shared → Prop} (h : ∀ QQ : α → Shared → Prop, QQ = Q → wpAny M A c QQ E s) : wpAny M A c Q E s := h Q rfl
theorem hideW {M : Model} {A : Around} {E E' : Value → Shared → Prop} {s : Shared} {c : Sem Bool} {d : Sem Flow} {Q : Flow → Shared → Prop} {R : Shared → Prop} (h : ∀ (QQ : Flow → Shared → Prop) (RR : Shared → Prop), QQ = Q → RR = R → wpAny M A c (fun b s₂ => if b = true then wpAny M A d QQ E' s₂ else RR s₂) E s) :
    wpAny M A c (fun b s₂ => if b = true then wpAny M A d Q E' s₂ else R s₂) E s := h Q R rfl rfl
set_option maxRecDepth 100000 in
set_option maxHeartbeats 8000000 in
theorem lev_claim (w : World) (mean) (mg mb) (xs ys : List Nat) (ta tb : Tok) (mc : Int) (tm : Tok) : Claim 2 w mean mg mb 28 ((S xs).length ≤ 40 ∧ (S ys).length ≤ 40) [.str (S xs) ta, .str (S ys) tb, .int mc tm] (fun t => .int (lev cst xs ys mc) t) := by
  unfold Claim
  w_on
  w_strict (
    k_fill
    dsimp only [CbRet]
    intros; rename_i hS _ _ hret
    refine wpAny_call ?_
    (k_dflt cell_enter)
    k_steps
    · refine cb_retI hret ?_ (by k_asm) (by k_asm)
      rename (S xs == S ys) = true => he
      rw [S_beq] at he
      simp [lev, he]
    · rename (S xs == S ys) = false => he
      rw [S_beq] at he
      have hl : lev cst xs ys mc = lev2 cst (xs.drop (lcp xs ys)) (ys.drop (lcp xs ys)) mc := by simp only [lev, he]; rfl
      rw [hl] at hret
      clear hl
      refine Stop.out ?_
      rename Fr _ _ _ _ => F1
      rename News _ _ _ _ => N1
      refine my_while (hE := by passes_own) (σ := Int × Tok) (fun _ => _) (fun c => [(Str.ofString "pre", .int c.1 c.2), (Str.ofString "a", .str (S xs) ta), (Str.ofString "b", .str (S ys) tb), (Str.ofString "max_cost", .int mc tm)])
        (fun c => PreP xs ys c.1) (fun c => PreP xs ys c.1 ∧ c.1.toNat = lcp xs ys) (fun c => (S xs).length - c.1.toNat) (0, _) F1 N1 (by with_unfolding_all kst_all) (PreP.start xs ys) ?_ ?_
      · clear F1 N1
        rintro ⟨k, t⟩ u h tk hP F1 N1
        dsimp only [kstB] at F1 hP ⊢
        refine hideW ?_
        intro QQ RR hQQ hRR
        have hx := S_len xs
        have hy := S_len ys
        have k0 := hP.h0
        have k1 := hP.h1
        have k2 := hP.h2
        k_steps
        all_goals (subst hQQ; subst hRR)
        · dsimp only [MyPost]
          (rename Fr _ _ _ _ => fE; rename News _ _ _ _ => nE; (refine' my_end ⟨_, _⟩ fE nE ?e1 ?e2 ?e3 ?_); (case e1 => walk_at "my names"); (case e2 => walk_at "my sub"); (case e3 => first | exact mem_nilE | exact mem_rightE | (walk_at "my own") | kst_in); (try dsimp only))
          have q1 : k < xs.length := by omega
          have q2 : k < ys.length := by omega
          exact ⟨PreP.turn hP q1 q2 (by assumption), by omega⟩
        · (rename Fr _ _ _ _ => fE; rename News _ _ _ _ => nE; (refine' my_end ⟨_, _⟩ fE nE ?e1 ?e2 ?e3 ?_); (case e1 => walk_at "my names"); (case e2 => walk_at "my sub"); (case e3 => first | exact mem_nilE | exact mem_rightE | (walk_at "my own") | kst_in); (try dsimp only))
          exact PreP.out3 hP (by omega) (by omega) (by assumption)
        · (rename Fr _ _ _ _ => fE; rename News _ _ _ _ => nE; (refine' my_end ⟨_, _⟩ fE nE ?e1 ?e2 ?e3 ?_); (case e1 => walk_at "my names"); (case e2 => walk_at "my sub"); (case e3 => first | exact mem_nilE | exact mem_rightE | (walk_at "my own") | kst_in); (try dsimp only))
          exact PreP.out2 hP (by omega)
        · (rename Fr _ _ _ _ => fE; rename News _ _ _ _ => nE; (refine' my_end ⟨_, _⟩ fE nE ?e1 ?e2 ?e3 ?_); (case e1 => walk_at "my names"); (case e2 => walk_at "my sub"); (case e3 => first | exact mem_nilE | exact mem_rightE | (walk_at "my own") | kst_in); (try dsimp only))
          exact PreP.out1 hP (by omega)
      · clear F1 N1
        rintro ⟨k, t⟩ u h tk ⟨hP, hk⟩ F1 N1
        dsimp only [kstB] at F1 hP hk ⊢
        have hx := S_len xs
        have hy := S_len ys
        have k0 := hP.h0
        have k1 := hP.h1
        have k2 := hP.h2
        k_steps
        refine Stop.out ?_
        rename Fr _ _ _ _ => F2
        rename News _ _ _ _ => N2
        rw [hk] at F2
        have l1 : (S (xs.drop (lcp xs ys))).length ≤ 40 := by rw [S_len, List.length_drop]; omega
        have l2 : (S (ys.drop (lcp xs ys))).length ≤ 40 := by rw [S_len, List.length_drop]; omega
        generalize xs.drop (lcp xs ys) = as at *
        generalize ys.drop (lcp xs ys) = bs at *
        clear hP hk k0 k1 k2 hx hy
        refine my_while (hE := by passes_own) (σ := Int × Tok) (fun _ => _) (fun c => [(Str.ofString "post", .int c.1 c.2), (Str.ofString "a", .str (S as) _), (Str.ofString "b", .str (S bs) _), (Str.ofString "max_cost", .int mc tm)])
          (fun c => PostP as bs c.1) (fun c => PostP as bs c.1 ∧ (-c.1).toNat = lcs as bs) (fun c => ((S as).length + c.1).toNat) (0, _) F2 N2 (by with_unfolding_all kst_all) (PostP.start as bs) ?_ ?_
        · clear F2 N2
          rintro ⟨k, t⟩ u h tk hP F1 N1
          dsimp only [kstB] at F1 hP ⊢
          refine hideW ?_
          intro QQ RR hQQ hRR
          have hx := S_len as
          have hy := S_len bs
          have k0 := hP.h0
          have k1 := hP.h1
          have k2 := hP.h2
          k_steps
          all_goals (subst hQQ; subst hRR)
          all_goals first
            | (exfalso; omega)
            | (dsimp only [MyPost]; (rename Fr _ _ _ _ => fE; rename News _ _ _ _ => nE; (refine' my_end ⟨_, _⟩ fE nE ?e1 ?e2 ?e3 ?_); (case e1 => walk_at "my names"); (case e2 => walk_at "my sub"); (case e3 => first | exact mem_nilE | exact mem_rightE | (walk_at "my own") | kst_in); (try dsimp only)); exact ⟨PostP.turn hP (by omega) (by omega) (by assumption), by omega⟩)
            | ((rename Fr _ _ _ _ => fE; rename News _ _ _ _ => nE; (refine' my_end ⟨_, _⟩ fE nE ?e1 ?e2 ?e3 ?_); (case e1 => walk_at "my names"); (case e2 => walk_at "my sub"); (case e3 => first | exact mem_nilE | exact mem_rightE | (walk_at "my own") | kst_in); (try dsimp only)); first | exact PostP.out1 hP (by omega) | exact PostP.out2 hP (by omega) | exact PostP.out3 hP (by omega) (by omega) (by assumption))
        · clear F2 N2
          rintro ⟨k, t⟩ u h tk ⟨hP, hk⟩ F1 N1
          dsimp only [kstB] at F1 hP hk ⊢
          have hx := S_len as
          have hy := S_len bs
          have k0 := hP.h0
          have k1 := hP.h1
          have k2 := hP.h2
          have z1 := cutR_length as k k0 k1
          have z2 := cutR_length bs k k0 k2
          k_steps
          rw [lev2_eq k0 hk] at hret
          refine Stop.out ?_
          rename Fr _ _ _ _ => F3
          rename News _ _ _ _ => N3
          refine my_cut0 (σ := Tok × Tok) (fun c => [(Str.ofString "post", .int k t), (Str.ofString "a", .str (S (cutR as k)) c.1), (Str.ofString "b", .str (S bs) c.2), (Str.ofString "max_cost", .int mc tm)]) (fun _ => True) F3 N3 ?_ ?_
          · refine hideP ?_
            intro QC hQC
            refine wpAny_Assign_Name ?_
            k_steps
            all_goals (subst hQC; (try dsimp only [MyCut]))
            all_goals (try rw [cutR_zero as k (by omega)])
            all_goals (rename Fr _ _ _ _ => fE; rename News _ _ _ _ => nE; (refine' my_end ⟨_, _⟩ fE nE ?e1 ?e2 ?e3 ?_); (case e1 => walk_at "my names"); (case e2 => walk_at "my sub"); (case e3 => first | exact mem_nilE | exact mem_rightE | (walk_at "my own") | kst_in); (try dsimp only))
          · clear F3 N3
            rintro ⟨t9, t9'⟩ u9 h9 tk9 _ F3 N3
            dsimp only [kstB] at F3
            try dsimp only
            k_steps
            refine Stop.out ?_
            refine my_cut0 (σ := Tok × Tok) (fun c => [(Str.ofString "post", .int k t), (Str.ofString "a", .str (S (cutR as k)) c.1), (Str.ofString "b", .str (S (cutR bs k)) c.2), (Str.ofString "max_cost", .int mc tm)]) (fun _ => True) F3 N3 ?_ ?_
            · refine hideP ?_
              intro QC hQC
              refine wpAny_Assign_Name ?_
              k_steps
              all_goals (subst hQC; (try dsimp only [MyCut]))
              all_goals (try rw [cutR_zero bs k (by omega)])
              all_goals (rename Fr _ _ _ _ => fE; rename News _ _ _ _ => nE; (refine' my_end ⟨_, _⟩ fE nE ?e1 ?e2 ?e3 ?_); (case e1 => walk_at "my names"); (case e2 => walk_at "my sub"); (case e3 => first | exact mem_nilE | exact mem_rightE | (walk_at "my own") | kst_in); (try dsimp only))
            · clear F3 N3
              rintro ⟨t8, t8'⟩ u8 h8 tk8 _ F3 N3
              dsimp only [kstB] at F3
              try dsimp only
              have l1 : (S (cutR as k)).length ≤ 40 := by rw [S_len]; omega
              have l2 : (S (cutR bs k)).length ≤ 40 := by rw [S_len]; omega
              generalize cutR as k = as' at *
              generalize cutR bs k = bs' at *
              clear z1 z2 k0 k1 k2 hx hy hP hk
              have hx := S_len as'
              have hy := S_len bs'
              k_steps
              rotate_left
              · refine cb_retI hret ?_ (by k_asm) (by k_asm)
                rw [lev3_nil (by omega), hx, hy]
              · refine cb_retI hret ?_ (by k_asm) (by k_asm)
                rw [lev3_nil (by omega), hx, hy]
              rw [lev3_go (by omega) (by omega)] at hret
              refine Stop.out ?_
              refine my_cut0 (σ := Tok × Tok) (fun c => [(Str.ofString "a", .str (S (if bs'.length < as'.length then bs' else as')) c.1), (Str.ofString "b", .str (S (if bs'.length < as'.length then as' else bs')) c.2), (Str.ofString "max_cost", .int mc tm)]) (fun _ => True) F3 N3 ?_ ?_
              · refine hideP ?_
                intro QC hQC
                refine wpAny_If ?_
                k_steps
                all_goals (subst hQC; (try dsimp only [MyCut]))
                · rw [if_pos (show bs'.length < as'.length by omega), if_pos (show bs'.length < as'.length by omega)]
                  (rename Fr _ _ _ _ => fE; rename News _ _ _ _ => nE; (refine' my_end ⟨_, _⟩ fE nE ?e1 ?e2 ?e3 ?_); (case e1 => walk_at "my names"); (case e2 => walk_at "my sub"); (case e3 => first | exact mem_nilE | exact mem_rightE | (walk_at "my own") | kst_in); (try dsimp only))
                · rw [if_neg (show ¬ bs'.length < as'.length by omega), if_neg (show ¬ bs'.length < as'.length by omega)]
                  (rename Fr _ _ _ _ => fE; rename News _ _ _ _ => nE; (refine' my_end ⟨_, _⟩ fE nE ?e1 ?e2 ?e3 ?_); (case e1 => walk_at "my names"); (case e2 => walk_at "my sub"); (case e3 => first | exact mem_nilE | exact mem_rightE | (walk_at "my own") | kst_in); (try dsimp only))
              · clear F3 N3
                rintro ⟨t8, t8'⟩ u8 h8 tk8 _ F3 N3
                dsimp only [kstB] at F3
                try dsimp only
                have l1' : (if bs'.length < as'.length then bs' else as').length ≤ 40 := by split <;> omega
                have l2' : (if bs'.length < as'.length then as' else bs').length ≤ 40 := by split <;> omega
                have l3' : (if bs'.length < as'.length then bs' else as').length ≤ (if bs'.length < as'.length then as' else bs').length := by split <;> omega
                have l4' : 0 < (if bs'.length < as'.length then bs' else as').length := by split <;> omega
                generalize (if bs'.length < as'.length then bs' else as') = A at *
                generalize (if bs'.length < as'.length then as' else bs') = B at *
                have hA := S_len A
                have hB := S_len B
                have hb9 : 2 * (((S A).length : Int) + 1) = 2 * ((A.length : Int) + 1) := by rw [hA]
                k_steps
                · refine cb_retI hret ?_ (by k_asm) (by k_asm)
                  rw [hA, hB] at *
                  rw [lev4_early (by omega)]
                rw [lev4_go (by omega)] at hret
                refine Stop.out ?_
                rename Fr _ _ _ _ => F4
                rename News _ _ _ _ => N4
                rename IsRange _ _ _ _ _ _ _ _ => rgX
                refine my_rangeV (σ := RC) (fun c => (_, listOf c.us.toArray c.cnt) :: _)
                  (fun c => [(Str.ofString "result", .int c.res c.tr), (Str.ofString "row", .ref _), (Str.ofString "a", .str (S A) t8), (Str.ofString "b", .str (S B) t8'), (Str.ofString "max_cost", .int mc tm)])
                  (S B).length (fun i c => IntsAre c.us c.row ∧ OutP cst A B mc i c.row c.res) ⟨_, row0 A.length, _, 0, _⟩ (fun _ => rfl) rfl rgX (small0 _ (by omega)) (size0 _) F4 N4 (by with_unfolding_all kst_all) ⟨by assumption, OutP.start _ _ _ _⟩ ?_ ?_
                · clear F4 N4 rgX
                  rintro i t ⟨us, row, cnt, res, tr⟩ u h tk own hi hoff ⟨hI, hP⟩ F5 N5
                  dsimp only [kstB] at F5 N5 hI hP hoff ⊢
                  refine hideP ?_
                  intro QO hQO
                  k_steps
                  refine Stop.out ?_
                  rename Fr _ _ _ _ => F6
                  rename News _ _ _ _ => N6
                  rename IsRange _ _ _ _ _ _ _ _ => rgX
                  obtain ⟨ch, hch⟩ : ∃ ch, B[i] = ch := ⟨_, rfl⟩
                  have hit : Txt.item (S B) (i : Int) = S [ch] := by rw [item_at B i (by omega) (by omega), ← hch]; rfl
                  simp only [Int.zero_add, hit] at F6
                  have hc1 := S_len [ch]
                  rw [List.length_singleton] at hc1
                  refine my_rangeV (σ := RI) (fun c => (_, listOf c.us.toArray c.cnt) :: _)
                    (fun c => [(Str.ofString "distance", .int c.dist c.td), (Str.ofString "result", .int c.res c.tr), (Str.ofString "minimum", .int c.mn c.tm), (Str.ofString "row", .ref _), (Str.ofString "bchar", .str (S [ch]) _), (Str.ofString "bindex", .int i t), (Str.ofString "a", .str (S A) t8), (Str.ofString "b", .str (S B) t8'), (Str.ofString "max_cost", .int mc tm)])
                    (S A).length (fun j c => IntsAre c.us c.row ∧ InP cst ch A row (i * 2) (i * 2) 9223372036854775807 j c.row c.dist c.res c.mn) ⟨_, row, _, i * 2, i * 2, 9223372036854775807, _, _, _⟩ (fun _ => rfl) rfl rgX (small0 _ (by omega)) (size0 _) F6 N6 (by with_unfolding_all kst_all) ⟨by assumption, InP.start _ _ _ _ _ _ _ hP.len⟩ ?_ ?_
                  · clear F6 N6 rgX
                    rintro j t2 ⟨us2, row2, cnt2, dist, res2, mn, td, tr2, tm2⟩ u h tk own2 hj hoff2 ⟨hI2, hP2⟩ F7 N7
                    dsimp only [kstB] at F7 N7 hI2 hP2 hoff2 ⊢
                    refine hideP ?_
                    intro QI hQI
                    have hl2 : row2.length = A.length := hP2.len
                    k_steps
                    all_goals (subst hQI; (try dsimp only [MyPost]))
                    · (rename Fr _ _ _ _ => fE; rename News _ _ _ _ => nE; (refine' my_end ⟨_, _, _, _, _, _, _, _, _⟩ fE nE ?e1 ?e2 ?e3 ?_); (case e1 => walk_at "my names"); (case e2 => walk_at "my sub"); (case e3 => first | exact mem_nilE | exact mem_rightE | (walk_at "my own") | kst_in); (try dsimp only))
                      refine ⟨by assumption, ?_⟩
                      exact hP2.turnW (i := 0 + (j : Int)) (by omega) (by omega) rfl (.inl ⟨by assumption, rfl⟩)
                    · (rename Fr _ _ _ _ => fE; rename News _ _ _ _ => nE; (refine' my_end ⟨_, _, _, _, _, _, _, _, _⟩ fE nE ?e1 ?e2 ?e3 ?_); (case e1 => walk_at "my names"); (case e2 => walk_at "my sub"); (case e3 => first | exact mem_nilE | exact mem_rightE | (walk_at "my own") | kst_in); (try dsimp only))
                      refine ⟨by assumption, ?_⟩
                      exact hP2.turnW (i := 0 + (j : Int)) (by omega) (by omega) rfl (.inr ⟨by first | assumption | exact Int.not_lt.mpr (by assumption) | omega, rfl⟩)
                  · clear F6 N6 rgX
                    rintro ⟨us2, row2, cnt2, dist, res2, mn, td, tr2, tm2⟩ u h tk ⟨hI2, hP2⟩ F7 N7
                    dsimp only [kstB] at F7 N7 hI2 hP2 ⊢
                    have hl2 : row2.length = A.length := hP2.len
                    rw [hA] at hP2
                    have hin := hP2.out
                    k_steps
                    · subst hQO
                      dsimp only
                      dsimp only [MyPost]
                      k_steps
                      refine cb_retI hret ?_ (by k_asm) (news_t2 (by assumption))
                      rw [hP.early (by omega) hch hin (by omega)]
                    · subst hQO
                      dsimp only [MyPost]
                      (rename Fr _ _ _ _ => fE; rename News _ _ _ _ => nE; (refine' my_end ⟨_, _, _, _, _⟩ fE nE ?e1 ?e2 ?e3 ?_); (case e1 => walk_at "my names"); (case e2 => walk_at "my sub"); (case e3 => first | exact mem_nilE | exact mem_rightE | (walk_at "my own") | kst_in); (try dsimp only))
                      refine ⟨by assumption, ?_⟩
                      exact hP.turn (by omega) hch hin hl2 (by omega)
                · clear F4 N4 rgX
                  rintro ⟨us, row, cnt, res, tr⟩ u h tk ⟨hI, hP⟩ F5 N5
                  dsimp only [kstB] at F5 N5 hI hP ⊢
                  rw [hB] at hP
                  have hout := hP.out
                  k_steps
                  refine cb_retI hret ?_ (by k_asm) (news_t1 (by assumption))
                  rw [hout])
end
section
open PySem PySem.W PyProof.Rows PySem.Calls PyProof.V PySem.Spec PySem.Builtin PySem.Builtin.Str
noncomputable def wantOf (cs : List Nat) : List Nat := [46, 46, 46] ++ cs.flatMap fun c => [c, 46, 46, 46]
noncomputable def isSub : List Nat → List Nat → Bool
  | [], _ => true
  | _ :: _, [] => false
  | c :: cs, t :: ts => if c == t then isSub cs ts else isSub (c :: cs) ts
theorem isSub_none {c : Nat} {cs : List Nat} : ∀ {ts : List Nat}, (∀ t ∈ ts, t ≠ c) → isSub (c :: cs) ts = false
  | [], _ => rfl
  | t :: ts, h => by
    have h1 : ¬ (c == t) = true := by simpa using (h t (List.mem_cons_self ..)).symm
    rw [isSub, if_neg h1]
    exact isSub_none fun x hx => h x (List.mem_cons_of_mem _ hx)
theorem isSub_found {c : Nat} {cs : List Nat} : ∀ (q : Nat) {ts : List Nat}, ts[q]? = some c → (∀ j, j < q → ts[j]? ≠ some c) → isSub (c :: cs) ts = isSub cs (ts.drop (q + 1))
  | 0, [], h, _ => by cases h
  | 0, t :: ts, h, _ => by
    have e : t = c := by simpa using h
    subst e
    simp [isSub]
  | q + 1, [], h, _ => by cases h
  | q + 1, t :: ts, h, g => by
    have h1 : ¬ (c == t) = true := by
      have := g 0 (Nat.succ_pos _)
      simpa using fun e : c = t => this (by simp [e])
    rw [isSub, if_neg h1]
    rw [isSub_found q (by simpa using h) fun j hj => by simpa using g (j + 1) (by omega)]
    simp
theorem from_nn {n : Nat} {i : Int} (h : 0 ≤ i) : fromIndex n i = i.toNat := by
  unfold fromIndex; rw [if_neg (by omega)]; omega
theorem gives_find4 (x y : Str) (i : Int) (t u v z : Tok) : Gives («str.find» ⟨[.str x t, .str y u, .int i v, .int x.length z], []⟩) (.int (Txt.find3 x y i)) := by
  have e : min (fromIndex x.length (x.length : Int)) x.length = x.length := by rw [from_nn (by omega)]; simp
  show Gives (match occurrences x y (fromIndex x.length i) (min (fromIndex x.length (x.length : Int)) x.length) 1 with | k :: _ => retInt k | [] => (do rule "str.find.not-found"; retInt (-1))) _
  rw [e]
  unfold Txt.find3
  cases occurrences x y (fromIndex x.length i) x.length 1 with
  | nil => exact .rule (.of_eq rfl)
  | cons k _ => exact .of_eq rfl
theorem call_find4 {prog : Program} {w : World} {A : Around} {E : Value → Shared → Prop} {s : Shared} {x y : Str} {t u v z : Tok} {i j : Int} {Q : Value → Shared → Prop} (hj : j = x.length)
    (hq : Q (.int (Txt.find3 x y i) s.toks) { s with toks := s.toks + 1 }) : wpAny (model prog w) A (call (.builtin "str.find") [.str x t, .str y u, .int i v, .int j z]) Q E s := by
  subst hj
  exact call_gives F.slot_str_find (typeIs_str _ _ _) F.entry_str_find (F.args_str_find_4 _ _ _ _) (gives_find4 x y i t u v z) hq
theorem find_nil {ts : List Nat} {i : Int} (h0 : 0 ≤ i) (h1 : i ≤ ts.length) : Txt.find3 (S ts) (S []) i = i := by
  unfold Txt.find3
  have hat : ∀ k, k ≤ ts.length → StrLaws.At (S ts) (S []) (S ts).length k := fun k hk => ⟨by rw [S_len, S_len]; simpa using hk, by
    unfold subAt
    simp [S, Str.length]⟩
  rcases StrLaws.occ_head_from (S ts) (S []) (fromIndex (S ts).length i) 1 (Nat.le_refl 1) with ⟨_, hn⟩ | ⟨k, r, h0', hlo, hk, hn⟩
  · exact absurd (hat i.toNat (by omega)) (hn _ (by rw [from_nn h0]; exact Nat.le_refl _))
  · rw [h0']
    rw [from_nn h0] at hlo hn
    have : k = i.toNat := by
      rcases Nat.lt_or_ge i.toNat k with h | h
      · exact absurd (hat i.toNat (by omega)) (hn i.toNat (Nat.le_refl _) h)
      · omega
    subst this
    show ((i.toNat : Nat) : Int) = i
    omega
/-- the word of the loop over the pieces -/
structure ElP (cs ts : List Nat) (i : Nat) (p : Int) : Prop where
  h0 : 0 ≤ p
  h1 : p ≤ ts.length
  h2 : isSub (cs.drop (i - 1)) (ts.drop p.toNat) = isSub cs ts
theorem ElP.start (cs ts : List Nat) : ElP cs ts 0 0 := ⟨by omega, by omega, by simp⟩
noncomputable def pieces (cs : List Nat) : List Str := S [] :: (cs.map fun c => S [c]) ++ [S []]
theorem pieces_len (cs : List Nat) : (pieces cs).length = cs.length + 2 := by simp [pieces]
theorem ElP.turn {cs ts : List Nat} {i : Nat} {p : Int} (P : ElP cs ts i p) {y : Str} (hy : (pieces cs)[i]? = some y) :
    (Txt.find3 (S ts) y p < 0 → isSub cs ts = false) ∧ (¬ Txt.find3 (S ts) y p < 0 → ElP cs ts (i + 1) (Txt.find3 (S ts) y p + y.length)) := by
  obtain ⟨h0, h1, h2⟩ := P
  have empty : y = S [] → (i = 0 ∨ i = cs.length + 1) → (Txt.find3 (S ts) y p < 0 → isSub cs ts = false) ∧ (¬ Txt.find3 (S ts) y p < 0 → ElP cs ts (i + 1) (Txt.find3 (S ts) y p + y.length)) := by
    rintro rfl hi
    rw [find_nil h0 h1]
    refine ⟨fun h => by omega, fun _ => ⟨by rw [S_len]; simp; omega, by rw [S_len]; simp; omega, ?_⟩⟩
    rw [S_len]
    rw [← h2]
    have e : (p + (([] : List Nat).length : Nat)).toNat = p.toNat := by simp
    rw [e]
    rcases hi with rfl | rfl
    · rfl
    · rw [List.drop_of_length_le (show cs.length ≤ cs.length + 1 + 1 - 1 by omega), List.drop_of_length_le (show cs.length ≤ cs.length + 1 - 1 by omega)]
  unfold pieces at hy
  rcases Nat.lt_trichotomy i (cs.length + 1) with hi | hi | hi
  · cases i with
    | zero => exact empty (by simpa using hy.symm) (.inl rfl)
    | succ i =>
      have hc : i < cs.length := by omega
      have hy' : y = S [cs[i]] := by
        rw [List.cons_append, List.getElem?_cons_succ, List.getElem?_append_left (by simpa using hc), List.getElem?_map, List.getElem?_eq_getElem hc] at hy
        simpa using hy.symm
      subst hy'
      have e1 : cs.drop (i + 1 - 1) = cs[i] :: cs.drop (i + 1) := by rw [Nat.add_sub_cancel]; exact List.drop_eq_getElem_cons hc
      rw [e1] at h2
      rcases StrLaws.find3_spec (S ts) cs[i] p with ⟨h, hn⟩ | ⟨k, h, hlo, hlt, hk, hn⟩
      · have h' : Txt.find3 (S ts) (S [cs[i]]) p = -1 := h
        rw [h']
        refine ⟨fun _ => ?_, fun h => absurd (by decide) h⟩
        rw [← h2]
        refine isSub_none fun t ht e => ?_
        obtain ⟨j, hj, hjt⟩ := List.mem_iff_getElem.mp ht
        rw [List.getElem_drop] at hjt
        rw [List.length_drop] at hj
        rw [from_nn h0, S_len] at hn
        refine hn (p.toNat + j) (by omega) (by omega) ?_
        rw [← e, ← hjt]
        simp [S, Array.getD]
        rw [dif_pos (by omega)]
      · have h' : Txt.find3 (S ts) (S [cs[i]]) p = (k : Int) := h
        rw [h']
        rw [from_nn h0] at hlo hn
        rw [S_len] at hlt
        have hget : ∀ v, v < ts.length → (S ts).cps.getD v 0 = ts.getD v 0 := fun v hv => by simp [S, Array.getD, List.getD, hv]
        refine ⟨fun h => by omega, fun _ => ⟨by omega, by rw [S_len]; simp; omega, ?_⟩⟩
        rw [S_len, ← h2]
        have e2 : ((k : Int) + (([cs[i]] : List Nat).length : Nat)).toNat = k + 1 := by rw [List.length_singleton]; omega
        rw [e2]
        rw [isSub_found (k - p.toNat) (ts := ts.drop p.toNat) ?_ ?_]
        · rw [List.drop_drop, show i + 1 + 1 - 1 = i + 1 by omega]
          congr 2; omega
        · rw [List.getElem?_drop, show p.toNat + (k - p.toNat) = k by omega]
          rw [hget k hlt] at hk
          simp [List.getD, hlt] at hk
          rw [List.getElem?_eq_getElem hlt, hk]
        · intro j hj e
          rw [List.getElem?_drop] at e
          have hj2 : p.toNat + j < ts.length := by omega
          refine hn (p.toNat + j) (by omega) (by omega) ?_
          rw [hget _ hj2]
          simp [List.getD, e]
  · refine empty ?_ (.inr hi)
    subst hi
    rw [List.getElem?_append_right (by simp)] at hy
    simp at hy
    exact hy.symm
  · rw [List.getElem?_eq_none (by simp; omega)] at hy
    cases hy
theorem pieces_short {cs : List Nat} {i : Nat} {y : Str} (h : (pieces cs)[i]? = some y) : y.length ≤ 1 := by
  have hm := List.mem_of_getElem? h
  unfold pieces at hm
  rcases List.mem_append.mp hm with hm | hm
  · rcases List.mem_cons.mp hm with rfl | hm
    · rw [S_len]; simp
    · obtain ⟨c, _, rfl⟩ := List.mem_map.mp hm
      rw [S_len]; simp
  · rw [List.mem_singleton.mp hm, S_len]; simp
theorem ElP.out {cs ts : List Nat} {p : Int} (P : ElP cs ts (cs.length + 2) p) : isSub cs ts = true := by
  have h2 := P.h2
  rw [List.drop_of_length_le (by omega)] at h2
  rw [← h2]; simp [isSub]
noncomputable def dots : Str := S [46, 46, 46]
theorem dots_eq : Str.ofString "..." = dots := by decide +kernel
noncomputable def dotF (c : Nat) : Nat := if c = 46 then 46 else 0
theorem dotF_list (l : List Nat) : (l == [46, 46, 46]) = (l.map dotF == [46, 46, 46]) := by
  have h : ∀ x : Nat, (dotF x = 46) = (x = 46) := fun x => by unfold dotF; by_cases h : x = 46 <;> simp [h]
  match l with
  | [] => rfl
  | [a] => simp
  | [a, b] => simp
  | [a, b, c] => 
    rw [Bool.eq_iff_iff]
    simp [h]
  | a :: b :: c :: d :: r => simp
theorem subAt_dots (xs : List Nat) (i : Nat) : subAt (S xs) dots i = subAt (S (xs.map dotF)) dots i := by
  rw [StrLaws.subAt_eq, StrLaws.subAt_eq, S_toList, S_toList]
  show ((xs.drop i).take 3 == [46, 46, 46]) = (((xs.map dotF).drop i).take 3 == [46, 46, 46])
  rw [dotF_list, List.map_take, List.map_drop]
theorem occ_dots (xs : List Nat) (lo hi lim : Nat) : occurrences (S xs) dots lo hi lim = occurrences (S (xs.map dotF)) dots lo hi lim := by
  unfold occurrences
  simp only [subAt_dots xs]
theorem dotF_letter {c : Nat} (h : c ≠ 46) : dotF c = 0 := by unfold dotF; rw [if_neg h]
theorem occ_want (cs : List Nat) (hn : cs.length ≤ 4) (hc : ∀ c ∈ cs, c ≠ 46) : occurrences (S (wantOf cs)) dots 0 (S (wantOf cs)).length ((S (wantOf cs)).length + 1) = (List.range (cs.length + 1)).map (4 * ·) := by
  rw [occ_dots, S_len]
  match cs, hn with
  | [], _ => decide +kernel
  | [a], _ =>
    have ha := dotF_letter (hc a (by simp))
    simp only [wantOf, List.flatMap_cons, List.flatMap_nil, List.cons_append, List.nil_append, List.map_cons, List.map_nil, ha, List.length_cons, List.length_nil]
    decide +kernel
  | [a, b], _ =>
    have ha := dotF_letter (hc a (by simp))
    have hb := dotF_letter (hc b (by simp))
    simp only [wantOf, List.flatMap_cons, List.flatMap_nil, List.cons_append, List.nil_append, List.map_cons, List.map_nil, ha, hb, List.length_cons, List.length_nil]
    decide +kernel
  | [a, b, c], _ =>
    have ha := dotF_letter (hc a (by simp))
    have hb := dotF_letter (hc b (by simp))
    have hc' := dotF_letter (hc c (by simp))
    simp only [wantOf, List.flatMap_cons, List.flatMap_nil, List.cons_append, List.nil_append, List.map_cons, List.map_nil, ha, hb, hc', List.length_cons, List.length_nil]
    decide +kernel
  | [a, b, c, d], _ =>
    have ha := dotF_letter (hc a (by simp))
    have hb := dotF_letter (hc b (by simp))
    have hc' := dotF_letter (hc c (by simp))
    have hd := dotF_letter (hc d (by simp))
    simp only [wantOf, List.flatMap_cons, List.flatMap_nil, List.cons_append, List.nil_append, List.map_cons, List.map_nil, ha, hb, hc', hd, List.length_cons, List.length_nil]
    decide +kernel
  | a :: b :: c :: d :: e :: r, h => exact absurd h (by simp)
theorem want_len (cs : List Nat) : (wantOf cs).length = 4 * cs.length + 3 := by
  unfold wantOf
  simp
  induction cs with
  | nil => rfl
  | cons c r ih => simp; omega
theorem split_want (cs : List Nat) (hn : cs.length ≤ 4) (hc : ∀ c ∈ cs, c ≠ 46) : Txt.split (S (wantOf cs)) dots = pieces cs := by
  have hk : Builtin.Str.strKind dots = 1 := by decide +kernel
  unfold Txt.split
  rw [occ_want cs hn hc, hk]
  have h1 : ¬ ((S (wantOf cs)).length < dots.length) := by
    rw [S_len, want_len]; show ¬ (_ < 3); omega
  have h2 : ¬ (Builtin.Str.strKind (S (wantOf cs)) < 1) := by
    unfold Builtin.Str.strKind; split
    · omega
    · split <;> omega
  rw [if_neg (by simp [h1, h2]), if_neg (by simp)]
  match cs, hn with
  | [], _ => decide +kernel
  | [a], _ => rfl
  | [a, b], _ => rfl
  | [a, b, c], _ => rfl
  | [a, b, c, d], _ => rfl
  | a :: b :: c :: d :: e :: r, h => exact absurd h (by simp)
theorem in_want (cs : List Nat) : (occurrences (S (wantOf cs)) dots 0 (S (wantOf cs)).length 1).isEmpty = false := by
  rcases StrLaws.occ_head_from (S (wantOf cs)) dots 0 1 (Nat.le_refl 1) with ⟨_, hn⟩ | ⟨i, r, h, _⟩
  · exfalso
    refine hn 0 (Nat.le_refl _) ⟨?_, ?_⟩
    · rw [S_len, want_len]; show 0 + 3 ≤ _; omega
    · rw [StrLaws.subAt_eq, S_toList]
      show ((wantOf cs).drop 0).take 3 == [46, 46, 46]
      simp [wantOf]
  · rw [h]; rfl
section
variable {prog : Program} {w : World} {A : Around} {E : Value → Shared → Prop} {s : Shared} {h₀ : Heap} {L D : Addr} {m : Str → Option Value} {news : List (Addr × Obj)} {us : List Value} {n : Nat} {value slice : PySem.Expr} {u : Tok} {v : Value} {Q : Value → Shared → Prop}
theorem call_split_want {cs : List Nat} {y : Str} {t : Tok} (hn : cs.length ≤ 4) (hc : ∀ c ∈ cs, c ≠ 46) (hy : y = Str.ofString "...") (F : Fr h₀ L s.heap m) (N : News h₀ L s.heap news)
    (h : ∀ D us h' k, StrsAre us (pieces cs) → Fr h₀ L h' m → News h₀ L h' ((D, listOf us.toArray 0) :: news) → (∀ p ∈ news, p.1 < D) → us.length = cs.length + 2 → (∃ t₀, us[0]? = some (.str (S []) t₀)) → (∃ t₁, us[cs.length + 1]? = some (.str (S []) t₁)) → Q (.ref D) { s with heap := h', toks := k }) :
    wpAny (model prog w) A (call (.builtin "str.split") [.str (S (wantOf cs)) t, .str y u]) Q E s := by
  subst hy
  refine KSpl.split1 F N (by decide +kernel) (fun D l h' k e a F' N' l1 => ?_) (by rw [S_len, want_len, sizeLine_eq]; omega)
  rw [dots_eq, split_want cs hn hc] at e
  rw [e] at a
  refine h D _ h' k a F' N' l1 (by rw [a.len_eq, pieces_len]) (a.at (by rfl)) (a.at ?_)
  unfold pieces
  rw [List.getElem?_append_right (by simp)]
  simp
theorem len_us {k : Nat} (N : News h₀ L s.heap news) (hm : (D, listOf us.toArray n) ∈ news) (hlen : us.length = k) (hk : k ≤ 10000) (h : ∀ t, Q (.int k t) { s with toks := s.toks + 1 + 1 }) : wpAny (model prog w) A (call (.builtin "len") [.ref D]) Q E s := by
  have hl : s.heap.IsList D us.toArray := PySem.IsL.isList (n := n) (N _ hm).1
  refine PyProof.Rows.len_list hl (by rw [List.size_toArray, hlen]; omega) ?_
  rw [List.size_toArray, hlen]
  exact h _
theorem item_first (N : News h₀ L s.heap news) (hm : (D, listOf us.toArray n) ∈ news) (hx : us[0]? = some v) (h : Q v s)
    (hs : subscripted slice false (.ref D) (.int 0 u) = operate [.ref D, .int 0 u] (getItem (.ref D) (.int 0 u))) :
    wpAny (model prog w) A (subscriptTail value slice (.ref D) (.int 0 u)) Q E s :=
  have hl : s.heap.IsList D us.toArray := PySem.IsL.isList (n := n) (N _ hm).1
  tail_any hl.typeIs slot_list_getitem.lookup (wpAny_getItem_list hl (by decide) (by decide) (by simpa using hx) h) hs
theorem item_last {k : Nat} (N : News h₀ L s.heap news) (hm : (D, listOf us.toArray n) ∈ news) (hlen : us.length = k + 1) (hx : us[k]? = some v) (h : Q v s)
    (hs : subscripted slice false (.ref D) (.int (-1) u) = operate [.ref D, .int (-1) u] (getItem (.ref D) (.int (-1) u))) :
    wpAny (model prog w) A (subscriptTail value slice (.ref D) (.int (-1) u)) Q E s :=
  have hl : s.heap.IsList D us.toArray := PySem.IsL.isList (n := n) (N _ hm).1
  tail_any hl.typeIs slot_list_getitem.lookup (wpAny_getItem_list_neg hl (by decide) (by rw [List.size_toArray, hlen]; omega) (by decide) (by
    rw [List.size_toArray, hlen]
    have e : (-1 + ((k + 1 : Nat) : Int)).toNat = k := by omega
    rw [e]; simpa using hx) h) hs
end
end
section
open PySem PySem.W PyProof.Rows
local macro_rules | `(tactic| walk_at "pyIter ref") => `(tactic| refine Stop.mk ?_)
local macro_rules | `(tactic| walk_at "exec For Name Name cons nil") => `(tactic| ((rename Fr _ _ _ _ => lF'); (with_unfolding_all refine' For_invVF lF' (by exact rfl) (by exact rfl) ?_)))
local macro_rules | `(tactic| walk_at "call builtin:str.split") => `(tactic| (k_dflt (refine' call_split_want (by assumption) (by assumption) (by exact rfl) (by k_asm) (by k_asm) ?_); rintro D' us' h' k' e' F' N' l1 hl' ⟨t₀, x0'⟩ ⟨t₁, x1'⟩; (try dsimp only)))
local macro_rules | `(tactic| walk_at "subscriptTail Name Constant ref int") => `(tactic| (k_dflt (refine' item_first (by k_asm) (by k_mem) (by assumption) ?_ (by with_unfolding_all rfl))))
local macro_rules | `(tactic| walk_at "subscriptTail Name UnaryOp ref int") => `(tactic| (k_dflt (refine' item_last (by k_asm) (by k_mem) (by assumption) (by assumption) ?_ (by with_unfolding_all rfl))))
local macro_rules | `(tactic| walk_at "call builtin:len") => `(tactic| (k_dflt (refine' len_us (by k_asm) (by k_mem) (by assumption) (by omega) ?_); walk_at "i"))
local macro_rules | `(tactic| walk_at "call builtin:str.find") => `(tactic| (k_dflt (refine' call_find4 (by first | rfl | omega) ?_); walk_at "i"))
set_option maxRecDepth 100000 in
set_option maxHeartbeats 1000000 in
theorem ell_claim (w : World) (mean) (mg mb) (cs ts : List Nat) (ta tb : Tok) (hcs : cs.length ≤ 4) (hc46 : ∀ c ∈ cs, c ≠ 46) : Claim 1 w mean mg mb 35 ((S ts).length ≤ 40) [.str (S (wantOf cs)) ta, .str (S ts) tb] (fun _ => .bool (isSub cs ts)) := by
  unfold Claim
  w_on
  w_strict (
    k_fill
    dsimp only [CbRet]
    intros; rename_i hS _ _ hret
    have hw1 := S_len (wantOf cs)
    have hw2 := want_len cs
    have hnil : (S []).length = 0 := S_len []
    refine wpAny_call ?_
    (k_dflt cell_enter)
    k_steps
    · exfalso
      rename (Builtin.Str.occurrences _ _ _ _ _).isEmpty = true => hx
      rw [dots_eq, in_want] at hx
      exact absurd hx (by decide)
    refine Stop.out ?_
    rename Fr _ _ _ _ => F1
    rename News _ _ _ _ => N1
    rename StrsAre _ _ => hst
    rename (∀ (p : Addr × Obj), p ∈ _ → p.1 < _) => hlow
    rename (List.length _ = cs.length + 2) => hul
    refine my_listV (σ := Int × Tok) (fun _ => _) (fun c => [(Str.ofString "startpos", .int c.1 c.2), (Str.ofString "endpos", .int ((S ts).length) _), (Str.ofString "got", .str (S ts) tb)]) (fun i c => ElP cs ts i c.1) (0, _) (fun _ => rfl) rfl F1 N1 (.tail _ (.head _)) (fun p hp => .tail _ (.tail _ hp)) (fun p hp => Nat.ne_of_lt (hlow p hp)) (by with_unfolding_all kst_all) (ElP.start cs ts) ?_ ?_
    · clear F1 N1
      rintro i v ⟨p, tp⟩ u h tk own hi hv hoff hP F2 N2
      obtain ⟨y, t, rfl, hy⟩ := hst.item i v hv
      have hT := hP.turn hy
      have hyl := pieces_short hy
      dsimp only [kstB] at F2 N2 hP hoff hT ⊢
      k_steps
      all_goals (try dsimp only [MyPost])
      · k_steps
        refine cb_retB hret ?_ (by k_asm) (news_t3 (by assumption))
        exact (hT.1 (by assumption)).symm
      · (rename Fr _ _ _ _ => fE; rename News _ _ _ _ => nE; (refine' my_end ⟨_, _⟩ fE nE ?e1 ?e2 ?e3 ?_); (case e1 => walk_at "my names"); (case e2 => walk_at "my sub"); (case e3 => first | exact mem_nilE | exact mem_rightE | (walk_at "my own") | kst_in); (try dsimp only))
        exact hT.2 (by assumption)
    · clear F1 N1
      rintro ⟨p, tp⟩ u h tk hP F2 N2
      rw [hul] at hP
      have hout := hP.out
      dsimp only [kstB] at F2 N2 hP ⊢
      k_steps
      refine cb_retB hret ?_ (by k_asm) (by k_asm)
      exact hout.symm)
end
section
open PySem PySem.W PyProof.Rows PySem.Calls PyProof.V PySem.Spec
noncomputable def Bt (xs : List Nat) : Array UInt8 := (xs.map UInt8.ofNat).toArray
noncomputable def apF : Nat → Nat → List Nat → List Nat
  | 0, _, acc => acc
  | k + 1, n, acc => if n = 0 then acc else apF k (n / 16) ((65 + n % 16) :: acc)
theorem apF_more (k : Nat) : ∀ (n : Nat) (acc : List Nat), n ≤ k → apF (k + 1) n acc = apF k n acc := by
  induction k with
  | zero => intro n acc h; exact if_pos (Nat.le_zero.mp h)
  | succ k ih =>
    intro n acc h
    show (if n = 0 then acc else apF (k + 1) (n / 16) _) = if n = 0 then acc else apF k (n / 16) _
    split
    · rfl
    · exact ih _ _ (by omega)
theorem apF_same {n k : Nat} (h : n ≤ k) (acc : List Nat) : apF k n acc = apF n n acc := by
  induction h with
  | refl => rfl
  | step h ih => exact (apF_more _ _ _ h).trans ih
theorem apX : ∃ f : Nat → List Nat → List Nat, (∀ acc, f 0 acc = acc) ∧ ∀ n acc, n ≠ 0 → f n acc = f (n / 16) ((65 + n % 16) :: acc) :=
  ⟨fun n acc => apF n n acc, fun _ => rfl, fun n acc h => (apF_more n n acc (Nat.le_refl n)).symm.trans ((if_neg h).trans (apF_same (by omega) _))⟩
noncomputable def apL : Nat → List Nat → List Nat := apX.choose
theorem apL_zero (acc : List Nat) : apL 0 acc = acc := apX.choose_spec.1 acc
theorem apL_go {n : Nat} (h : n ≠ 0) (acc : List Nat) : apL n acc = apL (n / 16) ((65 + n % 16) :: acc) := apX.choose_spec.2 n acc h
structure AC where
  n : Int
  acc : List Nat
  tn : Tok
  tv : Tok
structure ApP (N : Nat) (n : Int) (acc : List Nat) : Prop where
  h0 : 0 ≤ n
  h1 : acc.length + n.toNat ≤ 65536
  h2 : apL n.toNat acc = apL N ([] : List Nat)
theorem ApP.start {N : Nat} {n : Int} (h : n = N) (hN : N ≤ 65536) : ApP N n [] := ⟨by omega, by simp; omega, by rw [h]; simp⟩
theorem Bt_size (xs : List Nat) : (Bt xs).size = xs.length := by simp [Bt]
noncomputable def APb : Array UInt8 := #[65, 66, 67, 68, 69, 70, 71, 72, 73, 74, 75, 76, 77, 78, 79, 80]
theorem ap_pick : ∀ k : Nat, k < 16 → KBy.picked APb (some (k : Int)) (some ((k : Int) + 1)) = Bt [65 + k] := by decide +kernel
theorem Bt_app (xs ys : List Nat) : Bt xs ++ Bt ys = Bt (xs ++ ys) := by simp [Bt]
section
variable {prog : Program} {w : World} {A : Around} {E : Value → Shared → Prop} {s : Shared} {h₀ : Heap} {L : Addr} {m : Str → Option Value} {news : List (Addr × Obj)} {value slice : PySem.Expr} {t uk uj : Tok} {k j : Int} {Q : Value → Shared → Prop}
theorem ap_slice (h0 : 0 ≤ k) (h1 : k < 16) (hj : j = k + 1) (hF : Fr h₀ L s.heap m) (hN : News h₀ L s.heap news)
    (h : ∀ h' t' tk, Fr h₀ L h' m → News h₀ L h' news → Q (.bytes (Bt [65 + k.toNat]) t') { s with heap := h', toks := tk })
    (hs : subscripted slice false (.bytes APb t) (.ref s.heap.objs.size) = operate [.ref s.heap.objs.size, .bytes APb t] (getItem (.bytes APb t) (.ref s.heap.objs.size)))
    (ht : ∀ r, letTemporaryGo value (.bytes APb t) r = pure ()) :
    wpAny (model prog w) A (subscriptTail value slice (.bytes APb t) (.ref s.heap.objs.size)) Q E { s with heap := s.heap.push { cls := .type "slice", data := .fields #[.int k uk, .int j uj, .none] } } := by
  subst hj
  have e : KBy.picked APb (some k) (some (k + 1)) = Bt [65 + k.toNat] := by
    have h := ap_pick k.toNat (by omega)
    rw [Int.toNat_of_nonneg h0] at h
    exact h
  refine KBc.slice_K (lo := some k) (hi := some (k + 1)) hF hN rfl (by constructor) (by constructor) (by decide +kernel) (fun h' t' tk F' N' _ => ?_) hs ht
  rw [e]
  exact h h' t' tk F' N'
end
theorem ApP.turn {N : Nat} {n : Int} {acc : List Nat} (P : ApP N n acc) (hn : n ≠ 0) : ApP N (n.fdiv 16) ((65 + (n.fmod 16).toNat) :: acc) ∧ (n.fdiv 16).toNat < n.toNat := by
  obtain ⟨h0, h1, h2⟩ := P
  have e1 : n.fdiv 16 = n / 16 := Int.fdiv_eq_ediv_of_nonneg n (by decide)
  have e2 : n.fmod 16 = n % 16 := Int.fmod_eq_emod_of_nonneg n (by decide)
  rw [e1, e2]
  refine ⟨⟨by omega, by rw [List.length_cons]; omega, ?_⟩, by omega⟩
  rw [apL_go (by omega : n.toNat ≠ 0)] at h2
  rw [← h2]
  congr 1
  · omega
  · congr 1; omega
theorem ApP.out {N : Nat} {n : Int} {acc : List Nat} (P : ApP N n acc) (hn : n = 0) : acc = apL N [] := by
  have h2 := P.h2
  subst hn
  rw [← h2]; exact (apL_zero acc).symm
theorem ap_digits {n d : Nat} {acc : List Nat} (hd : d < 16) (h : n * 16 + d ≠ 0) : apL (n * 16 + d) acc = apL n ((65 + d) :: acc) := by
  rw [apL_go h]
  congr 1
  · omega
  · congr 1; omega
theorem add_Bt {prog : Program} {w : World} {A : Around} {E : Value → Shared → Prop} {s : Shared} {xs ys : List Nat} {t u : Tok} {Q : Value → Shared → Prop} (hsz : xs.length + ys.length ≤ 16777216) (h : ∀ t' k, Q (.bytes (Bt (xs ++ ys)) t') { s with toks := k }) :
    wpAny (model prog w) A (binaryOp .Add (.bytes (Bt xs) t) (.bytes (Bt ys) u)) Q E s := by
  refine KBy.add_bytes (by rw [Bt_size, Bt_size]; exact hsz) fun t' k => ?_
  rw [Bt_app]; exact h t' k
end
section
open PySem PySem.W PyProof.Rows
local macro_rules | `(tactic| walk_at "subscriptTail Name Slice bytes ref") => `(tactic| ((with_reducible rename Fr _ _ _ _ => F'); (with_reducible rename News _ _ _ _ => N'); (refine ap_slice (s := ⟨_, _, _, _, _⟩) (by omega) (by omega) rfl F' N' ?_ (by with_unfolding_all rfl) (by intro _; with_unfolding_all rfl)); walk_at "i"))
local macro_rules | `(tactic| walk_at "binaryOp Add bytes bytes") => `(tactic| ((refine add_Bt (by simp only [List.length_cons, List.length_nil]; omega) ?_); walk_at "i"))
local macro_rules | `(tactic| walk_at "exec While") => `(tactic| refine Stop.mk ?_)
set_option maxRecDepth 100000 in
set_option maxHeartbeats 1000000 in
theorem ap_claim (w : World) (mean) (mg mb) (i : Int) (ti : Tok) : Claim 1 w mean mg mb 42 (i.natAbs < 65536) [.int i ti] (fun t => .bytes (Bt (apL i.natAbs [])) t) := by
  unfold Claim
  w_on
  w_strict (
    k_fill
    dsimp only [CbRet]
    intros; rename_i hS _ _ hret
    refine wpAny_call ?_
    (k_dflt cell_enter)
    k_steps
    refine Stop.out ?_
    rename Fr _ _ _ _ => F1
    rename News _ _ _ _ => N1
    have habs : (if i < 0 then -i else i) = (i.natAbs : Int) := by split <;> omega
    rw [habs] at F1
    refine my_while (hE := by passes_own) (σ := AC) (fun _ => _) (fun c => [(Str.ofString "num", .int c.n c.tn), (Str.ofString "val", .bytes (Bt c.acc) c.tv), (Str.ofString "AP", .bytes APb _)])
      (fun c => ApP i.natAbs c.n c.acc) (fun c => c.acc = apL i.natAbs []) (fun c => c.n.toNat) ⟨_, [], _, _⟩ F1 N1 (by with_unfolding_all kst_all) (ApP.start rfl (by omega)) ?_ ?_
    · clear F1 N1
      rintro ⟨n, acc, tn, tv⟩ u h tk hP F2 N2
      have h0 := hP.h0
      have h1 := hP.h1
      have hB := Bt_size acc
      dsimp only [kstB] at F2 N2 hP h0 h1 hB ⊢
      have hd1 : 0 ≤ n.fmod 16 := by rw [Int.fmod_eq_emod_of_nonneg n (by decide)]; omega
      have hd2 : n.fmod 16 < 16 := by rw [Int.fmod_eq_emod_of_nonneg n (by decide)]; omega
      k_steps
      · dsimp only [MyPost]
        (rename Fr _ _ _ _ => fE; rename News _ _ _ _ => nE; (refine' my_end ⟨_, _, _, _⟩ fE nE ?e1 ?e2 ?e3 ?_); (case e1 => walk_at "my names"); (case e2 => walk_at "my sub"); (case e3 => first | exact mem_nilE | exact mem_rightE | (walk_at "my own") | kst_in); (try dsimp only))
        exact hP.turn (by assumption)
      · (rename Fr _ _ _ _ => fE; rename News _ _ _ _ => nE; (refine' my_end ⟨_, _, _, _⟩ fE nE ?e1 ?e2 ?e3 ?_); (case e1 => walk_at "my names"); (case e2 => walk_at "my sub"); (case e3 => first | exact mem_nilE | exact mem_rightE | (walk_at "my own") | kst_in); (try dsimp only))
        exact hP.out (by assumption)
    · clear F1 N1
      rintro ⟨n, acc, tn, tv⟩ u h tk hP F2 N2
      dsimp only [kstB] at F2 N2 hP ⊢
      subst hP
      k_steps
      exact hret _ _ _ (by k_asm) (by k_asm))
end
section
open PySem PySem.W PyProof.Rows PySem.Calls PyProof.V PySem.Spec
theorem fmod_lt (x : Int) {k : Int} (h : 0 < k) : 0 ≤ x.fmod k ∧ x.fmod k < k := by
  rw [Int.fmod_eq_emod_of_nonneg x (Int.le_of_lt h)]
  exact ⟨Int.emod_nonneg x (by omega), Int.emod_lt_of_pos x h⟩
structure Figs (f0 f1 f2 f3 : Int) : Prop where
  h0 : 1 ≤ f0
  h1 : f0 < f1
  h2 : f1 < f2
  h3 : f2 < f3
  h4 : f3 ≤ 12
/-- letters of the words loop -/
structure WC where
  us : List Value
  n : Nat
  oK : Obj
noncomputable def sel4 {α : Type} (k : Nat) (a b c d : α) : List α := (if k.testBit 0 then [a] else []) ++ (if k.testBit 1 then [b] else []) ++ (if k.testBit 2 then [c] else []) ++ (if k.testBit 3 then [d] else [])
noncomputable def wordL (f0 f1 f2 f3 : Int) (k : Nat) : List Nat := (sel4 k f0 f1 f2 f3).map fun f => 65 + f.toNat
theorem small16 : Builtin.Range.small 1 16 1 = true := by decide +kernel
theorem size16 : Builtin.Range.rangeSize 1 16 1 = ((15 : Nat) : Int) := by decide +kernel
theorem map_sel4 {α β : Type} (f : α → β) (k : Nat) (a b c d : α) : (sel4 k a b c d).map f = sel4 k (f a) (f b) (f c) (f d) := by
  unfold sel4
  cases k.testBit 0 <;> cases k.testBit 1 <;> cases k.testBit 2 <;> cases k.testBit 3 <;> rfl
theorem sel4_len {α : Type} (k : Nat) (a b c d : α) : (sel4 k a b c d).length ≤ 4 := by
  unfold sel4
  cases k.testBit 0 <;> cases k.testBit 1 <;> cases k.testBit 2 <;> cases k.testBit 3 <;> simp
theorem sel4_mem {α : Type} {k : Nat} {a b c d x : α} (h : x ∈ sel4 k a b c d) : x = a ∨ x = b ∨ x = c ∨ x = d := by
  unfold sel4 at h
  rcases List.mem_append.mp h with h | h
  · rcases List.mem_append.mp h with h | h
    · rcases List.mem_append.mp h with h | h
      · split at h
        · exact .inl (List.mem_singleton.mp h)
        · cases h
      · split at h
        · exact .inr (.inl (List.mem_singleton.mp h))
        · cases h
    · split at h
      · exact .inr (.inr (.inl (List.mem_singleton.mp h)))
      · cases h
  · split at h
    · exact .inr (.inr (.inr (List.mem_singleton.mp h)))
    · cases h
noncomputable def numI (l : List Int) : Int := l.foldl (fun n f => n * 16 + f) 0
theorem numI_snoc (l : List Int) (f : Int) : numI (l ++ [f]) = numI l * 16 + f := by simp [numI]
theorem snoc_rec {P : List Int → Prop} (h0 : P []) (h1 : ∀ r f, P r → P (r ++ [f])) : ∀ l, P l := by
  intro l
  rw [← List.reverse_reverse l]
  induction l.reverse with
  | nil => exact h0
  | cons f r ih => rw [List.reverse_cons]; exact h1 _ _ ih
theorem numI_bound : ∀ (l : List Int), (∀ x ∈ l, 1 ≤ x ∧ x ≤ 15) → 0 ≤ numI l ∧ numI l < 16 ^ l.length := by
  refine snoc_rec (fun _ => by simp [numI]) fun r f ih => ?_
  · intro h
    have h1 := ih fun x hx => h x (List.mem_append_left _ hx)
    have h2 := h f (by simp)
    rw [numI_snoc, List.length_append, List.length_singleton, Int.pow_succ]
    omega
theorem numI_small (l : List Int) (h : ∀ x ∈ l, 1 ≤ x ∧ x ≤ 15) (hl : l.length ≤ 4) : 0 ≤ numI l ∧ numI l < 65536 := by
  have h1 := numI_bound l h
  have h2 : (16 : Int) ^ l.length ≤ 16 ^ 4 := by
    have := Nat.pow_le_pow_right (show 1 ≤ 16 by decide) hl
    exact_mod_cast this
  exact ⟨h1.1, Int.lt_of_lt_of_le h1.2 h2⟩
theorem apL_num : ∀ (l : List Int) (acc : List Nat), (∀ x ∈ l, 1 ≤ x ∧ x ≤ 15) → apL (numI l).natAbs acc = (l.map fun f => 65 + f.toNat) ++ acc := by
  refine snoc_rec (fun acc _ => by simp [numI, apL_zero]) fun r f ih => ?_
  · intro acc h
    have h1 := numI_bound r fun x hx => h x (List.mem_append_left _ hx)
    have h2 := h f (by simp)
    have e : (numI (r ++ [f])).natAbs = (numI r).natAbs * 16 + f.toNat := by rw [numI_snoc]; omega
    rw [e, ap_digits (by omega) (by omega), ih _ fun x hx => h x (List.mem_append_left _ hx)]
    simp
end
section
open PySem PySem.W PyProof.Rows PySem.Calls PyProof.V PySem.Spec
/-- renaming -/
structure Ren (ρ : Nat → Nat) (cost pc : Nat → Nat → Int) : Prop where
  inj : ∀ a b, a < 8 → b < 8 → (ρ a == ρ b) = (a == b)
  cst : ∀ a b, a < 8 → b < 8 → cost (ρ a) (ρ b) = pc a b
noncomputable def Low (xs : List Nat) : Prop := ∀ x ∈ xs, x < 8
theorem Low.tail {x : Nat} {xs : List Nat} (h : Low (x :: xs)) : Low xs := fun y hy => h y (.tail _ hy)
theorem Low.head {x : Nat} {xs : List Nat} (h : Low (x :: xs)) : x < 8 := h x (.head _)
theorem Low.drop {xs : List Nat} (h : Low xs) (k : Nat) : Low (xs.drop k) := fun y hy => h y (List.mem_of_mem_drop hy)
theorem Low.take {xs : List Nat} (h : Low xs) (k : Nat) : Low (xs.take k) := fun y hy => h y (List.mem_of_mem_take hy)
theorem Low.reverse {xs : List Nat} (h : Low xs) : Low xs.reverse := fun y hy => h y (List.mem_reverse.mp hy)
section
variable {ρ : Nat → Nat} {cost pc : Nat → Nat → Int} (R : Ren ρ cost pc)
include R
theorem lcp_map : ∀ {xs ys : List Nat}, Low xs → Low ys → lcp (xs.map ρ) (ys.map ρ) = lcp xs ys
  | [], _, _, _ => by simp [lcp]
  | _ :: _, [], _, _ => by simp [lcp]
  | x :: xs, y :: ys, hx, hy => by
    simp only [List.map_cons, lcp]
    rw [R.inj x y hx.head hy.head, lcp_map hx.tail hy.tail]
theorem eq_map : ∀ {xs ys : List Nat}, Low xs → Low ys → (xs.map ρ == ys.map ρ) = (xs == ys)
  | [], [], _, _ => rfl
  | [], _ :: _, _, _ => rfl
  | _ :: _, [], _, _ => rfl
  | x :: xs, y :: ys, hx, hy => by
    simp only [List.map_cons]
    rw [List.cons_beq_cons, List.cons_beq_cons, R.inj x y hx.head hy.head, eq_map hx.tail hy.tail]
theorem isSub_map : ∀ {cs ts : List Nat}, Low cs → Low ts → isSub (cs.map ρ) (ts.map ρ) = isSub cs ts
  | [], _, _, _ => by simp [isSub]
  | _ :: _, [], _, _ => by simp [isSub]
  | c :: cs, t :: ts, hc, ht => by
    simp only [List.map_cons, isSub]
    rw [R.inj c t hc.head ht.head, isSub_map hc.tail ht.tail]
    have h := isSub_map (cs := c :: cs) (ts := ts) hc ht.tail
    rw [List.map_cons] at h
    rw [h]
theorem inner_map {c : Nat} (hc : c < 8) : ∀ {as : List Nat} {row : List Int} {d r m : Int}, Low as → inner cost (ρ c) (as.map ρ) row d r m = inner pc c as row d r m
  | [], row, d, r, m, _ => by simp [inner]
  | a :: as, [], d, r, m, _ => by simp [inner]
  | a :: as, q :: row, d, r, m, h => by
    simp only [List.map_cons, inner]
    rw [R.cst c a hc h.head, inner_map hc h.tail]
theorem outer_map {as : List Nat} (ha : Low as) {mc : Int} : ∀ {bs : List Nat} {i : Int} {row : List Int} {r : Int}, Low bs → outer cost (as.map ρ) mc (bs.map ρ) i row r = outer pc as mc bs i row r
  | [], i, row, r, _ => by simp [outer]
  | b :: bs, i, row, r, h => by
    simp only [List.map_cons, outer]
    rw [inner_map R h.head ha, outer_map ha h.tail]
theorem lev4_map {as bs : List Nat} (ha : Low as) (hb : Low bs) {mc : Int} : lev4 cost (as.map ρ) (bs.map ρ) mc = lev4 pc as bs mc := by
  unfold lev4
  rw [List.length_map, List.length_map, outer_map R ha hb]
theorem lev3_map {as bs : List Nat} (ha : Low as) (hb : Low bs) {mc : Int} : lev3 cost (as.map ρ) (bs.map ρ) mc = lev3 pc as bs mc := by
  unfold lev3
  rw [List.length_map, List.length_map, lev4_map R ha hb, lev4_map R hb ha]
  simp only [List.map_eq_nil_iff]
theorem lev2_map {as bs : List Nat} (ha : Low as) (hb : Low bs) {mc : Int} : lev2 cost (as.map ρ) (bs.map ρ) mc = lev2 pc as bs mc := by
  have e : lcs (as.map ρ) (bs.map ρ) = lcs as bs := by
    unfold lcs
    rw [← List.map_reverse, ← List.map_reverse, lcp_map R ha.reverse hb.reverse]
  unfold lev2
  rw [e]
  unfold cutR
  rw [List.length_map, List.length_map, ← List.map_take, ← List.map_take]
  exact lev3_map R (ha.take _) (hb.take _)
theorem lev_map {as bs : List Nat} (ha : Low as) (hb : Low bs) {mc : Int} : lev cost (as.map ρ) (bs.map ρ) mc = lev pc as bs mc := by
  unfold lev
  rw [eq_map R ha hb, lcp_map R ha hb, ← List.map_drop, ← List.map_drop, lev2_map R (ha.drop _) (hb.drop _)]
end
noncomputable def low (c : Nat) : Nat := if 65 ≤ c ∧ c ≤ 90 then c + 32 else c
theorem lower_one : ∀ c : Nat, c < 128 → Txt.lower (S [c]) = S [low c] := by decide +kernel
theorem cst_eq {c a : Nat} (hc : c < 128) (ha : a < 128) : cst c a = if c = a then 0 else if low c = low a then 1 else 2 := by
  unfold cst substCost
  rw [lower_one c hc, lower_one a ha, S_beq, S_beq]
  simp only [beq_iff_eq, List.cons.injEq, and_true]
noncomputable def pc (a b : Nat) : Int := if a = b then 0 else if a % 4 = b % 4 then 1 else 2
noncomputable def code (f0 f1 f2 f3 : Int) (i : Nat) : Nat := (if 4 ≤ i then 97 else 65) + (if i % 4 = 0 then f0 else if i % 4 = 1 then f1 else if i % 4 = 2 then f2 else f3).toNat
theorem code_next {f0 f1 f2 f3 : Int} {i : Nat} (hi : i < 4) : code f0 f1 f2 f3 (i + 4) = code f0 f1 f2 f3 i + 32 := by
  unfold code
  rw [if_pos (show 4 ≤ i + 4 by omega), if_neg (show ¬ 4 ≤ i by omega), show (i + 4) % 4 = i % 4 by omega]
  omega
theorem low_up {c : Nat} (h : 65 ≤ c) (h2 : c ≤ 90) : low c = c + 32 := by unfold low; rw [if_pos ⟨h, h2⟩]
theorem low_lo {c : Nat} (h : 91 ≤ c) : low c = c := by unfold low; rw [if_neg (by omega)]
theorem code_fall (f0 f1 f2 f3 : Int) {a : Nat} (ha : a < 8) : code f0 f1 f2 f3 a = code f0 f1 f2 f3 (a % 4) + 32 * (a / 4) := by
  by_cases h : a < 4
  · rw [Nat.mod_eq_of_lt h, Nat.div_eq_of_lt h]; rfl
  · have e : a = (a % 4) + 4 := by omega
    have e2 : a / 4 = 1 := by omega
    rw [e2, show code f0 f1 f2 f3 a = code f0 f1 f2 f3 (a % 4 + 4) by rw [← e], code_next (Nat.mod_lt _ (by decide))]
theorem wordL_code (f0 f1 f2 f3 : Int) (k : Nat) : wordL f0 f1 f2 f3 k = (sel4 k 0 1 2 3).map (code f0 f1 f2 f3) := by
  unfold wordL
  rw [map_sel4, map_sel4]
  simp [code]
theorem sel4_low (k : Nat) {a b c d : Nat} (ha : a < 8) (hb : b < 8) (hc : c < 8) (hd : d < 8) : Low (sel4 k a b c d) := by
  intro x hx
  rcases sel4_mem hx with rfl | rfl | rfl | rfl <;> assumption
noncomputable def incl (m k : Nat) : Bool := m &&& k == m
noncomputable abbrev priceOk (due price : Int) (t : Bool) : Prop := due ≤ price ∧ (price = due ↔ t = true)
theorem wordL_len (f0 f1 f2 f3 : Int) (k : Nat) : (wordL f0 f1 f2 f3 k).length = (sel4 k 0 1 2 3).length := by rw [wordL_code, List.length_map]
-- the letters the other way round
/-! the sum -/
end
section
open PySem PySem.W PyProof.Rows PySem.Calls PyProof.V PySem.Spec
section
variable {prog : Program} {w : World} {A : Around} {E : Value → Shared → Prop} {s : Shared} {h₀ : Heap} {L D : Addr} {m : Str → Option Value} {news : List (Addr × Obj)} {Q : Value → Shared → Prop}
theorem ne_same {b : Array UInt8} {t u : Tok} (h : Q (.bool false) s) : wpAny (model prog w) A (compareOp .NotEq (.bytes b t) (.bytes b u)) Q E s := by
  refine ne_bytes ?_
  rw [bne_self_eq_false]
  exact h
end
theorem word_short (f0 f1 f2 f3 : Int) (k : Nat) : (wordL f0 f1 f2 f3 k).length ≤ 1000 := by
  have := sel4_len k f0 f1 f2 f3
  unfold wordL
  rw [List.length_map]
  omega
section
variable {prog : Program} {w : World} {A : Around} {E : Value → Shared → Prop} {s : Shared} {h₀ : Heap} {L l : Addr} {m : Str → Option Value} {all rest own : List (Addr × Obj)} {Q : Value → Shared → Prop}
theorem append_top {us : List Value} {n : Nat} {x : Value} (ho : OwnOff own (((l, listOf us.toArray n) :: rest).map (·.1))) (F : Fr h₀ L s.heap m) (N : News h₀ L s.heap all)
    (hs : ∀ p ∈ ((l, listOf us.toArray n) :: rest) ++ own, p ∈ all) (hr : ∀ p ∈ rest, p.1 ≠ l) (hn : us.length ≤ 10000)
    (h : ∀ h', Fr h₀ L h' m → News h₀ L h' (((l, listOf (us ++ [x]).toArray (n + 1)) :: rest) ++ own) → Q .none { s with heap := h' }) : wpAny (model prog w) A (call (.builtin "list.append") [.ref l, x]) Q E s := by
  have N' : News h₀ L s.heap (((l, listOf us.toArray n) :: rest) ++ own) := fun p hp => N p (hs p hp)
  have e : us.toArray.push x = (us ++ [x]).toArray := by simp
  have U : Upd l (listOf us.toArray n) (listOf (us.toArray.push x) (n + 1)) (((l, listOf us.toArray n) :: rest) ++ own) (((l, listOf (us.toArray.push x) (n + 1)) :: rest) ++ own) := by
    refine Upd.head fun p hp => ?_
    rcases List.mem_append.mp hp with hp | hp
    · exact hr p hp
    · exact ho p hp l (List.mem_cons_self ..)
  refine append_K F N' U (fun h' F' N'' => ?_) (by rw [List.size_toArray, sizeLine_eq]; omega)
  rw [e] at N''
  exact h h' F' N''
end
theorem strs_len : ∀ {us : List Value} {ys : List Str}, StrsAre us ys → us.length = ys.length
  | _, _, .nil => rfl
  | _, _, .cons _ _ r => by rw [List.length_cons, List.length_cons, strs_len r]
/-! texts -/
theorem S_app (xs ys : List Nat) : S xs ++ S ys = S (xs ++ ys) := by
  show (⟨xs.toArray ++ ys.toArray⟩ : Str) = ⟨(xs ++ ys).toArray⟩
  simp
noncomputable def sepL (sep : List Nat) : List Nat → List Nat
  | [] => []
  | [c] => [c]
  | c :: d :: r => c :: sep ++ sepL sep (d :: r)
theorem join_S (sep : List Nat) : ∀ xs : List Nat, Str.join (S sep) (xs.map fun c => S [c]) = S (sepL sep xs)
  | [] => rfl
  | [c] => rfl
  | c :: d :: r => by
    have h := join_S sep (d :: r)
    simp only [List.map_cons] at h ⊢
    show S [c] ++ S sep ++ Str.join (S sep) (S [d] :: r.map fun c => S [c]) = _
    rw [h, S_app, S_app, sepL]
    rfl
theorem sepL_nil : ∀ xs : List Nat, sepL [] xs = xs
  | [] => rfl
  | [c] => rfl
  | c :: d :: r => by
    have h := sepL_nil (d :: r)
    simp only [sepL] at h ⊢
    rw [h]; rfl
theorem empty_S : Str.ofString "" = S [] := by decide
section
variable {prog : Program} {w : World} {A : Around} {E : Value → Shared → Prop} {s : Shared} {D : Addr} {ys : List Value} {t : Tok} {Q : Value → Shared → Prop}
theorem join_word {xs : List Nat} (hl : s.heap.IsList D ys.toArray) (hc : CarriedAll ys (xs.map fun k => PyData.str (S [k]))) (hn : xs.length ≤ 1000)
    (h : ∀ t' k, Q (.str (S xs) t') { s with toks := k }) : wpAny (model prog w) A (call (.builtin "str.join") [.str (Str.ofString "") t, .ref D]) Q E s := by
  refine KT.join_1 hl hc (fun a _ => rfl) (by omega) fun t' k _ => ?_
  have e : Txt.join (Str.ofString "") (xs.map fun k => S [k]) = S xs := by
    show Builtin.Str.glued (Str.ofString "") _ = _
    rw [StrLaws.glued_eq_join, empty_S, join_S, sepL_nil]
  rw [e]
  exact h t' k
end
/-! a comprehension over bytes -/
section
variable {prog : Program} {w : World} {A : Around} {E : Value → Shared → Prop} {s : Shared} {h₀ : Heap} {L : Addr} {m : Str → Option Value} {env : Env}
noncomputable def SrcB (prog : Program) (w : World) (A : Around) (h₀ : Heap) (L : Addr) (m : Str → Option Value) (env : Env) (elt : PySem.Expr) (x : Str) (scope : Scope) (cl : List (Str × Addr)) (Fin : Shared → List Value → List (Addr × Obj) → Prop) (xv : Value) (s₁ : Shared) : Prop :=
  ∃ b t news, xv = .bytes b t ∧ A.handled = none ∧ Fr h₀ L s₁.heap m ∧ News h₀ L s₁.heap news ∧ b.size ≤ sizeLine ∧
    ∀ s₂ : Shared, (∃ h, s₂ = { s₁ with heap := h }) → LCg.CompRest prog w A h₀ L m env elt x scope cl s₂ (fun _ => True) (fun i v => ∃ c u, b[i]? = some c ∧ v = .int (c.toNat : Int) u) (Fin s₂) b.size 0 [] news
theorem ListComp_B {elt iter : PySem.Expr} {x : Str} {px : Pos} {scope : Scope} {cl : List (Str × Addr)} {pos : Pos} {Q : Value → Shared → Prop} (_F₀ : Fr h₀ L s.heap m)
    (hclos : closureFor scope env = pure cl) (hcell : ∀ y ∈ scope.names, y.2 ≠ .cell) (hkind : scope.kind = .function)
    (hnames : ∀ y ∈ scope.names, y.2 = .local → scope.names.lookup y.1 = some .local) (hx : scope.names.lookup x = some .local)
    (h : wpAny (model prog w) A (eval iter env) (SrcB prog w A h₀ L m env elt x scope cl (fun s₂ => LCg.FinE h₀ L m s₂ Q)) E s)
    (hs : ∀ x, foldedSetIterable iter env x = pure x := by intro _; rfl) :
    wpAny (model prog w) A (eval (.ListComp elt [⟨.Name x px, iter, [], 0⟩] scope pos) env) Q E s := by
  rw [eval_ListComp]
  refine wpAny_comprehension_free (use := none) rfl hs hclos hkind hnames (wpAny_mono h (fun xv s₁ h₁ => ?_) fun _ _ e => e)
  obtain ⟨b, t, news, rfl, hh, F, N, hsz, R⟩ := h₁
  refine KBw.pyIter_bytes ?_
  refine LCg.block_U (S := fun _ => True) (KBw.walks hh s₁.heap.objs.size b t) hsz (fun i h st => by obtain ⟨o, e, _⟩ := st; exact ⟨o, e⟩)
    (fun i h h' o nw st e e' _ _ _ => by obtain ⟨o', q, r⟩ := st; rw [e] at q; cases q; exact ⟨o, e', r⟩) hcell hkind hx ⟨_, Heap.get?_push_size _ rfl, rfl, rfl⟩ (fun b hb => ?_)
    (F.keeps fun _ _ e => Heap.get?_push_of_some _ e) (N.grown fun _ _ e => Heap.get?_push_of_some _ e) (Nat.ne_of_lt F.ns.lt) (next_is_new F) (fun p hp => Nat.ne_of_lt (Heap.lt_size (N p hp).1)) trivial (R _ ⟨_, rfl⟩) ?_
  · rw [List.mem_singleton.mp hb]
    show s₁.heap.objs.size < (s₁.heap.push _).objs.size
    rw [Heap.size_push]; exact Nat.lt_succ_self _
  · intro D C h tk m' ys news' F' N' o1 hn hC₀ hD₀ hCL hDL hCD offC fin
    refine ⟨m', hn, fun h'' hs'' => fin D h'' tk (F'.change hs'' hCL hC₀) (fun p hp => ?_) o1⟩
    refine ⟨hs''.extBut _ _ ?_ (N' p hp).1, (N' p hp).2⟩
    rcases List.mem_cons.mp hp with rfl | hp
    · exact Ne.symm hCD
    · exact offC p hp
theorem Bt_get {xs : List Nat} (hx : ∀ x ∈ xs, x < 256) {i : Nat} {c : UInt8} (h : (Bt xs)[i]? = some c) : xs[i]? = some c.toNat := by
  unfold Bt at h
  rw [List.getElem?_toArray, List.getElem?_map] at h
  cases hg : xs[i]? with
  | none => rw [hg] at h; cases h
  | some y =>
    rw [hg] at h
    have e : UInt8.ofNat y = c := Option.some.inj h
    rw [← e]
    have := hx y (List.mem_of_getElem? hg)
    rw [UInt8.toNat_ofNat', Nat.mod_eq_of_lt this]
theorem SrcB.word {elt : PySem.Expr} {x : Str} {scope : Scope} {cl : List (Str × Addr)} {Fin : Shared → List Value → List (Addr × Obj) → Prop} {xs : List Nat} {t : Tok} {news : List (Addr × Obj)} {s₁ : Shared}
    (hh : A.handled = none) (F : Fr h₀ L s₁.heap m) (N : News h₀ L s₁.heap news) (hx : ∀ x ∈ xs, x < 256) (hn : xs.length ≤ 1000)
    (turn : ∀ k t I oI C oC D m₂ ys h tk (E' : Value → Shared → Prop), 0 ≤ k → k < 256 → LCg.NsObj oC m₂ → m₂ x = some (.int k t) → Fr h₀ L h m → News h₀ L h ((I, oI) :: (C, oC) :: (D, LCg.lst ys) :: news) → LCg.Off3 I C D news → ((@Ne Nat I C) ∧ (@Ne Nat I D) ∧ (@Ne Nat C D)) →
      wpAny (model prog w) A (eval elt (compEnvC scope cl C env)) (LCg.CompEnd h₀ L m { s₁ with heap := h, toks := tk } I oI C oC D (LCg.lst ys) (fun _ => True) (fun y news' => KCtEl news (S [k.toNat]) y news')) E' { s₁ with heap := h, toks := tk })
    (fin : ∀ g ys, CarriedAll ys (xs.map fun k => PyData.str (S [k])) → Fin { s₁ with heap := g } ys news) : SrcB prog w A h₀ L m env elt x scope cl Fin (.bytes (Bt xs) t) s₁ := by
  refine ⟨Bt xs, t, news, rfl, hh, F, N, by rw [Bt_size, sizeLine_eq]; omega, ?_⟩
  rintro s₂ ⟨g, rfl⟩
  refine kct_rest (ks := xs.map fun c : Nat => (c : Int)) (fun k => S [k.toNat]) (by rw [List.length_map, Bt_size]) ?_ ?_ ?_
  · rintro i v hi ⟨c, u, hc, rfl⟩
    exact ⟨_, u, by rw [List.getElem?_map, Bt_get hx hc]; rfl, rfl⟩
  · intro k t I oI C oC D m₂ ys h tk E' hk hC hx' F' N' off ne _
    obtain ⟨c, hc', rfl⟩ := List.mem_map.mp hk
    have := hx c hc'
    exact turn _ t I oI C oC D m₂ ys h tk E' (by omega) (by omega) hC hx' F' N' off ne
  · intro ys hc _
    refine fin g ys ?_
    rw [List.map_map] at hc
    exact hc
end
end
section
open PySem PySem.W PyProof.Rows PySem.Calls PyProof.V PySem.Spec Builtin Builtin.Str
section
variable {prog : Program} {w : World} {A : Around} {E : Value → Shared → Prop} {s : Shared} {h₀ : Heap} {L : Addr} {m : Str → Option Value} {news : List (Addr × Obj)} {Q : Value → Shared → Prop}
theorem dots_S : Str.ofString "..." = S [46, 46, 46] := by decide
end
/-! the family -/
section
variable {prog : Program} {w : World} {A : Around} {h₀ : Heap} {L ax : Addr} {m : Str → Option Value} {env : Env} {elt : PySem.Expr} {x : Str} {scope : Scope} {cl : List (Str × Addr)} {Fin : Shared → List Value → List (Addr × Obj) → Prop} {vs : List Value} {k : Nat} {news : List (Addr × Obj)} {s₁ : Shared} {ns : List Int}
end
section
variable {prog : Program} {w : World} {A : Around} {E : Value → Shared → Prop} {s : Shared} {h₀ : Heap} {L D : Addr} {m : Str → Option Value} {news : List (Addr × Obj)} {Q : Value → Shared → Prop} {value slice : PySem.Expr} {u : Tok}
theorem strs_at : ∀ {us : List Value} {ys : List Str} {i : Nat} {y : Str}, StrsAre us ys → ys[i]? = some y → ∃ t, us[i]? = some (.str y t)
  | _, _, 0, _, .cons y t _, h => ⟨t, by cases Option.some.inj h; rfl⟩
  | _, _, i + 1, _, .cons y t r, h => strs_at (i := i) r h
theorem item_word {us : List Value} {n c : Nat} {k : Int} {g : Nat → Str} (N : News h₀ L s.heap news) (hm : (D, listOf us.toArray n) ∈ news) (hus : StrsAre us ((List.range c).map g)) (h0 : 0 ≤ k) (h1 : k < c) (hc : c ≤ 1000)
    (h : ∀ t, Q (.str (g k.toNat) t) s)
    (hs : subscripted slice false (.ref D) (.int k u) = operate [.ref D, .int k u] (getItem (.ref D) (.int k u))) :
    wpAny (model prog w) A (subscriptTail value slice (.ref D) (.int k u)) Q E s := by
  have hl : s.heap.IsList D us.toArray := PySem.IsL.isList (n := n) (N _ hm).1
  obtain ⟨t, ht⟩ := strs_at (i := k.toNat) (y := g k.toNat) hus (by rw [List.getElem?_map, List.getElem?_range (by omega)]; rfl)
  exact tail_any hl.typeIs slot_list_getitem.lookup (wpAny_getItem_list hl h0 (by omega) (by simpa using ht) (h t)) hs
end
end
section
open PySem PySem.W PyProof.Rows PySem.Calls PyProof.V PySem.Spec Builtin Builtin.Str
theorem word4 (f0 f1 f2 f3 : Int) (k : Nat) : (wordL f0 f1 f2 f3 k).length ≤ 4 := by
  unfold wordL
  rw [List.length_map]
  exact sel4_len k f0 f1 f2 f3
theorem word40 (f0 f1 f2 f3 : Int) (k : Nat) : (S (wordL f0 f1 f2 f3 k)).length ≤ 40 := by
  rw [S_len]; have := word4 f0 f1 f2 f3 k; omega
section
variable {prog : Program} {w : World} {A : Around} {E : Value → Shared → Prop} {s : Shared} {t u : Tok} {Q : Value → Shared → Prop}
end
section
variable {prog : Program} {w : World} {A : Around} {E : Value → Shared → Prop} {s : Shared} {t u : Tok} {Q : Value → Shared → Prop} {h₀ : Heap} {L D : Addr} {news : List (Addr × Obj)} {value slice : PySem.Expr}
theorem len_word {xs : List Nat} (hn : xs.length ≤ 1000) (h : ∀ t' k, Q (.int (xs.length : Int) t') { s with toks := k }) : wpAny (model prog w) A (call (.builtin "len") [.str (S xs) t]) Q E s := by
  refine SBL.len (by rw [S_len]; omega) ?_
  rw [S_len]
  exact h _ _
theorem item_wordN {us : List Value} {n c mm : Nat} {g : Nat → Str} (N : News h₀ L s.heap news) (hm : (D, listOf us.toArray n) ∈ news) (hus : StrsAre us ((List.range c).map g)) (h1 : mm < c) (hc : c ≤ 1000)
    (h : ∀ t, Q (.str (g mm) t) s)
    (hs : subscripted slice false (.ref D) (.int (mm : Int) u) = operate [.ref D, .int (mm : Int) u] (getItem (.ref D) (.int (mm : Int) u))) :
    wpAny (model prog w) A (subscriptTail value slice (.ref D) (.int (mm : Int) u)) Q E s :=
  item_word N hm hus (by omega) (by omega) hc (fun t => by rw [Int.toNat_natCast]; exact h t) hs
end
/-! the last loop -/
structure KC where
  am : Int
  ta : Tok
  oK : Obj
structure MC where
  sh : Nat
  ts : Tok
  fo : Bool
section
variable {prog : Program} {w : World} {A : Around} {E : Value → Shared → Prop} {s : Shared} {u : Tok} {Q : Value → Shared → Prop} {h₀ : Heap} {L D : Addr} {news : List (Addr × Obj)} {value slice : PySem.Expr}
end
end
section
section
open PySem PySem.W PyProof.Rows PySem.Calls PyProof.V PySem.Spec
noncomputable abbrev two (elt : PySem.Expr) (t0 i0 t1 i1 : PySem.Expr) (scope : Scope) (pos : Pos) : PySem.Expr := .ListComp elt [⟨t0, i0, [], 0⟩, ⟨t1, i1, [], 0⟩] scope pos
theorem compTurn_two0 (elt t0 i0 t1 i1 : PySem.Expr) (scope : Scope) (pos : Pos) (it acc : Value) (env : Env) :
    compTurn (two elt t0 i0 t1 i1 scope pos) 0 it acc env = (standAt i0.pos >>= fun _ => pyNext it >>= fun r => match r with
      | none => pure (.done .next)
      | some v => letOwnedTupleGo t0 it v >>= fun _ => assign t0 env v >>= fun _ =>
        eval i1 env >>= fun x => standAt i1.pos >>= fun _ => foldedSetIterable i1 env x >>= fun x => holding [x] (pyIter x) >>= fun it1 =>
          runOwn (.compStart (two elt t0 i0 t1 i1 scope pos) 1 it1 acc env) env >>= fun _ =>
          again (.compLoop (two elt t0 i0 t1 i1 scope pos) 0 it acc env)) := by rfl
theorem compTurn_two1 (elt t0 i0 t1 i1 : PySem.Expr) (scope : Scope) (pos : Pos) (it acc : Value) (env : Env) :
    compTurn (two elt t0 i0 t1 i1 scope pos) 1 it acc env = (standAt i1.pos >>= fun _ => pyNext it >>= fun r => match r with
      | none => pure (.done .next)
      | some v => letOwnedTupleGo t1 it v >>= fun _ => assign t1 env v >>= fun _ =>
        (eval elt env >>= fun x => call (.builtin "list.append") [acc, x] >>= fun _ => pure ()) >>= fun _ =>
          again (.compLoop (two elt t0 i0 t1 i1 scope pos) 1 it acc env)) := by rfl
section
variable {prog : Program} {w : World} {A : Around} {E : Value → Shared → Prop} {R : Result → Shared → Prop} {s : Shared}
  {elt t0 i0 t1 i1 : PySem.Expr} {scope : Scope} {pos : Pos} {it acc : Value} {env : Env}
theorem compLoop_two0 (I : Nat → Shared → Prop)
    (turn : ∀ n s, I n s → wpAny (model prog w) A (pyNext it) (fun r s₁ => match r with
      | none => R (.ok .next) s₁
      | some v => wpAny (model prog w) A (assign t0 env v) (fun _ s₂ => wpAny (model prog w) A (eval i1 env) (fun x s₃ => wpAny (model prog w) A (pyIter x) (fun it1 s₄ =>
          codeAny (model prog w) A (.compStart (two elt t0 i0 t1 i1 scope pos) 1 it1 acc env) (fun r s₅ => match r with | .ok _ => ∃ m, m < n ∧ I m s₅ | .error _ => False) s₄)
          (fun _ _ => False) s₃) (fun _ _ => False) s₂) (fun _ _ => False) s₁) (fun _ _ => False) s)
    (n : Nat) (h : I n s) (ht : ∀ v, letOwnedTupleGo t0 it v = pure ()) (hs : ∀ x, foldedSetIterable i1 env x = pure x) :
    codeAny (model prog w) A (.compLoop (two elt t0 i0 t1 i1 scope pos) 0 it acc env) R s := by
  refine codeAny_loop rfl I (fun n s hI => ?_) n h
  show wpAny _ A ((compTurn (two elt t0 i0 t1 i1 scope pos) 0 it acc env).onRaise (fun x => do noteFrame x env; theTreesLotGoes x)) _ _ s
  refine wpAny_noted ?_
  rw [compTurn_two0]
  refine wpAny_bind (wpAny_standAt (wpAny_bind (wpAny_mono (turn n s hI) (fun r s₁ h₁ => ?_) fun _ _ h' => h'.elim)))
  cases r with
  | none => exact wpAny_pure h₁
  | some v =>
    refine wpAny_bind (wpAny_of_eq (ht v) ?_)
    refine wpAny_bind (wpAny_mono h₁ (fun _ s₂ h₂ => ?_) fun _ _ h' => h'.elim)
    refine wpAny_bind (wpAny_mono h₂ (fun x s₃ h₃ => ?_) fun _ _ h' => h'.elim)
    refine wpAny_bind (wpAny_standAt (wpAny_bind (wpAny_of_eq (hs x) ?_)))
    refine wpAny_bind (wpAny_holding (wpAny_mono h₃ (fun it1 s₄ h₄ => ?_) fun _ _ h' => h'.elim))
    refine wpAny_bind (wpAny_runOwn (h := none) ?_)
    rw [Around.mark_none]
    refine codeAny_mono h₄ fun r s₅ h₅ => ?_
    cases r with
    | ok f => exact wpAny_pure ⟨rfl, h₅⟩
    | error e => exact h₅.elim
theorem compLoop_two1 (I : Nat → Shared → Prop)
    (turn : ∀ n s, I n s → wpAny (model prog w) A (pyNext it) (fun r s₁ => match r with
      | none => R (.ok .next) s₁
      | some v => wpAny (model prog w) A (assign t1 env v) (fun _ s₂ => wpAny (model prog w) A (eval elt env) (fun x s₃ =>
          wpAny (model prog w) A (call (.builtin "list.append") [acc, x]) (fun _ s₄ => ∃ m, m < n ∧ I m s₄) (fun _ _ => False) s₃) (fun _ _ => False) s₂) (fun _ _ => False) s₁) (fun _ _ => False) s)
    (n : Nat) (h : I n s) (ht : ∀ v, letOwnedTupleGo t1 it v = pure ()) :
    codeAny (model prog w) A (.compLoop (two elt t0 i0 t1 i1 scope pos) 1 it acc env) R s := by
  refine codeAny_loop rfl I (fun n s hI => ?_) n h
  show wpAny _ A ((compTurn (two elt t0 i0 t1 i1 scope pos) 1 it acc env).onRaise (fun x => do noteFrame x env; theTreesLotGoes x)) _ _ s
  refine wpAny_noted ?_
  rw [compTurn_two1]
  refine wpAny_bind (wpAny_standAt (wpAny_bind (wpAny_mono (turn n s hI) (fun r s₁ h₁ => ?_) fun _ _ h' => h'.elim)))
  cases r with
  | none => exact wpAny_pure h₁
  | some v =>
    refine wpAny_bind (wpAny_of_eq (ht v) ?_)
    refine wpAny_bind (wpAny_mono h₁ (fun _ s₂ h₂ => ?_) fun _ _ h' => h'.elim)
    exact wpAny_bind (wpAny_bind (wpAny_mono h₂ (fun x s₃ h₃ => wpAny_bind (wpAny_mono h₃ (fun _ s₄ h₄ => wpAny_pure (wpAny_pure ⟨rfl, h₄⟩)) fun _ _ h' => h'.elim)) fun _ _ h' => h'.elim))
theorem compStart_two1
    (h0 : codeAny (model prog w) A (.compLoop (two elt t0 i0 t1 i1 scope pos) 1 it acc env) R s)
    (h : wpAny (model prog w) A (pyIter it) (fun it' s' => codeAny (model prog w) A (.compLoop (two elt t0 i0 t1 i1 scope pos) 1 it' acc env) R s') (fun _ _ => False) s) :
    codeAny (model prog w) A (.compStart (two elt t0 i0 t1 i1 scope pos) 1 it acc env) R s := by
  refine codeAny_of_tree ?_
  show wpAny _ _ ((compStart (two elt t0 i0 t1 i1 scope pos) 1 it acc env).onRaise (fun x => do noteFrame x env; standAt theWindowsPlace)) _ _ s
  refine wpAny_notedAt ?_
  unfold compStart
  show wpAny _ _ (ask >>= _) _ _ s
  refine wpAny_bind (wpAny_askSetting (wpAny_ite ?_))
  split
  · first
      | exact wpAny_bind (wpAny_pure (wpAny_pure (And.intro rfl h0)))
      | exact wpAny_pure (And.intro rfl h0)
  · first
      | exact wpAny_bind (wpAny_rule (wpAny_bind (wpAny_standAt (wpAny_bind (wpAny_mono h (fun it' s' h' => wpAny_pure (And.intro rfl h')) fun _ _ x => x.elim)))))
      | (refine wpAny_bind (wpAny_rule ?_); show wpAny _ _ (standAt i1.pos >>= _) _ _ s; exact wpAny_bind (wpAny_standAt (wpAny_bind (wpAny_mono h (fun it' s' h' => wpAny_pure (And.intro rfl h')) fun _ _ x => x.elim))))
end
noncomputable def OffA (l : List (Addr × Obj)) (as : List Addr) : Prop := ∀ p ∈ l, ∀ a ∈ as, p.1 ≠ a
theorem OffA.at {l : List (Addr × Obj)} {as : List Addr} (h : OffA l as) {p : Addr × Obj} (hp : p ∈ l) {a : Addr} (ha : a ∈ as) : p.1 ≠ a := h p hp a ha
noncomputable abbrev lobj (vs : List Value) (k : Nat) : Obj := { cls := .type "list", data := .seq vs.toArray k }
theorem size0' (n : Nat) : Builtin.Range.rangeSize 0 (n : Int) 1 = (n : Int) := size0 n
theorem small0' (n : Nat) (h : n ≤ 1000) : Builtin.Range.small 0 (n : Int) 1 = true := small0 n h
/-- what a comprehension with two clauses (a list of refs, a range) must show -/
structure Two (prog : Program) (w : World) (A : Around) (h₀ : Heap) (L : Addr) (m : Str → Option Value) (env : Env) (elt i1 : PySem.Expr) (x y : Str) (scope : Scope) (cl : List (Str × Addr)) (s : Shared) (ax : Addr) (vs : List Value) (cnt : Nat → Nat)
    (J : Nat → Nat → List Value → List (Addr × Obj) → Prop) : Prop where
  src : ∀ i j ys nw, J i j ys nw → ∃ k, (ax, lobj vs k) ∈ nw
  small : ∀ i, cnt i ≤ 1000
  len : ∀ i j ys nw, J i j ys nw → ys.length ≤ 10000
  h1 : ∀ i v ys nw, vs[i]? = some v → J i 0 ys nw → ∀ (I : Addr) (oI : Obj) (C : Addr) (oC : Obj) (D : Addr) (m₂ : Str → Option Value) (h : Heap) (tk : Nat), LCg.NsObj oC m₂ → m₂ x = some v → Fr h₀ L h m →
    News h₀ L h ((I, oI) :: (C, oC) :: (D, LCg.lst ys) :: nw) → LCg.Off3 I C D nw →
    wpAny (model prog w) A (eval i1 (compEnvC scope cl C env)) (fun xv s' => Stop (∃ (h' : Heap) (tk' : Nat) (r : Addr) (t u w' : Tok), s' = { s with heap := h', toks := tk' } ∧ xv = .ref r ∧ IsRange h' r 0 (cnt i : Int) 1 t u w' ∧ (∀ b o, h.get? b = some o → h'.get? b = some o))) (fun _ _ => False) { s with heap := h, toks := tk }
  h2 : ∀ i j v ys nw, vs[i]? = some v → j < cnt i → J i j ys nw → ∀ (I : Addr) (oI : Obj) (I1 : Addr) (o1 : Obj) (C : Addr) (oC : Obj) (D : Addr) (m₂ : Str → Option Value) (tj : Tok) (h : Heap) (tk : Nat), LCg.NsObj oC m₂ → m₂ x = some v → m₂ y = some (.int (j : Int) tj) → Fr h₀ L h m →
    News h₀ L h ((I, oI) :: (I1, o1) :: (C, oC) :: (D, LCg.lst ys) :: nw) → OffA nw [I, I1, C, D] →
    wpAny (model prog w) A (eval elt (compEnvC scope cl C env)) (fun yv s' => Stop (∃ (h' : Heap) (tk' : Nat) (nw' : List (Addr × Obj)), s' = { s with heap := h', toks := tk' } ∧ Fr h₀ L h' m ∧ News h₀ L h' ((I, oI) :: (I1, o1) :: (C, oC) :: (D, LCg.lst ys) :: nw') ∧ OffA nw' [I, I1, C, D] ∧ J i (j + 1) (ys ++ [yv]) nw')) (fun _ _ => False) { s with heap := h, toks := tk }
  h3 : ∀ i ys nw, i < vs.length → J i (cnt i) ys nw → J (i + 1) 0 ys nw
section
variable {prog : Program} {w : World} {A : Around} {R : Result → Shared → Prop} {s : Shared} {h₀ : Heap} {L : Addr} {m : Str → Option Value} {env : Env} {elt i0 i1 : PySem.Expr} {x y : Str} {px py : Pos} {scope : Scope} {cl : List (Str × Addr)} {pos : Pos} {ax : Addr} {vs : List Value} {cnt : Nat → Nat}
  {J : Nat → Nat → List Value → List (Addr × Obj) → Prop} {I C D : Addr}
theorem ne_of_off {l : List (Addr × Obj)} {as : List Addr} {a : Addr} {o : Obj} (h : OffA l as) (hm : (a, o) ∈ l) {b : Addr} (hb : b ∈ as) : a ≠ b := h _ hm b hb
theorem list_at {h : Heap} {nw : List (Addr × Obj)} {k : Nat} (N : News h₀ L h nw) (hm : (ax, lobj vs k) ∈ nw) : h.IsList ax vs.toArray := ⟨_, (N _ hm).1, rfl, k, rfl⟩
theorem W1self {h : Heap} {tk : Nat} {n : Nat} {Q : Value → Shared → Prop} {E : Value → Shared → Prop} {I1 : Addr} (hh : A.handled = none) (hri : IsRangeIter h I1 (0 + ((0 : Nat) : Int) * 1) ((n : Int) - ((0 : Nat) : Int)) 1) (h' : Q (.ref I1) { s with heap := h, toks := tk }) :
    wpAny (model prog w) A (pyIter (.ref I1)) Q E { s with heap := h, toks := tk } :=
  (LCg.range_walks (prog := prog) (w := w) (A := A) (I := I1) hh 0 n).self 0 _ _ _ hri h'
theorem loops_two (T : Two prog w A h₀ L m env elt i1 x y scope cl s ax vs cnt J) (hh : A.handled = none)
    (hkind : scope.kind = .function) (hx : scope.names.lookup x = some .local) (hy : scope.names.lookup y = some .local) (hxy : x ≠ y)
    (hI₀ : h₀.get? I = none) (hC₀ : h₀.get? C = none) (hD₀ : h₀.get? D = none) (hIL : I ≠ L) (hCL : C ≠ L) (hDL : D ≠ L) (hIC : I ≠ C) (hID : I ≠ D) (hCD : C ≠ D)
    (fin : ∀ h tk m' ys nw, Fr h₀ L h m → h.Ns C m' → News h₀ L h ((D, LCg.lst ys) :: nw) → OffA nw [I, C, D] → J vs.length 0 ys nw → R (.ok .next) { s with heap := h, toks := tk })
    {h₁ : Heap} {tk₁ : Nat} {m₁ : Str → Option Value} {ys₁ : List Value} {nw₁ : List (Addr × Obj)} (F₁ : Fr h₀ L h₁ m) (hn₁ : h₁.Ns C m₁) (N₁ : News h₀ L h₁ ((D, LCg.lst ys₁) :: nw₁)) (off₁ : OffA nw₁ [I, C, D]) (hst₁ : h₁.IsListIter I ax 0) (J₁ : J 0 0 ys₁ nw₁)
    (hs2 : ∀ cenv x, foldedSetIterable i1 cenv x = pure x) :
    codeAny (model prog w) A (.compLoop (two elt (.Name x px) i0 (.Name y py) i1 scope pos) 0 (.ref I) (.ref D) (compEnvC scope cl C env)) R { s with heap := h₁, toks := tk₁ } := by
  have hxax : ∀ i j ys nw, J i j ys nw → OffA nw [I, C, D] → ax ≠ I := fun i j ys nw hJ off => by
    obtain ⟨k, hm⟩ := T.src i j ys nw hJ
    exact off _ hm I (.head _)
  refine compLoop_two0 (fun n s' => ∃ h tk i m' ys nw, s' = { s with heap := h, toks := tk } ∧ i ≤ vs.length ∧ n = vs.length + 1 - i ∧ Fr h₀ L h m ∧ h.Ns C m' ∧ News h₀ L h ((D, LCg.lst ys) :: nw) ∧ OffA nw [I, C, D] ∧ h.IsListIter I ax i ∧ J i 0 ys nw) ?_ (vs.length + 1)
    ⟨h₁, tk₁, 0, m₁, ys₁, nw₁, rfl, Nat.zero_le _, rfl, F₁, hn₁, N₁, off₁, hst₁, J₁⟩ (fun _ => rfl) (hs2 _)
  rintro n s' ⟨h, tk, i, m', ys, nw, rfl, hi, rfl, F, hn, N, off, hst, hJ⟩
  have hax := hxax _ _ _ _ hJ off
  obtain ⟨k, hm⟩ := T.src _ _ _ _ hJ
  have hl : h.IsList ax vs.toArray := list_at (fun p hp => N p (.tail _ hp)) hm
  have W := Walks.list (prog := prog) (w := w) hh I ax hax vs.toArray
  rw [List.size_toArray] at W
  by_cases hlt : i < vs.length
  · refine W.item i _ _ _ hlt ⟨hst, hl⟩ fun v h₂ tk₂ hv st₂ hk₂ => ?_
    have hv' : vs[i]? = some v := by simpa using hv
    dsimp only
    refine wpAny_assign_Name (wpAny_storeName_local (lookup_relabel_local hx) (hn.at' fun o e => hk₂ _ o (by simpa using Ne.symm hIC) e) (fun h₃ hn₃ hs₃ => ?_) (by simp [compEnvC, relabel, hkind]))
    have F₃ : Fr h₀ L h₃ m := (LCg.fr_but F hk₂ (Ne.symm hIL) hI₀).change hs₃ hCL hC₀
    have N₂ : News h₀ L h₂ ((D, LCg.lst ys) :: nw) := LCg.news_but N hk₂ fun p hp => by
      rcases List.mem_cons.mp hp with rfl | hp
      · exact Ne.symm hID
      · exact off p hp I (.head _)
    have N₃ : News h₀ L h₃ ((D, LCg.lst ys) :: nw) := fun p hp => by
      have z := N₂ p hp
      refine ⟨hs₃.extBut _ _ ?_ z.1, z.2⟩
      rcases List.mem_cons.mp hp with rfl | hp
      · exact Ne.symm hCD
      · exact off p hp C (.tail _ (.head _))
    have st₃ : h₃.IsListIter I ax (i + 1) := (W.frame _ _ _ st₂ fun b hb o e => hs₃.extBut b o (fun q => by
      have q' : b = C := q
      rcases List.mem_cons.mp hb with hb | hb
      · exact hIC (hb.symm.trans q')
      · rw [List.mem_singleton.mp hb] at q'; exact ne_of_off off hm (.tail _ (.head _)) q') e).1
    obtain ⟨oI, heI, rI⟩ := id st₃
    obtain ⟨oC, heC, hoC⟩ := LCg.ns_obj hn₃
    have N₃' : News h₀ L h₃ ((I, oI) :: (C, oC) :: (D, LCg.lst ys) :: nw) := fun p hp => by
      rcases List.mem_cons.mp hp with rfl | hp
      · exact ⟨heI, hIL, hI₀⟩
      · rcases List.mem_cons.mp hp with rfl | hp
        · exact ⟨heC, hCL, hC₀⟩
        · exact N₃ p hp
    refine wpAny_mono (T.h1 i v ys nw hv' hJ I oI C oC D _ h₃ _ hoC (by simp) F₃ N₃' (LCg.Off3.of fun p hp => ⟨off p hp I (.head _), off p hp C (.tail _ (.head _)), off p hp D (.tail _ (.tail _ (.head _)))⟩)) (fun xv s₄ h₄ => ?_) fun _ _ e => e
    obtain ⟨h4, tk4, r, t, u, w', rfl, rfl, hr, hk4⟩ := h₄
    refine wpAny_pyIter_range hr (small0' _ (T.small i)) ?_
    obtain ⟨I1, hI1⟩ : ∃ I1, h4.objs.size = I1 := ⟨_, rfl⟩
    have up : ∀ b o, h4.get? b = some o → (h4.push { cls := .type "range_iterator", data := .fields #[.int 0 0, .int (Builtin.Range.rangeSize 0 (cnt i : Int) 1) 0, .int 1 0] }).get? b = some o := fun b o e => Heap.get?_push_of_some _ e
    have hri : IsRangeIter (h4.push { cls := .type "range_iterator", data := .fields #[.int 0 0, .int (Builtin.Range.rangeSize 0 (cnt i : Int) 1) 0, .int 1 0] }) I1 (0 + ((0 : Nat) : Int) * 1) ((cnt i : Int) - ((0 : Nat) : Int)) 1 := by
      show IsRangeIter _ _ _ _ _
      rw [← hI1, size0']
      have e : IsRangeIter (h4.push { cls := .type "range_iterator", data := .fields #[.int 0 0, .int (cnt i : Int) 0, .int 1 0] }) h4.objs.size 0 (cnt i : Int) 1 := Heap.get?_push_size _ rfl
      simpa using e
    have F4 : Fr h₀ L h4 m := F₃.keeps hk4
    have N4 : News h₀ L h4 ((I, oI) :: (C, oC) :: (D, LCg.lst ys) :: nw) := N₃'.grown hk4
    have hI1n : ∀ {b : Addr} {o : Obj}, h4.get? b = some o → b ≠ I1 := fun e q => Nat.lt_irrefl _ (by have := Heap.lt_size e; rw [hI1, q] at this; exact this)
    have hI1₀ : h₀.get? I1 = none := by rw [← hI1]; exact next_is_new F4
    have hI1L : I1 ≠ L := fun q => absurd F4.ns.lt (by rw [hI1, ← q]; exact Nat.lt_irrefl _)
    have hII1 : I ≠ I1 := hI1n (N4 _ (.head _)).1
    have hCI1 : C ≠ I1 := hI1n (N4 _ (.tail _ (.head _))).1
    have hDI1 : D ≠ I1 := hI1n (N4 _ (.tail _ (.tail _ (.head _)))).1
    have off4 : OffA nw [I, I1, C, D] := fun p hp a ha => by
      rcases List.mem_cons.mp ha with rfl | ha
      · exact off p hp _ (.head _)
      · rcases List.mem_cons.mp ha with rfl | ha
        · exact hI1n (N4 p (.tail _ (.tail _ (.tail _ hp)))).1
        · exact off p hp a (.tail _ ha)
    have loop : codeAny (model prog w) A (.compLoop (two elt (.Name x px) i0 (.Name y py) i1 scope pos) 1 (.ref I1) (.ref D) (compEnvC scope cl C env))
        (fun r s₅ => match r with | .ok _ => ∃ m_1, m_1 < vs.length + 1 - i ∧ ∃ h tk i m' ys nw, s₅ = { s with heap := h, toks := tk } ∧ i ≤ vs.length ∧ m_1 = vs.length + 1 - i ∧ Fr h₀ L h m ∧ h.Ns C m' ∧ News h₀ L h ((D, LCg.lst ys) :: nw) ∧ OffA nw [I, C, D] ∧ h.IsListIter I ax i ∧ J i 0 ys nw | .error _ => False)
        { s with heap := h4.push { cls := .type "range_iterator", data := .fields #[.int 0 0, .int (Builtin.Range.rangeSize 0 (cnt i : Int) 1) 0, .int 1 0] }, toks := tk4 } := by
      refine compLoop_two1 (fun n s' => ∃ h tk j m' ys nw, s' = { s with heap := h, toks := tk } ∧ j ≤ cnt i ∧ n = cnt i + 1 - j ∧ Fr h₀ L h m ∧ h.Ns C m' ∧ m' x = some v ∧ News h₀ L h ((D, LCg.lst ys) :: nw) ∧ OffA nw [I, I1, C, D] ∧ h.IsListIter I ax (i + 1) ∧ IsRangeIter h I1 (0 + (j : Nat) * 1) ((cnt i : Int) - (j : Nat)) 1 ∧ J i j ys nw) ?_ (cnt i + 1)
        ⟨_, tk4, 0, _, ys, nw, rfl, Nat.zero_le _, rfl, F4.keeps up, (hoC.ns (N4 _ (.tail _ (.head _))).1).at' fun o e => up _ o e, by simp, fun p hp => ⟨up _ _ (N4 p (.tail _ (.tail _ hp))).1, (N4 p (.tail _ (.tail _ hp))).2⟩, off4, ⟨oI, up _ _ (N4 _ (.head _)).1, rI⟩, hri, hJ⟩ (fun _ => rfl)
      rintro n s' ⟨h, tk, j, m', ys, nw, rfl, hj, rfl, F, hn, hmx, N, off, hst, hri, hJ⟩
      have W1 := LCg.range_walks (prog := prog) (w := w) (A := A) (I := I1) hh 0 (cnt i)
      by_cases hjl : j < cnt i
      · refine W1.item j _ _ _ hjl hri fun vj h₂ tk₂ hvj st₂ hk₂ => ?_
        obtain ⟨tj, rfl⟩ := hvj
        dsimp only
        refine wpAny_assign_Name (wpAny_storeName_local (lookup_relabel_local hy) (hn.at' fun o e => hk₂ _ o (by simpa using hCI1) e) (fun h₃ hn₃ hs₃ => ?_) (by simp [compEnvC, relabel, hkind]))
        have F₃ : Fr h₀ L h₃ m := (LCg.fr_but F hk₂ (Ne.symm hI1L) hI1₀).change hs₃ hCL hC₀
        have N₂ : News h₀ L h₂ ((D, LCg.lst ys) :: nw) := LCg.news_but N hk₂ fun p hp => by
          rcases List.mem_cons.mp hp with rfl | hp
          · exact hDI1
          · exact off p hp I1 (.tail _ (.head _))
        have N₃ : News h₀ L h₃ ((D, LCg.lst ys) :: nw) := fun p hp => by
          have z := N₂ p hp
          refine ⟨hs₃.extBut _ _ ?_ z.1, z.2⟩
          rcases List.mem_cons.mp hp with rfl | hp
          · exact Ne.symm hCD
          · exact off p hp C (.tail _ (.tail _ (.head _)))
        obtain ⟨oI, heI, rI⟩ := hst
        have heI₃ : h₃.get? I = some oI := hs₃.extBut _ _ hIC (hk₂ _ _ (by simpa using hII1) heI)
        have he1 : h₃.get? I1 = some _ := hs₃.extBut _ _ (Ne.symm hCI1) st₂
        obtain ⟨oC, heC, hoC⟩ := LCg.ns_obj hn₃
        have N₃' : News h₀ L h₃ ((I, oI) :: (I1, _) :: (C, oC) :: (D, LCg.lst ys) :: nw) := fun p hp => by
          rcases List.mem_cons.mp hp with rfl | hp
          · exact ⟨heI₃, hIL, hI₀⟩
          · rcases List.mem_cons.mp hp with rfl | hp
            · exact ⟨he1, hI1L, hI1₀⟩
            · rcases List.mem_cons.mp hp with rfl | hp
              · exact ⟨heC, hCL, hC₀⟩
              · exact N₃ p hp
        refine wpAny_mono (T.h2 i j v ys nw hv' hjl hJ I oI I1 _ C oC D _ tj h₃ _ hoC (by simp [hxy, hmx]) (by simp) F₃ N₃' off) (fun yv s₄ h₄ => ?_) fun _ _ e => e
        obtain ⟨h6, tk6, nw6, rfl, F6, N6, off6, hJ6⟩ := h₄
        have zI := (N6 _ (.head _)).1
        have z1 := (N6 _ (.tail _ (.head _))).1
        have zC := (N6 _ (.tail _ (.tail _ (.head _)))).1
        have zD := (N6 _ (.tail _ (.tail _ (.tail _ (.head _))))).1
        refine append_at (hsz := by show ys.toArray.size ≤ sizeLine; rw [List.size_toArray, sizeLine_eq]; have := T.len _ _ _ _ hJ; omega) zD fun h7 hs7 hD7 => ?_
        refine ⟨cnt i + 1 - (j + 1), by omega, h7, _, j + 1, _, ys ++ [yv], nw6, rfl, hjl, rfl, F6.change hs7 hDL hD₀, (hoC.ns zC).sameBut hs7 hCD, by simp [hxy, hmx], fun p hp => ?_, off6, ⟨oI, hs7.extBut _ _ hID zI, rI⟩, ?_, hJ6⟩
        · rcases List.mem_cons.mp hp with rfl | hp
          · exact ⟨hD7.trans (congrArg some (LCg.lst_snoc ys yv)), hDL, hD₀⟩
          · exact ⟨hs7.extBut _ _ (off6 p hp D (.tail _ (.tail _ (.tail _ (.head _))))) (N6 p (.tail _ (.tail _ (.tail _ (.tail _ hp))))).1, (N6 p (.tail _ (.tail _ (.tail _ (.tail _ hp))))).2⟩
        · exact hs7.extBut _ _ (Ne.symm hDI1) z1
      · obtain rfl : j = cnt i := Nat.le_antisymm hj (Nat.not_lt.mp hjl)
        refine W1.done _ _ _ hri fun h₂ tk₂ hk₂ => ?_
        obtain ⟨oI', heI, rI'⟩ := hst
        refine ⟨vs.length + 1 - (i + 1), by omega, h₂, tk₂, i + 1, m', ys, nw, rfl, hlt, rfl, LCg.fr_but F hk₂ (Ne.symm hI1L) hI1₀, hn.at' fun o e => hk₂ _ o (by simpa using hCI1) e, LCg.news_but N hk₂ fun p hp => ?_, fun p hp a ha => ?_, ⟨oI', hk₂ _ _ (by simpa using hII1) heI, rI'⟩, T.h3 _ _ _ hlt hJ⟩
        · rcases List.mem_cons.mp hp with rfl | hp
          · exact hDI1
          · exact off p hp I1 (.tail _ (.head _))
        · rcases List.mem_cons.mp ha with rfl | ha
          · exact off p hp _ (.head _)
          · exact off p hp a (.tail _ (.tail _ ha))
    show codeAny _ _ (.compStart _ 1 (.ref h4.objs.size) _ _) _ _
    rw [hI1]
    exact compStart_two1 loop (W1self hh hri loop)
  · obtain rfl : i = vs.length := Nat.le_antisymm hi (Nat.not_lt.mp hlt)
    refine W.done _ _ _ ⟨hst, hl⟩ fun h₂ tk₂ hk₂ => ?_
    exact fin h₂ tk₂ m' ys nw (LCg.fr_but F hk₂ (Ne.symm hIL) hI₀) (hn.at' fun o e => hk₂ _ o (by simpa using Ne.symm hIC) e) (LCg.news_but N hk₂ fun p hp => by
      rcases List.mem_cons.mp hp with rfl | hp
      · exact Ne.symm hID
      · exact off p hp I (.head _)) off hJ
theorem block_two {s₂ : Shared} {news : List (Addr × Obj)} {k : Nat} {RR : Value → Addr → Result → Shared → Prop}
    (T : Two prog w A h₀ L m env elt i1 x y scope cl s₂ ax vs cnt J) (hh : A.handled = none) (hcell : ∀ z ∈ scope.names, z.2 ≠ .cell)
    (hkind : scope.kind = .function) (hx : scope.names.lookup x = some .local) (hy : scope.names.lookup y = some .local) (hxy : x ≠ y) (hs2 : ∀ cenv x, foldedSetIterable i1 cenv x = pure x)
    (F : Fr h₀ L s₂.heap m) (N : News h₀ L s₂.heap news) (hm : (ax, lobj vs k) ∈ news) (hI₀ : h₀.get? I = none) (hIL : I ≠ L) (hIlt : I < s₂.heap.objs.size) (off : ∀ p ∈ news, p.1 ≠ I) (hst : s₂.heap.IsListIter I ax 0) (hJ : J 0 0 [] news)
    (hRR : ∀ D C h tk m' ys nw, Fr h₀ L h m → News h₀ L h ((D, LCg.lst ys) :: nw) → LCg.Off1 D nw → h.Ns C m' → h₀.get? C = none → h₀.get? D = none → C ≠ L → D ≠ L → C ≠ D → (∀ p ∈ nw, p.1 ≠ C) → J vs.length 0 ys nw → RR (.ref D) C (.ok .next) { s₂ with heap := h, toks := tk }) :
    wpAny (model prog w) A (newList []) (fun acc s₃ => wpAny (model prog w) A (newFunctionEnv scope env.globals cl [] env.qual none .none (some env)) (fun cenv s₄ =>
      codeAny (model prog w) A (.compStart (two elt (.Name x px) i0 (.Name y py) i1 scope pos) 0 (.ref I) acc { cenv with scope := relabel scope env }) (RR acc cenv.locals) s₄) (fun _ _ => False) s₃) (fun _ _ => False) s₂ := by
  refine wpAny_newObj_type (wpAny_newFunctionEnv hcell (by intro y hy; simp at hy) (fun h₁ hns₁ hsb₁ => ?_) hkind)
  dsimp only at hns₁ hsb₁ ⊢
  generalize hH2 : s₂.heap.push { cls := .type "list", dict := none, data := .seq ([] : List Value).toArray } = H2 at hns₁ hsb₁ ⊢
  have hC : H2.objs.size = s₂.heap.objs.size + 1 := by rw [← hH2, Heap.size_push]
  have hDC : s₂.heap.objs.size ≠ H2.objs.size := by rw [hC]; exact Nat.ne_of_lt (Nat.lt_succ_self _)
  have below : ∀ b, b < s₂.heap.objs.size → b ≠ H2.objs.size ∧ b ≠ s₂.heap.objs.size := fun b hb => ⟨by rw [hC]; exact Nat.ne_of_lt (Nat.lt_succ_of_lt hb), Nat.ne_of_lt hb⟩
  have old : ∀ b o, s₂.heap.get? b = some o → h₁.get? b = some o := fun b o e => hsb₁.extBut b o (below b (Heap.lt_size e)).1 (Heap.get?_push_of_some _ (hH2 ▸ Heap.get?_push_of_some _ e))
  have hacc : h₁.get? s₂.heap.objs.size = some (LCg.lst []) := hsb₁.extBut _ _ hDC (Heap.get?_push_of_some _ (hH2 ▸ Heap.get?_push_size _ rfl))
  have fresh₀ : ∀ a, s₂.heap.objs.size ≤ a → h₀.get? a = none := fun a ha => by
    cases e : h₀.get? a with
    | none => rfl
    | some o' => exact absurd (Heap.lt_size (F.keep a o' e)) (Nat.not_lt.mpr ha)
  have hD₀ : h₀.get? s₂.heap.objs.size = none := fresh₀ _ (Nat.le_refl _)
  have hC₀ : h₀.get? H2.objs.size = none := fresh₀ _ (by rw [hC]; exact Nat.le_succ _)
  have hDL : s₂.heap.objs.size ≠ L := Ne.symm (below L F.ns.lt).2
  have hCL : H2.objs.size ≠ L := Ne.symm (below L F.ns.lt).1
  have hst₁ : h₁.IsListIter I ax 0 := by obtain ⟨o, e, r⟩ := hst; exact ⟨o, old _ _ e, r⟩
  have offA : OffA news [I, H2.objs.size, s₂.heap.objs.size] := fun p hp a ha => by
    rcases List.mem_cons.mp ha with rfl | ha
    · exact off p hp
    · rcases List.mem_cons.mp ha with rfl | ha
      · exact (below _ (Heap.lt_size (N p hp).1)).1
      · rw [List.mem_singleton.mp ha]; exact (below _ (Heap.lt_size (N p hp).1)).2
  have N₁ : News h₀ L h₁ ((s₂.heap.objs.size, LCg.lst []) :: news) := fun p hp => by
    rcases List.mem_cons.mp hp with rfl | hp
    · exact ⟨hacc, hDL, hD₀⟩
    · exact ⟨old _ _ (N p hp).1, (N p hp).2⟩
  have hax : ax ≠ I := off _ hm
  have loop : ∀ s₃ : Shared, s₃ = { s₂ with heap := h₁, toks := s₂.toks + ([] : List (Str × Value)).length } →
      codeAny (model prog w) A (.compLoop (two elt (.Name x px) i0 (.Name y py) i1 scope pos) 0 (.ref I) (.ref s₂.heap.objs.size) (compEnvC scope cl H2.objs.size env))
        (RR (.ref s₂.heap.objs.size) H2.objs.size) s₃ := by
    rintro s₃ rfl
    refine loops_two T hh hkind hx hy hxy hI₀ hC₀ hD₀ hIL hCL hDL (below I hIlt).1 (below I hIlt).2 (Ne.symm hDC) (fun h tk m' ys nw F' hn' N' off' hJ' => ?_) (F.keeps old) hns₁ N₁ offA hst₁ hJ hs2
    refine hRR _ _ h tk m' ys nw F' N' ?_ hn' hC₀ hD₀ hCL hDL (Ne.symm hDC) (fun p hp => off' p hp _ (.tail _ (.head _))) hJ'
    have key : ∀ l : List (Addr × Obj), (∀ p ∈ l, p.1 ≠ s₂.heap.objs.size) → LCg.Off1 s₂.heap.objs.size l := by
      intro l
      induction l with
      | nil => intro _; trivial
      | cons p r ih => intro h; exact ⟨h p (.head _), ih fun q hq => h q (.tail _ hq)⟩
    exact key nw fun p hp => off' p hp _ (.tail _ (.tail _ (.head _)))
  have W := Walks.list (prog := prog) (w := w) hh I ax hax vs.toArray
  exact codeAny_compStart_list (loop _ rfl) (W.self 0 _ _ _ ⟨hst₁, list_at (fun p hp => N₁ p (.tail _ hp)) hm⟩ (loop _ rfl))
noncomputable def Src2 (prog : Program) (w : World) (A : Around) (h₀ : Heap) (L : Addr) (m : Str → Option Value) (env : Env) (elt i1 : PySem.Expr) (x y : Str) (scope : Scope) (cl : List (Str × Addr)) (Fin : Shared → List Value → List (Addr × Obj) → Prop) (xv : Value) (s₁ : Shared) : Prop :=
  ∃ (ax : Addr) (vs : List Value) (k : Nat) (news : List (Addr × Obj)) (cnt : Nat → Nat) (J : Nat → Nat → List Value → List (Addr × Obj) → Prop), xv = .ref ax ∧ A.handled = none ∧ Fr h₀ L s₁.heap m ∧ News h₀ L s₁.heap news ∧ (ax, lobj vs k) ∈ news ∧
    ∀ g, Two prog w A h₀ L m env elt i1 x y scope cl { s₁ with heap := g } ax vs cnt J ∧ J 0 0 [] news ∧ ∀ ys nw, J vs.length 0 ys nw → Fin { s₁ with heap := g } ys nw
theorem Assign_two {E : Value → Shared → Prop} {z : Str} {pz : Pos} {spos : Pos} {Q : Flow → Shared → Prop} (_F₀ : Fr h₀ L s.heap m) (hLe : env.locals = L)
    (hsw : swapsWith (two elt (.Name x px) i0 (.Name y py) i1 scope pos) (some (.Name z pz)) spos.line env = pure true) (hclos : closureFor scope env = pure cl) (hcell : ∀ z ∈ scope.names, z.2 ≠ .cell) (hkind : scope.kind = .function)
    (hnames : ∀ z ∈ scope.names, z.2 = .local → scope.names.lookup z.1 = some .local) (hx : scope.names.lookup x = some .local) (hy : scope.names.lookup y = some .local) (hxy : x ≠ y) (hs2 : ∀ cenv x, foldedSetIterable i1 cenv x = pure x)
    (hz : env.kindOf z = some .local) (hp : (env.scope.kind == .class || (env.scope.kind == .module && env.locals != env.globals)) = false)
    (h : wpAny (model prog w) A (eval i0 env) (Src2 prog w A h₀ L m env elt i1 x y scope cl (fun s₂ => LCg.FinA h₀ L m s₂ z Q)) E s)
    (hs : ∀ x, foldedSetIterable i0 env x = pure x) :
    wpAny (model prog w) A (exec (.Assign [.Name z pz] (two elt (.Name x px) i0 (.Name y py) i1 scope pos) spos) env) Q E s := by
  subst hLe
  rw [exec_Assign_Name_used _ _ _ _ hsw]
  refine wpAny_bind (wpAny_standAt (wpAny_bind ?_))
  show wpAny _ A (do let _ ← comprehension (two elt (.Name x px) i0 (.Name y py) i1 scope pos) scope env _ (newList []) false (eval i0 env) (some (assign (.Name z pz) env))) _ _ s
  refine wpAny_bind (wpAny_mono (wpAny_comprehension_free (use := some (assign (.Name z pz) env)) (Q := fun _ s' => Q .next s') rfl hs hclos hkind hnames
    (wpAny_mono h (fun xv s₁ h₁ => ?_) fun _ _ e => e)) (fun _ s' hq => wpAny_pure (wpAny_pure hq)) fun _ _ e => e)
  obtain ⟨ax, vs, k, news, cnt, J, rfl, hh, F, N, hm, R⟩ := h₁
  refine wpAny_pyIter_list (list_at N hm) ?_
  have up : ∀ b o, s₁.heap.get? b = some o → (s₁.heap.push { cls := .type "list_iterator", data := .fields #[.ref ax, .int 0 0] }).get? b = some o := fun b o e => Heap.get?_push_of_some _ e
  obtain ⟨T, hJ, fin⟩ := R (s₁.heap.push { cls := .type "list_iterator", data := .fields #[.ref ax, .int 0 0] })
  refine wpAny_mono (block_two (RR := compPost (model prog w) A E (some (assign (.Name z pz) env)) (fun _ s' => Q .next s')) T hh hcell hkind hx hy hxy hs2 (F.keeps up) (N.grown up) hm (next_is_new F) (Ne.symm (Nat.ne_of_lt F.ns.lt)) (by show s₁.heap.objs.size < (s₁.heap.push _).objs.size; rw [Heap.size_push]; exact Nat.lt_succ_self _) (fun p hp => Nat.ne_of_lt (Heap.lt_size (N p hp).1)) ⟨_, Heap.get?_push_size _ rfl, rfl, rfl⟩ hJ ?_) (fun acc s₃ h₃ => wpAny_mono h₃ (fun cenv s₄ h₄ => h₄) fun _ _ e => e.elim) fun _ _ e => e.elim
  intro D C h' tk m' ys nw F' N' o1 hn hC₀ hD₀ hCL hDL hCD offC hJe
  show wpAny _ A (assign (.Name z pz) env (.ref D)) _ _ _
  refine wpAny_assign_Name (wpAny_storeName_local hz F'.ns (fun h₂ hn₂ hs₂ => ?_) hp)
  have hL₀ : h₀.get? env.locals = none := Heap.get?_none_of_le F'.above
  have F₂ : Fr h₀ env.locals h₂ (fun q => if q = z then some (.ref D) else m q) := ⟨hn₂, fun b o e => hs₂.extBut b o (fun q => by rw [q, hL₀] at e; cases e) (F'.keep b o e), F'.above⟩
  refine ⟨m', hn.sameBut hs₂ hCL, fun h'' hs'' => fin ys nw hJe D h'' _ (F₂.change hs'' hCL hC₀) (fun p hp => ?_) o1⟩
  have zz : h₂.get? p.1 = some p.2 := hs₂.extBut _ _ (N' p hp).2.1 (N' p hp).1
  refine ⟨hs''.extBut _ _ ?_ zz, (N' p hp).2⟩
  rcases List.mem_cons.mp hp with rfl | hp
  · exact Ne.symm hCD
  · exact offC p hp
end
end
end
section
section
open PySem PySem.W PyProof.Rows PySem.Calls PyProof.V PySem.Spec
/-! a loop over a range, its target any (a cell), its ledger any -/
noncomputable def PostG (h₀ : Heap) (L : Addr) (J' : (Str → Option Value) → List (Addr × Obj) → Prop) (I : Addr) (oI : Obj) (s₁ : Shared) (f : Flow) (s₂ : Shared) : Prop :=
  match f with
  | .next => ∃ (h' : Heap) (tk : Nat) (m' : Str → Option Value) (nx' : List (Addr × Obj)), s₂ = { s₁ with heap := h', toks := tk } ∧ Fr h₀ L h' m' ∧ News h₀ L h' ((I, oI) :: nx') ∧ (∀ p ∈ nx', p.1 ≠ I) ∧ J' m' nx'
  | _ => False
section
variable {prog : Program} {w : World} {A : Around} {E : Value → Shared → Prop} {s : Shared} {env : Env} {h₀ : Heap} {Q : Flow → Shared → Prop} {body : List Stmt}
theorem my_rangeG {x : Str} {px : Pos} {r : Addr} {a₀ b₀ : Int} {t₀ u₀ v₀ : Tok} {m₀ : Str → Option Value} {nx₀ : List (Addr × Obj)}
    (J : Nat → (Str → Option Value) → List (Addr × Obj) → Prop) (n : Nat)
    (hh : A.handled = none) (hr : IsRange s.heap r a₀ b₀ 1 t₀ u₀ v₀) (hsmall : Builtin.Range.small a₀ b₀ 1 = true) (hn : Builtin.Range.rangeSize a₀ b₀ 1 = (n : Int))
    (F : Fr h₀ env.locals s.heap m₀) (N : News h₀ env.locals s.heap nx₀) (hp : J 0 m₀ nx₀)
    (turn : ∀ (i : Nat) (t : Tok) (m₁ : Str → Option Value) (nx : List (Addr × Obj)) (s₁ : Shared) (I : Addr) (oI : Obj), i < n → J i m₁ nx → (∀ p ∈ nx, p.1 ≠ I) → Fr h₀ env.locals s₁.heap m₁ → News h₀ env.locals s₁.heap ((I, oI) :: nx) →
      wpAny (model prog w) A (assign (.Name x px) env (.int (a₀ + (i : Int)) t)) (fun _ s₃ => wpAny (model prog w) A (execs body env) (PostG h₀ env.locals (J (i + 1)) I oI s₁) E s₃) E s₁)
    (done : ∀ (m₁ : Str → Option Value) (nx : List (Addr × Obj)) h tk, J n m₁ nx → Fr h₀ env.locals h m₁ → News h₀ env.locals h nx → Q .next { s with heap := h, toks := tk }) :
    wpAny (model prog w) A (pyIter (.ref r)) (fun it s₂ => LoopAtT prog w A h₀ env (.Name x px) body Q E it s₂) E s := by
  refine wpAny_pyIter_range hr hsmall ?_
  have W := Walks.range (prog := prog) (w := w) hh s.heap.objs.size a₀ 1 n
  have hI₀ : h₀.get? s.heap.objs.size = none := next_is_new F
  refine ⟨s.heap.objs.size, [s.heap.objs.size], [s.heap.objs.size], n, _, _, m₀, nx₀, J, rfl, W, ?_, ?_, ?_, ?_, F.push _, (fun p hp => ⟨Heap.get?_push_of_some _ (N p hp).1, (N p hp).2⟩), (fun i s' v Q' _ h => go_name h), hp, ?_, ?_⟩
  · intro hm
    exact absurd F.ns.lt ((List.mem_singleton.mp hm) ▸ Nat.lt_irrefl _)
  · intro b hb
    rw [List.mem_singleton.mp hb]; exact hI₀
  · intro p hp hI
    exact absurd (Heap.lt_size (N p hp).1) ((List.mem_singleton.mp hI) ▸ Nat.lt_irrefl _)
  · show IsRangeIter _ _ _ _ _; rw [hn]; simpa using Heap.get?_push_size _ rfl
  · rintro i v m₁ nx s₁ own hi ⟨t, rfl⟩ hJ hwr hfp hget hown st F₁ N₁
    have st' : s₁.heap.get? s.heap.objs.size = some _ := st
    have e1 : a₀ + (i : Int) * 1 = a₀ + (i : Int) := by omega
    rw [e1]
    have hmem := hown _ (List.mem_singleton.mpr rfl) hI₀ _ st'
    have N₂ : News h₀ env.locals s₁.heap ((s.heap.objs.size, _) :: nx) := fun p hp => by
      rcases List.mem_cons.mp hp with rfl | hp
      · exact N₁ _ (List.mem_append_left _ hmem)
      · exact N₁ p (List.mem_append_right _ hp)
    refine wpAny_mono (turn i t m₁ nx s₁ _ _ hi hJ (fun p hp q => hwr p hp (List.mem_singleton.mpr q)) F₁ N₂) (fun _ s₃ h₃ => wpAny_mono h₃ (fun f s₂ q => ?_) fun _ _ x => x) fun _ _ x => x
    cases f with
    | ret v => exact q.elim
    | brk => exact q.elim
    | cont => exact q.elim
    | next =>
      obtain ⟨h', tk', m', nx', e, F', N', off', hJ'⟩ := q
      refine ⟨rfl, h', tk', m', nx', e, F', fun p hp => ?_, fun p hp hq => off' p hp (List.mem_singleton.mp hq), hJ'⟩
      rcases List.mem_append.mp hp with hp | hp
      · have e1 : p.1 = s.heap.objs.size := List.mem_singleton.mp (hfp p hp)
        have e2 := hget p hp
        rw [e1, st'] at e2
        have e3 : p = (s.heap.objs.size, _) := Prod.ext e1 (Option.some.inj e2).symm
        rw [e3]
        exact N' _ (.head _)
      · exact N' p (.tail _ hp)
  · rintro h' tk m' nx' F' N' _ hJ
    exact done m' nx' h' tk hJ F' N'
end
/-! rows: lists of ints, by refs -/
structure Row where
  a : Addr
  us : List Value
  n : Nat
noncomputable def rowsLed (R : List Row) : List (Addr × Obj) := R.map fun r => (r.a, lobj r.us r.n)
noncomputable def refs (R : List Row) : List Value := R.map fun r => .ref r.a
noncomputable def RowsAre (R : List Row) (ls : List (List Int)) : Prop := Paired (fun r l => IntsAre r.us l) R ls
theorem paired_at {α β : Type} {G : α → β → Prop} : ∀ {l : List α} {k : List β} {i : Nat} {a : α}, Paired G l k → l[i]? = some a → ∃ b, k[i]? = some b ∧ G a b
  | _ :: _, _ :: _, 0, _, .cons h _, e => ⟨_, rfl, by cases Option.some.inj e; exact h⟩
  | _ :: _, _ :: _, i + 1, _, .cons _ t, e => paired_at (i := i) t e
theorem refs_at {R : List Row} {i : Nat} {v : Value} (h : (refs R)[i]? = some v) : ∃ r, R[i]? = some r ∧ v = .ref r.a := by
  unfold refs at h
  rw [List.getElem?_map] at h
  cases e : R[i]? with
  | none => rw [e] at h; cases h
  | some r => rw [e] at h; exact ⟨r, rfl, (Option.some.inj h).symm⟩
theorem row_mem {R : List Row} {i : Nat} {r : Row} (h : R[i]? = some r) : (r.a, lobj r.us r.n) ∈ rowsLed R := List.mem_map.mpr ⟨r, List.mem_of_getElem? h, rfl⟩
theorem refs_snoc (R : List Row) (r : Row) : refs (R ++ [r]) = refs R ++ [.ref r.a] := by unfold refs; rw [List.map_append]; rfl
theorem rowsLed_snoc (R : List Row) (r : Row) : rowsLed (R ++ [r]) = rowsLed R ++ [(r.a, lobj r.us r.n)] := by unfold rowsLed; rw [List.map_append]; rfl
/-- the rows of a comprehension of two clauses, so far -/
noncomputable def pre (f : List Int → Nat → List Int) (c : List Int → Nat) (ls : List (List Int)) (i j : Nat) : List (List Int) := ((ls.take i).flatMap fun l => (List.range (c l)).map (f l)) ++ (List.range j).map (f (ls.getD i []))
theorem pre_snoc {f : List Int → Nat → List Int} {c : List Int → Nat} {ls : List (List Int)} {i j : Nat} {l : List Int} (h : ls[i]? = some l) : pre f c ls i (j + 1) = pre f c ls i j ++ [f l j] := by
  unfold pre
  have e : ls.getD i [] = l := by rw [List.getD_eq_getElem?_getD, h]; rfl
  rw [List.range_succ, List.map_append, ← List.append_assoc, e]; rfl
theorem pre_next {f : List Int → Nat → List Int} {c : List Int → Nat} {ls : List (List Int)} {i : Nat} {l : List Int} (h : ls[i]? = some l) : pre f c ls i (c l) = pre f c ls (i + 1) 0 := by
  unfold pre
  have e : ls.getD i [] = l := by rw [List.getD_eq_getElem?_getD, h]; rfl
  rw [List.take_add_one, h, List.flatMap_append, e]
  simp
theorem pre_all (f : List Int → Nat → List Int) (c : List Int → Nat) (ls : List (List Int)) : pre f c ls ls.length 0 = ls.flatMap fun l => (List.range (c l)).map (f l) := by
  unfold pre
  rw [List.take_length]
  simp
/-- the word of such a comprehension: B is what stood before -/
noncomputable def RowJ (B : List (Addr × Obj)) (ls : List (List Int)) (f : List Int → Nat → List Int) (c : List Int → Nat) (i j : Nat) (ys : List Value) (nw : List (Addr × Obj)) : Prop :=
  ∃ R : List Row, ys = refs R ∧ nw = rowsLed R ++ B ∧ RowsAre R (pre f c ls i j) ∧ (∀ r ∈ R, ∀ p ∈ B, p.1 ≠ r.a) ∧ R.length ≤ i * 4 + j ∧ j ≤ 4 ∧ i ≤ 1000
theorem RowJ.start {B : List (Addr × Obj)} {ls : List (List Int)} {f : List Int → Nat → List Int} {c : List Int → Nat} : RowJ B ls f c 0 0 [] B :=
  ⟨[], rfl, rfl, .nil, (fun _ h => nomatch h), by simp, by omega, by omega⟩
theorem RowJ.next {B : List (Addr × Obj)} {ls : List (List Int)} {f : List Int → Nat → List Int} {c : List Int → Nat} {i : Nat} {ys : List Value} {nw : List (Addr × Obj)} {l : List Int} (h : ls[i]? = some l) (hc : c l ≤ 4) (hi : i < 1000)
    (J : RowJ B ls f c i (c l) ys nw) : RowJ B ls f c (i + 1) 0 ys nw := by
  obtain ⟨R, h1, h2, h3, h4, h5, h6, h7⟩ := J
  rw [pre_next h] at h3
  exact ⟨R, h1, h2, h3, h4, by omega, by omega, by omega⟩
theorem RowJ.snoc {B : List (Addr × Obj)} {ls : List (List Int)} {f : List Int → Nat → List Int} {c : List Int → Nat} {i j : Nat} {ys : List Value} {nw : List (Addr × Obj)} {l : List Int} {r : Row} (h : ls[i]? = some l) (hj : j < 4)
    (hr : IntsAre r.us (f l j)) (hn : ∀ p ∈ B, p.1 ≠ r.a) (J : RowJ B ls f c i j ys nw) :
    ∃ R : List Row, nw = rowsLed R ++ B ∧ RowJ B ls f c i (j + 1) (ys ++ [.ref r.a]) (rowsLed (R ++ [r]) ++ B) := by
  obtain ⟨R, h1, h2, h3, h4, h5, h6, h7⟩ := J
  refine ⟨R, h2, R ++ [r], by rw [refs_snoc, h1], rfl, ?_, ?_, by rw [List.length_append, List.length_singleton]; omega, by omega, h7⟩
  · rw [pre_snoc h]
    exact Paired.snoc h3 hr
  · intro q hq p hp
    rcases List.mem_append.mp hq with hq | hq
    · exact h4 q hq p hp
    · rw [List.mem_singleton.mp hq]; exact hn p hp
theorem RowJ.len {B : List (Addr × Obj)} {ls : List (List Int)} {f : List Int → Nat → List Int} {c : List Int → Nat} {i j : Nat} {ys : List Value} {nw : List (Addr × Obj)} (J : RowJ B ls f c i j ys nw) : ys.length ≤ 10000 := by
  obtain ⟨R, h1, h2, h3, h4, h5, h6, h7⟩ := J
  rw [h1, refs, List.length_map]; omega
theorem RowJ.mem {B : List (Addr × Obj)} {ls : List (List Int)} {f : List Int → Nat → List Int} {c : List Int → Nat} {i j : Nat} {ys : List Value} {nw : List (Addr × Obj)} (J : RowJ B ls f c i j ys nw) {p : Addr × Obj} (h : p ∈ B) : p ∈ nw := by
  obtain ⟨R, h1, h2, h3, h4, h5, h6, h7⟩ := J
  rw [h2]; exact List.mem_append_right _ h
end
end
section
section
open PySem PySem.W PyProof.Rows
/-- a call that gives back new things: R of the value and of what it made -/
noncomputable def ClaimL (lvl : Nat) (w : World) (mean : ExcName → Option Value) (mg mb : Str → Option Value) (f : Addr) (vs : List Value) (Post : Value → List (Addr × Obj) → Prop) : Prop :=
  ∀ (news : List (Addr × Obj)) (dp un : Nat) (gd : Option (List Code)) (cn : Str) (cs : Scope) (a : Addr) (ccd : Value) (cl : List (Str × Addr)) (outer : List Env) (A₀ : Around) (base h₀ : Heap) (L : Addr) (m : Str → Option Value) (s : Shared) (Q E : Value → Shared → Prop),
    Below A₀ base outer h₀ → Fr h₀ L s.heap m → (hd.heap_39 w.params).In h₀ → News h₀ L s.heap news → Top hd.view_39 (looseW hd.view_39 []) mean mg mb h₀ → cs.kind = .function →
    dp + lvl < recursionLimit → un + 8 * lvl < cLine →
    (∀ v new h tk, Post v new → (∀ p ∈ new, ∀ q ∈ news, q.1 ≠ p.1) → Fr h₀ L h m → News h₀ L h (new ++ news) → Q v { s with heap := h, toks := tk }) →
    wpAny (model PySem.Challenge.rw_rw0046_02.row.prog w) (ktrTop dp un gd cn cs L a ccd cl outer) (call (.ref f) vs) Q E s
end
end
section
section
open PySem PySem.W PyProof.Rows PySem.Calls PyProof.V PySem.Spec
noncomputable def ins (k : Nat) (l : List Int) (j : Nat) : List Int := l.take j ++ [(k : Int)] ++ l.drop j
noncomputable def placesUp : Nat → List (List Int)
  | 0 => [[]]
  | k + 1 => (placesUp k).flatMap fun l => (List.range (k + 1)).map (ins k l)
theorem places_len : ∀ k < 5, (placesUp k).all (fun l => decide (l.length = k)) = true ∧ (placesUp k).length ≤ 24 := by decide +kernel
theorem places_row {k i : Nat} {l : List Int} (hk : k < 5) (h : (placesUp k)[i]? = some l) : l.length = k :=
  of_decide_eq_true (List.all_eq_true.mp (places_len k hk).1 l (List.mem_of_getElem? h))
theorem paired_len {α β : Type} {G : α → β → Prop} {l : List α} {k : List β} (h : Paired G l k) : l.length = k.length := Paired.length h
/-- between the turns of the loop over k -/
noncomputable def PJ (news : List (Addr × Obj)) (aK : Addr) (ls : Nat → List (List Int)) (i : Nat) (m : Str → Option Value) (nx : List (Addr × Obj)) : Prop :=
  ∃ (D : Addr) (n' : Nat) (R : List Row) (oK : Obj), nx = (aK, oK) :: (D, lobj (refs R) n') :: (rowsLed R ++ news) ∧ m (Str.ofString "rows") = some (.ref D) ∧ RowsAre R (ls i) ∧ (∃ v, oK.data = .cell v) ∧
    (∀ p ∈ (D, lobj (refs R) n') :: rowsLed R, p.1 ≠ aK ∧ ∀ q ∈ news, q.1 ≠ p.1) ∧ (∀ q ∈ news, q.1 ≠ aK)
theorem news_of {h₀ h : Heap} {L : Addr} {l l' : List (Addr × Obj)} (N : News h₀ L h l) (hs : ∀ p ∈ l', p ∈ l) : News h₀ L h l' := fun p hp => N p (hs p hp)
theorem small04 : Builtin.Range.small 0 4 1 = true := by decide +kernel
theorem size04 : Builtin.Range.rangeSize 0 4 1 = ((4 : Nat) : Int) := by decide +kernel
theorem PJ.start {h₀ h : Heap} {L D E0 aK L' : Addr} {oK : Obj} {news : List (Addr × Obj)} {m : Str → Option Value} {ls : Nat → List (List Int)} (_F : Fr h₀ L h m) (N : News h₀ L h ((D, lobj [.ref E0] 0) :: (E0, lobj [] 0) :: (aK, oK) :: news)) (hls : ls 0 = [[]]) (hm : m (Str.ofString "rows") = some (.ref D)) (hv : ∃ v, oK.data = .cell v)
    (h1 : aK < E0) (h2 : E0 < D) (h3 : ∀ p ∈ news, p.1 < L') (h4 : aK = L' + 1) : ∃ nx, News h₀ L h nx ∧ PJ news aK ls 0 m nx := by
  have h5 : ∀ p ∈ news, @LT.lt Nat _ p.1 aK := fun p hp => by
    rw [h4]
    exact Nat.lt_succ_of_lt (h3 p hp)
  have h1' : @LT.lt Nat _ aK E0 := h1
  have h2' : @LT.lt Nat _ E0 D := h2
  refine ⟨(aK, oK) :: (D, lobj (refs [⟨E0, [], 0⟩]) 0) :: (rowsLed [⟨E0, [], 0⟩] ++ news), fun p hp => ?_, D, 0, [⟨E0, [], 0⟩], oK, rfl, hm, by rw [hls]; exact .cons .nil .nil, hv, ?_, fun q hq => Nat.ne_of_lt (h5 q hq)⟩
  · rcases List.mem_cons.mp hp with rfl | hp
    · exact N _ (.tail _ (.tail _ (.head _)))
    · rcases List.mem_cons.mp hp with rfl | hp
      · exact N _ (.head _)
      · rcases List.mem_cons.mp hp with rfl | hp
        · exact N _ (.tail _ (.head _))
        · exact N p (.tail _ (.tail _ (.tail _ hp)))
  · intro p hp
    rcases List.mem_cons.mp hp with rfl | hp
    · exact ⟨Nat.ne_of_gt (Nat.lt_trans h1' h2'), fun q hq => Nat.ne_of_lt (Nat.lt_trans (h5 q hq) (Nat.lt_trans h1' h2'))⟩
    · rw [List.mem_singleton.mp hp]
      exact ⟨Nat.ne_of_gt h1', fun q hq => Nat.ne_of_lt (Nat.lt_trans (h5 q hq) h1')⟩
/-- the turn's ledger: the cell and the iterator ahead, the rest as one tail -/
theorem PJ.off {news : List (Addr × Obj)} {aK I D : Addr} {n' : Nat} {R : List Row} {oK : Obj} (hsep : ∀ p ∈ (D, lobj (refs R) n') :: rowsLed R, p.1 ≠ aK ∧ ∀ q ∈ news, q.1 ≠ p.1) (hnews : ∀ q ∈ news, q.1 ≠ aK) (hne : ∀ p ∈ (aK, oK) :: (D, lobj (refs R) n') :: (rowsLed R ++ news), p.1 ≠ I) :
    OwnOff ((D, lobj (refs R) n') :: (rowsLed R ++ news)) [I, aK] := by
  intro p hp b hb
  rcases List.mem_cons.mp hb with rfl | hb
  · exact hne p (.tail _ hp)
  · rw [List.mem_singleton.mp hb]
    rcases List.mem_cons.mp hp with rfl | hp
    · exact (hsep _ (.head _)).1
    · rcases List.mem_append.mp hp with hp | hp
      · exact (hsep p (.tail _ hp)).1
      · exact hnews p hp
theorem tail2 {h₀ h : Heap} {L : Addr} {a b : Addr × Obj} {l : List (Addr × Obj)} (_N : News h₀ L h (a :: b :: l)) : ∀ p ∈ l, p ∈ a :: b :: l := fun _ hp => .tail _ (.tail _ hp)
theorem head2 {h₀ h : Heap} {L : Addr} {a b : Addr × Obj} {l : List (Addr × Obj)} (_N : News h₀ L h (a :: b :: l)) : b ∈ a :: b :: l := .tail _ (.head _)
/-- the ledger that the walk of a clause sees -/
theorem see4 {h₀ h : Heap} {L : Addr} {a b c d : Addr × Obj} {nw : List (Addr × Obj)} (N : News h₀ L h (a :: b :: c :: nw)) (hd : d ∈ nw) : News h₀ L h [a, b, c, d] := fun p hp => by
  rcases List.mem_cons.mp hp with rfl | hp
  · exact N _ (.head _)
  · rcases List.mem_cons.mp hp with rfl | hp
    · exact N _ (.tail _ (.head _))
    · rcases List.mem_cons.mp hp with rfl | hp
      · exact N _ (.tail _ (.tail _ (.head _)))
      · rw [List.mem_singleton.mp hp]
        exact N _ (.tail _ (.tail _ (.tail _ hd)))
/-- the ledger that the walk of an element sees: the four, the cell, the row, then all -/
theorem see6 {h₀ h : Heap} {L : Addr} {a b c d e f : Addr × Obj} {nw : List (Addr × Obj)} (N : News h₀ L h (a :: b :: c :: d :: nw)) (he : e ∈ nw) (hf : f ∈ nw) : News h₀ L h (e :: f :: c :: (a :: b :: c :: d :: nw)) := fun p hp => by
  rcases List.mem_cons.mp hp with rfl | hp
  · exact N _ (.tail _ (.tail _ (.tail _ (.tail _ he))))
  · rcases List.mem_cons.mp hp with rfl | hp
    · exact N _ (.tail _ (.tail _ (.tail _ (.tail _ hf))))
    · rcases List.mem_cons.mp hp with rfl | hp
      · exact N _ (.tail _ (.tail _ (.head _)))
      · exact N p hp
section
variable {prog : Program} {w : World} {A : Around} {E : Value → Shared → Prop} {s : Shared} {h₀ : Heap} {L ra : Addr} {m : Str → Option Value} {news : List (Addr × Obj)} {Q : Value → Shared → Prop} {us : List Value} {ns : List Int} {rn : Nat} {j : Int} {uj : Tok} {value slice : PySem.Expr}
theorem row_from (F : Fr h₀ L s.heap m) (N : News h₀ L s.heap news) (hm : (ra, listOf us.toArray rn) ∈ news) (hi : IntsAre us ns) (h0 : 0 ≤ j) (hn : us.length ≤ 10000)
    (h : ∀ D ws h', Fr h₀ L h' m → News h₀ L h' ((D, listOf (List.toArray ws) 0) :: news) → (∀ p ∈ news, p.1 < D) → IntsAre ws (ns.drop j.toNat) → (ns.drop j.toNat).length ≤ 10000 → Q (.ref D) { s with heap := h' })
    (hs : subscripted slice false (.ref ra) (.ref s.heap.objs.size) = operate [.ref s.heap.objs.size, .ref ra] (getItem (.ref ra) (.ref s.heap.objs.size))) (ht : ∀ r, letTemporaryGo value (.ref ra) r = pure ()) :
    wpAny (model prog w) A (subscriptTail value slice (.ref ra) (.ref s.heap.objs.size)) Q E { s with heap := s.heap.push { cls := .type "slice", data := .fields #[.int j uj, .none, .none] } } :=
  kmk_slice_ints F N (list_at N hm) (.int _ _) .none hi (kmk_from hi h0) rfl (fun D ws h' F' N' l1 hI _ hle => h D ws h' F' N' l1 hI (by have := hi.length; omega)) hs ht (by rw [List.size_toArray, sizeLine_eq]; omega)
theorem row_upto (F : Fr h₀ L s.heap m) (N : News h₀ L s.heap news) (hm : (ra, listOf us.toArray rn) ∈ news) (hi : IntsAre us ns) (h0 : 0 ≤ j) (hn : us.length ≤ 10000)
    (h : ∀ D ws h', Fr h₀ L h' m → News h₀ L h' ((D, listOf (List.toArray ws) 0) :: news) → (∀ p ∈ news, p.1 < D) → IntsAre ws (ns.take j.toNat) → (ns.take j.toNat).length ≤ 10000 → Q (.ref D) { s with heap := h' })
    (hs : subscripted slice false (.ref ra) (.ref s.heap.objs.size) = operate [.ref s.heap.objs.size, .ref ra] (getItem (.ref ra) (.ref s.heap.objs.size))) (ht : ∀ r, letTemporaryGo value (.ref ra) r = pure ()) :
    wpAny (model prog w) A (subscriptTail value slice (.ref ra) (.ref s.heap.objs.size)) Q E { s with heap := s.heap.push { cls := .type "slice", data := .fields #[.none, .int j uj, .none] } } :=
  kmk_slice_ints F N (list_at N hm) .none (.int _ _) hi (kmk_upto hi h0) rfl (fun D ws h' F' N' l1 hI _ hle => h D ws h' F' N' l1 hI (by have := hi.length; omega)) hs ht (by rw [List.size_toArray, sizeLine_eq]; omega)
end
theorem elt_end {h₀ h' : Heap} {L y I' I1 C D' : Addr} {oI' o1 oC : Obj} {m : Str → Option Value} {B nw all front : List (Addr × Obj)} {ls : List (List Int)} {f : List Int → Nat → List Int} {c : List Int → Nat} {i j : Nat} {ys ws : List Value} {l : List Int} {n : Nat} {s : Shared} {tk' : Nat}
    (F : Fr h₀ L h' m) (N : News h₀ L h' ((y, listOf ws.toArray n) :: front ++ all)) (hall : all = (I', oI') :: (I1, o1) :: (C, oC) :: (D', LCg.lst ys) :: nw) (hy : AllLt y all) (hl : ls[i]? = some l) (hj : j < 4) (hI : IntsAre ws (f l j)) (off : OffA nw [I', I1, C, D']) (hJ : RowJ B ls f c i j ys nw) :
    ∃ (h'' : Heap) (tk : Nat) (nw' : List (Addr × Obj)), ({ s with heap := h', toks := tk' } : Shared) = { s with heap := h'', toks := tk } ∧ Fr h₀ L h'' m ∧ News h₀ L h'' ((I', oI') :: (I1, o1) :: (C, oC) :: (D', LCg.lst ys) :: nw') ∧ OffA nw' [I', I1, C, D'] ∧ RowJ B ls f c i (j + 1) (ys ++ [.ref y]) nw' := by
  subst hall
  have key : ∀ l : List (Addr × Obj), AllLt y l → ∀ p ∈ l, @LT.lt Nat _ p.1 y := by
    intro l
    induction l with
    | nil => intro _ p hp; cases hp
    | cons q r ih => intro h p hp; rcases List.mem_cons.mp hp with rfl | hp; exact h.1; exact ih h.2 p hp
  have hlt := key _ hy
  obtain ⟨R, e, hJ'⟩ := RowJ.snoc (r := ⟨y, ws, n⟩) hl hj hI (fun p hp => Nat.ne_of_lt (hlt p (.tail _ (.tail _ (.tail _ (.tail _ (hJ.mem hp))))))) hJ
  have hin : ∀ p ∈ rowsLed (R ++ [⟨y, ws, n⟩]) ++ B, p ∈ nw ∨ p = (y, listOf ws.toArray n) := fun p hp => by
    rw [rowsLed_snoc] at hp
    rcases List.mem_append.mp hp with hp | hp
    · rcases List.mem_append.mp hp with hp | hp
      · exact .inl (by rw [e]; exact List.mem_append_left _ hp)
      · exact .inr (List.mem_singleton.mp hp)
    · exact .inl (by rw [e]; exact List.mem_append_right _ hp)
  refine ⟨h', tk', _, rfl, F, fun p hp => ?_, fun p hp a ha => ?_, hJ'⟩
  · have old : ∀ q ∈ (I', oI') :: (I1, o1) :: (C, oC) :: (D', LCg.lst ys) :: nw, h'.get? q.1 = some q.2 ∧ q.1 ≠ L ∧ h₀.get? q.1 = none := fun q hq => N q (List.mem_append_right _ hq)
    rcases List.mem_cons.mp hp with rfl | hp
    · exact old _ (.head _)
    · rcases List.mem_cons.mp hp with rfl | hp
      · exact old _ (.tail _ (.head _))
      · rcases List.mem_cons.mp hp with rfl | hp
        · exact old _ (.tail _ (.tail _ (.head _)))
        · rcases List.mem_cons.mp hp with rfl | hp
          · exact old _ (.tail _ (.tail _ (.tail _ (.head _))))
          · rcases hin p hp with hp | rfl
            · exact old _ (.tail _ (.tail _ (.tail _ (.tail _ hp))))
            · exact N _ (.head _)
  · rcases hin p hp with hp | rfl
    · exact off p hp a ha
    · rcases List.mem_cons.mp ha with rfl | ha
      · exact Nat.ne_of_gt (hlt _ (.head _))
      · rcases List.mem_cons.mp ha with rfl | ha
        · exact Nat.ne_of_gt (hlt _ (.tail _ (.head _)))
        · rcases List.mem_cons.mp ha with rfl | ha
          · exact Nat.ne_of_gt (hlt _ (.tail _ (.tail _ (.head _))))
          · rw [List.mem_singleton.mp ha]
            exact Nat.ne_of_gt (hlt _ (.tail _ (.tail _ (.tail _ (.head _)))))
theorem off1_mem {D : Addr} : ∀ {l : List (Addr × Obj)}, LCg.Off1 D l → ∀ p ∈ l, p.1 ≠ D
  | [], _, _, h => nomatch h
  | _ :: _, x, p, h => by
    rcases List.mem_cons.mp h with rfl | h
    · exact x.1
    · exact off1_mem x.2 p h
theorem PJ.next {h₀ h : Heap} {L₀ I aK D D2 : Addr} {oI o' : Obj} {m' : Str → Option Value} {news own nw : List (Addr × Obj)} {ls : Nat → List (List Int)} {LL : List (List Int)} {f : List Int → Nat → List Int} {c : List Int → Nat} {i n n' tk : Nat} {ys : List Value} {R : List Row} {s₁ : Shared}
    (hJ : RowJ ((I, oI) :: (aK, o') :: own) LL f c n 0 ys nw) (hn : n = LL.length) (hls : ls (i + 1) = LL.flatMap fun l => (List.range (c l)).map (f l)) (hown : own = (D, lobj (refs R) n') :: (rowsLed R ++ news)) (F : Fr h₀ L₀ h m') (N : News h₀ L₀ h ((D2, LCg.lst ys) :: nw)) (off : LCg.Off1 D2 nw)
    (hm : m' (Str.ofString "rows") = some (.ref D2)) (hv : ∃ v, o'.data = .cell v) (hIK : aK ≠ I) (hoff : OwnOff own [I, aK]) (hnews : ∀ q ∈ news, q.1 ≠ aK) :
    PostG h₀ L₀ (PJ news aK ls (i + 1)) I oI s₁ .next { s₁ with heap := h, toks := tk } := by
  obtain ⟨R2, e1, e2, hR2, hsep, _, _, _⟩ := hJ
  rw [hn, pre_all, ← hls] at hR2
  have inB : ∀ p ∈ (I, oI) :: (aK, o') :: own, p ∈ nw := fun p hp => by rw [e2]; exact List.mem_append_right _ hp
  have inown : ∀ p ∈ news, p ∈ own := fun p hp => by rw [hown]; exact .tail _ (List.mem_append_right _ hp)
  have o1 := off1_mem off
  refine ⟨h, tk, m', (aK, o') :: (D2, lobj (refs R2) ys.length) :: (rowsLed R2 ++ news), rfl, F, fun p hp => ?_, fun p hp => ?_, D2, ys.length, R2, o', rfl, hm, hR2, hv, ?_, hnews⟩
  · rcases List.mem_cons.mp hp with rfl | hp
    · exact N _ (.tail _ (inB _ (.head _)))
    · rcases List.mem_cons.mp hp with rfl | hp
      · exact N _ (.tail _ (inB _ (.tail _ (.head _))))
      · rcases List.mem_cons.mp hp with rfl | hp
        · rw [← e1]; exact N _ (.head _)
        · rcases List.mem_append.mp hp with hp | hp
          · exact N _ (.tail _ (by rw [e2]; exact List.mem_append_left _ hp))
          · exact N _ (.tail _ (inB _ (.tail _ (.tail _ (inown p hp)))))
  · rcases List.mem_cons.mp hp with rfl | hp
    · exact hIK
    · rcases List.mem_cons.mp hp with rfl | hp
      · exact Ne.symm (o1 _ (inB _ (.head _)))
      · rcases List.mem_append.mp hp with hp | hp
        · obtain ⟨r, hr, rfl⟩ := List.mem_map.mp hp
          exact Ne.symm (hsep r hr _ (.head _))
        · exact hoff p (inown p hp) I (.head _)
  · intro p hp
    rcases List.mem_cons.mp hp with rfl | hp
    · exact ⟨Ne.symm (o1 _ (inB _ (.tail _ (.head _)))), fun q hq => o1 _ (inB _ (.tail _ (.tail _ (inown q hq))))⟩
    · obtain ⟨r, hr, rfl⟩ := List.mem_map.mp hp
      exact ⟨Ne.symm (hsep r hr _ (.tail _ (.head _))), fun q hq => hsep r hr _ (.tail _ (.tail _ (inown q hq)))⟩
theorem row_next {B : List (Addr × Obj)} {ls : List (List Int)} {f : List Int → Nat → List Int} {k : Nat} {i : Nat} {ys : List Value} {nw : List (Addr × Obj)} {R : List Row} (hR : RowsAre R ls) (hi : i < (refs R).length) (hl : ls.length ≤ 24) (hk : k ≤ 4) (J : RowJ B ls f (fun _ => k) i k ys nw) : RowJ B ls f (fun _ => k) (i + 1) 0 ys nw := by
  have e := paired_len hR
  rw [refs, List.length_map] at hi
  exact RowJ.next (l := ls[i]'(by omega)) (List.getElem?_eq_getElem (by omega)) hk (by omega) J
theorem refs_len {R : List Row} {ls : List (List Int)} (hR : RowsAre R ls) : (refs R).length = ls.length := by
  rw [refs, List.length_map]; exact paired_len hR
/-- what a call gives back: a list of rows -/
noncomputable def Rows (ls : List (List Int)) (v : Value) (new : List (Addr × Obj)) : Prop := ∃ (D : Addr) (n' : Nat) (R : List Row), v = .ref D ∧ new = (D, lobj (refs R) n') :: rowsLed R ∧ RowsAre R ls
theorem PJ.rest {h₀ h : Heap} {L aK D : Addr} {oK : Obj} {n' : Nat} {R : List Row} {news : List (Addr × Obj)} (N : News h₀ L h ((aK, oK) :: (D, lobj (refs R) n') :: (rowsLed R ++ news))) : News h₀ L h (((D, lobj (refs R) n') :: rowsLed R) ++ news) := fun p hp => N p (.tail _ hp)
theorem hideQ {prog : Program} {w : World} {A : Around} {E : Value → Shared → Prop} {s : Shared} {env : Env} {Q : Flow → Shared → Prop} {body : List Stmt} {c : Sem Unit} (h : ∀ QQ : Flow → Shared → Prop, QQ = Q → wpAny (model prog w) A c (fun _ s₃ => wpAny (model prog w) A (execs body env) QQ E s₃) E s) :
    wpAny (model prog w) A c (fun _ s₃ => wpAny (model prog w) A (execs body env) Q E s₃) E s := h Q rfl
theorem hideP5 {M : Model} {A : Around} {E : Value → Shared → Prop} {s : Shared} {α : Type} {c : Sem α} {Q : α → Shared → Prop} (h : ∀ QQ : α → Shared → Prop, QQ = Q → wpAny M A c QQ E s) : wpAny M A c Q E s := h Q rfl
end
end
section
open PySem PySem.W PyProof.Rows
local macro_rules | `(tactic| walk_at "exec For Name Call cons nil") => `(tactic| refine Stop.mk ?_)
local macro_rules | `(tactic| walk_at "exec Assign cons ListComp") => `(tactic| refine Stop.mk ?_)
local macro_rules | `(tactic| walk_at "subscriptTail Name Slice ref ref") => `(tactic| ((k_dflt (first | refine' row_upto (by k_asm) (by k_asm) (by k_mem) (by assumption) (by omega) (by omega) ?_ (by with_unfolding_all rfl) (by intro _; with_unfolding_all rfl) | refine' row_from (by k_asm) (by k_asm) (by k_mem) (by assumption) (by omega) (by omega) ?_ (by with_unfolding_all rfl) (by intro _; with_unfolding_all rfl))); intro D' ws' h' F' N' l1 hI' hC'; (try k_lt l1); (try k_sweep)))
local macro_rules | `(tactic| walk_at "pyIter ref") => `(tactic| refine Stop.mk ?_)
set_option maxRecDepth 100000 in
set_option maxHeartbeats 1000000 in
theorem places_claim (w : World) (mean) (mg mb) (t4 : Tok) : ClaimL 1 w mean mg mb 47 [.int 4 t4] (Rows (placesUp 4)) := by
  unfold ClaimL
  w_on
  w_strict (
    k_fill
    intro news dp un gd cn cs ac ccd cl outer A₀ base h₀ L m s Q E hB hFc hX hN hT hk hd hu hret
    refine wpAny_call ?_
    (k_dflt ((refine' code_defC ?k1 ?k2 ?k3 ?k4 ?k5 ?kA ?kF ?kK ?k6 ?k7 ?k8 ?k9 ?kB ?kD ?_ ?c2 ?c3 ?c4; (case kA => exact rfl); (case kF => exact rfl); (case kK => assumption); (case k1 => k_asm); (case k2 => k_asm); (case k3 => k_asm); (case k4 => k_asm); (case k5 => k_asm); (case k6 => k_is); (case k7 => k_is); (case k8 => ktr_room); (case k9 => exact BindsTo.of_eq rfl); (case kB => exact rfl); (case kD => decide +kernel); (case c2 => exact rfl); (case c3 => exact rfl); (case c4 => exact rfl); k_whole; intro g' L' h' tk' cells' FG' F' N' Y' B' X' T' l1; k_cells Y'; (try simp only [List.cons_append, List.nil_append] at N'); (try dsimp only); (try k_lift B'); (try k_fold))))
    k_steps
    refine Stop.out ?_
    rename Fr _ _ _ _ => F1
    (with_unfolding_all refine For_invTF F1 ?_ (by intro _; rfl))
    k_steps
    rename Fr _ _ _ _ => F2
    rename News _ _ _ _ => N2
    rename IsRange _ _ _ _ _ _ _ _ => rgX
    rename (∀ (p : Addr × Obj), p ∈ _ → p.1 < _) => hlow
    rename (_ < _ ∧ _ < _ ∧ AllLt _ _) => q2
    rename (_ < _ ∧ AllLt _ _) => q1
    obtain ⟨nx, N2', hJ0⟩ := PJ.start (ls := placesUp) F2 N2 rfl rfl ⟨_, by assumption⟩ q1.1 q2.1 hlow rfl
    refine my_rangeG (PJ _ _ placesUp) 4 rfl rgX small04 size04 F2 N2' hJ0 ?_ ?_
    · clear F2 N2 rgX N2' hJ0
      rintro i t m₁ nx ⟨hh5, g5, dr5, tk5, os5⟩ I oI hi hJ hne F3 N3
      refine hideQ ?_
      intro QO hQO
      obtain ⟨D, n', R, oK, rfl, hm, hR, ⟨v, hoK⟩, hsep, hnews⟩ := hJ
      replace F3 := kst_fr (ps := [(Str.ofString "rows", .ref D)]) (fun p hp => by rw [List.mem_singleton.mp hp]; exact hm) F3
      dsimp only [kstB] at F3
      have hoff := PJ.off hsep hnews hne
      have hIK : @Ne Nat I _ := Ne.symm (hne _ (.head _))
      have N4 := news_of N3 (l' := [(I, oI), (_, oK)] ++ ((D, lobj (refs R) n') :: (rowsLed R ++ news))) (fun p hp => hp)
      obtain ⟨own, hown⟩ : ∃ own, own = (D, lobj (refs R) n') :: (rowsLed R ++ news) := ⟨_, rfl⟩
      rw [← hown] at hoff N4
      clear N3
      rw [show (0 : Int) + (i : Int) = (i : Int) by omega]
      dsimp only at hIK ⊢
      k_steps
      refine Stop.out ?_
      refine Assign_two (hs := fun _ => rfl) (by k_asm) (by rfl) (by with_unfolding_all rfl) (by with_unfolding_all rfl) (by decide) (by rfl) (by decide) (by rfl) (by rfl) (by decide) (fun _ _ => rfl) (by rfl) (by rfl) ?_
      k_steps
      rename Fr _ _ _ _ => F5
      rename News _ _ _ _ => N5
      rename (Obj.data _ = Data.cell (some (Value.int _ _))) => dK
      have hin := tail2 N5
      have hcell := head2 N5
      refine ⟨D, refs R, n', _, fun _ => i + 1, RowJ _ (placesUp i) (ins i) (fun _ => i + 1), rfl, rfl, F5, N5, hin _ (by rw [hown]; exact .head _), fun g => ⟨⟨?_, ?_, ?_, ?_, ?_, ?_⟩, RowJ.start, ?_⟩⟩
      · intro i' j ys nw hJ
        exact ⟨n', hJ.mem (hin _ (by rw [hown]; exact .head _))⟩
      · intro _; omega
      · intro i' j ys nw hJ
        exact hJ.len
      · intro i' v ys nw hv hJ I' oI' C oC D' m₂ h tk hC hx F N off
        have N6 := see4 N (hJ.mem hcell)
        clear N N5 F5
        k_steps
        refine Stop.out ?_
        exact ⟨_, _, _, _, _, _, rfl, rfl, by assumption, by assumption⟩
      · intro i' j v ys nw hv hj hJ I' oI' I1 o1 C oC D' m₂ tj h tk hC hx hy F N off
        obtain ⟨⟨ra, us, rn⟩, hr, rfl⟩ := refs_at hv
        obtain ⟨l, hl, hI⟩ := paired_at hR hr
        have hl4 := places_row (by omega) hl
        have hl4' := hI.length
        dsimp only at hI hl4' hx
        have hrm : (ra, listOf us.toArray rn) ∈ nw := hJ.mem (hin _ (by rw [hown]; exact .tail _ (List.mem_append_left _ (row_mem hr))))
        have N6 := see6 N (hJ.mem hcell) hrm
        obtain ⟨all, hall⟩ : ∃ all, all = (I', oI') :: (I1, o1) :: (C, oC) :: (D', LCg.lst ys) :: nw := ⟨_, rfl⟩
        rw [← hall] at N6
        clear N5 F5
        refine hideP5 ?_
        intro QS hQS
        k_steps
        subst hQS
        refine Stop.out ?_
        rename Fr _ _ _ _ => F7
        rename News _ _ _ _ => N7
        rename (_ < _ ∧ _ < _ ∧ _ < _ ∧ _ < _ ∧ _ < _ ∧ _ < _ ∧ _ < _ ∧ AllLt _ _) => q7
        rename IntsAre _ (_ ++ List.drop _ _) => hI7
        exact elt_end (front := [_, _, _, _, _, _, _]) F7 N7 hall q7.2.2.2.2.2.2.2 hl (by omega) hI7 off hJ
      · intro i' ys nw hlt hJ
        exact row_next hR hlt (places_len i (by omega)).2 (by omega) hJ
      · intro ys nw hJ
        unfold LCg.FinA
        intro D2 h tk F7 N7 off7
        clear N5 F5
        dsimp only
        k_steps
        subst hQO
        exact PJ.next hJ (refs_len hR) rfl hown F7 N7 off7 rfl ⟨_, dK⟩ (Ne.symm hIK) hoff hnews
    · clear F2 N2 rgX N2' hJ0
      rintro m₁ nx h tk ⟨D, n', R, oK, rfl, hm, hR, _, hsep, hnews⟩ F3 N3
      replace F3 := kst_fr (ps := [(Str.ofString "rows", .ref D)]) (fun p hp => by rw [List.mem_singleton.mp hp]; exact hm) F3
      dsimp only [kstB] at F3
      replace N3 := PJ.rest N3
      obtain ⟨new, hnew⟩ : ∃ new, new = (D, lobj (refs R) n') :: rowsLed R := ⟨_, rfl⟩
      rw [← hnew] at hsep N3
      k_steps
      rename Fr _ _ _ _ => F9
      rename News _ _ _ _ => N9
      exact hret _ _ _ _ ⟨D, n', R, rfl, hnew, hR⟩ (fun p hp => (hsep p hp).2) F9 N9)
section
section
open PySem PySem.W PyProof.Rows PySem.Calls PyProof.V PySem.Spec
section
variable {prog : Program} {w : World} {A : Around} {E : Value → Shared → Prop} {s : Shared} {h₀ : Heap} {L ra : Addr} {m : Str → Option Value} {news : List (Addr × Obj)} {Q : Value → Shared → Prop} {us : List Value} {ns : List Int} {rn : Nat} {j : Int} {uj : Tok} {value slice : PySem.Expr}
theorem row_item (N : News h₀ L s.heap news) (hm : (ra, listOf us.toArray rn) ∈ news) (hi : IntsAre us ns) (h0 : 0 ≤ j) (h1 : j < ns.length) (hn : ns.length ≤ 10000)
    (h : ∀ t, Q (.int (ns.getD j.toNat 0) t) s)
    (hs : subscripted slice false (.ref ra) (.int j uj) = operate [.ref ra, .int j uj] (getItem (.ref ra) (.int j uj))) :
    wpAny (model prog w) A (subscriptTail value slice (.ref ra) (.int j uj)) Q E s := by
  have hl : s.heap.IsList ra us.toArray := list_at N hm
  have hu := hi.length
  obtain ⟨v, hv⟩ : ∃ v, us[j.toNat]? = some v := ⟨us[j.toNat]'(by omega), List.getElem?_eq_getElem (by omega)⟩
  obtain ⟨k, t, rfl, hk⟩ := IntsAre.at hi j.toNat v hv
  have e : ns.getD j.toNat 0 = k := by rw [List.getD_eq_getElem?_getD, hk]; rfl
  rw [e] at h
  exact tail_any hl.typeIs slot_list_getitem.lookup (wpAny_getItem_list hl h0 (by omega) (by simpa using hv) (h t)) hs
theorem row_len {rl : Nat} (N : News h₀ L s.heap news) (hm : (ra, listOf us.toArray rn) ∈ news) (hlen : us.length = rl) (hk : rl ≤ 10000) (h : ∀ t k, Q (.int (rl : Int) t) { s with toks := k }) : wpAny (model prog w) A (call (.builtin "len") [.ref ra]) Q E s := by
  refine PyProof.Rows.len_list (list_at N hm) (by rw [List.size_toArray, hlen]; omega) ?_
  rw [List.size_toArray, hlen]
  exact h _ _
end
noncomputable def shl1 (i : Nat) : Int := 1 * 2 ^ i
noncomputable def mark1 (k : Nat) (l : List Int) (j : Nat) : List Int := l.take j ++ [Builtin.bitOr (l.getD j 0) (shl1 k)] ++ l.drop (j + 1)
noncomputable def partUp : Nat → List (List Int)
  | 0 => [[]]
  | k + 1 => ((partUp k).map fun l => l ++ [shl1 k]) ++ ((partUp k).flatMap fun l => (List.range l.length).map (mark1 k l))
theorem part_len : ∀ k < 5, (partUp k).all (fun l => decide (l.length ≤ k)) = true ∧ (partUp k).length ≤ 24 := by decide +kernel
theorem part_row {k i : Nat} {l : List Int} (hk : k < 5) (h : (partUp k)[i]? = some l) : l.length ≤ k :=
  of_decide_eq_true (List.all_eq_true.mp (part_len k hk).1 l (List.mem_of_getElem? h))
noncomputable def cntP (k i : Nat) : Nat := ((partUp k).getD i []).length
theorem cntP_le {k : Nat} (hk : k < 5) (i : Nat) : cntP k i ≤ k := by
  unfold cntP
  rw [List.getD_eq_getElem?_getD]
  cases h : (partUp k)[i]? with
  | none => simp
  | some l => exact part_row hk h
theorem cntP_eq {k i : Nat} {l : List Int} (h : (partUp k)[i]? = some l) : cntP k i = l.length := by
  unfold cntP
  rw [List.getD_eq_getElem?_getD, h]; rfl
theorem row_nextP {B : List (Addr × Obj)} {k : Nat} {i : Nat} {ys : List Value} {nw : List (Addr × Obj)} {R : List Row} (hk : k < 5) (hR : RowsAre R (partUp k)) (hi : i < (refs R).length) (J : RowJ B (partUp k) (mark1 k) (fun l => l.length) i (cntP k i) ys nw) : RowJ B (partUp k) (mark1 k) (fun l => l.length) (i + 1) 0 ys nw := by
  have e := paired_len hR
  have hl := (part_len k hk).2
  rw [refs, List.length_map] at hi
  have h1 : (partUp k)[i]? = some ((partUp k)[i]'(by omega)) := List.getElem?_eq_getElem (by omega)
  rw [cntP_eq h1] at J
  exact RowJ.next h1 (by have := part_row hk h1; omega) (by omega) J
/-! one clause, over rows -/
section
variable {prog : Program} {w : World} {A : Around} {h₀ : Heap} {L ax : Addr} {m : Str → Option Value} {env : Env} {elt : PySem.Expr} {x : Str} {scope : Scope} {cl : List (Str × Addr)} {Fin : Shared → List Value → List (Addr × Obj) → Prop} {k : Nat} {news : List (Addr × Obj)} {s₁ : Shared} {R : List Row} {ls : List (List Int)} {f : List Int → List Int}
theorem src_rows (hh : A.handled = none) (F : Fr h₀ L s₁.heap m) (N : News h₀ L s₁.heap news) (hm : (ax, lobj (refs R) k) ∈ news) (hR : RowsAre R ls) (hn : ls.length ≤ 900)
    (turn : ∀ i (r : Row) (l : List Int) ys nw, R[i]? = some r → ls[i]? = some l → IntsAre r.us l → RowJ news ls (fun l _ => f l) (fun _ => 1) i 0 ys nw → ∀ (I : Addr) (oI : Obj) (C : Addr) (oC : Obj) (D : Addr) (m₂ : Str → Option Value) (h : Heap) (tk : Nat) (E' : Value → Shared → Prop), LCg.NsObj oC m₂ → m₂ x = some (.ref r.a) → Fr h₀ L h m → News h₀ L h ((I, oI) :: (C, oC) :: (D, LCg.lst ys) :: nw) → LCg.Off3 I C D nw → ((@Ne Nat I C) ∧ (@Ne Nat I D) ∧ (@Ne Nat C D)) →
      wpAny (model prog w) A (eval elt (compEnvC scope cl C env)) (fun y s₂ => Stop (∃ (h' : Heap) (tk' : Nat) (nw' : List (Addr × Obj)), s₂ = { s₁ with heap := h', toks := tk' } ∧ Fr h₀ L h' m ∧ News h₀ L h' ((I, oI) :: (C, oC) :: (D, LCg.lst ys) :: nw') ∧ LCg.Off3 I C D nw' ∧ RowJ news ls (fun l _ => f l) (fun _ => 1) i 1 (ys ++ [y]) nw')) E' { s₁ with heap := h, toks := tk })
    (fin : ∀ g ys nw, RowJ news ls (fun l _ => f l) (fun _ => 1) ls.length 0 ys nw → Fin { s₁ with heap := g } ys nw) : LCg.CompSrc prog w A h₀ L m env elt x scope cl Fin (.ref ax) s₁ := by
  have hlen := refs_len hR
  refine LCg.CompSrc.ledger hh F N hm (by rw [List.size_toArray, sizeLine_eq]; omega) fun g => ?_
  have key : ∀ (j i : Nat) (ys : List Value) (nw : List (Addr × Obj)), i + j = (refs R).length → RowJ news ls (fun l _ => f l) (fun _ => 1) i 0 ys nw →
      LCg.CompRest prog w A h₀ L m env elt x scope cl { s₁ with heap := g } (LCg.SrcAt h₀ ax (refs R).toArray) (fun i v => (refs R).toArray[i]? = some v) (Fin { s₁ with heap := g }) j i ys nw := by
    intro j
    induction j with
    | zero =>
      intro i ys nw hi hJ
      have e : i = ls.length := by omega
      subst e
      exact LCg.CompRest.zero (fin g ys nw hJ)
    | succ j ih =>
      intro i ys nw hi hJ
      refine LCg.CompRest.succ ?_
      intro v I oI C oC D m₂ h tk E' hv hC hx F N off ne
      obtain ⟨r, hr, rfl⟩ := refs_at (i := i) (v := v) (by simpa using hv)
      obtain ⟨l, hl, hI⟩ := paired_at hR hr
      refine wpAny_mono (turn i r l ys nw hr hl hI hJ I oI C oC D m₂ h tk E' hC hx F N off ne) (fun y s₂ hq => ?_) fun _ _ e => e
      obtain ⟨h', tk', nw', e, F', N', off', hJ'⟩ := hq
      refine ⟨h', tk', nw', e, F', N', off', .inr ⟨_, hJ'.mem hm, rfl, _, rfl⟩, ih (i + 1) _ _ (by omega) (RowJ.next hl (by decide) (by omega) hJ')⟩
  have h0 := key (refs R).length 0 [] news (by omega) RowJ.start
  rw [List.size_toArray]
  exact h0
end
theorem elt_end1 {h₀ h' : Heap} {L y I' C D' : Addr} {oI' oC : Obj} {m : Str → Option Value} {B nw all front : List (Addr × Obj)} {ls : List (List Int)} {f : List Int → Nat → List Int} {c : List Int → Nat} {i j : Nat} {ys ws : List Value} {l : List Int} {n : Nat} {s : Shared} {tk' : Nat}
    (F : Fr h₀ L h' m) (N : News h₀ L h' ((y, listOf ws.toArray n) :: front ++ all)) (hall : all = (I', oI') :: (C, oC) :: (D', LCg.lst ys) :: nw) (hy : AllLt y all) (hl : ls[i]? = some l) (hj : j < 4) (hI : IntsAre ws (f l j)) (off : LCg.Off3 I' C D' nw) (hJ : RowJ B ls f c i j ys nw) :
    ∃ (h'' : Heap) (tk : Nat) (nw' : List (Addr × Obj)), ({ s with heap := h', toks := tk' } : Shared) = { s with heap := h'', toks := tk } ∧ Fr h₀ L h'' m ∧ News h₀ L h'' ((I', oI') :: (C, oC) :: (D', LCg.lst ys) :: nw') ∧ LCg.Off3 I' C D' nw' ∧ RowJ B ls f c i (j + 1) (ys ++ [.ref y]) nw' := by
  subst hall
  have key : ∀ l : List (Addr × Obj), AllLt y l → ∀ p ∈ l, @LT.lt Nat _ p.1 y := by
    intro l
    induction l with
    | nil => intro _ p hp; cases hp
    | cons q r ih => intro h p hp; rcases List.mem_cons.mp hp with rfl | hp; exact h.1; exact ih h.2 p hp
  have hlt := key _ hy
  obtain ⟨R, e, hJ'⟩ := RowJ.snoc (r := ⟨y, ws, n⟩) hl hj hI (fun p hp => Nat.ne_of_lt (hlt p (.tail _ (.tail _ (.tail _ (hJ.mem hp)))))) hJ
  have hin : ∀ p ∈ rowsLed (R ++ [⟨y, ws, n⟩]) ++ B, p ∈ nw ∨ p = (y, listOf ws.toArray n) := fun p hp => by
    rw [rowsLed_snoc] at hp
    rcases List.mem_append.mp hp with hp | hp
    · rcases List.mem_append.mp hp with hp | hp
      · exact .inl (by rw [e]; exact List.mem_append_left _ hp)
      · exact .inr (List.mem_singleton.mp hp)
    · exact .inl (by rw [e]; exact List.mem_append_right _ hp)
  have off' := off.mem
  refine ⟨h', tk', _, rfl, F, fun p hp => ?_, LCg.Off3.of fun p hp => ?_, hJ'⟩
  · have old : ∀ q ∈ (I', oI') :: (C, oC) :: (D', LCg.lst ys) :: nw, h'.get? q.1 = some q.2 ∧ q.1 ≠ L ∧ h₀.get? q.1 = none := fun q hq => N q (List.mem_append_right _ hq)
    rcases List.mem_cons.mp hp with rfl | hp
    · exact old _ (.head _)
    · rcases List.mem_cons.mp hp with rfl | hp
      · exact old _ (.tail _ (.head _))
      · rcases List.mem_cons.mp hp with rfl | hp
        · exact old _ (.tail _ (.tail _ (.head _)))
        · rcases hin p hp with hp | rfl
          · exact old _ (.tail _ (.tail _ (.tail _ hp)))
          · exact N _ (.head _)
  · rcases hin p hp with hp | rfl
    · exact off' p hp
    · exact ⟨Nat.ne_of_gt (hlt _ (.head _)), Nat.ne_of_gt (hlt _ (.tail _ (.head _))), Nat.ne_of_gt (hlt _ (.tail _ (.tail _ (.head _))))⟩
theorem see5 {h₀ h : Heap} {L : Addr} {a b c e f : Addr × Obj} {nw : List (Addr × Obj)} (N : News h₀ L h (a :: b :: c :: nw)) (he : e ∈ nw) (hf : f ∈ nw) : News h₀ L h (e :: f :: b :: (a :: b :: c :: nw)) := fun p hp => by
  rcases List.mem_cons.mp hp with rfl | hp
  · exact N _ (.tail _ (.tail _ (.tail _ he)))
  · rcases List.mem_cons.mp hp with rfl | hp
    · exact N _ (.tail _ (.tail _ (.tail _ hf)))
    · rcases List.mem_cons.mp hp with rfl | hp
      · exact N _ (.tail _ (.head _))
      · exact N p hp
theorem add_rows {prog : Program} {w : World} {A : Around} {E : Value → Shared → Prop} {s : Shared} {h₀ : Heap} {L D2 D3 : Addr} {m : Str → Option Value} {news : List (Addr × Obj)} {Q : Value → Shared → Prop} {ys2 ys3 : List Value} {n2 n3 : Nat} (F : Fr h₀ L s.heap m) (N : News h₀ L s.heap news) (h3 : (D3, lobj ys3 n3) ∈ news) (h2 : (D2, lobj ys2 n2) ∈ news) (hn : ys3.length ≤ 10000 ∧ ys2.length ≤ 10000)
    (h : ∀ D4 h', Fr h₀ L h' m → News h₀ L h' ((D4, lobj (ys3 ++ ys2) 0) :: news) → (∀ p ∈ news, @LT.lt Nat _ p.1 D4) → Q (.ref D4) { s with heap := h' }) : wpAny (model prog w) A (binaryOp .Add (.ref D3) (.ref D2)) Q E s := by
  refine add_arrays F N (list_at N h3) (list_at N h2) (fun h' F' N' => ?_) (by rw [List.size_toArray, List.size_toArray, sizeLine_eq]; omega)
  refine h _ h' F' ?_ (fun p hp => Heap.lt_size (N p hp).1)
  simpa using N'
theorem paired_app {α β : Type} {G : α → β → Prop} : ∀ {l l' : List α} {k k' : List β}, Paired G l k → Paired G l' k' → Paired G (l ++ l') (k ++ k')
  | _, _, _, _, .nil, h => h
  | _, _, _, _, .cons a t, h => .cons a (paired_app t h)
theorem flat_one (f3 : List Int → List Int) : ∀ LL : List (List Int), (LL.flatMap fun l => (List.range 1).map fun _ => f3 l) = LL.map f3
  | [] => rfl
  | a :: r => by rw [List.flatMap_cons, flat_one f3 r]; rfl
theorem PJ.next2 {h₀ h : Heap} {L₀ I aK D D2 D3 D4 : Addr} {oI o' : Obj} {m' : Str → Option Value} {news own nw nw3 : List (Addr × Obj)} {ls : Nat → List (List Int)} {LL : List (List Int)} {f : List Int → Nat → List Int} {c : List Int → Nat} {f3 : List Int → List Int} {i n n' tk : Nat} {ys ys3 : List Value} {R : List Row} {s₁ : Shared}
    (hJ : RowJ ((I, oI) :: (aK, o') :: own) LL f c n 0 ys nw) (hn : n = LL.length) (hJ3 : RowJ ((D2, LCg.lst ys) :: nw) LL (fun l _ => f3 l) (fun _ => 1) LL.length 0 ys3 nw3) (hls : ls (i + 1) = (LL.map f3) ++ LL.flatMap fun l => (List.range (c l)).map (f l)) (hown : own = (D, lobj (refs R) n') :: (rowsLed R ++ news)) (F : Fr h₀ L₀ h m') (N : News h₀ L₀ h ((D4, lobj (ys3 ++ ys) 0) :: (D3, LCg.lst ys3) :: nw3)) (hlt : ∀ p ∈ (D3, LCg.lst ys3) :: nw3, @LT.lt Nat _ p.1 D4)
    (hm : m' (Str.ofString "rows") = some (.ref D4)) (hv : ∃ v, o'.data = .cell v) (hIK : aK ≠ I) (hoff : OwnOff own [I, aK]) (hnews : ∀ q ∈ news, q.1 ≠ aK) :
    PostG h₀ L₀ (PJ news aK ls (i + 1)) I oI s₁ .next { s₁ with heap := h, toks := tk } := by
  obtain ⟨R3, d1, d2, hR3, hsep3, _, _, _⟩ := hJ3
  obtain ⟨R2, e1, e2, hR2, hsep, _, _, _⟩ := hJ
  rw [pre_all] at hR3
  rw [hn, pre_all] at hR2
  have hR3' : RowsAre R3 (LL.map f3) := by
    rw [← flat_one]; exact hR3
  have in3 : ∀ p ∈ nw, p ∈ nw3 := fun p hp => by rw [d2]; exact List.mem_append_right _ (.tail _ hp)
  have inB : ∀ p ∈ (I, oI) :: (aK, o') :: own, p ∈ nw3 := fun p hp => in3 p (by rw [e2]; exact List.mem_append_right _ hp)
  have inown : ∀ p ∈ news, p ∈ own := fun p hp => by rw [hown]; exact .tail _ (List.mem_append_right _ hp)
  have inR : ∀ p ∈ rowsLed (R3 ++ R2), p ∈ nw3 := fun p hp => by
    rw [rowsLed, List.map_append] at hp
    rcases List.mem_append.mp hp with hp | hp
    · rw [d2]; exact List.mem_append_left _ hp
    · exact in3 p (by rw [e2]; exact List.mem_append_left _ hp)
  have sepR : ∀ p ∈ rowsLed (R3 ++ R2), ∀ q ∈ (I, oI) :: (aK, o') :: own, q.1 ≠ p.1 := fun p hp q hq => by
    obtain ⟨r, hr, rfl⟩ := List.mem_map.mp hp
    rcases List.mem_append.mp hr with hr | hr
    · exact hsep3 r hr q (.tail _ (by rw [e2]; exact List.mem_append_right _ hq))
    · exact hsep r hr q hq
  have ltD : ∀ p ∈ nw3, p.1 ≠ D4 := fun p hp => Nat.ne_of_lt (hlt p (.tail _ hp))
  refine ⟨h, tk, m', (aK, o') :: (D4, lobj (refs (R3 ++ R2)) 0) :: (rowsLed (R3 ++ R2) ++ news), rfl, F, fun p hp => ?_, fun p hp => ?_, D4, 0, R3 ++ R2, o', rfl, hm, by rw [hls]; exact paired_app hR3' hR2, hv, ?_, hnews⟩
  · rcases List.mem_cons.mp hp with rfl | hp
    · exact N _ (.tail _ (.tail _ (inB _ (.head _))))
    · rcases List.mem_cons.mp hp with rfl | hp
      · exact N _ (.tail _ (.tail _ (inB _ (.tail _ (.head _)))))
      · rcases List.mem_cons.mp hp with rfl | hp
        · have e : refs (R3 ++ R2) = ys3 ++ ys := by rw [d1, e1, refs, List.map_append]; rfl
          rw [e]; exact N _ (.head _)
        · rcases List.mem_append.mp hp with hp | hp
          · exact N _ (.tail _ (.tail _ (inR p hp)))
          · exact N _ (.tail _ (.tail _ (inB _ (.tail _ (.tail _ (inown p hp))))))
  · rcases List.mem_cons.mp hp with rfl | hp
    · exact hIK
    · rcases List.mem_cons.mp hp with rfl | hp
      · exact Ne.symm (ltD _ (inB _ (.head _)))
      · rcases List.mem_append.mp hp with hp | hp
        · exact Ne.symm (sepR p hp _ (.head _))
        · exact hoff p (inown p hp) I (.head _)
  · intro p hp
    rcases List.mem_cons.mp hp with rfl | hp
    · exact ⟨Ne.symm (ltD _ (inB _ (.tail _ (.head _)))), fun q hq => ltD _ (inB _ (.tail _ (.tail _ (inown q hq))))⟩
    · exact ⟨Ne.symm (sepR p hp _ (.tail _ (.head _))), fun q hq => sepR p hp q (.tail _ (.tail _ (inown q hq)))⟩
end
end
open PySem PySem.W PyProof.Rows
local macro_rules | `(tactic| walk_at "subscriptTail Name Name ref int") => `(tactic| (k_dflt (refine' row_item (by k_asm) (by k_mem) (by assumption) (by omega) (by omega) (by omega) ?_ (by with_unfolding_all rfl)); walk_at "i"))
local macro_rules | `(tactic| walk_at "call builtin:len") => `(tactic| (k_dflt (refine' row_len (by k_asm) (by k_mem) (by assumption) (by omega) ?_); walk_at "i"))
local macro_rules | `(tactic| walk_at "pad") => `(tactic| skip)
local macro_rules | `(tactic| walk_at "eval ListComp") => `(tactic| refine Stop.mk ?_)
local macro_rules | `(tactic| walk_at "CompSrc") => `(tactic| (refine Stop.mk ?_))
local macro_rules | `(tactic| walk_at "binaryOp Add ref ref") => `(tactic| (k_dflt (refine' add_rows (by k_asm) (by k_asm) (by exact List.Mem.head _) (by assumption) (by assumption) ?_); intro _ _ F' N' hlt'; (try dsimp only)))
set_option maxRecDepth 100000 in
set_option maxHeartbeats 1000000 in
theorem partings_claim (w : World) (mean) (mg mb) (t4 : Tok) : ClaimL 1 w mean mg mb 52 [.int 4 t4] (Rows (partUp 4)) := by
  unfold ClaimL
  w_on
  w_strict (
    k_fill
    intro news dp un gd cn cs ac ccd cl outer A₀ base h₀ L m s Q E hB hFc hX hN hT hk hd hu hret
    refine wpAny_call ?_
    (k_dflt ((refine' code_defC ?k1 ?k2 ?k3 ?k4 ?k5 ?kA ?kF ?kK ?k6 ?k7 ?k8 ?k9 ?kB ?kD ?_ ?c2 ?c3 ?c4; (case kA => exact rfl); (case kF => exact rfl); (case kK => assumption); (case k1 => k_asm); (case k2 => k_asm); (case k3 => k_asm); (case k4 => k_asm); (case k5 => k_asm); (case k6 => k_is); (case k7 => k_is); (case k8 => ktr_room); (case k9 => exact BindsTo.of_eq rfl); (case kB => exact rfl); (case kD => decide +kernel); (case c2 => exact rfl); (case c3 => exact rfl); (case c4 => exact rfl); k_whole; intro g' L' h' tk' cells' FG' F' N' Y' B' X' T' l1; k_cells Y'; (try simp only [List.cons_append, List.nil_append] at N'); (try dsimp only); (try k_lift B'); (try k_fold))))
    k_steps
    refine Stop.out ?_
    rename Fr _ _ _ _ => F1
    (with_unfolding_all refine For_invTF F1 ?_ (by intro _; rfl))
    k_steps
    rename Fr _ _ _ _ => F2
    rename News _ _ _ _ => N2
    rename IsRange _ _ _ _ _ _ _ _ => rgX
    rename (∀ (p : Addr × Obj), p ∈ _ → p.1 < _) => hlow
    rename (_ < _ ∧ _ < _ ∧ AllLt _ _) => q2
    rename (_ < _ ∧ AllLt _ _) => q1
    obtain ⟨nx, N2', hJ0⟩ := PJ.start (ls := partUp) F2 N2 rfl rfl ⟨_, by assumption⟩ q1.1 q2.1 hlow rfl
    refine my_rangeG (PJ _ _ partUp) 4 rfl rgX small04 size04 F2 N2' hJ0 ?_ ?_
    · clear F2 N2 rgX N2' hJ0
      rintro i t m₁ nx ⟨hh5, g5, dr5, tk5, os5⟩ I oI hi hJ hne F3 N3
      refine hideQ ?_
      intro QO hQO
      obtain ⟨D, n', R, oK, rfl, hm, hR, ⟨v, hoK⟩, hsep, hnews⟩ := hJ
      replace F3 := kst_fr (ps := [(Str.ofString "rows", .ref D)]) (fun p hp => by rw [List.mem_singleton.mp hp]; exact hm) F3
      dsimp only [kstB] at F3
      have hoff := PJ.off hsep hnews hne
      have hIK : @Ne Nat I _ := Ne.symm (hne _ (.head _))
      have N4 := news_of N3 (l' := [(I, oI), (_, oK)] ++ ((D, lobj (refs R) n') :: (rowsLed R ++ news))) (fun p hp => hp)
      obtain ⟨own, hown⟩ : ∃ own, own = (D, lobj (refs R) n') :: (rowsLed R ++ news) := ⟨_, rfl⟩
      rw [← hown] at hoff N4
      clear N3
      rw [show (0 : Int) + (i : Int) = (i : Int) by omega]
      dsimp only at hIK ⊢
      k_steps
      refine Stop.out ?_
      refine Assign_two (hs := fun _ => rfl) (by k_asm) (by rfl) (by with_unfolding_all rfl) (by with_unfolding_all rfl) (by decide) (by rfl) (by decide) (by rfl) (by rfl) (by decide) (fun _ _ => rfl) (by rfl) (by rfl) ?_
      k_steps
      rename Fr _ _ _ _ => F5
      rename News _ _ _ _ => N5
      rename (Obj.data _ = Data.cell (some (Value.int _ _))) => dK
      have hin := tail2 N5
      have hcell := head2 N5
      refine ⟨D, refs R, n', _, cntP i, RowJ _ (partUp i) (mark1 i) (fun l => l.length), rfl, rfl, F5, N5, hin _ (by rw [hown]; exact .head _), fun g => ⟨⟨?_, ?_, ?_, ?_, ?_, ?_⟩, RowJ.start, ?_⟩⟩
      · intro i' j ys nw hJ
        exact ⟨n', hJ.mem (hin _ (by rw [hown]; exact .head _))⟩
      · intro i'
        have := cntP_le (k := i) (by omega) i'
        omega
      · intro i' j ys nw hJ
        exact hJ.len
      · intro i' v ys nw hv hJ I' oI' C oC D' m₂ h tk hC hx F N off
        obtain ⟨⟨ra, us, rn⟩, hr, rfl⟩ := refs_at hv
        obtain ⟨l, hl, hI⟩ := paired_at hR hr
        have hl4 := part_row (by omega) hl
        have hl4' := hI.length
        have hcn := cntP_eq hl
        dsimp only at hI hl4' hx
        have hrm : (ra, listOf us.toArray rn) ∈ nw := hJ.mem (hin _ (by rw [hown]; exact .tail _ (List.mem_append_left _ (row_mem hr))))
        have N6 := see4 N hrm
        rw [← hcn] at hl4'
        clear N N5 F5
        k_steps
        refine Stop.out ?_
        exact ⟨_, _, _, _, _, _, rfl, rfl, by assumption, by assumption⟩
      · intro i' j v ys nw hv hj hJ I' oI' I1 o1 C oC D' m₂ tj h tk hC hx hy F N off
        obtain ⟨⟨ra, us, rn⟩, hr, rfl⟩ := refs_at hv
        obtain ⟨l, hl, hI⟩ := paired_at hR hr
        have hl4 := part_row (by omega) hl
        have hl4' := hI.length
        rw [cntP_eq hl] at hj
        dsimp only at hI hl4' hx
        have hrm : (ra, listOf us.toArray rn) ∈ nw := hJ.mem (hin _ (by rw [hown]; exact .tail _ (List.mem_append_left _ (row_mem hr))))
        have N6 := see6 N (hJ.mem hcell) hrm
        obtain ⟨all, hall⟩ : ∃ all, all = (I', oI') :: (I1, o1) :: (C, oC) :: (D', LCg.lst ys) :: nw := ⟨_, rfl⟩
        rw [← hall] at N6
        clear N5 F5
        refine hideP5 ?_
        intro QS hQS
        k_steps
        subst hQS
        refine Stop.out ?_
        rename Fr _ _ _ _ => F7
        rename News _ _ _ _ => N7
        rename (_ < _ ∧ _ < _ ∧ _ < _ ∧ _ < _ ∧ _ < _ ∧ _ < _ ∧ _ < _ ∧ AllLt _ _) => q7
        rename IntsAre _ (_ ++ List.drop _ _) => hI7
        exact elt_end (front := [_, _, _, _, _, _, _]) F7 N7 hall q7.2.2.2.2.2.2.2 hl (by omega) hI7 off hJ
      · intro i' ys nw hlt hJ
        exact row_nextP (by omega) hR hlt hJ
      · intro ys nw hJ
        unfold LCg.FinA
        intro D2 h tk F7 N7 off7
        clear N5 F5
        dsimp only
        k_steps
        refine Stop.out ?_
        refine LCg.ListComp_U (F₀ := by k_asm) (by with_unfolding_all rfl) (by decide) (by rfl) (by decide) (by rfl) ?_
        k_steps
        refine Stop.out ?_
        rename Fr _ _ _ _ => F8
        rename News _ _ _ _ => N8
        have hDin := hJ.mem (hin (D, lobj (refs R) n') (by rw [hown]; exact .head _))
        refine src_rows (f := fun l => l ++ [shl1 i]) rfl F8 N8 (.tail _ hDin) hR (by have := (part_len i (by omega)).2; omega) ?_ ?_
        · rintro i' ⟨ra, us, rn⟩ l ys2 nw2 hr hl hI hJ2 I' oI' C oC D' m₂ h tk E' hC hx F N off ne
          dsimp only at hI hx
          have hl4 := part_row (by omega) hl
          have hl4' := hI.length
          have hrm : (ra, listOf us.toArray rn) ∈ nw2 := hJ2.mem (.tail _ (hJ.mem (hin _ (by rw [hown]; exact .tail _ (List.mem_append_left _ (row_mem hr))))))
          have N6 := see5 N (hJ2.mem (.tail _ (hJ.mem hcell))) hrm
          obtain ⟨all, hall⟩ : ∃ all, all = (I', oI') :: (C, oC) :: (D', LCg.lst ys2) :: nw2 := ⟨_, rfl⟩
          rw [← hall] at N6
          clear N8 F8
          refine hideP5 ?_
          intro QS hQS
          k_steps
          subst hQS
          refine Stop.out ?_
          rename Fr _ _ _ _ => F9
          rename News _ _ _ _ => N9
          rename (_ < _ ∧ _ < _ ∧ _ < _ ∧ _ < _ ∧ AllLt _ _) => q9
          rename IntsAre _ (_ ++ _) => hI9
          exact elt_end1 (front := [_, _, _, _]) F9 N9 hall q9.2.2.2.2 hl (by omega) hI9 off hJ2
        · intro g2 ys3 nw3 hJ3
          unfold LCg.FinE
          intro D3 h3 tk3 F9 N9 off9
          clear N8 F8
          have hD2 : (D2, lobj ys ys.length) ∈ (D3, LCg.lst ys3) :: nw3 := .tail _ (hJ3.mem (.head _))
          have hn9 : ys3.length ≤ 10000 ∧ ys.length ≤ 10000 := ⟨hJ3.len, hJ.len⟩
          dsimp only
          k_steps
          rename Fr _ _ _ _ => F11
          rename News _ _ _ _ => N11
          rename (∀ (p : Addr × Obj), p ∈ (D3, _) :: _ → _) => hlt
          subst hQO
          exact PJ.next2 hJ (refs_len hR) hJ3 rfl hown F11 N11 hlt rfl ⟨_, dK⟩ (Ne.symm hIK) hoff hnews
    · clear F2 N2 rgX N2' hJ0
      rintro m₁ nx h tk ⟨D, n', R, oK, rfl, hm, hR, _, hsep, hnews⟩ F3 N3
      replace F3 := kst_fr (ps := [(Str.ofString "rows", .ref D)]) (fun p hp => by rw [List.mem_singleton.mp hp]; exact hm) F3
      dsimp only [kstB] at F3
      replace N3 := PJ.rest N3
      obtain ⟨new, hnew⟩ : ∃ new, new = (D, lobj (refs R) n') :: rowsLed R := ⟨_, rfl⟩
      rw [← hnew] at hsep N3
      k_steps
      rename Fr _ _ _ _ => F9
      rename News _ _ _ _ => N9
      exact hret _ _ _ _ ⟨D, n', R, rfl, hnew, hR⟩ (fun p hp => (hsep p hp).2) F9 N9)
end
section
section
open PySem PySem.W PyProof.Rows PySem.Calls PyProof.V PySem.Spec
/-! edges: refs to pairs -/
structure Tup where
  a : Addr
  p : Nat
  q : Nat
  tp : Tok
  tq : Tok
  n : Nat
noncomputable abbrev tupO (p q : Nat) (tp tq : Tok) (n : Nat) : Obj := { cls := .type "tuple", data := .seq #[.int (p : Int) tp, .int (q : Int) tq] n }
noncomputable def tupsLed (T : List Tup) : List (Addr × Obj) := T.map fun t => (t.a, tupO t.p t.q t.tp t.tq t.n)
noncomputable def tupRefs (T : List Tup) : List Value := T.map fun t => .ref t.a
noncomputable def edgeAt (e : Nat) : Nat × Nat := [(0, 1), (0, 2), (0, 3), (1, 2), (1, 3), (2, 3)].getD e (0, 0)
noncomputable def edgesOf (xs : List Int) : List (Nat × Nat) := xs.map fun x => edgeAt (x.fmod 6).toNat
noncomputable def TupJ (B : List (Addr × Obj)) (xs : List Int) (i : Nat) (ys : List Value) (nw : List (Addr × Obj)) : Prop :=
  ∃ T : List Tup, ys = tupRefs T ∧ nw = tupsLed T ++ B ∧ (T.map fun t => (t.p, t.q)) = edgesOf (xs.take i) ∧ (∀ t ∈ T, ∀ p ∈ B, p.1 ≠ t.a)
theorem TupJ.start {B : List (Addr × Obj)} {xs : List Int} : TupJ B xs 0 [] B := ⟨[], rfl, rfl, rfl, fun _ h => nomatch h⟩
theorem TupJ.mem {B : List (Addr × Obj)} {xs : List Int} {i : Nat} {ys : List Value} {nw : List (Addr × Obj)} (J : TupJ B xs i ys nw) {p : Addr × Obj} (h : p ∈ B) : p ∈ nw := by
  obtain ⟨T, h1, h2, h3, h4⟩ := J
  rw [h2]; exact List.mem_append_right _ h
theorem allLt_mem {d : Addr} : ∀ {l : List (Addr × Obj)}, AllLt d l → ∀ p ∈ l, @LT.lt Nat _ p.1 d
  | [], _, _, h => nomatch h
  | _ :: _, x, p, h => by
    rcases List.mem_cons.mp h with rfl | h
    · exact x.1
    · exact allLt_mem x.2 p h
theorem edge_end {h₀ h' : Heap} {L a I' C D' : Addr} {oI' oC : Obj} {m : Str → Option Value} {B nw all big : List (Addr × Obj)} {xs : List Int} {i p q n : Nat} {tp tq : Tok} {x : Int} {ys : List Value} {s : Shared} {tk' : Nat}
    (F : Fr h₀ L h' m) (N : News h₀ L h' big) (hbig : ∀ r ∈ all, r ∈ big) (hall : all = (I', oI') :: (C, oC) :: (D', LCg.lst ys) :: nw) (hy : AllLt a all) (ha : (a, tupO p q tp tq n) ∈ big) (hx : xs[i]? = some x) (hpq : (p, q) = edgeAt (x.fmod 6).toNat) (off : LCg.Off3 I' C D' nw) (hJ : TupJ B xs i ys nw) :
    ∃ (h'' : Heap) (tk : Nat) (nw' : List (Addr × Obj)), ({ s with heap := h', toks := tk' } : Shared) = { s with heap := h'', toks := tk } ∧ Fr h₀ L h'' m ∧ News h₀ L h'' ((I', oI') :: (C, oC) :: (D', LCg.lst ys) :: nw') ∧ LCg.Off3 I' C D' nw' ∧ TupJ B xs (i + 1) (ys ++ [.ref a]) nw' := by
  subst hall
  have hlt := allLt_mem hy
  have hJ' := hJ
  obtain ⟨T, e1, e2, e3, e4⟩ := hJ'
  have off' := off.mem
  have hin : ∀ r ∈ tupsLed (T ++ [⟨a, p, q, tp, tq, n⟩]) ++ B, r ∈ nw ∨ r = (a, tupO p q tp tq n) := fun r hr => by
    rw [tupsLed, List.map_append] at hr
    rcases List.mem_append.mp hr with hr | hr
    · rcases List.mem_append.mp hr with hr | hr
      · exact .inl (by rw [e2]; exact List.mem_append_left _ hr)
      · exact .inr (List.mem_singleton.mp hr)
    · exact .inl (by rw [e2]; exact List.mem_append_right _ hr)
  refine ⟨h', tk', tupsLed (T ++ [⟨a, p, q, tp, tq, n⟩]) ++ B, rfl, F, fun r hr => ?_, LCg.Off3.of fun r hr => ?_, T ++ [⟨a, p, q, tp, tq, n⟩], ?_, rfl, ?_, ?_⟩
  · rcases List.mem_cons.mp hr with rfl | hr
    · exact N _ (hbig _ (.head _))
    · rcases List.mem_cons.mp hr with rfl | hr
      · exact N _ (hbig _ (.tail _ (.head _)))
      · rcases List.mem_cons.mp hr with rfl | hr
        · exact N _ (hbig _ (.tail _ (.tail _ (.head _))))
        · rcases hin r hr with hr | rfl
          · exact N _ (hbig _ (.tail _ (.tail _ (.tail _ hr))))
          · exact N _ ha
  · rcases hin r hr with hr | rfl
    · exact off' r hr
    · exact ⟨Nat.ne_of_gt (hlt _ (.head _)), Nat.ne_of_gt (hlt _ (.tail _ (.head _))), Nat.ne_of_gt (hlt _ (.tail _ (.tail _ (.head _))))⟩
  · rw [e1, tupRefs, tupRefs, List.map_append]; rfl
  · rw [List.map_append, e3, List.take_add_one, hx]
    unfold edgesOf
    rw [List.map_append]
    show _ ++ [(p, q)] = _ ++ [edgeAt (x.fmod 6).toNat]
    rw [hpq]
  · intro t ht r hr
    rcases List.mem_append.mp ht with ht | ht
    · exact e4 t ht r hr
    · rw [List.mem_singleton.mp ht]
      exact Nat.ne_of_lt (hlt r (.tail _ (.tail _ (.tail _ (by rw [e2]; exact List.mem_append_right _ hr)))))
section
variable {prog : Program} {w : World} {A : Around} {h₀ : Heap} {L ax : Addr} {m : Str → Option Value} {env : Env} {elt : PySem.Expr} {x : Str} {scope : Scope} {cl : List (Str × Addr)} {Fin : Shared → List Value → List (Addr × Obj) → Prop} {k : Nat} {news : List (Addr × Obj)} {s₁ : Shared} {vs : List Value} {xs : List Int}
theorem src_edges (hh : A.handled = none) (F : Fr h₀ L s₁.heap m) (N : News h₀ L s₁.heap news) (hm : (ax, lobj vs k) ∈ news) (hi : IntsAre vs xs) (hn : xs.length ≤ 900)
    (turn : ∀ i (z : Int) (t : Tok) ys nw, xs[i]? = some z → TupJ news xs i ys nw → ∀ (I : Addr) (oI : Obj) (C : Addr) (oC : Obj) (D : Addr) (m₂ : Str → Option Value) (h : Heap) (tk : Nat) (E' : Value → Shared → Prop), LCg.NsObj oC m₂ → m₂ x = some (.int z t) → Fr h₀ L h m → News h₀ L h ((I, oI) :: (C, oC) :: (D, LCg.lst ys) :: nw) → LCg.Off3 I C D nw → ((@Ne Nat I C) ∧ (@Ne Nat I D) ∧ (@Ne Nat C D)) →
      wpAny (model prog w) A (eval elt (compEnvC scope cl C env)) (fun y s₂ => Stop (∃ (h' : Heap) (tk' : Nat) (nw' : List (Addr × Obj)), s₂ = { s₁ with heap := h', toks := tk' } ∧ Fr h₀ L h' m ∧ News h₀ L h' ((I, oI) :: (C, oC) :: (D, LCg.lst ys) :: nw') ∧ LCg.Off3 I C D nw' ∧ TupJ news xs (i + 1) (ys ++ [y]) nw')) E' { s₁ with heap := h, toks := tk })
    (fin : ∀ g ys nw, TupJ news xs xs.length ys nw → Fin { s₁ with heap := g } ys nw) : LCg.CompSrc prog w A h₀ L m env elt x scope cl Fin (.ref ax) s₁ := by
  have hlen := hi.length
  refine LCg.CompSrc.ledger hh F N hm (by rw [List.size_toArray, sizeLine_eq]; omega) fun g => ?_
  have key : ∀ (j i : Nat) (ys : List Value) (nw : List (Addr × Obj)), i + j = vs.length → TupJ news xs i ys nw →
      LCg.CompRest prog w A h₀ L m env elt x scope cl { s₁ with heap := g } (LCg.SrcAt h₀ ax vs.toArray) (fun i v => vs.toArray[i]? = some v) (Fin { s₁ with heap := g }) j i ys nw := by
    intro j
    induction j with
    | zero =>
      intro i ys nw hi' hJ
      have e : i = xs.length := by omega
      subst e
      exact LCg.CompRest.zero (fin g ys nw hJ)
    | succ j ih =>
      intro i ys nw hi' hJ
      refine LCg.CompRest.succ ?_
      intro v I oI C oC D m₂ h tk E' hv hC hx F N off ne
      obtain ⟨z, t, rfl, hz⟩ := IntsAre.at hi i v (by simpa using hv)
      refine wpAny_mono (turn i z t ys nw hz hJ I oI C oC D m₂ h tk E' hC hx F N off ne) (fun y s₂ hq => ?_) fun _ _ e => e
      obtain ⟨h', tk', nw', e, F', N', off', hJ'⟩ := hq
      exact ⟨h', tk', nw', e, F', N', off', .inr ⟨_, hJ'.mem hm, rfl, _, rfl⟩, ih (i + 1) _ _ (by omega) hJ'⟩
  have h0 := key vs.length 0 [] news (by omega) TupJ.start
  rw [List.size_toArray]
  exact h0
end
/-- the tuple that is picked -/
theorem pick6 {big all : List (Addr × Obj)} {t0 t1 t2 t3 t4 t5 : Addr} {k : Int} {a0 b0 a1 b1 a2 b2 a3 b3 a4 b4 a5 b5 : Tok} {n0 n1 n2 n3 n4 n5 : Nat} {hh₀ hh' : Heap} {LL : Addr} (_N : News hh₀ LL hh' big) (h0 : 0 ≤ k) (h1 : k < 6)
    (m0 : (t0, tupO 0 1 a0 b0 n0) ∈ big) (m1 : (t1, tupO 0 2 a1 b1 n1) ∈ big) (m2 : (t2, tupO 0 3 a2 b2 n2) ∈ big) (m3 : (t3, tupO 1 2 a3 b3 n3) ∈ big) (m4 : (t4, tupO 1 3 a4 b4 n4) ∈ big) (m5 : (t5, tupO 2 3 a5 b5 n5) ∈ big)
    (l0 : AllLt t0 all) (l1 : AllLt t1 all) (l2 : AllLt t2 all) (l3 : AllLt t3 all) (l4 : AllLt t4 all) (l5 : AllLt t5 all) :
    ∃ p q tp tq n, ([t0, t1, t2, t3, t4, t5].getD k.toNat 0, tupO p q tp tq n) ∈ big ∧ (p, q) = edgeAt k.toNat ∧ AllLt ([t0, t1, t2, t3, t4, t5].getD k.toNat 0) all := by
  have hj : k.toNat < 6 := by omega
  generalize k.toNat = j at hj
  rcases j with _ | _ | _ | _ | _ | _ | j
  · exact ⟨_, _, _, _, _, m0, rfl, l0⟩
  · exact ⟨_, _, _, _, _, m1, rfl, l1⟩
  · exact ⟨_, _, _, _, _, m2, rfl, l2⟩
  · exact ⟨_, _, _, _, _, m3, rfl, l3⟩
  · exact ⟨_, _, _, _, _, m4, rfl, l4⟩
  · exact ⟨_, _, _, _, _, m5, rfl, l5⟩
  · omega
section
variable {prog : Program} {w : World} {A : Around} {E : Value → Shared → Prop} {s : Shared} {u : Tok} {Q : Value → Shared → Prop} {h₀ : Heap} {L D : Addr} {news : List (Addr × Obj)} {value slice : PySem.Expr} {t0 t1 t2 t3 t4 t5 : Addr} {n : Nat} {k : Int}
theorem menu6 (N : News h₀ L s.heap news) (hm : (D, listOf #[.ref t0, .ref t1, .ref t2, .ref t3, .ref t4, .ref t5] n) ∈ news) (h0 : 0 ≤ k) (h1 : k < 6)
    (h : Q (.ref ([t0, t1, t2, t3, t4, t5].getD k.toNat 0)) s)
    (hs : subscripted slice false (.ref D) (.int k u) = operate [.ref D, .int k u] (getItem (.ref D) (.int k u))) :
    wpAny (model prog w) A (subscriptTail value slice (.ref D) (.int k u)) Q E s := by
  have hl : s.heap.IsList D ([.ref t0, .ref t1, .ref t2, .ref t3, .ref t4, .ref t5] : List Value).toArray := list_at N hm
  have hx : ([.ref t0, .ref t1, .ref t2, .ref t3, .ref t4, .ref t5] : List Value)[k.toNat]? = some (.ref ([t0, t1, t2, t3, t4, t5].getD k.toNat 0)) := by
    have hj : k.toNat < 6 := by omega
    generalize k.toNat = j at hj
    rcases j with _ | _ | _ | _ | _ | _ | j <;> first | rfl | omega
  exact tail_any hl.typeIs slot_list_getitem.lookup (wpAny_getItem_list hl h0 (by omega) (by simpa using hx) h) hs
end
theorem fam_len8 (ns : List Int) : 2 ≤ (List.take (if (if (ns.length : Int) < 4 then (ns.length : Int) else 4) > 2 then (if (ns.length : Int) < 4 then (ns.length : Int) else 4) else 2).toNat (ns ++ [8, 3])).length ∧
    (List.take (if (if (ns.length : Int) < 4 then (ns.length : Int) else 4) > 2 then (if (ns.length : Int) < 4 then (ns.length : Int) else 4) else 2).toNat (ns ++ [8, 3])).length ≤ 4 := by
  rw [List.length_take, List.length_append, List.length_cons, List.length_cons, List.length_nil]
  split <;> split <;> omega
theorem see2 {h₀ h : Heap} {L : Addr} {a b c : Addr × Obj} {nw : List (Addr × Obj)} (N : News h₀ L h (a :: b :: c :: nw)) : News h₀ L h (b :: (a :: b :: c :: nw)) := fun p hp => by
  rcases List.mem_cons.mp hp with rfl | hp
  · exact N _ (.tail _ (.head _))
  · exact N p hp
noncomputable abbrev tupI (p q : Int) (tp tq : Tok) (n : Nat) : Obj := { cls := .type "tuple", data := .seq #[.int p tp, .int q tq] n }
/-- an edge's end, all at once -/
theorem edge_fin {h₀ h' : Heap} {L I' C D' lx : Addr} {oI' oC ox : Obj} {m : Str → Option Value} {B nw all : List (Addr × Obj)} {xs : List Int} {i : Nat} {x : Int} {ys : List Value} {s : Shared} {tk' : Nat}
    {t0 t1 t2 t3 t4 t5 : Addr} {a0 b0 a1 b1 a2 b2 a3 b3 a4 b4 a5 b5 : Tok} {n0 n1 n2 n3 n4 n5 : Nat}
    (F : Fr h₀ L h' m) (N : News h₀ L h' ((lx, ox) :: (t5, tupI 2 3 a5 b5 n5) :: (t4, tupI 1 3 a4 b4 n4) :: (t3, tupI 1 2 a3 b3 n3) :: (t2, tupI 0 3 a2 b2 n2) :: (t1, tupI 0 2 a1 b1 n1) :: (t0, tupI 0 1 a0 b0 n0) :: (C, oC) :: all))
    (hall : all = (I', oI') :: (C, oC) :: (D', LCg.lst ys) :: nw) (hx : xs[i]? = some x)
    (l0 : AllLt t0 all) (l1 : AllLt t1 all) (l2 : AllLt t2 all) (l3 : AllLt t3 all) (l4 : AllLt t4 all) (l5 : AllLt t5 all)
    (off : LCg.Off3 I' C D' nw) (hJ : TupJ B xs i ys nw) :
    ∃ (h'' : Heap) (tk : Nat) (nw' : List (Addr × Obj)), ({ s with heap := h', toks := tk' } : Shared) = { s with heap := h'', toks := tk } ∧ Fr h₀ L h'' m ∧ News h₀ L h'' ((I', oI') :: (C, oC) :: (D', LCg.lst ys) :: nw') ∧ LCg.Off3 I' C D' nw' ∧ TupJ B xs (i + 1) (ys ++ [.ref ([t0, t1, t2, t3, t4, t5].getD (x.fmod 6).toNat 0)]) nw' := by
  have hz := fmod_lt x (k := 6) (by decide)
  obtain ⟨p, q, tp, tq, n, hmem, hpq, hlt⟩ := pick6 (a0 := a0) (b0 := b0) (a1 := a1) (b1 := b1) (a2 := a2) (b2 := b2) (a3 := a3) (b3 := b3) (a4 := a4) (b4 := b4) (a5 := a5) (b5 := b5) (n0 := n0) (n1 := n1) (n2 := n2) (n3 := n3) (n4 := n4) (n5 := n5) N hz.1 hz.2
    (.tail _ (.tail _ (.tail _ (.tail _ (.tail _ (.tail _ (.head _))))))) (.tail _ (.tail _ (.tail _ (.tail _ (.tail _ (.head _)))))) (.tail _ (.tail _ (.tail _ (.tail _ (.head _))))) (.tail _ (.tail _ (.tail _ (.head _)))) (.tail _ (.tail _ (.head _))) (.tail _ (.head _)) l0 l1 l2 l3 l4 l5
  exact edge_end F N (fun r hr => .tail _ (.tail _ (.tail _ (.tail _ (.tail _ (.tail _ (.tail _ (.tail _ hr)))))))) hall hlt hmem hx hpq off hJ
end
end
section
section
open PySem PySem.W PyProof.Rows PySem.Calls PyProof.V PySem.Spec
theorem own_edges {h₀ h : Heap} {L D2 : Addr} {d1 d2 d3 : Addr × Obj} {cells nw : List (Addr × Obj)} {xs : List Int} {i : Nat} {ys : List Value} (hJ : TupJ (d1 :: d2 :: d3 :: cells) xs i ys nw) (N : News h₀ L h ((D2, LCg.lst ys) :: nw)) (off : LCg.Off1 D2 nw) :
    ∃ (T : List Tup) (own : List (Addr × Obj)) (nE : Nat), own = (D2, lobj (tupRefs T) nE) :: tupsLed T ∧ (T.map fun t => (t.p, t.q)) = edgesOf (xs.take i) ∧ News h₀ L h ((d1 :: cells) ++ own) ∧ OwnOff own ((d1 :: cells).map (·.1)) := by
  obtain ⟨T, rfl, rfl, e3, e4⟩ := hJ
  have o1 := off1_mem off
  have inB : ∀ p ∈ d1 :: cells, p ∈ d1 :: d2 :: d3 :: cells := fun p hp => by
    rcases List.mem_cons.mp hp with rfl | hp
    · exact .head _
    · exact .tail _ (.tail _ (.tail _ hp))
  refine ⟨T, _, (tupRefs T).length, rfl, e3, fun p hp => ?_, fun p hp b hb => ?_⟩
  · rcases List.mem_append.mp hp with hp | hp
    · exact N _ (.tail _ (List.mem_append_right _ (inB p hp)))
    · rcases List.mem_cons.mp hp with rfl | hp
      · exact N _ (.head _)
      · exact N _ (.tail _ (List.mem_append_left _ hp))
  · obtain ⟨q, hq, rfl⟩ := List.mem_map.mp hb
    rcases List.mem_cons.mp hp with rfl | hp
    · exact Ne.symm (o1 _ (List.mem_append_right _ (inB q hq)))
    · obtain ⟨t, ht, rfl⟩ := List.mem_map.mp hp
      exact Ne.symm (e4 t ht q (inB q hq))
end
end
section
section
open PySem PySem.W PyProof.Rows PySem.Calls PyProof.V PySem.Spec
section
variable {prog : Program} {w : World} {A : Around} {E : Value → Shared → Prop} {s : Shared} {env : Env} {h₀ : Heap} {Q : Flow → Shared → Prop} {body : List Stmt} {target : PySem.Expr}
/-- what a target does before it is bound: nothing, of a list's iterator -/
noncomputable def Quiet (target : PySem.Expr) : Prop := ∀ (prog : Program) (w : World) (A : Around) (E : Value → Shared → Prop) (I l : Addr) (i : Nat) (v : Value) (s' : Shared) (Q' : Unit → Shared → Prop), s'.heap.IsListIter I l i → Q' () s' → wpAny (model prog w) A (letOwnedTupleGo target (.ref I) v) Q' E s'
theorem quiet_name {x : Str} {px : Pos} : Quiet (.Name x px) := fun _ _ _ _ _ _ _ _ _ _ _ h => go_name h
theorem quiet_tuple {elts : List PySem.Expr} {x1} {pos : Pos} : Quiet (.Tuple elts x1 pos) := fun prog w A E I l i v s' Q' hi h => by
  cases v with
  | ref T => exact wpAny_letOwnedTupleGo_listiter hi h
  | _ => unfold letOwnedTupleGo; exact wpAny_pure h
theorem my_listG {D : Addr} {vs : List Value} {nn : Nat} {m₀ : Str → Option Value} {nx₀ : List (Addr × Obj)}
    (J : Nat → (Str → Option Value) → List (Addr × Obj) → Prop) (hq : Quiet target)
    (hh : A.handled = none) (hD : ∀ i m nx, J i m nx → (D, listOf vs.toArray nn) ∈ nx)
    (F : Fr h₀ env.locals s.heap m₀) (N : News h₀ env.locals s.heap nx₀) (hp : J 0 m₀ nx₀)
    (turn : ∀ (i : Nat) (v : Value) (m₁ : Str → Option Value) (nx : List (Addr × Obj)) (s₁ : Shared) (I : Addr) (oI : Obj), vs[i]? = some v → J i m₁ nx → (∀ p ∈ nx, p.1 ≠ I) → Fr h₀ env.locals s₁.heap m₁ → News h₀ env.locals s₁.heap ((I, oI) :: nx) →
      wpAny (model prog w) A (assign target env v) (fun _ s₃ => wpAny (model prog w) A (execs body env) (PostG h₀ env.locals (J (i + 1)) I oI s₁) E s₃) E s₁)
    (done : ∀ (m₁ : Str → Option Value) (nx : List (Addr × Obj)) h tk, J vs.length m₁ nx → Fr h₀ env.locals h m₁ → News h₀ env.locals h nx → Q .next { s with heap := h, toks := tk }) :
    wpAny (model prog w) A (pyIter (.ref D)) (fun it s₂ => LoopAtT prog w A h₀ env target body Q E it s₂) E s := by
  have hD₀ := hD _ _ _ hp
  have hol : s.heap.get? D = some (listOf vs.toArray nn) := (N _ hD₀).1
  have hls : s.heap.IsList D vs.toArray := ⟨_, hol, rfl, nn, rfl⟩
  have hne' : D ≠ s.heap.objs.size := Nat.ne_of_lt (Heap.lt_size hol)
  refine wpAny_pyIter_list hls ?_
  have W := Walks.list (prog := prog) (w := w) hh s.heap.objs.size D hne' vs.toArray
  rw [List.size_toArray] at W
  have hI₀ : h₀.get? s.heap.objs.size = none := next_is_new F
  refine ⟨s.heap.objs.size, _, [s.heap.objs.size], vs.length, _, _, m₀, nx₀, J, rfl, W, ?_, ?_, ?_, ⟨⟨_, Heap.get?_push_size _ rfl, rfl, rfl⟩, hls.at fun o e => Heap.get?_push_of_some _ e⟩, F.push _, (fun p hp => ⟨Heap.get?_push_of_some _ (N p hp).1, (N p hp).2⟩), (fun i s' v Q' st h => hq _ _ _ _ _ _ _ _ _ _ st.1 h), hp, ?_, ?_⟩
  · intro hm
    rcases List.mem_cons.mp hm with e | hm
    · exact absurd F.ns.lt (e ▸ Nat.lt_irrefl _)
    · exact (N _ hD₀).2.1 ((List.mem_singleton.mp hm).symm)
  · intro b hb
    rw [List.mem_singleton.mp hb]; exact hI₀
  · intro p hp hI
    exact absurd (Heap.lt_size (N p hp).1) ((List.mem_singleton.mp hI) ▸ Nat.lt_irrefl _)
  · rintro i v m₁ nx s₁ own hi hv hJ hwr hfp hget hown st F₁ N₁
    obtain ⟨oI, st', -⟩ := st.1
    have hmem := hown _ (.head _) hI₀ _ st'
    have hDm := hD _ _ _ hJ
    have hDget : s₁.heap.get? D = some (listOf vs.toArray nn) := (N₁ _ (List.mem_append_right _ hDm)).1
    have N₂ : News h₀ env.locals s₁.heap ((s.heap.objs.size, oI) :: nx) := fun p hp => by
      rcases List.mem_cons.mp hp with rfl | hp
      · exact N₁ _ (List.mem_append_left _ hmem)
      · exact N₁ p (List.mem_append_right _ hp)
    refine wpAny_mono (turn i v m₁ nx s₁ _ _ (by simpa using hv) hJ (fun p hp q => hwr p hp (List.mem_singleton.mpr q)) F₁ N₂) (fun _ s₃ h₃ => wpAny_mono h₃ (fun f s₂ q => ?_) fun _ _ x => x) fun _ _ x => x
    cases f with
    | ret v => exact q.elim
    | brk => exact q.elim
    | cont => exact q.elim
    | next =>
      obtain ⟨h', tk', m', nx', e, F', N', off', hJ'⟩ := q
      refine ⟨rfl, h', tk', m', nx', e, F', fun p hp => ?_, fun p hp hq => off' p hp (List.mem_singleton.mp hq), hJ'⟩
      rcases List.mem_append.mp hp with hp | hp
      · have e2 := hget p hp
        rcases List.mem_cons.mp (hfp p hp) with e1 | e1
        · rw [e1, st'] at e2
          have e3 : p = (s.heap.objs.size, oI) := Prod.ext e1 (Option.some.inj e2).symm
          rw [e3]
          exact N' _ (.head _)
        · have e1 := List.mem_singleton.mp e1
          rw [e1, hDget] at e2
          have e3 : p = (D, listOf vs.toArray nn) := Prod.ext e1 (Option.some.inj e2).symm
          rw [e3]
          exact N' _ (.tail _ (hD _ _ _ hJ'))
      · exact N' p (.tail _ hp)
  · rintro h' tk m' nx' F' N' _ hJ
    exact done m' nx' h' tk hJ F' N'
/-- a loop over a list of the ledger: `front` is what the turns change, `back` what stays -/
theorem my_listT {σ : Type} {D : Addr} {vs : List Value} {nn : Nat} {m₀ : Str → Option Value}
    (front : σ → List (Addr × Obj)) (back : List (Addr × Obj)) (ps : σ → List (Str × Value)) (P : Nat → σ → Prop) (c₀ : σ) (hq : Quiet target) (hadr : ∀ c, (front c).map (·.1) = (front c₀).map (·.1))
    (hh : A.handled = none) (hD : (D, listOf vs.toArray nn) ∈ back) (hoff : OwnOff back ((front c₀).map (·.1)))
    (F : Fr h₀ env.locals s.heap m₀) (N : News h₀ env.locals s.heap (front c₀ ++ back)) (hk : ∀ p ∈ ps c₀, m₀ p.1 = some p.2) (hp : P 0 c₀)
    (turn : ∀ i v (c : σ) (u : Str → Option Value) s₁ own, vs[i]? = some v → (∀ p ∈ back, p ∈ own) → OwnOff own ((front c).map (·.1)) → P i c →
      Fr h₀ env.locals s₁.heap (kstB u (ps c)) → News h₀ env.locals s₁.heap (front c ++ own) →
      wpAny (model prog w) A (assign target env v) (fun _ s₃ => wpAny (model prog w) A (execs body env) (MyPostT h₀ env.locals s₁ own front ps (P (i + 1))) E s₃) E s₁)
    (done : ∀ (c : σ) (u : Str → Option Value) h tk, P vs.length c → Fr h₀ env.locals h (kstB u (ps c)) → News h₀ env.locals h (front c ++ back) → Q .next { s with heap := h, toks := tk }) :
    wpAny (model prog w) A (pyIter (.ref D)) (fun it s₂ => LoopAtT prog w A h₀ env target body Q E it s₂) E s := by
  refine my_listG (nn := nn) (vs := vs) (fun i m nx => ∃ c : σ, nx = front c ++ back ∧ (∀ p ∈ ps c, m p.1 = some p.2) ∧ P i c) hq hh (fun i m nx h => ?_) F N ⟨c₀, rfl, hk, hp⟩ ?_ ?_
  · obtain ⟨c, rfl, -⟩ := h
    exact List.mem_append_right _ hD
  · rintro i v m₁ nx s₁ I oI hv ⟨c, rfl, h1, hp'⟩ hne F₁ N₁
    have em : kstB m₁ (ps c) = m₁ := by
      funext y
      exact kstB_eq h1 fun _ => rfl
    have hsep : OwnOff (back ++ [(I, oI)]) ((front c).map (·.1)) := by
      intro p hp b hb
      rcases List.mem_append.mp hp with hp | hp
      · rw [hadr c] at hb
        exact hoff p hp b hb
      · obtain ⟨q, hq, rfl⟩ := List.mem_map.mp hb
        rw [List.mem_singleton.mp hp]
        exact Ne.symm (hne q (List.mem_append_left _ hq))
    have N₂ : News h₀ env.locals s₁.heap (front c ++ (back ++ [(I, oI)])) := fun p hp => N₁ p (by
      rcases List.mem_append.mp hp with hp | hp
      · exact .tail _ (List.mem_append_left _ hp)
      · rcases List.mem_append.mp hp with hp | hp
        · exact .tail _ (List.mem_append_right _ hp)
        · rw [List.mem_singleton.mp hp]; exact .head _)
    refine wpAny_mono (turn i v c m₁ s₁ _ hv (fun p hp => List.mem_append_left _ hp) hsep hp' (by rw [em]; exact F₁) N₂) (fun _ s₃ h₃ => wpAny_mono h₃ (fun f s₂ q => ?_) fun _ _ x => x) fun _ _ x => x
    cases f with
    | ret v => exact q.elim
    | brk => exact q.elim
    | cont => exact q.elim
    | next =>
      obtain ⟨c', h', tk', m', news', e, F', N', hn, ho, hk9, hp9⟩ := q
      refine ⟨h', tk', m', front c' ++ back, e, F', fun p hp => ?_, fun p hp => ?_, c', rfl, hk9, hp9⟩
      · rcases List.mem_cons.mp hp with rfl | hp
        · exact N' _ (ho _ (List.mem_append_right _ (List.mem_singleton.mpr rfl)))
        · rcases List.mem_append.mp hp with hp | hp
          · exact N' p (hn p hp)
          · exact N' p (ho p (List.mem_append_left _ hp))
      · rcases List.mem_append.mp hp with hp | hp
        · have h1 : p.1 ∈ (front c').map (·.1) := List.mem_map.mpr ⟨p, hp, rfl⟩
          rw [hadr c', ← hadr c] at h1
          obtain ⟨q, hq1, hq2⟩ := List.mem_map.mp h1
          rw [← hq2]
          exact hne q (List.mem_append_left _ hq1)
        · exact hne p (List.mem_append_right _ hp)
  · rintro m₁ nx h tk ⟨c, rfl, h1, hp'⟩ F₁ N₁
    exact done c m₁ h tk hp' (kst_fr h1 F₁) N₁
end
theorem claimL_use {lvl : Nat} {w : World} {mean : ExcName → Option Value} {mg mb : Str → Option Value} {f : Addr} {vs : List Value} {Post : Value → List (Addr × Obj) → Prop} (C : ClaimL lvl w mean mg mb f vs Post)
    {dp un : Nat} {gd : Option (List Code)} {cn : Str} {cs : Scope} {a : Addr} {ccd : Value} {cl : List (Str × Addr)} {outer : List Env} {A₀ : Around} {base h₀ : Heap} {L : Addr} {m : Str → Option Value} {news : List (Addr × Obj)} {s : Shared} {Q E : Value → Shared → Prop}
    (B : Below A₀ base outer h₀) (F : Fr h₀ L s.heap m) (X : (hd.heap_39 w.params).In h₀) (N : News h₀ L s.heap news) (T : Top hd.view_39 (looseW hd.view_39 []) mean mg mb h₀) (hk : cs.kind = .function)
    (hd : dp + lvl < recursionLimit) (hu : un + 8 * lvl < cLine)
    (ret : ∀ v new h tk, Post v new → (∀ p ∈ new, ∀ q ∈ news, q.1 ≠ p.1) → Fr h₀ L h m → News h₀ L h (new ++ news) → Q v { s with heap := h, toks := tk }) :
    wpAny (model PySem.Challenge.rw_rw0046_02.row.prog w) (ktrTop dp un gd cn cs L a ccd cl outer) (call (.ref f) vs) Q E s :=
  C news dp un gd cn cs a ccd cl outer A₀ base h₀ L m s Q E B F X N T hk hd hu ret
end
end
section
section
open PySem PySem.W PyProof.Rows PySem.Calls PyProof.V PySem.Spec
structure Cods (f0 f1 f2 f3 : Int) : Prop where
  a0 : 1 ≤ f0 ∧ f0 ≤ 15
  a1 : 1 ≤ f1 ∧ f1 ≤ 15
  a2 : 1 ≤ f2 ∧ f2 ≤ 15
  a3 : 1 ≤ f3 ∧ f3 ≤ 15
  u : f0 ≠ f1 ∧ f0 ≠ f2 ∧ f0 ≠ f3 ∧ f1 ≠ f2 ∧ f1 ≠ f3 ∧ f2 ≠ f3
theorem ints4 {ys : List Value} {a b c d : Int} (h : IntsAre ys [a, b, c, d]) : ∃ t0 t1 t2 t3, ys = [.int a t0, .int b t1, .int c t2, .int d t3] := by
  obtain ⟨t0, _, e0, h1⟩ := IntsAre.cons_inv h
  obtain ⟨t1, _, e1, h2⟩ := IntsAre.cons_inv h1
  obtain ⟨t2, _, e2, h3⟩ := IntsAre.cons_inv h2
  obtain ⟨t3, _, e3, h4⟩ := IntsAre.cons_inv h3
  cases h4
  subst e3; subst e2; subst e1; subst e0
  exact ⟨t0, t1, t2, t3, rfl⟩
theorem mod15_ne {a b : Int} (h : 0 < b - a) (h2 : b - a < 15) : 1 + a % 15 ≠ 1 + b % 15 := by omega
theorem mod15_in (a : Int) : 1 ≤ 1 + a % 15 ∧ 1 + a % 15 ≤ 15 := by omega
theorem codes_norm {ys : List Value} {x : Int} (h : IntsAre ys (List.map (fun k' : Int => 66 + (x.fmod 60 + k' * (1 + (x.fmod 60).fdiv 15)).fmod 15) (rangeKs 0 ((4 : Int) - 0).toNat))) :
    ∃ f0 f1 f2 f3 t0 t1 t2 t3, ys = [.int (65 + f0) t0, .int (65 + f1) t1, .int (65 + f2) t2, .int (65 + f3) t3] ∧ Cods f0 f1 f2 f3 := by
  have hx := fmod_lt x (k := 60) (by decide)
  generalize x.fmod 60 = t at hx h
  have h2 : IntsAre ys [65 + (1 + (t + 0 * (1 + t.fdiv 15)).fmod 15), 65 + (1 + (t + 1 * (1 + t.fdiv 15)).fmod 15), 65 + (1 + (t + 2 * (1 + t.fdiv 15)).fmod 15), 65 + (1 + (t + 3 * (1 + t.fdiv 15)).fmod 15)] := by
    have e : List.map (fun k' : Int => 66 + (t + k' * (1 + t.fdiv 15)).fmod 15) (rangeKs 0 ((4 : Int) - 0).toNat) = [65 + (1 + (t + 0 * (1 + t.fdiv 15)).fmod 15), 65 + (1 + (t + 1 * (1 + t.fdiv 15)).fmod 15), 65 + (1 + (t + 2 * (1 + t.fdiv 15)).fmod 15), 65 + (1 + (t + 3 * (1 + t.fdiv 15)).fmod 15)] := by
      show [66 + (t + 0 * (1 + t.fdiv 15)).fmod 15, 66 + (t + 1 * (1 + t.fdiv 15)).fmod 15, 66 + (t + 2 * (1 + t.fdiv 15)).fmod 15, 66 + (t + 3 * (1 + t.fdiv 15)).fmod 15] = _
      simp only [List.cons.injEq, and_true]
      refine ⟨?_, ?_, ?_, ?_⟩ <;> omega
    rw [← e]; exact h
  obtain ⟨t0, t1, t2, t3, rfl⟩ := ints4 h2
  refine ⟨_, _, _, _, t0, t1, t2, t3, rfl, ?_⟩
  rw [Int.fdiv_eq_ediv_of_nonneg t (by decide)]
  simp only [Int.fmod_eq_emod_of_nonneg _ (show (0 : Int) ≤ 15 by decide)]
  have hq : 0 ≤ t / 15 ∧ t / 15 ≤ 3 := by omega
  generalize t / 15 = q at hq
  exact ⟨mod15_in _, mod15_in _, mod15_in _, mod15_in _, mod15_ne (by omega) (by omega), mod15_ne (by omega) (by omega), mod15_ne (by omega) (by omega), mod15_ne (by omega) (by omega), mod15_ne (by omega) (by omega), mod15_ne (by omega) (by omega)⟩
theorem edges_norm {T : List Tup} {xs : List Int} (h : (T.map fun t => (t.p, t.q)) = edgesOf (xs.take xs.length)) (h2 : 2 ≤ xs.length ∧ xs.length ≤ 4) :
    ∃ es : List Nat, (T.map fun t => (t.p, t.q)) = es.map edgeAt ∧ (2 ≤ es.length ∧ es.length ≤ 4) ∧ ∀ e ∈ es, e < 6 := by
  refine ⟨xs.map fun x => (x.fmod 6).toNat, ?_, by rw [List.length_map]; exact h2, fun e he => ?_⟩
  · rw [h, List.take_length, edgesOf, List.map_map]; rfl
  · obtain ⟨x, _, rfl⟩ := List.mem_map.mp he
    have := fmod_lt x (k := 6) (by decide)
    omega
theorem own_more {own : List (Addr × Obj)} {a b : Addr} {as : List Addr} (h1 : AllLt a own) (h2 : LCg.Off1 b own) (h : OwnOff own as) : OwnOff own (a :: b :: as) := by
  intro p hp c hc
  rcases List.mem_cons.mp hc with rfl | hc
  · exact Nat.ne_of_lt (allLt_mem h1 p hp)
  · rcases List.mem_cons.mp hc with rfl | hc
    · exact off1_mem h2 p hp
    · exact h p hp c hc
theorem own_less {own : List (Addr × Obj)} {a b c : Addr} {as : List Addr} (h : OwnOff own (a :: b :: c :: as)) : OwnOff own (a :: b :: as) := by
  intro p hp c hc
  rcases List.mem_cons.mp hc with rfl | hc
  · exact h p hp _ (.head _)
  · rcases List.mem_cons.mp hc with rfl | hc
    · exact h p hp _ (.tail _ (.head _))
    · exact h p hp c (.tail _ (.tail _ (.tail _ hc)))
theorem news_less {h₀ h : Heap} {L : Addr} {a b c : Addr × Obj} {l own : List (Addr × Obj)} (N : News h₀ L h (a :: b :: c :: List.append l own)) : News h₀ L h ((a :: b :: l) ++ own) := fun p hp => N p (by
  rcases List.mem_cons.mp hp with rfl | hp
  · exact .head _
  · rcases List.mem_cons.mp hp with rfl | hp
    · exact .tail _ (.head _)
    · exact .tail _ (.tail _ (.tail _ hp)))
/-- behind a call that gives rows: they go to what stays -/
theorem rows_back {h₀ h : Heap} {L : Addr} {l own new : List (Addr × Obj)} (N : News h₀ L h (new ++ (l ++ own))) : News h₀ L h (l ++ (new ++ own)) := fun p hp => N p (by
  rcases List.mem_append.mp hp with hp | hp
  · exact List.mem_append_right _ (List.mem_append_left _ hp)
  · rcases List.mem_append.mp hp with hp | hp
    · exact List.mem_append_left _ hp
    · exact List.mem_append_right _ (List.mem_append_right _ hp))
theorem rows_off {l own new : List (Addr × Obj)} {as : List Addr} (h : OwnOff own as) (e : l.map (·.1) = as) (hn : ∀ p ∈ new, ∀ q ∈ l ++ own, q.1 ≠ p.1) : OwnOff (new ++ own) as := by
  subst e
  intro p hp b hb
  rcases List.mem_append.mp hp with hp | hp
  · obtain ⟨q, hq, rfl⟩ := List.mem_map.mp hb
    exact Ne.symm (hn p hp q (List.mem_append_left _ hq))
  · exact h p hp b hb
theorem cells_of {own : List (Addr × Obj)} {la lc : Addr} {b : Nat} (_h : OwnOff own [la, lc, b + 1 + 1 + 1 + 1 + 1 + 1, b + 1 + 1 + 1 + 1 + 1, b + 1 + 1 + 1 + 1, b + 1 + 1 + 1, b + 1 + 1, b + 1]) : @Ne Nat (b + 1 + 1) (b + 1) ∧ @Ne Nat (b + 1 + 1 + 1) (b + 1) ∧ @Ne Nat (b + 1 + 1 + 1 + 1) (b + 1) ∧ @Ne Nat (b + 1 + 1 + 1 + 1 + 1) (b + 1) ∧ @Ne Nat (b + 1 + 1 + 1 + 1 + 1 + 1) (b + 1) ∧ @Ne Nat (b + 1) (b + 1 + 1) ∧ @Ne Nat (b + 1 + 1 + 1) (b + 1 + 1) ∧ @Ne Nat (b + 1 + 1 + 1 + 1) (b + 1 + 1) ∧ @Ne Nat (b + 1 + 1 + 1 + 1 + 1) (b + 1 + 1) ∧ @Ne Nat (b + 1 + 1 + 1 + 1 + 1 + 1) (b + 1 + 1) ∧ @Ne Nat (b + 1) (b + 1 + 1 + 1) ∧ @Ne Nat (b + 1 + 1) (b + 1 + 1 + 1) ∧ @Ne Nat (b + 1 + 1 + 1 + 1) (b + 1 + 1 + 1) ∧ @Ne Nat (b + 1 + 1 + 1 + 1 + 1) (b + 1 + 1 + 1) ∧ @Ne Nat (b + 1 + 1 + 1 + 1 + 1 + 1) (b + 1 + 1 + 1) ∧ @Ne Nat (b + 1) (b + 1 + 1 + 1 + 1) ∧ @Ne Nat (b + 1 + 1) (b + 1 + 1 + 1 + 1) ∧ @Ne Nat (b + 1 + 1 + 1) (b + 1 + 1 + 1 + 1) ∧ @Ne Nat (b + 1 + 1 + 1 + 1 + 1) (b + 1 + 1 + 1 + 1) ∧ @Ne Nat (b + 1 + 1 + 1 + 1 + 1 + 1) (b + 1 + 1 + 1 + 1) ∧ @Ne Nat (b + 1) (b + 1 + 1 + 1 + 1 + 1) ∧ @Ne Nat (b + 1 + 1) (b + 1 + 1 + 1 + 1 + 1) ∧ @Ne Nat (b + 1 + 1 + 1) (b + 1 + 1 + 1 + 1 + 1) ∧ @Ne Nat (b + 1 + 1 + 1 + 1) (b + 1 + 1 + 1 + 1 + 1) ∧ @Ne Nat (b + 1 + 1 + 1 + 1 + 1 + 1) (b + 1 + 1 + 1 + 1 + 1) ∧ @Ne Nat (b + 1) (b + 1 + 1 + 1 + 1 + 1 + 1) ∧ @Ne Nat (b + 1 + 1) (b + 1 + 1 + 1 + 1 + 1 + 1) ∧ @Ne Nat (b + 1 + 1 + 1) (b + 1 + 1 + 1 + 1 + 1 + 1) ∧ @Ne Nat (b + 1 + 1 + 1 + 1) (b + 1 + 1 + 1 + 1 + 1 + 1) ∧ @Ne Nat (b + 1 + 1 + 1 + 1 + 1) (b + 1 + 1 + 1 + 1 + 1 + 1) :=
  ⟨Nat.ne_of_gt (Nat.add_lt_add_left (show 1 < 2 by decide) b), Nat.ne_of_gt (Nat.add_lt_add_left (show 1 < 3 by decide) b), Nat.ne_of_gt (Nat.add_lt_add_left (show 1 < 4 by decide) b), Nat.ne_of_gt (Nat.add_lt_add_left (show 1 < 5 by decide) b), Nat.ne_of_gt (Nat.add_lt_add_left (show 1 < 6 by decide) b), Nat.ne_of_lt (Nat.add_lt_add_left (show 1 < 2 by decide) b), Nat.ne_of_gt (Nat.add_lt_add_left (show 2 < 3 by decide) b), Nat.ne_of_gt (Nat.add_lt_add_left (show 2 < 4 by decide) b), Nat.ne_of_gt (Nat.add_lt_add_left (show 2 < 5 by decide) b), Nat.ne_of_gt (Nat.add_lt_add_left (show 2 < 6 by decide) b), Nat.ne_of_lt (Nat.add_lt_add_left (show 1 < 3 by decide) b), Nat.ne_of_lt (Nat.add_lt_add_left (show 2 < 3 by decide) b), Nat.ne_of_gt (Nat.add_lt_add_left (show 3 < 4 by decide) b), Nat.ne_of_gt (Nat.add_lt_add_left (show 3 < 5 by decide) b), Nat.ne_of_gt (Nat.add_lt_add_left (show 3 < 6 by decide) b), Nat.ne_of_lt (Nat.add_lt_add_left (show 1 < 4 by decide) b), Nat.ne_of_lt (Nat.add_lt_add_left (show 2 < 4 by decide) b), Nat.ne_of_lt (Nat.add_lt_add_left (show 3 < 4 by decide) b), Nat.ne_of_gt (Nat.add_lt_add_left (show 4 < 5 by decide) b), Nat.ne_of_gt (Nat.add_lt_add_left (show 4 < 6 by decide) b), Nat.ne_of_lt (Nat.add_lt_add_left (show 1 < 5 by decide) b), Nat.ne_of_lt (Nat.add_lt_add_left (show 2 < 5 by decide) b), Nat.ne_of_lt (Nat.add_lt_add_left (show 3 < 5 by decide) b), Nat.ne_of_lt (Nat.add_lt_add_left (show 4 < 5 by decide) b), Nat.ne_of_gt (Nat.add_lt_add_left (show 5 < 6 by decide) b), Nat.ne_of_lt (Nat.add_lt_add_left (show 1 < 6 by decide) b), Nat.ne_of_lt (Nat.add_lt_add_left (show 2 < 6 by decide) b), Nat.ne_of_lt (Nat.add_lt_add_left (show 3 < 6 by decide) b), Nat.ne_of_lt (Nat.add_lt_add_left (show 4 < 6 by decide) b), Nat.ne_of_lt (Nat.add_lt_add_left (show 5 < 6 by decide) b)⟩
theorem ne_la {c d b6 b5 b4 b3 b2 b1 x : Nat} {P : Prop} (q : c < x ∧ d < x ∧ b6 < x ∧ b5 < x ∧ b4 < x ∧ b3 < x ∧ b2 < x ∧ b1 < x ∧ P) :
    (c ≠ x ∧ d ≠ x ∧ b6 ≠ x ∧ b5 ≠ x ∧ b4 ≠ x ∧ b3 ≠ x ∧ b2 ≠ x ∧ b1 ≠ x) ∧ (x ≠ b6 ∧ x ≠ b5 ∧ x ≠ b4 ∧ x ≠ b3) :=
  ⟨⟨Nat.ne_of_lt q.1, Nat.ne_of_lt q.2.1, Nat.ne_of_lt q.2.2.1, Nat.ne_of_lt q.2.2.2.1, Nat.ne_of_lt q.2.2.2.2.1, Nat.ne_of_lt q.2.2.2.2.2.1, Nat.ne_of_lt q.2.2.2.2.2.2.1, Nat.ne_of_lt q.2.2.2.2.2.2.2.1⟩, Nat.ne_of_gt q.2.2.1, Nat.ne_of_gt q.2.2.2.1, Nat.ne_of_gt q.2.2.2.2.1, Nat.ne_of_gt q.2.2.2.2.2.1⟩
theorem ne_lc {d b6 b5 b4 b3 b2 b1 x : Nat} {P : Prop} (o : d ≠ x ∧ b6 ≠ x ∧ b5 ≠ x ∧ b4 ≠ x ∧ b3 ≠ x ∧ b2 ≠ x ∧ b1 ≠ x ∧ P) : x ≠ b6 ∧ x ≠ b5 ∧ x ≠ b4 ∧ x ≠ b3 ∧ x ≠ b2 ∧ x ≠ b1 :=
  ⟨o.2.1.symm, o.2.2.1.symm, o.2.2.2.1.symm, o.2.2.2.2.1.symm, o.2.2.2.2.2.1.symm, o.2.2.2.2.2.2.1.symm⟩
end
end
section
open PySem PySem.W PyProof.Rows PySem.Calls PyProof.V PySem.Spec
/-! the plain law of 02 -/
noncomputable def plT : List (List Nat) := [[3, 2, 1, 0], [2, 3, 1, 0], [2, 1, 3, 0], [2, 1, 0, 3], [3, 1, 2, 0], [1, 3, 2, 0], [1, 2, 3, 0], [1, 2, 0, 3], [3, 1, 0, 2], [1, 3, 0, 2], [1, 0, 3, 2], [1, 0, 2, 3], [3, 2, 0, 1], [2, 3, 0, 1], [2, 0, 3, 1], [2, 0, 1, 3], [3, 0, 2, 1], [0, 3, 2, 1], [0, 2, 3, 1], [0, 2, 1, 3], [3, 0, 1, 2], [0, 3, 1, 2], [0, 1, 3, 2], [0, 1, 2, 3]]
noncomputable def plN (i : Nat) : List Nat := plT.getD i []
theorem plT_eq : placesUp 4 = plT.map fun l => l.map fun n : Nat => (n : Int) := by decide +kernel
theorem plT_len : plT.length = 24 := rfl
noncomputable def aheadN (i e : Nat) : Bool := Nat.blt ((plN i).getD (edgeAt e).1 0) ((plN i).getD (edgeAt e).2 0)
noncomputable def markN (es : List Nat) (i : Nat) : Nat := es.foldl (fun m e => 2 * m + (if aheadN i e then 1 else 0)) 0
noncomputable def addN (as : List Nat) (m : Nat) : List Nat := if as.contains m then as else as ++ [m]
noncomputable def ansN (es : List Nat) : Nat → List Nat
  | 0 => []
  | i + 1 => addN (ansN es i) (markN es i)
noncomputable def maskE (e : Nat) : Nat := 2 ^ (edgeAt e).1 + 2 ^ (edgeAt e).2
noncomputable def heldN (es : List Nat) (k : Nat) : Bool := es.any fun e => incl (maskE e) k
noncomputable def wt (n : Nat) : Int := [0, -1, 2, -6, 24].getD n 0
noncomputable def ptT : List (List Nat) := [[1, 2, 4, 8], [3, 4, 8], [5, 2, 8], [1, 6, 8], [7, 8], [9, 2, 4], [1, 10, 4], [1, 2, 12], [11, 4], [3, 12], [13, 2], [5, 10], [9, 6], [1, 14], [15]]
theorem ptT_eq : partUp 4 = ptT.map fun l => l.map fun n : Nat => (n : Int) := by decide +kernel
noncomputable def ptN (i : Nat) : List Nat := ptT.getD i []
noncomputable def amtN (es : List Nat) : Nat → Int
  | 0 => 0
  | i + 1 => if (ptN i).any (heldN es) then amtN es i else amtN es i + wt (ptN i).length
noncomputable def lawN (es : List Nat) : Bool := amtN es 15 == ((ansN es 24).length : Int)
noncomputable def set6 (b0 b1 b2 b3 b4 b5 : Bool) : List Nat := (if b0 then [0] else []) ++ (if b1 then [1] else []) ++ (if b2 then [2] else []) ++ (if b3 then [3] else []) ++ (if b4 then [4] else []) ++ (if b5 then [5] else [])
theorem law_sets0 : ∀ b1 b2 b3 b4 b5 : Bool, lawN (set6 false b1 b2 b3 b4 b5) = true := by decide +kernel
theorem law_sets1 : ∀ b1 b2 b3 b4 b5 : Bool, lawN (set6 true b1 b2 b3 b4 b5) = true := by decide +kernel
theorem mem_one {b : Bool} {e k : Nat} : e ∈ (if b then [k] else []) ↔ (b = true ∧ e = k) := by cases b <;> simp
theorem mem_set6 {b0 b1 b2 b3 b4 b5 : Bool} {e : Nat} : e ∈ set6 b0 b1 b2 b3 b4 b5 ↔ (b0 = true ∧ e = 0) ∨ (b1 = true ∧ e = 1) ∨ (b2 = true ∧ e = 2) ∨ (b3 = true ∧ e = 3) ∨ (b4 = true ∧ e = 4) ∨ (b5 = true ∧ e = 5) := by
  unfold set6
  simp only [List.mem_append, mem_one, or_assoc]
noncomputable def setOf (es : List Nat) : List Nat := set6 (es.contains 0) (es.contains 1) (es.contains 2) (es.contains 3) (es.contains 4) (es.contains 5)
theorem mem_setOf {es : List Nat} (h : ∀ e ∈ es, e < 6) (e : Nat) : e ∈ setOf es ↔ e ∈ es := by
  unfold setOf
  rw [mem_set6]
  simp only [List.contains_iff_mem]
  constructor
  · rintro (⟨h, rfl⟩ | ⟨h, rfl⟩ | ⟨h, rfl⟩ | ⟨h, rfl⟩ | ⟨h, rfl⟩ | ⟨h, rfl⟩) <;> exact h
  · intro he
    have h6 := h e he
    have : e = 0 ∨ e = 1 ∨ e = 2 ∨ e = 3 ∨ e = 4 ∨ e = 5 := by omega
    rcases this with rfl | rfl | rfl | rfl | rfl | rfl <;> simp [he]
theorem mark_snoc (es : List Nat) (e i : Nat) : markN (es ++ [e]) i = 2 * markN es i + (if aheadN i e then 1 else 0) := by simp [markN]
theorem mark_inj : ∀ (es : List Nat) (i j : Nat), markN es i = markN es j ↔ ∀ e ∈ es, aheadN i e = aheadN j e := by
  intro es
  rw [← List.reverse_reverse es]
  induction es.reverse with
  | nil => intro i j; simp [markN]
  | cons e r ih =>
    intro i j
    rw [List.reverse_cons, mark_snoc, mark_snoc]
    have h := ih i j
    constructor
    · intro q x hx
      have h1 : markN r.reverse i = markN r.reverse j ∧ aheadN i e = aheadN j e := by
        cases ha : aheadN i e <;> cases hb : aheadN j e <;> simp [ha, hb] at q ⊢ <;> omega
      rcases List.mem_append.mp hx with hx | hx
      · exact h.mp h1.1 x hx
      · rw [List.mem_singleton.mp hx]; exact h1.2
    · intro q
      rw [h.mpr fun x hx => q x (List.mem_append_left _ hx), q e (by simp)]
theorem any_congr {I : List Nat} {f g : Nat → Nat} {n : Nat} (h : ∀ i j, f i = f j ↔ g i = g j) : (I.map f).contains (f n) = (I.map g).contains (g n) := by
  rw [Bool.eq_iff_iff, List.contains_iff_mem, List.contains_iff_mem, List.mem_map, List.mem_map]
  constructor
  · rintro ⟨a, ha, e⟩; exact ⟨a, ha, (h a n).mp e⟩
  · rintro ⟨a, ha, e⟩; exact ⟨a, ha, (h a n).mpr e⟩
theorem ans_par {es es' : List Nat} (h : ∀ i j, markN es i = markN es j ↔ markN es' i = markN es' j) : ∀ n, ∃ I : List Nat, ansN es n = I.map (markN es) ∧ ansN es' n = I.map (markN es')
  | 0 => ⟨[], rfl, rfl⟩
  | n + 1 => by
    obtain ⟨I, e1, e2⟩ := ans_par h n
    simp only [ansN, addN]
    rw [e1, e2, any_congr h]
    cases (I.map (markN es')).contains (markN es' n)
    · exact ⟨I ++ [n], by simp, by simp⟩
    · exact ⟨I, by simp, by simp⟩
theorem any_mem {es es' : List Nat} (h : ∀ e, e ∈ es' ↔ e ∈ es) (p : Nat → Bool) : es.any p = es'.any p := by
  rw [Bool.eq_iff_iff, List.any_eq_true, List.any_eq_true]
  constructor
  · rintro ⟨a, ha, e⟩; exact ⟨a, (h a).mpr ha, e⟩
  · rintro ⟨a, ha, e⟩; exact ⟨a, (h a).mp ha, e⟩
theorem amt_congr {es es' : List Nat} (h : ∀ k, heldN es k = heldN es' k) : ∀ n, amtN es n = amtN es' n
  | 0 => rfl
  | n + 1 => by
    have e : heldN es = heldN es' := funext h
    simp only [amtN]
    rw [amt_congr h n, e]
/-- as many rows of answers as the partings tell -/
theorem law_all {es : List Nat} (h : ∀ e ∈ es, e < 6) : amtN es 15 = ((ansN es 24).length : Int) := by
  have hm := mem_setOf h
  have h1 : lawN (setOf es) = true := by
    unfold setOf
    cases es.contains 0
    · exact law_sets0 _ _ _ _ _
    · exact law_sets1 _ _ _ _ _
  have h2 : amtN (setOf es) 15 = ((ansN (setOf es) 24).length : Int) := of_decide_eq_true h1
  rw [amt_congr (es := es) (es' := setOf es) (fun k => any_mem hm _), h2]
  obtain ⟨I, e1, e2⟩ := ans_par (es := es) (es' := setOf es) (fun i j => by
    rw [mark_inj, mark_inj]
    exact ⟨fun q e he => q e ((hm e).mp he), fun q e he => q e ((hm e).mpr he)⟩) 24
  rw [e1, e2, List.length_map, List.length_map]
/-- letters of the loop over the places -/
structure AW where
  as : List Value
  nA : Nat
  oP : Obj
  oW : Obj
theorem pl_bound : ∀ i < 24, (plN i).length = 4 ∧ ∀ k < 4, (plN i).getD k 0 < 4 := by decide +kernel
theorem pl_row {i : Nat} {l : List Int} (h : (placesUp 4)[i]? = some l) : i < 24 ∧ l = (plN i).map fun n : Nat => (n : Int) := by
  rw [plT_eq, List.getElem?_map] at h
  cases e : plT[i]? with
  | none => rw [e] at h; cases h
  | some y =>
    rw [e] at h
    refine ⟨?_, ?_⟩
    · have := (List.getElem?_eq_some_iff.mp e).1
      rwa [plT_len] at this
    · rw [← Option.some.inj h]
      unfold plN
      rw [List.getD_eq_getElem?_getD, e]; rfl
theorem pl_at {i : Nat} (hi : i < 24) {k : Int} (h0 : 0 ≤ k) (h1 : k < 4) : 0 ≤ ((plN i).map fun n : Nat => (n : Int)).getD k.toNat 0 ∧ ((plN i).map fun n : Nat => (n : Int)).getD k.toNat 0 ≤ 3 := by
  have h := (pl_bound i hi).2 k.toNat (by omega)
  have hl := (pl_bound i hi).1
  rw [List.getD_eq_getElem?_getD, List.getElem?_map, List.getElem?_eq_getElem (by omega)]
  rw [List.getD_eq_getElem?_getD, List.getElem?_eq_getElem (by omega)] at h
  simp only [Option.map_some, Option.getD_some] at h ⊢
  omega
theorem see_own {h₀ h : Heap} {L : Addr} {l own : List (Addr × Obj)} {p : Addr × Obj} (N : News h₀ L h (l ++ own)) (hm : p ∈ own) : News h₀ L h ((p :: l) ++ own) := fun q hq => by
  rcases List.mem_cons.mp hq with rfl | hq
  · exact N _ (List.mem_append_right _ hm)
  · exact N q hq
noncomputable def fAt (f0 f1 f2 f3 : Int) (k : Int) : Int := [f0, f1, f2, f3].getD k.toNat 0
noncomputable def permN (i : Nat) : List Nat := (List.range 4).map fun q => (plN i).findIdx (· == q)
noncomputable def digP (f0 f1 f2 f3 : Int) (i : Nat) : List Int := (permN i).map fun k : Nat => fAt f0 f1 f2 f3 (k : Int)
noncomputable def wordP (f0 f1 f2 f3 : Int) (i : Nat) : List Nat := (digP f0 f1 f2 f3 i).map fun f => 65 + f.toNat
theorem perm_sum {l l' : List Int} (h : l.Perm l') : l.sum = l'.sum := by
  induction h with
  | nil => rfl
  | cons x _ ih => rw [List.sum_cons, List.sum_cons, ih]
  | swap x y l => rw [List.sum_cons, List.sum_cons, List.sum_cons, List.sum_cons, Int.add_left_comm]
  | trans _ _ ih1 ih2 => rw [ih1, ih2]
theorem perm_tab : ∀ i < 24, (permN i).isPerm [0, 1, 2, 3] = true ∧ (permN i).map (fun k => (plN i).getD k 9) = [0, 1, 2, 3] := by decide +kernel
theorem int_getD (l : List Nat) (k : Nat) : (l.map fun n : Nat => (n : Int)).getD ((k : Int)).toNat 0 = ((l.getD k 0 : Nat) : Int) := by
  rw [Int.toNat_natCast, List.getD_eq_getElem?_getD, List.getD_eq_getElem?_getD, List.getElem?_map]
  cases l[k]? <;> rfl
theorem getD_09 {l : List Nat} {k j : Nat} (h : l.getD k 9 = j) (hj : j ≠ 9) : l.getD k 0 = j := by
  rw [List.getD_eq_getElem?_getD] at h ⊢
  cases e : l[k]? with
  | none => rw [e] at h; exact absurd h.symm hj
  | some x => rw [e] at h; exact h
theorem num4 (a b c d : Int) : (65 + a - 65) * 4096 + ((65 + b - 65) * 256 + ((65 + c - 65) * 16 + ((65 + d - 65) * 1 + 0))) = numI [a, b, c, d] := by
  simp only [numI, List.foldl_cons, List.foldl_nil]; omega
theorem num_eq {f0 f1 f2 f3 : Int} {i : Nat} (hi : i < 24) :
    (List.map (fun k' : Int => (65 + fAt f0 f1 f2 f3 k' - 65) * 16 ^ (3 - ((plN i).map fun n : Nat => (n : Int)).getD k'.toNat 0).toNat) (rangeKs 0 ((4 : Int) - 0).toNat)).sum = numI (digP f0 f1 f2 f3 i) := by
  obtain ⟨h1, h2⟩ := perm_tab i hi
  have hperm := List.isPerm_iff.mp h1
  unfold digP
  show ([0, 1, 2, 3].map fun k : Nat => (65 + fAt f0 f1 f2 f3 (k : Int) - 65) * 16 ^ (3 - ((plN i).map fun n : Nat => (n : Int)).getD ((k : Int)).toNat 0).toNat).sum = _
  rw [perm_sum (hperm.symm.map _)]
  generalize permN i = per at h2
  have hl : per.length = 4 := by simpa using congrArg List.length h2
  match per, hl, h2 with
  | [p, q, r, s], _, h2 =>
    simp only [List.map_cons, List.map_nil, List.cons.injEq, and_true] at h2
    obtain ⟨e0, e1, e2, e3⟩ := h2
    simp only [List.map_cons, List.map_nil, List.sum_cons, List.sum_nil, int_getD, getD_09 e0 (by decide), getD_09 e1 (by decide), getD_09 e2 (by decide), getD_09 e3 (by decide)]
    exact num4 _ _ _ _
end
section
section
open PySem PySem.W PyProof.Rows PySem.Calls PyProof.V PySem.Spec
section
variable {prog : Program} {w : World} {A : Around} {E : Value → Shared → Prop} {s : Shared} {h₀ : Heap} {L ra : Addr} {news : List (Addr × Obj)} {Q : Value → Shared → Prop} {us : List Value} {rn : Nat} {j : Int} {uj : Tok} {value slice : PySem.Expr}
theorem place_item {i : Nat} (hi : i < 24) (N : News h₀ L s.heap news) (hm : (ra, listOf us.toArray rn) ∈ news) (hI : IntsAre us ((plN i).map fun n : Nat => (n : Int))) (h0 : 0 ≤ j) (h1 : j < 4)
    (h : ∀ t, Q (.int (((plN i).map fun n : Nat => (n : Int)).getD j.toNat 0) t) s)
    (hs : subscripted slice false (.ref ra) (.int j uj) = operate [.ref ra, .int j uj] (getItem (.ref ra) (.int j uj))) :
    wpAny (model prog w) A (subscriptTail value slice (.ref ra) (.int j uj)) Q E s := by
  have hl := (pl_bound i hi).1
  have hlen : ((plN i).map fun n : Nat => (n : Int)).length = 4 := by rw [List.length_map]; exact hl
  exact row_item N hm hI h0 (by omega) (by omega) h hs
theorem fAt_in {f0 f1 f2 f3 : Int} (h : Cods f0 f1 f2 f3) {k : Int} (h0 : 0 ≤ k) (h1 : k < 4) : 1 ≤ fAt f0 f1 f2 f3 k ∧ fAt f0 f1 f2 f3 k ≤ 15 := by
  obtain ⟨a0, a1, a2, a3, u⟩ := h
  have : k = 0 ∨ k = 1 ∨ k = 2 ∨ k = 3 := by omega
  rcases this with rfl | rfl | rfl | rfl
  · exact a0
  · exact a1
  · exact a2
  · exact a3
theorem code_item {f0 f1 f2 f3 : Int} {c0 c1 c2 c3 : Tok} {n : Nat} (N : News h₀ L s.heap news) (hm : (ra, listOf #[.int (65 + f0) c0, .int (65 + f1) c1, .int (65 + f2) c2, .int (65 + f3) c3] n) ∈ news) (h0 : 0 ≤ j) (h1 : j < 4)
    (h : ∀ t, Q (.int (65 + fAt f0 f1 f2 f3 j) t) s)
    (hs : subscripted slice false (.ref ra) (.int j uj) = operate [.ref ra, .int j uj] (getItem (.ref ra) (.int j uj))) :
    wpAny (model prog w) A (subscriptTail value slice (.ref ra) (.int j uj)) Q E s := by
  have hl : s.heap.IsList ra ([.int (65 + f0) c0, .int (65 + f1) c1, .int (65 + f2) c2, .int (65 + f3) c3] : List Value).toArray := list_at N hm
  have hx : ∃ t, ([.int (65 + f0) c0, .int (65 + f1) c1, .int (65 + f2) c2, .int (65 + f3) c3] : List Value)[j.toNat]? = some (.int (65 + fAt f0 f1 f2 f3 j) t) := by
    have : j = 0 ∨ j = 1 ∨ j = 2 ∨ j = 3 := by omega
    rcases this with rfl | rfl | rfl | rfl <;> exact ⟨_, rfl⟩
  obtain ⟨t, hx⟩ := hx
  exact tail_any hl.typeIs slot_list_getitem.lookup (wpAny_getItem_list hl h0 (by omega) (by simpa using hx) (h t)) hs
theorem pow_place {i : Nat} {t : Tok} (hi : i < 24) (h0 : 0 ≤ j) (h1 : j < 4) (h : Q (.int (16 ^ (3 - ((plN i).map fun n : Nat => (n : Int)).getD j.toNat 0).toNat) s.toks) { s with toks := s.toks + 1 }) :
    wpAny (model prog w) A (binaryOp .Pow (.int 16 t) (.int (3 - ((plN i).map fun n : Nat => (n : Int)).getD j.toNat 0) uj)) Q E s := by
  have := pl_at hi h0 h1
  exact pow_int_small (by omega) (by omega) (by decide) h
theorem mul_place {i : Nat} {a : Int} {t : Tok} (hi : i < 24) (h0 : 0 ≤ j) (h1 : j < 4) (h : Q (.int (a * 16 ^ (3 - ((plN i).map fun n : Nat => (n : Int)).getD j.toNat 0).toNat) s.toks) { s with toks := s.toks + 1 }) :
    wpAny (model prog w) A (binaryOp .Mult (.int a t) (.int (16 ^ (3 - ((plN i).map fun n : Nat => (n : Int)).getD j.toNat 0).toNat) uj)) Q E s := by
  have := pl_at hi h0 h1
  refine PyProof.Rows.mul_int h (.of_right ?_)
  have : (3 - ((plN i).map fun n : Nat => (n : Int)).getD j.toNat 0).toNat < 4 := by omega
  generalize (3 - ((plN i).map fun n : Nat => (n : Int)).getD j.toNat 0).toNat = n at this
  have h4 : ∀ n < 4, Builtin.Int.intBits (16 ^ n) ≤ 64 := by decide +kernel
  exact h4 n this
end
section
variable {prog : Program} {w : World} {A : Around} {E : Value → Shared → Prop} {s : Shared} {h₀ : Heap} {L : Addr} {Q : Flow → Shared → Prop}
theorem my_cutL {σ : Type} {c : Sem Flow} {m₀ : Str → Option Value} (Led : σ → List (Addr × Obj)) (ps : σ → List (Str × Value)) (P : σ → Prop) (c₀ : σ) (_F : Fr h₀ L s.heap m₀) (_N : News h₀ L s.heap (Led c₀)) (_hk : ∀ p ∈ ps c₀, m₀ p.1 = some p.2)
    (h : wpAny (model prog w) A c (MyCut h₀ L s Led ps P Q) E s)
    (k : ∀ (c : σ) (u : Str → Option Value) h tk, P c → Fr h₀ L h (kstB u (ps c)) → News h₀ L h (Led c) → Q .next { s with heap := h, toks := tk }) : wpAny (model prog w) A c Q E s := my_cut Led ps P h₀ L h k
end
theorem perm_lt : ∀ i < 24, (permN i).length = 4 ∧ ∀ k ∈ permN i, k < 4 := by decide +kernel
theorem dig_in {f0 f1 f2 f3 : Int} (hF : Cods f0 f1 f2 f3) {i : Nat} (hi : i < 24) : ∀ x ∈ digP f0 f1 f2 f3 i, 1 ≤ x ∧ x ≤ 15 := by
  intro x hx
  obtain ⟨k, hk, rfl⟩ := List.mem_map.mp hx
  have h4 := (perm_lt i hi).2 k hk
  exact fAt_in hF (by omega) (by omega)
theorem dig_len {f0 f1 f2 f3 : Int} {i : Nat} (hi : i < 24) : (digP f0 f1 f2 f3 i).length = 4 := by
  unfold digP
  rw [List.length_map]; exact (perm_lt i hi).1
theorem dig_num {f0 f1 f2 f3 : Int} (hF : Cods f0 f1 f2 f3) {i : Nat} (hi : i < 24) : (numI (digP f0 f1 f2 f3 i)).natAbs < 65536 ∧ (-numI (digP f0 f1 f2 f3 i)).natAbs < 65536 := by
  have := numI_small _ (dig_in hF hi) (by rw [dig_len hi]; omega)
  omega
theorem dig_ap {f0 f1 f2 f3 : Int} (hF : Cods f0 f1 f2 f3) {i : Nat} (hi : i < 24) : apL (numI (digP f0 f1 f2 f3 i)).natAbs [] = wordP f0 f1 f2 f3 i ∧ apL (-numI (digP f0 f1 f2 f3 i)).natAbs [] = wordP f0 f1 f2 f3 i := by
  have h := apL_num _ [] (dig_in hF hi)
  rw [List.append_nil] at h
  exact ⟨h, by rw [Int.natAbs_neg]; exact h⟩
end
end
section
section
open PySem PySem.W PyProof.Rows PySem.Calls PyProof.V PySem.Spec
theorem wordP_len {f0 f1 f2 f3 : Int} {i : Nat} (hi : i < 24) : (wordP f0 f1 f2 f3 i).length = 4 := by
  unfold wordP; rw [List.length_map]; exact dig_len hi
theorem spell_tab : ∀ i < 24, (plN i).map (fun a => (permN i).getD a 9) = [0, 1, 2, 3] := by decide +kernel
theorem spell_at {f0 f1 f2 f3 : Int} {i a k : Nat} (h : (permN i).getD a 9 = k) (hk : k ≠ 9) : (wordP f0 f1 f2 f3 i).getD ((a : Int)).toNat 0 = 65 + (fAt f0 f1 f2 f3 (k : Int)).toNat := by
  unfold wordP digP
  rw [Int.toNat_natCast, List.getD_eq_getElem?_getD, List.getElem?_map, List.getElem?_map]
  rw [List.getD_eq_getElem?_getD] at h
  cases e : (permN i)[a]? with
  | none => rw [e] at h; exact absurd h.symm hk
  | some x =>
    rw [e] at h
    have h : x = k := h
    subst h; rfl
theorem up65 {f : Int} (h : 1 ≤ f ∧ f ≤ 15) : ((65 + f.toNat : Nat) : Int) = 65 + f := by omega
theorem spell {f0 f1 f2 f3 : Int} (hF : Cods f0 f1 f2 f3) {i : Nat} (hi : i < 24) :
    ((plN i).map fun n : Nat => (n : Int)).map (fun p : Int => (((wordP f0 f1 f2 f3 i).getD p.toNat 0 : Nat) : Int)) = [65 + f0, 65 + f1, 65 + f2, 65 + f3] := by
  have h := spell_tab i hi
  generalize plN i = l at h
  have hl : l.length = 4 := by simpa using congrArg List.length h
  match l, hl, h with
  | [a, b, c, d], _, h =>
    simp only [List.map_cons, List.map_nil, List.cons.injEq, and_true] at h ⊢
    obtain ⟨e0, e1, e2, e3⟩ := h
    rw [spell_at e0 (by decide), spell_at e1 (by decide), spell_at e2 (by decide), spell_at e3 (by decide)]
    exact ⟨up65 hF.a0, up65 hF.a1, up65 hF.a2, up65 hF.a3⟩
section
variable {prog : Program} {w : World} {A : Around} {E : Value → Shared → Prop} {s : Shared} {h₀ : Heap} {L ra : Addr} {news : List (Addr × Obj)} {Q : Value → Shared → Prop} {us : List Value} {rn : Nat} {j : Int} {uj : Tok} {value slice : PySem.Expr} {f0 f1 f2 f3 : Int} {i : Nat} {t : Tok}
theorem bt_len (hi : i < 24) (h : ∀ t' k, Q (.int 4 t') { s with toks := k }) : wpAny (model prog w) A (call (.builtin "len") [.bytes (Bt (wordP f0 f1 f2 f3 i)) t]) Q E s := by
  have e : (Bt (wordP f0 f1 f2 f3 i)).size = 4 := by rw [Bt_size, wordP_len hi]
  refine len_bytes (by rw [e]; decide) ?_
  rw [e]; exact h _ _
theorem bt_item (hi : i < 24) (h0 : 0 ≤ j) (h1 : j < 4) (hx : ∀ x ∈ wordP f0 f1 f2 f3 i, x < 256) (h : ∀ t' k, Q (.int (((wordP f0 f1 f2 f3 i).getD j.toNat 0 : Nat) : Int) t') { s with toks := k })
    (hs : subscripted slice false (.bytes (Bt (wordP f0 f1 f2 f3 i)) t) (.int j uj) = operate [.bytes (Bt (wordP f0 f1 f2 f3 i)) t, .int j uj] (getItem (.bytes (Bt (wordP f0 f1 f2 f3 i)) t) (.int j uj))) (ht : ∀ r, letTemporaryGo value (.bytes (Bt (wordP f0 f1 f2 f3 i)) t) r = pure ()) :
    wpAny (model prog w) A (subscriptTail value slice (.bytes (Bt (wordP f0 f1 f2 f3 i)) t) (.int j uj)) Q E s := by
  have hl := wordP_len (f0 := f0) (f1 := f1) (f2 := f2) (f3 := f3) hi
  unfold Bt at hs ht ⊢
  refine subscriptTail_builtin (typeIs_bytes _ _ _) FB.slot_bytes_getitem.lookup (getItem_bytes (by rw [List.length_map, hl]; decide) h0 (by rw [List.length_map, hl]; omega) ?_) hs ht
  have e : (((wordP f0 f1 f2 f3 i).map UInt8.ofNat).getD j.toNat 0).toNat = (wordP f0 f1 f2 f3 i).getD j.toNat 0 := by
    have hj : j.toNat < (wordP f0 f1 f2 f3 i).length := by omega
    rw [List.getD_eq_getElem?_getD, List.getD_eq_getElem?_getD, List.getElem?_map, List.getElem?_eq_getElem hj]
    simp only [Option.map_some, Option.getD_some]
    rw [UInt8.toNat_ofNat', Nat.mod_eq_of_lt (hx _ (List.getElem_mem hj))]
  rw [e]; exact h _ _
end
theorem pl_mem {i : Nat} (hi : i < 24) {k : Int} (h : k ∈ (plN i).map fun n : Nat => (n : Int)) : 0 ≤ k ∧ k < 4 := by
  obtain ⟨n, hn, rfl⟩ := List.mem_map.mp h
  have h4 : ∀ i < 24, ∀ n ∈ plN i, n < 4 := by decide +kernel
  have := h4 i hi n hn
  omega
theorem word_256 {f0 f1 f2 f3 : Int} (hF : Cods f0 f1 f2 f3) {i : Nat} (hi : i < 24) : ∀ x ∈ wordP f0 f1 f2 f3 i, x < 128 ∧ x < 256 ∧ x ≠ 46 := by
  intro x hx
  obtain ⟨y, hy, rfl⟩ := List.mem_map.mp hx
  have := dig_in hF hi y hy
  omega
section
variable {prog : Program} {w : World} {A : Around} {h₀ : Heap} {L ax : Addr} {m : Str → Option Value} {env : Env} {elt : PySem.Expr} {x : Str} {scope : Scope} {cl : List (Str × Addr)} {Fin : Shared → List Value → List (Addr × Obj) → Prop} {vs : List Value} {k : Nat} {news : List (Addr × Obj)} {s₁ : Shared} {ns : List Int}
theorem ints_src (f : Int → Int) (hh : A.handled = none) (F : Fr h₀ L s₁.heap m) (N : News h₀ L s₁.heap news) (hm : (ax, ({ cls := .type "list", data := .seq vs.toArray k } : Obj)) ∈ news) (hi : IntsAre vs ns) (hn : ns.length ≤ 900)
    (turn : ∀ k t I oI C oC D m₂ ys h tk (E' : Value → Shared → Prop), k ∈ ns → LCg.NsObj oC m₂ → m₂ x = some (.int k t) → Fr h₀ L h m → News h₀ L h ((I, oI) :: (C, oC) :: (D, LCg.lst ys) :: news) → LCg.Off3 I C D news → ((@Ne Nat I C) ∧ (@Ne Nat I D) ∧ (@Ne Nat C D)) →
      wpAny (model prog w) A (eval elt (compEnvC scope cl C env)) (LCg.CompEnd h₀ L m { s₁ with heap := h, toks := tk } I oI C oC D (LCg.lst ys) (LCg.SrcAt h₀ ax vs.toArray) (fun y news' => KCfEl news (f k) y news')) E' { s₁ with heap := h, toks := tk })
    (fin : ∀ g ys, IntsAre ys (ns.map f) → Fin { s₁ with heap := g } ys news) : LCg.CompSrc prog w A h₀ L m env elt x scope cl Fin (.ref ax) s₁ := by
  refine LCg.CompSrc.ledger hh F N hm (by rw [List.size_toArray, hi.length, sizeLine_eq]; omega) fun g => ?_
  refine kcf_list f hi (fun k t I oI C oC D m₂ ys h tk E' hk hC hx' F' N' off ne _ => turn k t I oI C oC D m₂ ys h tk E' hk hC hx' F' N' off ne) ?_
  intro ys hI
  exact fin g ys hI
end
section
variable {prog : Program} {w : World} {A : Around} {E : Value → Shared → Prop} {s : Shared} {h₀ : Heap} {L a b : Addr} {news : List (Addr × Obj)} {Q : Value → Shared → Prop} {ys : List Value} {na nb : Nat} {f0 f1 f2 f3 : Int} {c0 c1 c2 c3 : Tok}
theorem codes_ne (N : News h₀ L s.heap news) (ma : (a, listOf ys.toArray na) ∈ news) (mb : (b, listOf #[.int (65 + f0) c0, .int (65 + f1) c1, .int (65 + f2) c2, .int (65 + f3) c3] nb) ∈ news) (hi : IntsAre ys [65 + f0, 65 + f1, 65 + f2, 65 + f3]) (hu : A.units + 64 < cLine) (h : Q (.bool false) s) :
    wpAny (model prog w) A (compareOp .NotEq (.ref a) (.ref b)) Q E s := by
  have hb : s.heap.IsList b ([.int (65 + f0) c0, .int (65 + f1) c1, .int (65 + f2) c2, .int (65 + f3) c3] : List Value).toArray := list_at N mb
  refine ke_ne_ints (list_at N ma) hb hi (.cons _ _ (.cons _ _ (.cons _ _ (.cons _ _ .nil)))) hu ?_
  rw [decide_eq_true rfl]
  exact h
end
end
end
section
section
open PySem PySem.W PyProof.Rows PySem.Calls PyProof.V PySem.Spec
theorem in65 {x : Int} (h : 1 ≤ x ∧ x ≤ 15) : 66 ≤ 65 + x.toNat ∧ 65 + x.toNat ≤ 80 := by omega
theorem toNat65 {x : Int} (h : 1 ≤ x ∧ x ≤ 15) : (65 + x).toNat = 65 + x.toNat := by omega
theorem codeU {f0 f1 f2 f3 : Int} (h : Cods f0 f1 f2 f3) {i : Nat} (hi : i < 4) : 66 ≤ code f0 f1 f2 f3 i ∧ code f0 f1 f2 f3 i ≤ 80 :=
  match i, hi with
  | 0, _ => in65 h.a0
  | 1, _ => in65 h.a1
  | 2, _ => in65 h.a2
  | 3, _ => in65 h.a3
theorem same65 {x y : Int} (hx : 1 ≤ x ∧ x ≤ 15) (hy : 1 ≤ y ∧ y ≤ 15) : (65 + x.toNat = 65 + y.toNat) ↔ x = y := by omega
theorem code_0 (f0 f1 f2 f3 : Int) : code f0 f1 f2 f3 0 = 65 + f0.toNat := rfl
theorem code_1 (f0 f1 f2 f3 : Int) : code f0 f1 f2 f3 1 = 65 + f1.toNat := rfl
theorem code_2 (f0 f1 f2 f3 : Int) : code f0 f1 f2 f3 2 = 65 + f2.toNat := rfl
theorem code_3 (f0 f1 f2 f3 : Int) : code f0 f1 f2 f3 3 = 65 + f3.toNat := rfl
theorem codeI {f0 f1 f2 f3 : Int} (h : Cods f0 f1 f2 f3) {i j : Nat} (hi : i < 4) (hj : j < 4) : code f0 f1 f2 f3 i = code f0 f1 f2 f3 j ↔ i = j := by
  obtain ⟨h0, h1, h2, h3, u1, u2, u3, u4, u5, u6⟩ := h
  match i, j, hi, hj with
  | 0, 0, _, _ | 1, 1, _, _ | 2, 2, _, _ | 3, 3, _, _ => exact ⟨fun _ => rfl, fun _ => rfl⟩
  | 0, 1, _, _ => rw [code_0, code_1, same65 h0 h1]; exact ⟨fun e => absurd e u1, fun e => nomatch e⟩
  | 0, 2, _, _ => rw [code_0, code_2, same65 h0 h2]; exact ⟨fun e => absurd e u2, fun e => nomatch e⟩
  | 0, 3, _, _ => rw [code_0, code_3, same65 h0 h3]; exact ⟨fun e => absurd e u3, fun e => nomatch e⟩
  | 1, 2, _, _ => rw [code_1, code_2, same65 h1 h2]; exact ⟨fun e => absurd e u4, fun e => nomatch e⟩
  | 1, 3, _, _ => rw [code_1, code_3, same65 h1 h3]; exact ⟨fun e => absurd e u5, fun e => nomatch e⟩
  | 2, 3, _, _ => rw [code_2, code_3, same65 h2 h3]; exact ⟨fun e => absurd e u6, fun e => nomatch e⟩
  | 1, 0, _, _ => rw [code_1, code_0, same65 h1 h0]; exact ⟨fun e => absurd e.symm u1, fun e => nomatch e⟩
  | 2, 0, _, _ => rw [code_2, code_0, same65 h2 h0]; exact ⟨fun e => absurd e.symm u2, fun e => nomatch e⟩
  | 3, 0, _, _ => rw [code_3, code_0, same65 h3 h0]; exact ⟨fun e => absurd e.symm u3, fun e => nomatch e⟩
  | 2, 1, _, _ => rw [code_2, code_1, same65 h2 h1]; exact ⟨fun e => absurd e.symm u4, fun e => nomatch e⟩
  | 3, 1, _, _ => rw [code_3, code_1, same65 h3 h1]; exact ⟨fun e => absurd e.symm u5, fun e => nomatch e⟩
  | 3, 2, _, _ => rw [code_3, code_2, same65 h3 h2]; exact ⟨fun e => absurd e.symm u6, fun e => nomatch e⟩
theorem codeL {f0 f1 f2 f3 : Int} (h : Cods f0 f1 f2 f3) {a : Nat} (ha : a < 8) : low (code f0 f1 f2 f3 a) = code f0 f1 f2 f3 (a % 4) + 32 := by
  have hb := codeU h (Nat.mod_lt a (by decide : 0 < 4))
  have hc := code_fall f0 f1 f2 f3 ha
  by_cases h4 : a < 4
  · rw [low_up (by omega) (by omega)]; omega
  · rw [low_lo (by omega)]; omega
theorem codeR {f0 f1 f2 f3 : Int} (h : Cods f0 f1 f2 f3) : Ren (code f0 f1 f2 f3) cst pc := by
  have hm := fun a : Nat => Nat.mod_lt a (by decide : 0 < 4)
  have key : ∀ a b, a < 8 → b < 8 → (code f0 f1 f2 f3 a = code f0 f1 f2 f3 b ↔ a = b) := by
    intro a b ha hb
    have h1 := code_fall f0 f1 f2 f3 ha
    have h2 := code_fall f0 f1 f2 f3 hb
    have h3 := codeU h (hm a)
    have h4 := codeU h (hm b)
    have h5 := codeI h (hm a) (hm b)
    omega
  refine ⟨fun a b ha hb => ?_, fun a b ha hb => ?_⟩
  · have h := key a b ha hb
    by_cases e : a = b
    · subst e; simp
    · rw [beq_eq_false_iff_ne.mpr e, beq_eq_false_iff_ne.mpr fun e' => e (h.mp e')]
  · have h1 := code_fall f0 f1 f2 f3 ha
    have h2 := code_fall f0 f1 f2 f3 hb
    have h3 := codeU h (hm a)
    have h4 := codeU h (hm b)
    rw [cst_eq (by omega) (by omega), codeL h ha, codeL h hb]
    unfold pc
    have h5 := codeI h (hm a) (hm b)
    simp only [key a b ha hb, Nat.add_right_cancel_iff, h5]
/-- the letter of an edge's end -/
noncomputable abbrev chP (f0 f1 f2 f3 : Int) (p : Nat) : Nat := (65 + fAt f0 f1 f2 f3 (p : Int)).toNat
theorem chP_code {f0 f1 f2 f3 : Int} (h : Cods f0 f1 f2 f3) {p : Nat} (hp : p < 4) : chP f0 f1 f2 f3 p = code f0 f1 f2 f3 p ∧ 65 + (fAt f0 f1 f2 f3 (p : Int)).toNat = code f0 f1 f2 f3 p :=
  match p, hp with
  | 0, _ => ⟨toNat65 h.a0, rfl⟩
  | 1, _ => ⟨toNat65 h.a1, rfl⟩
  | 2, _ => ⟨toNat65 h.a2, rfl⟩
  | 3, _ => ⟨toNat65 h.a3, rfl⟩
theorem wordP_code {f0 f1 f2 f3 : Int} (h : Cods f0 f1 f2 f3) {i : Nat} (hi : i < 24) : wordP f0 f1 f2 f3 i = (permN i).map (code f0 f1 f2 f3) := by
  unfold wordP digP
  rw [List.map_map]
  refine List.map_congr_left fun k hk => ?_
  exact (chP_code h ((perm_lt i hi).2 k hk)).2
theorem told_tab : ∀ i < 24, ∀ e < 6, isSub [(edgeAt e).1, (edgeAt e).2] (permN i) = aheadN i e := by decide +kernel
theorem edge_lt : ∀ e < 6, (edgeAt e).1 < 4 ∧ (edgeAt e).2 < 4 := by decide +kernel
theorem told_ahead {f0 f1 f2 f3 : Int} (h : Cods f0 f1 f2 f3) {i e : Nat} (hi : i < 24) (he : e < 6) : isSub [chP f0 f1 f2 f3 (edgeAt e).1, chP f0 f1 f2 f3 (edgeAt e).2] (wordP f0 f1 f2 f3 i) = aheadN i e := by
  obtain ⟨h1, h2⟩ := edge_lt e he
  rw [(chP_code h h1).1, (chP_code h h2).1, wordP_code h hi]
  have hl : Low (permN i) := fun x hx => by have := (perm_lt i hi).2 x hx; omega
  have := isSub_map (codeR h) (cs := [(edgeAt e).1, (edgeAt e).2]) (ts := permN i) (fun x hx => by
    rcases List.mem_cons.mp hx with rfl | hx
    · omega
    · rw [List.mem_singleton.mp hx]; omega) hl
  rw [List.map_cons, List.map_cons, List.map_nil] at this
  rw [this, told_tab i hi e he]
theorem ahead_eq {i : Nat} (hi : i < 24) {e : Nat} (he : e < 6) : decide (((plN i).map fun n : Nat => (n : Int)).getD ((edgeAt e).1 : Int).toNat 0 < ((plN i).map fun n : Nat => (n : Int)).getD ((edgeAt e).2 : Int).toNat 0) = aheadN i e := by
  obtain ⟨h1, h2⟩ := edge_lt e he
  have hl := (pl_bound i hi).1
  rw [Int.toNat_natCast, Int.toNat_natCast, List.getD_eq_getElem?_getD, List.getD_eq_getElem?_getD, List.getElem?_map, List.getElem?_map, List.getElem?_eq_getElem (by omega), List.getElem?_eq_getElem (by omega)]
  unfold aheadN
  rw [List.getD_eq_getElem?_getD, List.getD_eq_getElem?_getD, List.getElem?_eq_getElem (by omega), List.getElem?_eq_getElem (by omega)]
  simp only [Option.map_some, Option.getD_some]
  rw [Bool.eq_iff_iff, decide_eq_true_iff, Nat.blt_eq]
  omega
/-! the held ones: prices -/
theorem mask_lt : ∀ e < 6, maskE e < 16 ∧ maskE e ≠ 0 ∧ sel4 (maskE e) 0 1 2 3 = [(edgeAt e).1, (edgeAt e).2] := by decide +kernel
theorem held_tab : ∀ k < 16, ∀ e < 6, k = 0 ∨ priceOk (2 * ((sel4 k 0 1 2 3).length : Int) - 4) (lev pc (sel4 k 0 1 2 3) (sel4 (maskE e) 0 1 2 3) (2 * ((sel4 k 0 1 2 3).length : Int) - 4)) (incl (maskE e) k) := by decide +kernel
theorem held_ok {f0 f1 f2 f3 : Int} (h : Cods f0 f1 f2 f3) {k e : Nat} (hk : k < 16) (k0 : k ≠ 0) (he : e < 6) {due : Int} (hd : due = 2 * ((wordL f0 f1 f2 f3 k).length : Int) - 4) :
    due ≤ lev cst (wordL f0 f1 f2 f3 k) (wordL f0 f1 f2 f3 (maskE e)) due ∧ (lev cst (wordL f0 f1 f2 f3 k) (wordL f0 f1 f2 f3 (maskE e)) due == due) = incl (maskE e) k := by
  subst hd
  have key := (held_tab k hk e he).resolve_left k0
  have e1 : lev cst (wordL f0 f1 f2 f3 k) (wordL f0 f1 f2 f3 (maskE e)) (2 * ((wordL f0 f1 f2 f3 k).length : Int) - 4) = lev pc (sel4 k 0 1 2 3) (sel4 (maskE e) 0 1 2 3) (2 * ((sel4 k 0 1 2 3).length : Int) - 4) := by
    rw [wordL_len, wordL_code, wordL_code, lev_map (codeR h) (sel4_low _ (by decide) (by decide) (by decide) (by decide)) (sel4_low _ (by decide) (by decide) (by decide) (by decide))]
  rw [e1, wordL_len]
  generalize lev pc (sel4 k 0 1 2 3) (sel4 (maskE e) 0 1 2 3) (2 * ((sel4 k 0 1 2 3).length : Int) - 4) = p at key
  refine ⟨key.1, ?_⟩
  by_cases e : p = 2 * ((sel4 k 0 1 2 3).length : Int) - 4
  · rw [key.2.mp e, e, beq_self_eq_true]
  · rw [beq_eq_false_iff_ne.mpr e]
    cases hi : incl (maskE _) k
    · rfl
    · exact absurd (key.2.mpr hi) e
end
end
section
section
open PySem PySem.W PyProof.Rows PySem.Calls PyProof.V PySem.Spec
theorem tup_at {T : List Tup} {es : List Nat} {j : Nat} {v : Value} (hE : (T.map fun t => (t.p, t.q)) = es.map edgeAt) (h : (tupRefs T)[j]? = some v) :
    ∃ (t : Tup) (e : Nat), v = .ref t.a ∧ es[j]? = some e ∧ t.p = (edgeAt e).1 ∧ t.q = (edgeAt e).2 ∧ (t.a, tupO t.p t.q t.tp t.tq t.n) ∈ tupsLed T := by
  unfold tupRefs at h
  rw [List.getElem?_map] at h
  cases e : T[j]? with
  | none => rw [e] at h; cases h
  | some t =>
    rw [e] at h
    have h2 : (es.map edgeAt)[j]? = some (t.p, t.q) := by rw [← hE, List.getElem?_map, e]; rfl
    rw [List.getElem?_map] at h2
    cases e2 : es[j]? with
    | none => rw [e2] at h2; cases h2
    | some x =>
      rw [e2] at h2
      have h3 := Option.some.inj h2
      exact ⟨t, x, (Option.some.inj h).symm, rfl, by rw [h3], by rw [h3], List.mem_map.mpr ⟨t, List.mem_of_getElem? e, rfl⟩⟩
section
variable {prog : Program} {w : World} {A : Around} {E : Value → Shared → Prop} {s : Shared} {t u : Tok} {Q : Value → Shared → Prop}
theorem add_SS {xs ys : List Nat} {x y : Str} (hx : x = S xs) (hy : y = S ys) (hn : xs.length + ys.length ≤ 500) (h : ∀ t' k, Q (.str (S (xs ++ ys)) t') { s with toks := k }) : wpAny (model prog w) A (binaryOp .Add (.str x t) (.str y u)) Q E s := by
  subst hx hy
  refine PyProof.Rows.add_str (fun t' k => ?_) ?_
  · rw [S_app]; exact h t' k
  · rw [S_len, S_len, sizeLine_eq]; omega
end
theorem ell_claim2 (w : World) (mean) (mg mb) (c d : Nat) (ts : List Nat) (ta tb : Tok) (hc : c ≠ 46) (hd : d ≠ 46) : Claim 1 w mean mg mb 35 ((S ts).length ≤ 40) [.str (S [46, 46, 46, c, 46, 46, 46, d, 46, 46, 46]) ta, .str (S ts) tb] (fun _ => .bool (isSub [c, d] ts)) :=
  ell_claim w mean mg mb [c, d] ts ta tb (by simp) (fun x hx => by
    rcases List.mem_cons.mp hx with rfl | hx
    · exact hc
    · rw [List.mem_singleton.mp hx]; exact hd)
theorem mark_take {es : List Nat} {j e i : Nat} (h : es[j]? = some e) : markN (es.take (j + 1)) i = 2 * markN (es.take j) i + (if aheadN i e then 1 else 0) := by
  rw [List.take_add_one, h]
  exact mark_snoc _ _ _
/-- the letters of the loop over the edges -/
structure ME where
  ma : Nat
  tm : Tok
theorem news_pick5 {h₀ h : Heap} {L : Addr} {own : List (Addr × Obj)} {a b c d e : Addr × Obj} (N : News h₀ L h own) (ha : a ∈ own) (hb : b ∈ own) (hc : c ∈ own) (hd : d ∈ own) (he : e ∈ own) : News h₀ L h (a :: b :: c :: d :: e :: own) := fun p hp => N p (by
  rcases List.mem_cons.mp hp with rfl | hp
  · exact ha
  · rcases List.mem_cons.mp hp with rfl | hp
    · exact hb
    · rcases List.mem_cons.mp hp with rfl | hp
      · exact hc
      · rcases List.mem_cons.mp hp with rfl | hp
        · exact hd
        · rcases List.mem_cons.mp hp with rfl | hp
          · exact he
          · exact hp)
theorem edge_ends {es : List Nat} (hes : ∀ e ∈ es, e < 6) {j e : Nat} (h : es[j]? = some e) : e < 6 ∧ 0 ≤ ((edgeAt e).1 : Int) ∧ ((edgeAt e).1 : Int) < 4 ∧ 0 ≤ ((edgeAt e).2 : Int) ∧ ((edgeAt e).2 : Int) < 4 := by
  have h6 := hes e (List.mem_of_getElem? h)
  have := edge_lt e h6
  omega
theorem chP_in {f0 f1 f2 f3 : Int} (h : Cods f0 f1 f2 f3) {p : Int} (h0 : 0 ≤ p) (h1 : p < 4) : 0 ≤ 65 + fAt f0 f1 f2 f3 p ∧ 65 + fAt f0 f1 f2 f3 p < 256 ∧ (65 + fAt f0 f1 f2 f3 p).toNat ≠ 46 := by
  have := fAt_in h h0 h1
  omega
section
variable {prog : Program} {w : World} {A : Around} {E : Value → Shared → Prop} {s : Shared} {h₀ : Heap} {L a : Addr} {news : List (Addr × Obj)} {Q : Value → Shared → Prop} {vs : List Value} {na : Nat} {t : Tok}
theorem notin_nat {l : List Nat} {m : Nat} (N : News h₀ L s.heap news) (hm : (a, listOf vs.toArray na) ∈ news) (hi : IntsAre vs (l.map fun n : Nat => (n : Int))) (h : Q (.bool (!(l.contains m))) s) : wpAny (model prog w) A (compareOp .NotIn (.int (m : Int) t) (.ref a)) Q E s := by
  refine notin_list_ints (list_at N hm) hi ?_
  have e : ((l.map fun n : Nat => (n : Int)).any (· == (m : Int))) = l.contains m := by
    rw [List.any_map, Bool.eq_iff_iff, List.any_eq_true, List.contains_iff_mem]
    constructor
    · rintro ⟨x, hx, e⟩
      have e2 : (x : Int) = (m : Int) := by simpa using e
      rwa [Int.ofNat.inj e2] at hx
    · intro hx
      exact ⟨m, hx, by simp⟩
  rw [e]; exact h
end
theorem mark_all {T : List Tup} {es : List Nat} (hE : (T.map fun t => (t.p, t.q)) = es.map edgeAt) : es.take (tupRefs T).length = es := by
  have h := congrArg List.length hE
  rw [List.length_map, List.length_map] at h
  rw [tupRefs, List.length_map, h, List.take_length]
theorem ans_len (es : List Nat) : ∀ i, (ansN es i).length ≤ i
  | 0 => Nat.le_refl _
  | i + 1 => by
    have := ans_len es i
    simp only [ansN, addN]
    split
    · omega
    · rw [List.length_append, List.length_singleton]; omega
theorem ints_snoc {vs : List Value} {l : List Int} {k : Int} {t : Tok} (h : IntsAre vs l) : IntsAre (vs ++ [.int k t]) (l ++ [k]) := by
  induction h with
  | nil => exact .cons _ _ .nil
  | cons a t _ ih => exact .cons _ _ ih
theorem ans_yes {es : List Nat} {i m : Nat} {as : List Value} {t : Tok} (hA : IntsAre as ((ansN es i).map fun n : Nat => (n : Int))) (hm : m = markN es i) (h : (ansN es i).contains m = false) : IntsAre (as ++ [.int (m : Int) t]) ((ansN es (i + 1)).map fun n : Nat => (n : Int)) := by
  subst hm
  simp only [ansN, addN]
  rw [h, if_neg (by decide), List.map_append]
  exact ints_snoc hA
theorem ans_no {es : List Nat} {i m : Nat} {as : List Value} (hA : IntsAre as ((ansN es i).map fun n : Nat => (n : Int))) (hm : m = markN es i) (h : (ansN es i).contains m = true) : IntsAre as ((ansN es (i + 1)).map fun n : Nat => (n : Int)) := by
  subst hm
  simp only [ansN, addN]
  rw [h, if_pos rfl]
  exact hA
theorem news_drop4 {h₀ h : Heap} {L : Addr} {a b c d : Addr × Obj} {l own : List (Addr × Obj)} (N : News h₀ L h (a :: b :: c :: d :: (l ++ own))) : News h₀ L h (l ++ own) := fun p hp => N p (.tail _ (.tail _ (.tail _ (.tail _ hp))))
end
end
section
section
open PySem PySem.W PyProof.Rows PySem.Calls PyProof.V PySem.Spec
section
variable {prog : Program} {w : World} {A : Around} {E : Value → Shared → Prop} {s : Shared} {env : Env} {h₀ : Heap} {Q : Flow → Shared → Prop} {body : List Stmt}
theorem my_rangeB {σ : Type} {x : Str} {px : Pos} {r : Addr} {a₀ b₀ : Int} {t₀ u₀ v₀ : Tok} {m₀ : Str → Option Value}
    (front : σ → List (Addr × Obj)) (back : List (Addr × Obj)) (ps : σ → List (Str × Value)) (n : Nat) (P : Nat → σ → Prop) (c₀ : σ) (hadr : ∀ c, (front c).map (·.1) = (front c₀).map (·.1))
    (hh : A.handled = none) (hr : IsRange s.heap r a₀ b₀ 1 t₀ u₀ v₀) (hsmall : Builtin.Range.small a₀ b₀ 1 = true) (hn : Builtin.Range.rangeSize a₀ b₀ 1 = (n : Int)) (hoff : OwnOff back ((front c₀).map (·.1)))
    (F : Fr h₀ env.locals s.heap m₀) (N : News h₀ env.locals s.heap (front c₀ ++ back)) (hk : ∀ p ∈ ps c₀, m₀ p.1 = some p.2) (hp : P 0 c₀)
    (turn : ∀ i t (c : σ) (u : Str → Option Value) s₁ own, i < n → (∀ p ∈ back, p ∈ own) → OwnOff own ((front c).map (·.1)) → P i c →
      Fr h₀ env.locals s₁.heap (kstB u (ps c)) → News h₀ env.locals s₁.heap (front c ++ own) →
      wpAny (model prog w) A (assign (.Name x px) env (.int (a₀ + (i : Int)) t)) (fun _ s₃ => wpAny (model prog w) A (execs body env) (MyPostT h₀ env.locals s₁ own front ps (P (i + 1))) E s₃) E s₁)
    (done : ∀ (c : σ) (u : Str → Option Value) h tk, P n c → Fr h₀ env.locals h (kstB u (ps c)) → News h₀ env.locals h (front c ++ back) → Q .next { s with heap := h, toks := tk }) :
    wpAny (model prog w) A (pyIter (.ref r)) (fun it s₂ => LoopAtT prog w A h₀ env (.Name x px) body Q E it s₂) E s := by
  refine my_rangeG (fun i m nx => ∃ c : σ, nx = front c ++ back ∧ (∀ p ∈ ps c, m p.1 = some p.2) ∧ P i c) n hh hr hsmall hn F N ⟨c₀, rfl, hk, hp⟩ ?_ ?_
  · rintro i t m₁ nx s₁ I oI hi ⟨c, rfl, h1, hp'⟩ hne F₁ N₁
    have em : kstB m₁ (ps c) = m₁ := by
      funext y
      exact kstB_eq h1 fun _ => rfl
    have hsep : OwnOff (back ++ [(I, oI)]) ((front c).map (·.1)) := by
      intro p hp b hb
      rcases List.mem_append.mp hp with hp | hp
      · rw [hadr c] at hb
        exact hoff p hp b hb
      · obtain ⟨q, hq, rfl⟩ := List.mem_map.mp hb
        rw [List.mem_singleton.mp hp]
        exact Ne.symm (hne q (List.mem_append_left _ hq))
    have N₂ : News h₀ env.locals s₁.heap (front c ++ (back ++ [(I, oI)])) := fun p hp => N₁ p (by
      rcases List.mem_append.mp hp with hp | hp
      · exact .tail _ (List.mem_append_left _ hp)
      · rcases List.mem_append.mp hp with hp | hp
        · exact .tail _ (List.mem_append_right _ hp)
        · rw [List.mem_singleton.mp hp]; exact .head _)
    refine wpAny_mono (turn i t c m₁ s₁ _ hi (fun p hp => List.mem_append_left _ hp) hsep hp' (by rw [em]; exact F₁) N₂) (fun _ s₃ h₃ => wpAny_mono h₃ (fun f s₂ q => ?_) fun _ _ x => x) fun _ _ x => x
    cases f with
    | ret v => exact q.elim
    | brk => exact q.elim
    | cont => exact q.elim
    | next =>
      obtain ⟨c', h', tk', m', news', e, F', N', hn, ho, hk9, hp9⟩ := q
      refine ⟨h', tk', m', front c' ++ back, e, F', fun p hp => ?_, fun p hp => ?_, c', rfl, hk9, hp9⟩
      · rcases List.mem_cons.mp hp with rfl | hp
        · exact N' _ (ho _ (List.mem_append_right _ (List.mem_singleton.mpr rfl)))
        · rcases List.mem_append.mp hp with hp | hp
          · exact N' p (hn p hp)
          · exact N' p (ho p (List.mem_append_left _ hp))
      · rcases List.mem_append.mp hp with hp | hp
        · have h1 : p.1 ∈ (front c').map (·.1) := List.mem_map.mpr ⟨p, hp, rfl⟩
          rw [hadr c', ← hadr c] at h1
          obtain ⟨q, hq1, hq2⟩ := List.mem_map.mp h1
          rw [← hq2]
          exact hne q (List.mem_append_left _ hq1)
        · exact hne p (List.mem_append_right _ hp)
  · rintro m₁ nx h tk ⟨c, rfl, h1, hp'⟩ F₁ N₁
    exact done c m₁ h tk hp' (kst_fr h1 F₁) N₁
end
theorem own_rows {h₀ h : Heap} {L : Addr} {l own : List (Addr × Obj)} {a : Addr × Obj} {R : List (Addr × Obj)} (N : News h₀ L h (l ++ (a :: (R ++ own)))) : News h₀ L h (l ++ own) := fun p hp => N p (by
  rcases List.mem_append.mp hp with hp | hp
  · exact List.mem_append_left _ hp
  · exact List.mem_append_right _ (.tail _ (List.mem_append_right _ hp)))
theorem rows24 {R : List Row} (h : RowsAre R (placesUp 4)) : (refs R).length = 24 := by
  rw [refs_len h]; decide +kernel
theorem own_one {own : List (Addr × Obj)} {a : Addr} {as : List Addr} (h1 : AllLt a own) (h : OwnOff own as) : OwnOff own (a :: as) := by
  intro p hp c hc
  rcases List.mem_cons.mp hc with rfl | hc
  · exact Nat.ne_of_lt (allLt_mem h1 p hp)
  · exact h p hp c hc
theorem small016 : Builtin.Range.small 0 16 1 = true := by decide +kernel
theorem size016 : Builtin.Range.rangeSize 0 16 1 = ((16 : Nat) : Int) := by decide +kernel
end
end
section
section
open PySem PySem.W PyProof.Rows PySem.Calls PyProof.V PySem.Spec
theorem bits_eq0 : ∀ i : Nat, i < 16 → List.filter (fun a : Int => Builtin.bitAnd ((i : Int).fdiv (2 ^ a.toNat)) 1 != 0) (rangeInts 0 1 ((4 : Int) - 0).toNat) = sel4 i 0 1 2 3 := by decide +kernel
noncomputable def octs (f0 f1 f2 f3 : Int) (i : Nat) : List Int := (sel4 i f0 f1 f2 f3).map fun f => 65 + f
theorem chosen0 {i : Nat} (hi : i < 16) (f0 f1 f2 f3 : Int) :
    List.map (fun a : Int => [65 + f0, 65 + f1, 65 + f2, 65 + f3].getD a.toNat 0) (List.filter (fun a : Int => Builtin.bitAnd ((i : Int).fdiv (2 ^ a.toNat)) 1 != 0) (rangeInts 0 1 ((4 : Int) - 0).toNat)) = octs f0 f1 f2 f3 i := by
  rw [bits_eq0 i hi, map_sel4, octs, map_sel4]; rfl
theorem sel_in {f0 f1 f2 f3 : Int} (hF : Cods f0 f1 f2 f3) (i : Nat) : ∀ x ∈ sel4 i f0 f1 f2 f3, 1 ≤ x ∧ x ≤ 15 := by
  intro x hx
  obtain ⟨q0, q1, q2, q3, q4⟩ := hF
  rcases sel4_mem hx with rfl | rfl | rfl | rfl <;> assumption
theorem octs_at {f0 f1 f2 f3 : Int} {i j : Nat} {k : Int} (h : (octs f0 f1 f2 f3 i)[j]? = some k) : ∃ f, (sel4 i f0 f1 f2 f3)[j]? = some f ∧ k = 65 + f := by
  unfold octs at h
  rw [List.getElem?_map] at h
  cases e : (sel4 i f0 f1 f2 f3)[j]? with
  | none => rw [e] at h; cases h
  | some f => rw [e] at h; exact ⟨f, rfl, (Option.some.inj h).symm⟩
theorem octs_len (f0 f1 f2 f3 : Int) (i : Nat) : (octs f0 f1 f2 f3 i).length = (sel4 i f0 f1 f2 f3).length := by unfold octs; rw [List.length_map]
theorem ap_word (w : World) (mean) (mg mb) (f0 f1 f2 f3 : Int) (i : Nat) (ti : Tok) (hF : Cods f0 f1 f2 f3) : Claim 1 w mean mg mb 42 True [.int (numI (sel4 i f0 f1 f2 f3)) ti] (fun t => .bytes (Bt (wordL f0 f1 f2 f3 i)) t) := by
  have h := ap_claim w mean mg mb (numI (sel4 i f0 f1 f2 f3)) ti
  have e := apL_num _ [] (sel_in hF i)
  rw [List.append_nil] at e
  rw [e] at h
  have hb := numI_small _ (sel_in hF i) (sel4_len i f0 f1 f2 f3)
  intro news dp un gd cn cs a ccd cl outer A₀ base h₀ L m s Q E B F X N T hk _ hd hu ret
  exact h news dp un gd cn cs a ccd cl outer A₀ base h₀ L m s Q E B F X N T hk (by omega) hd hu ret
section
variable {prog : Program} {w : World} {A : Around} {E : Value → Shared → Prop} {s : Shared} {h₀ : Heap} {L D : Addr} {m : Str → Option Value} {news : List (Addr × Obj)} {Q : Value → Shared → Prop} {ys : List Value} {n : Nat} {f0 f1 f2 f3 : Int} {i : Nat}
theorem bytes_octs (hF : Cods f0 f1 f2 f3) (F : Fr h₀ L s.heap m) (N : News h₀ L s.heap news) (hh : A.handled = none) (hm : (D, ({ cls := .type "list", data := .seq ys.toArray n } : Obj)) ∈ news) (hi : IntsAre ys (octs f0 f1 f2 f3 i))
    (h : ∀ h' t' k, Fr h₀ L h' m → News h₀ L h' news → Q (.bytes (Bt (wordL f0 f1 f2 f3 i)) t') { s with heap := h', toks := k }) : wpAny (model prog w) A (call (.type "bytes") [.ref D]) Q E s := by
  have hin := sel_in hF i
  have hl := sel4_len i f0 f1 f2 f3
  refine KBa.make_K F N hh (list_at N hm) hi ?_ (by rw [octs_len]; omega) fun h' t' k F' N' _ => ?_
  · intro x hx
    obtain ⟨y, hy, rfl⟩ := List.mem_map.mp hx
    have := hin y hy
    omega
  · have e : byteArr (octs f0 f1 f2 f3 i) = Bt (wordL f0 f1 f2 f3 i) := by
      unfold byteArr Bt octs wordL
      rw [List.map_map, List.map_map]
      congr 1
      refine List.map_congr_left fun y hy => ?_
      have := hin y hy
      show ((65 + y).toNat.toUInt8) = UInt8.ofNat (65 + y.toNat)
      rw [show (65 + y).toNat = 65 + y.toNat by omega]
    rw [e]
    exact h h' t' k F' N'
end
section
variable {prog : Program} {w : World} {A : Around} {h₀ : Heap} {L ax : Addr} {m : Str → Option Value} {env : Env} {elt : PySem.Expr} {x : Str} {scope : Scope} {cl : List (Str × Addr)} {Fin : Shared → List Value → List (Addr × Obj) → Prop} {vs : List Value} {k : Nat} {news : List (Addr × Obj)} {s₁ : Shared} {f0 f1 f2 f3 : Int} {i : Nat}
theorem chr_src (hF : Cods f0 f1 f2 f3) (hh : A.handled = none) (F : Fr h₀ L s₁.heap m) (N : News h₀ L s₁.heap news) (hm : (ax, ({ cls := .type "list", data := .seq vs.toArray k } : Obj)) ∈ news) (hi : IntsAre vs (octs f0 f1 f2 f3 i))
    (turn : ∀ k t I oI C oC D m₂ ys h tk (E' : Value → Shared → Prop), 0 ≤ k → k < 256 → LCg.NsObj oC m₂ → m₂ x = some (.int k t) → Fr h₀ L h m → News h₀ L h ((I, oI) :: (C, oC) :: (D, LCg.lst ys) :: news) → LCg.Off3 I C D news → ((@Ne Nat I C) ∧ (@Ne Nat I D) ∧ (@Ne Nat C D)) →
      wpAny (model prog w) A (eval elt (compEnvC scope cl C env)) (LCg.CompEnd h₀ L m { s₁ with heap := h, toks := tk } I oI C oC D (LCg.lst ys) (LCg.SrcAt h₀ ax vs.toArray) (fun y news' => KCtEl news (S [k.toNat]) y news')) E' { s₁ with heap := h, toks := tk })
    (fin : ∀ g ys, CarriedAll ys ((wordL f0 f1 f2 f3 i).map fun k => PyData.str (S [k])) → Fin { s₁ with heap := g } ys news) : LCg.CompSrc prog w A h₀ L m env elt x scope cl Fin (.ref ax) s₁ := by
  have hin := sel_in hF i
  have hl := sel4_len i f0 f1 f2 f3
  refine LCg.CompSrc.ledger hh F N hm (by rw [List.size_toArray, hi.length, sizeLine_eq, octs_len]; omega) fun g => ?_
  refine kct_list (fun k => S [k.toNat]) hi (fun k t I oI C oC D m₂ ys h tk E' hk hC hx' F' N' off ne _ => ?_) ?_
  · obtain ⟨y, hy, rfl⟩ := List.mem_map.mp hk
    have := hin y hy
    exact turn _ t I oI C oC D m₂ ys h tk E' (by omega) (by omega) hC hx' F' N' off ne
  · intro ys hc _
    refine fin g ys ?_
    have e : (octs f0 f1 f2 f3 i).map (fun k : Int => PyData.str (S [k.toNat])) = (wordL f0 f1 f2 f3 i).map fun k => PyData.str (S [k]) := by
      unfold octs wordL
      rw [List.map_map, List.map_map]
      refine List.map_congr_left fun y hy => ?_
      have := hin y hy
      show PyData.str (S [(65 + y).toNat]) = PyData.str (S [65 + y.toNat])
      rw [show (65 + y).toNat = 65 + y.toNat by omega]
    rw [← e]
    exact hc
end
theorem num_step {f0 f1 f2 f3 : Int} {i j : Nat} {f : Int} (h : (sel4 i f0 f1 f2 f3)[j]? = some f) : numI ((sel4 i f0 f1 f2 f3).take j) * 16 + (65 + f) - 65 = numI ((sel4 i f0 f1 f2 f3).take (j + 1)) := by
  rw [List.take_add_one, h, Option.toList_some, numI_snoc]
  omega
theorem strs_short0 {us : List Value} {i : Nat} {g : Nat → Str} (h : StrsAre us ((List.range i).map g)) (hi : i ≤ 24) : us.length ≤ 24 := by
  rw [strs_len h, List.length_map, List.length_range]; exact hi
theorem append_top9 {prog : Program} {w : World} {A : Around} {E : Value → Shared → Prop} {s : Shared} {h₀ : Heap} {L l a1 a2 a3 a4 a5 a6 a7 a8 : Addr} {o1 o2 o3 o4 o5 o6 o7 o8 : Obj} {m : Str → Option Value} {all own : List (Addr × Obj)} {Q : Value → Shared → Prop} {us : List Value} {n : Nat} {x : Value} (ho : OwnOff own [l, a1, a2, a3, a4, a5, a6, a7, a8]) (F : Fr h₀ L s.heap m) (N : News h₀ L s.heap all)
    (hs : ∀ p ∈ [(l, listOf us.toArray n), (a1, o1), (a2, o2), (a3, o3), (a4, o4), (a5, o5), (a6, o6), (a7, o7), (a8, o8)] ++ own, p ∈ all) (hr : ∀ p ∈ [(a1, o1), (a2, o2), (a3, o3), (a4, o4), (a5, o5), (a6, o6), (a7, o7), (a8, o8)], p.1 ≠ l) (hn : us.length ≤ 10000)
    (h : ∀ h', Fr h₀ L h' m → News h₀ L h' ([(l, listOf (us ++ [x]).toArray (n + 1)), (a1, o1), (a2, o2), (a3, o3), (a4, o4), (a5, o5), (a6, o6), (a7, o7), (a8, o8)] ++ own) → Q .none { s with heap := h' }) : wpAny (model prog w) A (call (.builtin "list.append") [.ref l, x]) Q E s :=
  append_top (rest := [(a1, o1), (a2, o2), (a3, o3), (a4, o4), (a5, o5), (a6, o6), (a7, o7), (a8, o8)]) ho F N hs hr hn h
theorem append_top10 {prog : Program} {w : World} {A : Around} {E : Value → Shared → Prop} {s : Shared} {h₀ : Heap} {L l a1 a2 a3 a4 a5 a6 a7 a8 a9 : Addr} {o1 o2 o3 o4 o5 o6 o7 o8 o9 : Obj} {m : Str → Option Value} {all own : List (Addr × Obj)} {Q : Value → Shared → Prop} {us : List Value} {n : Nat} {x : Value} (ho : OwnOff own [l, a1, a2, a3, a4, a5, a6, a7, a8, a9]) (F : Fr h₀ L s.heap m) (N : News h₀ L s.heap all)
    (hs : ∀ p ∈ [(l, listOf us.toArray n), (a1, o1), (a2, o2), (a3, o3), (a4, o4), (a5, o5), (a6, o6), (a7, o7), (a8, o8), (a9, o9)] ++ own, p ∈ all) (hr : ∀ p ∈ [(a1, o1), (a2, o2), (a3, o3), (a4, o4), (a5, o5), (a6, o6), (a7, o7), (a8, o8), (a9, o9)], p.1 ≠ l) (hn : us.length ≤ 10000)
    (h : ∀ h', Fr h₀ L h' m → News h₀ L h' ([(l, listOf (us ++ [x]).toArray (n + 1)), (a1, o1), (a2, o2), (a3, o3), (a4, o4), (a5, o5), (a6, o6), (a7, o7), (a8, o8), (a9, o9)] ++ own) → Q .none { s with heap := h' }) : wpAny (model prog w) A (call (.builtin "list.append") [.ref l, x]) Q E s :=
  append_top (rest := [(a1, o1), (a2, o2), (a3, o3), (a4, o4), (a5, o5), (a6, o6), (a7, o7), (a8, o8), (a9, o9)]) ho F N hs hr hn h
end
end
section
section
open PySem PySem.W PyProof.Rows PySem.Calls PyProof.V PySem.Spec
/-! the held ones -/
noncomputable def hjN (es : List Nat) (k j : Nat) : List Nat := ((es.take j).filter fun e => incl (maskE e) k).map fun _ => k
noncomputable def hlN (es : List Nat) : Nat → List Nat
  | 0 => []
  | i + 1 => hlN es i ++ hjN es (i + 1) es.length
theorem hj_zero (es : List Nat) (k : Nat) : hjN es k 0 = [] := by simp [hjN]
theorem hj_yes {es : List Nat} {k j e : Nat} (h : es[j]? = some e) (hi : incl (maskE e) k = true) : hjN es k (j + 1) = hjN es k j ++ [k] := by
  unfold hjN
  rw [List.take_add_one, h, List.filter_append, List.map_append]
  simp [hi]
theorem hj_no {es : List Nat} {k j e : Nat} (h : es[j]? = some e) (hi : incl (maskE e) k = false) : hjN es k (j + 1) = hjN es k j := by
  unfold hjN
  rw [List.take_add_one, h, List.filter_append, List.map_append]
  simp [hi]
theorem hj_len (es : List Nat) (k j : Nat) : (hjN es k j).length ≤ es.length := by
  unfold hjN
  rw [List.length_map]
  refine Nat.le_trans (List.length_filter_le _ _) ?_
  rw [List.length_take]; omega
theorem hl_len {es : List Nat} (h : es.length ≤ 4) : ∀ i, (hlN es i).length ≤ 4 * i
  | 0 => Nat.le_refl _
  | i + 1 => by
    have h1 := hl_len h i
    have h2 := hj_len es (i + 1) es.length
    rw [hlN, List.length_append]; omega
theorem hl_mem {es : List Nat} {k : Nat} : ∀ i, k ∈ hlN es i ↔ (1 ≤ k ∧ k ≤ i ∧ heldN es k = true)
  | 0 => by
    constructor
    · intro h; cases h
    · rintro ⟨a, b, -⟩; omega
  | i + 1 => by
    rw [hlN, List.mem_append, hl_mem i]
    have hj : k ∈ hjN es (i + 1) es.length ↔ k = i + 1 ∧ heldN es k = true := by
      unfold hjN heldN
      rw [List.take_length, List.mem_map]
      constructor
      · rintro ⟨e, he, rfl⟩
        have := List.mem_filter.mp he
        exact ⟨rfl, List.any_eq_true.mpr ⟨e, this.1, this.2⟩⟩
      · rintro ⟨rfl, h⟩
        obtain ⟨e, he, h2⟩ := List.any_eq_true.mp h
        exact ⟨e, List.mem_filter.mpr ⟨he, h2⟩, rfl⟩
    rw [hj]
    constructor
    · rintro (⟨a, b, c⟩ | ⟨a, b⟩)
      · exact ⟨a, by omega, c⟩
      · exact ⟨by omega, by omega, b⟩
    · rintro ⟨a, b, c⟩
      by_cases e : k = i + 1
      · exact .inr ⟨e, c⟩
      · exact .inl ⟨a, by omega, c⟩
theorem hl_has {es : List Nat} {k : Nat} (h0 : 1 ≤ k) (h1 : k ≤ 15) : (hlN es 15).contains k = heldN es k := by
  rw [Bool.eq_iff_iff, List.contains_iff_mem, hl_mem]
  constructor
  · rintro ⟨-, -, h⟩; exact h
  · intro h; exact ⟨h0, h1, h⟩
structure HC where
  hs : List Value
  nH : Nat
  oK : Obj
structure HE where
  hs : List Value
  nH : Nat
section
variable {prog : Program} {w : World} {A : Around} {E : Value → Shared → Prop} {s : Shared} {u : Tok} {Q : Value → Shared → Prop} {h₀ : Heap} {L D : Addr} {news : List (Addr × Obj)} {value slice : PySem.Expr}
theorem item_mask {us : List Value} {n e : Nat} {g : Nat → Str} {k : Int} (he : e < 6) (hk : k = (maskE e : Int)) (N : News h₀ L s.heap news) (hm : (D, listOf us.toArray n) ∈ news) (hus : StrsAre us ((List.range 16).map g))
    (h : ∀ t, Q (.str (g (maskE e)) t) s)
    (hs : subscripted slice false (.ref D) (.int k u) = operate [.ref D, .int k u] (getItem (.ref D) (.int k u))) :
    wpAny (model prog w) A (subscriptTail value slice (.ref D) (.int k u)) Q E s := by
  subst hk
  exact item_wordN N hm hus (mask_lt e he).1 (by decide) h hs
end
theorem mask_eq {e : Nat} : (1 : Int) * 2 ^ ((edgeAt e).1 : Int).toNat + 1 * 2 ^ ((edgeAt e).2 : Int).toNat = (maskE e : Int) := by
  unfold maskE
  rw [Int.toNat_natCast, Int.toNat_natCast, Int.one_mul, Int.one_mul]
  push_cast
  rfl
end
end
section
section
open PySem PySem.W PyProof.Rows PySem.Calls PyProof.V PySem.Spec
theorem pt_row {i : Nat} {l : List Int} (h : (partUp 4)[i]? = some l) : i < 15 ∧ l = (ptN i).map fun n : Nat => (n : Int) := by
  rw [ptT_eq, List.getElem?_map] at h
  cases e : ptT[i]? with
  | none => rw [e] at h; cases h
  | some y =>
    rw [e] at h
    refine ⟨?_, ?_⟩
    · have := (List.getElem?_eq_some_iff.mp e).1
      exact this
    · rw [← Option.some.inj h]
      unfold ptN
      rw [List.getD_eq_getElem?_getD, e]; rfl
theorem pt_tab : ∀ i < 15, (ptN i).length ≤ 4 ∧ 1 ≤ (ptN i).length ∧ ∀ k ∈ ptN i, 1 ≤ k ∧ k ≤ 15 := by decide +kernel
theorem rows15 {R : List Row} (h : RowsAre R (partUp 4)) : (refs R).length = 15 := by
  rw [refs_len h]; decide +kernel
structure AM where
  am : Int
  ta : Tok
noncomputable def keepG (p : Int → Bool) (l : List Int) (k : Int) : List Int := if p k = true then l ++ [k] else l
theorem keep_fold (p : Int → Bool) : ∀ (ns l : List Int), ns.foldl (keepG p) l = l ++ ns.filter p
  | [], l => by simp
  | k :: r, l => by
    rw [List.foldl_cons, keep_fold p r]
    unfold keepG
    cases h : p k
    · rw [if_neg (by decide), List.filter_cons, h]; rfl
    · rw [if_pos rfl, List.filter_cons, h]; simp
theorem keep_grows (p : Int → Bool) : KPfGrows (keepG p) := fun l k => by
  unfold keepG
  split
  · rw [List.length_append, List.length_singleton]; omega
  · omega
theorem keep_el {p : Int → Bool} {l : List Int} {k : Int} {news : List (Addr × Obj)} {t : Tok} (h : p k = true) : KCiEl news l (keepG p l k) (.int k t) news := ⟨rfl, k, t, rfl, if_pos h⟩
theorem keep_no {p : Int → Bool} {l : List Int} {k : Int} {news : List (Addr × Obj)} (h : p k = false) : KCiNo news l (keepG p l k) news := ⟨rfl, if_neg (by rw [h]; decide)⟩
section
variable {prog : Program} {w : World} {A : Around} {h₀ : Heap} {L ax : Addr} {m : Str → Option Value} {env : Env} {ct elt : PySem.Expr} {x : Str} {scope : Scope} {cl : List (Str × Addr)} {Fin : Shared → List Value → List (Addr × Obj) → Prop} {vs : List Value} {k : Nat} {news : List (Addr × Obj)} {s₁ : Shared} {ns : List Int}
theorem test_src (p : Int → Bool) (hh : A.handled = none) (F : Fr h₀ L s₁.heap m) (N : News h₀ L s₁.heap news) (hm : (ax, ({ cls := .type "list", data := .seq vs.toArray k } : Obj)) ∈ news) (hi : IntsAre vs ns) (hn : ns.length ≤ 900)
    (turn : ∀ k t I oI C oC D m₂ ys l h tk (E' : Value → Shared → Prop), k ∈ ns → IntsAre ys l → LCg.NsObj oC m₂ → m₂ x = some (.int k t) → Fr h₀ L h m → News h₀ L h ((I, oI) :: (C, oC) :: (D, LCg.lst ys) :: news) → LCg.Off3 I C D news → ((@Ne Nat I C) ∧ (@Ne Nat I D) ∧ (@Ne Nat C D)) →
      wpAny (model prog w) A (isTrue ct (compEnvC scope cl C env) (eval ct (compEnvC scope cl C env))) (fun b s' => if b = true then wpAny (model prog w) A (eval elt (compEnvC scope cl C env)) (LCg.CompEnd h₀ L m { s₁ with heap := h, toks := tk } I oI C oC D (LCg.lst ys) (LCg.SrcAt h₀ ax vs.toArray) (fun y news' => KCiEl news l (keepG p l k) y news')) E' s'
        else LCg.CompEnd h₀ L m { s₁ with heap := h, toks := tk } I oI C oC D (LCg.lst ys) (LCg.SrcAt h₀ ax vs.toArray) (fun _ news' => KCiNo news l (keepG p l k) news') Value.none s') E' { s₁ with heap := h, toks := tk })
    (fin : ∀ g ys, IntsAre ys (ns.filter p) → Fin { s₁ with heap := g } ys news) : LCt.CompSrcT prog w A h₀ L m env ct elt x scope cl Fin (.ref ax) s₁ := by
  refine LCt.CompSrcT.ledger hh F N hm (by rw [List.size_toArray, hi.length, sizeLine_eq]; omega) fun g => ?_
  refine kci_list (keepG p) hi (fun k t I oI C oC D m₂ ys l h tk E' hk hl hC hx' F' N' off ne _ => turn k t I oI C oC D m₂ ys l h tk E' hk hl hC hx' F' N' off ne) ?_ (keep_grows p)
  intro ys hI _
  refine fin g ys ?_
  rw [keep_fold, List.nil_append] at hI
  exact hI
end
section
variable {prog : Program} {w : World} {A : Around} {E : Value → Shared → Prop} {s : Shared} {h₀ : Heap} {L a b : Addr} {news : List (Addr × Obj)} {Q : Value → Shared → Prop} {vs ys : List Value} {na nb : Nat} {t : Tok} {k : Int}
theorem in_ints {l : List Int} (N : News h₀ L s.heap news) (hm : (a, listOf vs.toArray na) ∈ news) (hi : IntsAre vs l) (h : Q (.bool (l.any (· == k))) s) : wpAny (model prog w) A (compareOp .In (.int k t) (.ref a)) Q E s :=
  in_list_ints (list_at N hm) hi h
theorem eq_nil {l : List Int} (N : News h₀ L s.heap news) (ma : (a, listOf ys.toArray na) ∈ news) (mb : (b, listOf #[] nb) ∈ news) (hi : IntsAre ys l) (hu : A.units + 64 < cLine) (h : Q (.bool l.isEmpty) s) :
    wpAny (model prog w) A (compareOp .Eq (.ref a) (.ref b)) Q E s := by
  have hb : s.heap.IsList b ([] : List Value).toArray := list_at N mb
  refine ke_eq_ints (list_at N ma) hb hi .nil hu ?_
  have e : decide (l = []) = l.isEmpty := by cases l <;> rfl
  rw [e]; exact h
end
/-- what is held, of a parting -/
theorem part_held {es : List Nat} {i : Nat} (hi : i < 15) : (((ptN i).map fun n : Nat => (n : Int)).filter fun k => ((hlN es 15).map fun n : Nat => (n : Int)).any (· == k)).isEmpty = !((ptN i).any (heldN es)) := by
  have hp := (pt_tab i hi).2.2
  generalize ptN i = l at hp
  induction l with
  | nil => rfl
  | cons k r ih =>
    have h1 := hp k (.head _)
    have e : ((hlN es 15).map fun n : Nat => (n : Int)).any (· == (k : Int)) = heldN es k := by
      rw [← hl_has (es := es) h1.1 h1.2, List.any_map, Bool.eq_iff_iff, List.any_eq_true, List.contains_iff_mem]
      constructor
      · rintro ⟨x, hx, e⟩
        have e2 : (x : Int) = (k : Int) := by simpa using e
        rwa [Int.ofNat.inj e2] at hx
      · intro hx
        exact ⟨k, hx, by simp⟩
    rw [List.map_cons, List.filter_cons, e, List.any_cons]
    cases heldN es k
    · rw [if_neg (by decide), ih fun x hx => hp x (.tail _ hx)]; simp
    · simp
theorem amt_held {es : List Nat} {i : Nat} (h : (ptN i).any (heldN es) = true) : amtN es (i + 1) = amtN es i := by
  simp only [amtN]; rw [if_pos h]
theorem amt_free {es : List Nat} {i : Nat} (h : (ptN i).any (heldN es) = false) : amtN es (i + 1) = amtN es i + wt (ptN i).length := by
  simp only [amtN]; rw [h, if_neg (by decide)]
section
variable {prog : Program} {w : World} {A : Around} {E : Value → Shared → Prop} {s : Shared} {u : Tok} {Q : Value → Shared → Prop} {h₀ : Heap} {L D : Addr} {news : List (Addr × Obj)} {value slice : PySem.Expr}
theorem item_wt {n l : Nat} {t0 t1 t2 t3 t4 : Tok} {d : Option Addr} {sl : Array (Option Value)} (hl : l ≤ 4) (N : News h₀ L s.heap news) (hm : (D, ({ cls := .type "tuple", dict := d, data := .seq #[.int 0 t0, .int (-1) t1, .int 2 t2, .int (-6) t3, .int 24 t4] n, slots := sl } : Obj)) ∈ news)
    (h : ∀ t, Q (.int (wt l) t) s)
    (hs : subscripted slice false (.ref D) (.int (l : Int) u) = operate [.ref D, .int (l : Int) u] (getItem (.ref D) (.int (l : Int) u))) :
    wpAny (model prog w) A (subscriptTail value slice (.ref D) (.int (l : Int) u)) Q E s := by
  have ht : IsTup s.heap D ([.int 0 t0, .int (-1) t1, .int 2 t2, .int (-6) t3, .int 24 t4] : List Value).toArray := News.isTup N hm
  have hj : ∀ l : Nat, l < 5 → seqIndex? (l : Int) 5 = some l := by decide +kernel
  obtain ⟨t, hx⟩ : ∃ t, ([.int 0 t0, .int (-1) t1, .int 2 t2, .int (-6) t3, .int 24 t4] : List Value)[l]? = some (.int (wt l) t) := by
    rcases l with _ | _ | _ | _ | _ | l
    · exact ⟨_, rfl⟩
    · exact ⟨_, rfl⟩
    · exact ⟨_, rfl⟩
    · exact ⟨_, rfl⟩
    · exact ⟨_, rfl⟩
    · omega
  exact item_tupleT ht (by omega) (by omega) (hj l (by omega)) hx (h t) hs
end
end
end
section
open PySem PySem.W PyProof.Rows
/-- which piece of the law is walked -/
inductive Phase : Nat → Prop
  | mk (n : Nat) : Phase n
local macro_rules | `(tactic| walk_at "exec Assign cons ListComp") => `(tactic| ((fail_if_success with_reducible rename Phase _ => hphX); refine Stop.mk ?_))
local macro_rules | `(tactic| walk_at "subscriptTail BinOp") => `(tactic| (k_dflt (refine kba_turn (value' := PySem.Expr.Name (PySem.Str.ofString "x") ⟨0, 0, 0, 0⟩) (fun _ => rfl) ?_)))
local macro_rules | `(tactic| walk_at "CompSrc") => `(tactic| ((with_reducible first | rename Phase 2 => hphX | rename Phase 6 => hphX | rename Phase 11 => hphX); refine Stop.mk ?_))
local macro_rules | `(tactic| walk_at "subscriptTail") => `(tactic| ((with_reducible rename Phase 2 => hphX); (k_dflt (refine' menu6 (by k_asm) (by exact List.Mem.head _) (by assumption) (by assumption) ?_ (by with_unfolding_all rfl)))))
local macro_rules | `(tactic| walk_at "exec For Name Call cons nil") => `(tactic| refine Stop.mk ?_)
local macro_rules | `(tactic| walk_at "call ref") => `(tactic| first | ((with_reducible rename Phase 16 => hphX); k_dflt (((refine' claimL_use (partings_claim _ _ _ _ _) (by k_asm) (by k_asm) (by k_asm) (by k_asm) (by k_asm) (by first | exact rfl | assumption) (by ktr_room) (by ktr_units) ?_); intro v9 new9 h9 tk9 R9 sep9 F9 N9; refine Stop.mk ?_))) | ((with_reducible rename Phase 14 => hphX); k_dflt (((refine' claim_use (lev_claim _ _ _ _ _ _ _ _ _ _) (by k_asm) (by k_asm) (by k_asm) (by k_asm) (by k_asm) (by first | exact rfl | assumption) (by exact ⟨word40 _ _ _ _ _, word40 _ _ _ _ _⟩) (by ktr_room) (by ktr_units) ?_); intro t9 h9 tk9 F9 N9; (try dsimp only); (try k_fold)))) | ((with_reducible rename Phase 11 => hphX); k_dflt (((refine' claim_use (ap_word _ _ _ _ _ _ _ _ _ _ ?h1) ?k1 ?k2 ?k3 ?k4 ?k5 ?kK ?kp ?kd ?ku ?_); (case h1 => assumption); (case kp => exact True.intro); walk_at "my ask"; intro t9 h9 tk9 F9 N9; (try dsimp only); (try k_fold)))) | ((with_reducible rename Phase 8 => hphX); k_dflt (((refine' claim_use (ell_claim2 _ _ _ _ _ _ _ _ _ ?h1 ?h2) ?k1 ?k2 ?k3 ?k4 ?k5 ?kK ?kp ?kd ?ku ?_); (case h1 => assumption); (case h2 => assumption); (case kp => assumption); walk_at "my ask"; intro t9 h9 tk9 F9 N9; (try dsimp only); (try k_fold)))) | ((with_reducible rename Phase 5 => hphX); k_dflt (((refine' claim_use (ap_claim _ _ _ _ _ _) (by k_asm) (by k_asm) (by k_asm) (by k_asm) (by k_asm) (by first | exact rfl | assumption) (by first | assumption | omega | (rw [Int.natAbs_neg]; omega)) (by ktr_room) (by ktr_units) ?_); intro t9 h9 tk9 F9 N9; (try dsimp only); (try k_fold)))) | ((with_reducible rename Phase 4 => hphX); k_dflt (((first | refine' claimL_use (places_claim _ _ _ _ _) ?k1 ?k2 ?k3 ?k4 ?k5 ?kK ?kd ?ku ?_ | refine' claimL_use (partings_claim _ _ _ _ _) ?k1 ?k2 ?k3 ?k4 ?k5 ?kK ?kd ?ku ?_); walk_at "my ask"; intro v9 new9 h9 tk9 R9 sep9 F9 N9; refine Stop.mk ?_))))
local macro_rules | `(tactic| walk_at "subscriptTail Name Name ref int") => `(tactic| first | ((first | (with_reducible rename Phase 13 => hphX) | (with_reducible rename Phase 14 => hphX)); (k_dflt (refine' item_wordN (by k_asm) (by k_mem) (by assumption) (by assumption) (by decide) ?_ (by with_unfolding_all rfl)); walk_at "i")) | ((first | (with_reducible rename Phase 5 => hphX) | (with_reducible rename Phase 8 => hphX)); (k_dflt (refine' code_item (by k_asm) (by k_mem) (by first | assumption | omega) (by first | assumption | omega) ?_ (by with_unfolding_all rfl)); walk_at "i")) | ((first | (with_reducible rename Phase 5 => hphX) | (with_reducible rename Phase 8 => hphX)); (k_dflt (refine' place_item (by assumption) (by k_asm) (by k_mem) (by assumption) (by first | assumption | omega) (by first | assumption | omega) ?_ (by with_unfolding_all rfl)); walk_at "i")))
local macro_rules | `(tactic| walk_at "subscriptTail Name Constant ref int") => `(tactic| ((first | (with_reducible rename Phase 5 => hphX) | (with_reducible rename Phase 8 => hphX)); (k_dflt (refine' place_item (by assumption) (by k_asm) (by k_mem) (by assumption) (by decide) (by decide) ?_ (by with_unfolding_all rfl)); walk_at "i")))
local macro_rules | `(tactic| walk_at "binaryOp Pow int int") => `(tactic| ((with_reducible rename Phase 5 => hphX); (k_dflt (refine' pow_place (by assumption) (by first | assumption | omega) (by first | assumption | omega) ?_); (try dsimp only))))
local macro_rules | `(tactic| walk_at "binaryOp Mult int int") => `(tactic| ((with_reducible rename Phase 5 => hphX); (k_dflt (refine' mul_place (by assumption) (by first | assumption | omega) (by first | assumption | omega) ?_); (try dsimp only))))
local macro_rules | `(tactic| walk_at "exec Assign") => `(tactic| ((with_reducible show wpAny _ _ (exec (PySem.Stmt.Assign _ (PySem.Expr.Call _ [PySem.Expr.IfExp _ _ _ _] _ _) _) _) _ _ _); refine Stop.mk ?_))
local macro_rules | `(tactic| walk_at "eval ListComp") => `(tactic| first | ((with_reducible rename Phase 17 => hphX); ((with_reducible show wpAny _ _ (eval (PySem.Expr.ListComp _ [⟨PySem.Expr.Name (Str.ofString "kind") _, _, [_], _⟩] _ _) _) _ _ _); k_dflt (refine LCt.ListComp_T (F₀ := by k_asm) (by with_unfolding_all rfl) (by decide) (by rfl) (by decide) (by rfl) ?_))) | ((with_reducible rename Phase 6 => hphX); ((with_reducible show wpAny _ _ (eval (PySem.Expr.ListComp _ [⟨PySem.Expr.Name (Str.ofString "octet") _, _, _, _⟩] _ _) _) _ _ _); k_dflt (refine ListComp_B (by k_asm) (by with_unfolding_all rfl) (by decide) (by rfl) (by decide) (by rfl) ?_))))
local macro_rules | `(tactic| walk_at "SrcB") => `(tactic| ((with_reducible rename Phase 6 => hphX); (k_dflt (refine' SrcB.word (by rfl) (by k_asm) (by k_asm) (by assumption) (by assumption) (fun k' t' I' oI' C' oC' D' m' ys' h' tk' E' hlo' hhi' hC' hx' F' N' off' ne' => ?_) (fun g' ys' hcY' => ?_)))))
local macro_rules | `(tactic| walk_at "CompEnd") => `(tactic| first | ((with_reducible rename Phase 17 => hphX); k_dflt (first | exact LCg.CompEnd.intro (by k_asm) (by k_asm) _ (fun _ h => h) (by assumption) (by first | exact True.intro | lcg_src) (keep_el (by assumption)) | exact LCg.CompEnd.intro (by k_asm) (by k_asm) _ (fun _ h => h) (by assumption) (by first | exact True.intro | lcg_src) (keep_no (by assumption)))) | ((first | (with_reducible rename Phase 6 => hphX) | (with_reducible rename Phase 11 => hphX)); (k_dflt (exact LCg.CompEnd.intro (by k_asm) (by k_asm) _ (fun _ h => h) (by assumption) (by first | exact True.intro | lcg_src) ⟨rfl, _, rfl⟩))))
local macro_rules | `(tactic| walk_at "call builtin:str.join") => `(tactic| ((first | (with_reducible rename Phase 6 => hphX) | (with_reducible rename Phase 11 => hphX)); (k_dflt (refine' join_word (by first | is_list | exact News.isList (by k_asm) (by k_mem)) (by assumption) (by assumption) ?_); intro _ _)))
local macro_rules | `(tactic| walk_at "exec For Tuple") => `(tactic| refine Stop.mk ?_)
local macro_rules | `(tactic| walk_at "subscriptTail Name Name bytes int") => `(tactic| ((with_reducible rename Phase 6 => hphX); (k_dflt (refine' bt_item (by assumption) (by assumption) (by assumption) (by assumption) ?_ (by with_unfolding_all rfl) (by intro _; with_unfolding_all rfl)); walk_at "i")))
local macro_rules | `(tactic| walk_at "compareOp NotEq ref ref") => `(tactic| ((with_reducible rename Phase 6 => hphX); (k_dflt (refine' codes_ne (by k_asm) (by exact List.Mem.head _) (by k_mem) (by assumption) (by ktr_units) ?_); (try dsimp only))))
local macro_rules | `(tactic| walk_at "call builtin:len") => `(tactic| first | ((first | (with_reducible rename Phase 17 => hphX) | (with_reducible rename Phase 18 => hphX)); (k_dflt (refine' row_len (by k_asm) (by k_mem) (by assumption) (by omega) ?_); walk_at "i")) | ((with_reducible rename Phase 13 => hphX); (k_dflt (refine' len_word (by exact word_short _ _ _ _ _) ?_); walk_at "i")) | ((with_reducible rename Phase 6 => hphX); (k_dflt (refine' bt_len (by assumption) ?_); walk_at "i")))
local macro_rules | `(tactic| walk_at "pyIter ref") => `(tactic| refine Stop.mk ?_)
local macro_rules | `(tactic| walk_at "binaryOp Add str str") => `(tactic| ((with_reducible rename Phase 8 => hphX); (k_dflt (refine' add_SS (by first | exact dots_S | rfl) (by first | exact dots_S | rfl) (by exact Nat.le_of_ble_eq_true rfl) ?_); walk_at "i")))
local macro_rules | `(tactic| walk_at "exec If") => `(tactic| ((with_reducible first | rename Phase 8 => hphX | rename Phase 14 => hphX); refine Stop.mk ?_))
local macro_rules | `(tactic| walk_at "compareOp NotIn int ref") => `(tactic| ((with_reducible rename Phase 9 => hphX); (k_dflt (refine' notin_nat (by k_asm) (by k_mem) (by assumption) ?_); (try dsimp only))))
local macro_rules | `(tactic| walk_at "call builtin:list.append") => `(tactic| first | ((with_reducible rename Phase 14 => hphX); (k_dflt (refine' append_top10 (by assumption) (by k_asm) (by k_asm) (by walk_at "my sub") (by k_all) (by omega) ?_); intro h' F' N'; (try k_sweep))) | ((with_reducible rename Phase 11 => hphX); (k_dflt (refine' append_top9 (by assumption) (by k_asm) (by k_asm) (by walk_at "my sub") (by k_all) (by omega) ?_); intro h' F' N'; (try k_sweep))) | ((with_reducible rename Phase 9 => hphX); (k_dflt (refine' append_top (rest := [_, _, _, _, _, _, _]) ?k0 ?k4 ?k5 (fun _ h => h) ?k2 ?k3 ?_; (case k4 => k_asm); (case k5 => k_asm); (case k0 => assumption); (case k2 => k_all); (case k3 => omega)); intro h' F' N'; (try k_sweep))))
local macro_rules | `(tactic| walk_at "call type:bytes") => `(tactic| ((with_reducible rename Phase 11 => hphX); (k_dflt (refine' bytes_octs ?k0 ?k1 ?k2 ?k3 ?k4 ?k5 ?_; (case k0 => assumption); (case k1 => k_asm); (case k2 => k_asm); (case k3 => rfl); (case k5 => assumption); (case k4 => k_mem)); intro _ _ _ F' N')))
local macro_rules | `(tactic| walk_at "compareOp NotEq bytes bytes") => `(tactic| ((refine ne_same ?_); walk_at "i"))
local macro_rules | `(tactic| walk_at "exec For Name Name cons nil") => `(tactic| ((rename Fr _ _ _ _ => lF'); (with_unfolding_all refine' For_invVF lF' (by exact rfl) (by exact rfl) ?_)))
local macro_rules | `(tactic| walk_at "subscriptTail Name BinOp ref int") => `(tactic| ((with_reducible rename Phase 14 => hphX); (k_dflt (refine' item_mask (by assumption) (by exact mask_eq) (by k_asm) (by k_mem) (by assumption) ?_ (by with_unfolding_all rfl)); walk_at "i")))
local macro_rules | `(tactic| walk_at "CompSrcT") => `(tactic| ((with_reducible rename Phase 17 => hphX); refine Stop.mk ?_))
local macro_rules | `(tactic| walk_at "compareOp In int ref") => `(tactic| ((with_reducible rename Phase 17 => hphX); (k_dflt (refine' in_ints (by k_asm) (by k_mem) (by assumption) ?_); (try dsimp only))))
local macro_rules | `(tactic| walk_at "compareOp Eq ref ref") => `(tactic| ((with_reducible rename Phase 17 => hphX); (k_dflt (refine' eq_nil ?k1 ?k2 ?k3 ?k4 ?k5 ?_; (case k1 => k_asm); (case k3 => exact List.Mem.head _); (case k2 => k_mem); (case k4 => assumption); (case k5 => ktr_units)); (try dsimp only))))
local macro_rules | `(tactic| walk_at "subscriptTail Tuple cons Call ref int") => `(tactic| ((with_reducible rename Phase 17 => hphX); (k_dflt (refine' item_wt (by assumption) (by k_asm) (by k_mem) ?_ (by with_unfolding_all rfl)); walk_at "i")))
local macro_rules | `(tactic| k_ne) => `(tactic| (refine neN ?_; (try dsimp only); with_reducible assumption))
set_option maxRecDepth 100000 in
set_option maxHeartbeats 40000000 in
theorem law_holds : PySem.Challenge.rw_rw0046_02.Holds := hd (by
  w_on
  w_strict (
    k_go0
    (all_goals try k_fold)
    k_steps
    all_goals (try (first | exact Str.empty | exact (0 : Addr) | exact Value.none))
    refine Stop.out ?_
    refine LCg.Assign_ListComp_U (F₀ := by k_asm) (by rfl) (by with_unfolding_all rfl) (by with_unfolding_all rfl) (by decide) (by rfl) (by decide) (by rfl) (by rfl) (by rfl) ?_
    have hph : Phase 2 := .mk 2
    k_steps
    refine Stop.out ?_
    rename IntsAre _ (List.take _ (_ ++ _)) => hi
    rename List Int => ns
    have hl := (fam_len8 ns).2
    refine src_edges (by rfl) (by k_asm) (by k_asm) (by k_mem) hi (by omega) ?_ ?_
    · intro i z t ys nw hz hJ I oI C oC D m₂ h tk E' hC hx F N off ne
      obtain ⟨all, hall⟩ : ∃ all, all = (I, oI) :: (C, oC) :: (D, LCg.lst ys) :: nw := ⟨_, rfl⟩
      have N6 := see2 N
      rw [← hall] at N6
      have hz0 := (fmod_lt z (k := 6) (by decide)).1
      have hz1 := (fmod_lt z (k := 6) (by decide)).2
      clear N
      refine hideP5 ?_
      intro QS hQS
      k_steps
      subst hQS
      refine Stop.out ?_
      rename Fr _ _ _ _ => F7
      rename News _ _ _ _ => N7
      (with_reducible rename (_ < _ ∧ AllLt _ _) => a0)
      (with_reducible rename (_ < _ ∧ _ < _ ∧ AllLt _ _) => a1)
      (with_reducible rename (_ < _ ∧ _ < _ ∧ _ < _ ∧ AllLt _ _) => a2)
      (with_reducible rename (_ < _ ∧ _ < _ ∧ _ < _ ∧ _ < _ ∧ AllLt _ _) => a3)
      (with_reducible rename (_ < _ ∧ _ < _ ∧ _ < _ ∧ _ < _ ∧ _ < _ ∧ AllLt _ _) => a4)
      (with_reducible rename (_ < _ ∧ _ < _ ∧ _ < _ ∧ _ < _ ∧ _ < _ ∧ _ < _ ∧ AllLt _ _) => a5)
      exact edge_fin F7 N7 hall hz a0.2 a1.2.2 a2.2.2.2 a3.2.2.2.2 a4.2.2.2.2.2 a5.2.2.2.2.2.2 off hJ
    · intro g ys nw hJ
      unfold LCg.FinA
      intro D2 h tk F7 N7 off7
      dsimp only
      rename Phase _ => hphO
      clear hphO
      have hph : Phase 3 := .mk 3
      obtain ⟨T, own, nE, hown, hT, N8, hoff⟩ := own_edges hJ N7 off7
      clear N7 off7 hJ
      dsimp only [List.map] at hoff
      k_steps
      refine Stop.out ?_
      rename IntsAre _ (List.map (fun k => 66 + _) _) => hI8
      rename Fr _ _ _ _ => F9
      rename News _ _ _ _ => N9
      rename (_ < _ ∧ _ < _ ∧ _ < _ ∧ _ < _ ∧ _ < _ ∧ _ < _ ∧ _ < _ ∧ _ < _ ∧ AllLt _ _) => q8
      rename (_ ≠ _ ∧ _ ≠ _ ∧ _ ≠ _ ∧ _ ≠ _ ∧ _ ≠ _ ∧ _ ≠ _ ∧ _ ≠ _ ∧ LCg.Off1 _ _) => o8
      obtain ⟨f0, f1, f2, f3, c0, c1, c2, c3, rfl, hF⟩ := codes_norm hI8
      obtain ⟨es, hE, hen, hes⟩ := edges_norm hT (fam_len8 ns)
      have N10 := news_less (l := [_, _, _, _, _, _]) (own := own) N9
      have hoff10 := own_more (own := own) q8.2.2.2.2.2.2.2.2 o8.2.2.2.2.2.2.2 hoff
      replace hoff10 := own_less hoff10
      have zc := cells_of hoff10
      have : @Ne Nat _ _ := zc.1
      have : @Ne Nat _ _ := zc.2.1
      have : @Ne Nat _ _ := zc.2.2.1
      have : @Ne Nat _ _ := zc.2.2.2.1
      have : @Ne Nat _ _ := zc.2.2.2.2.1
      have : @Ne Nat _ _ := zc.2.2.2.2.2.1
      have : @Ne Nat _ _ := zc.2.2.2.2.2.2.1
      have : @Ne Nat _ _ := zc.2.2.2.2.2.2.2.1
      have : @Ne Nat _ _ := zc.2.2.2.2.2.2.2.2.1
      have : @Ne Nat _ _ := zc.2.2.2.2.2.2.2.2.2.1
      have : @Ne Nat _ _ := zc.2.2.2.2.2.2.2.2.2.2.1
      have : @Ne Nat _ _ := zc.2.2.2.2.2.2.2.2.2.2.2.1
      have : @Ne Nat _ _ := zc.2.2.2.2.2.2.2.2.2.2.2.2.1
      have : @Ne Nat _ _ := zc.2.2.2.2.2.2.2.2.2.2.2.2.2.1
      have : @Ne Nat _ _ := zc.2.2.2.2.2.2.2.2.2.2.2.2.2.2.1
      have : @Ne Nat _ _ := zc.2.2.2.2.2.2.2.2.2.2.2.2.2.2.2.1
      have : @Ne Nat _ _ := zc.2.2.2.2.2.2.2.2.2.2.2.2.2.2.2.2.1
      have : @Ne Nat _ _ := zc.2.2.2.2.2.2.2.2.2.2.2.2.2.2.2.2.2.1
      have : @Ne Nat _ _ := zc.2.2.2.2.2.2.2.2.2.2.2.2.2.2.2.2.2.2.1
      have : @Ne Nat _ _ := zc.2.2.2.2.2.2.2.2.2.2.2.2.2.2.2.2.2.2.2.1
      have : @Ne Nat _ _ := zc.2.2.2.2.2.2.2.2.2.2.2.2.2.2.2.2.2.2.2.2.1
      have : @Ne Nat _ _ := zc.2.2.2.2.2.2.2.2.2.2.2.2.2.2.2.2.2.2.2.2.2.1
      have : @Ne Nat _ _ := zc.2.2.2.2.2.2.2.2.2.2.2.2.2.2.2.2.2.2.2.2.2.2.1
      have : @Ne Nat _ _ := zc.2.2.2.2.2.2.2.2.2.2.2.2.2.2.2.2.2.2.2.2.2.2.2.1
      have : @Ne Nat _ _ := zc.2.2.2.2.2.2.2.2.2.2.2.2.2.2.2.2.2.2.2.2.2.2.2.2.1
      have : @Ne Nat _ _ := zc.2.2.2.2.2.2.2.2.2.2.2.2.2.2.2.2.2.2.2.2.2.2.2.2.2.1
      have : @Ne Nat _ _ := zc.2.2.2.2.2.2.2.2.2.2.2.2.2.2.2.2.2.2.2.2.2.2.2.2.2.2.1
      have : @Ne Nat _ _ := zc.2.2.2.2.2.2.2.2.2.2.2.2.2.2.2.2.2.2.2.2.2.2.2.2.2.2.2.1
      have : @Ne Nat _ _ := zc.2.2.2.2.2.2.2.2.2.2.2.2.2.2.2.2.2.2.2.2.2.2.2.2.2.2.2.2.1
      have : @Ne Nat _ _ := zc.2.2.2.2.2.2.2.2.2.2.2.2.2.2.2.2.2.2.2.2.2.2.2.2.2.2.2.2.2
      clear zc
      have zl := ne_la q8
      have : @Ne Nat _ _ := zl.1.1
      have : @Ne Nat _ _ := zl.1.2.1
      have : @Ne Nat _ _ := zl.1.2.2.1
      have : @Ne Nat _ _ := zl.1.2.2.2.1
      have : @Ne Nat _ _ := zl.1.2.2.2.2.1
      have : @Ne Nat _ _ := zl.1.2.2.2.2.2.1
      have : @Ne Nat _ _ := zl.1.2.2.2.2.2.2.1
      have : @Ne Nat _ _ := zl.1.2.2.2.2.2.2.2
      have : @Ne Nat _ _ := zl.2.1
      have : @Ne Nat _ _ := zl.2.2.1
      have : @Ne Nat _ _ := zl.2.2.2.1
      have : @Ne Nat _ _ := zl.2.2.2.2
      clear zl
      have zm := ne_lc o8
      have : @Ne Nat _ _ := zm.1
      have : @Ne Nat _ _ := zm.2.1
      have : @Ne Nat _ _ := zm.2.2.1
      have : @Ne Nat _ _ := zm.2.2.2.1
      have : @Ne Nat _ _ := zm.2.2.2.2.1
      have : @Ne Nat _ _ := zm.2.2.2.2.2
      clear zm
      clear N9 hI8 hT hoff
      rename Phase _ => hphO
      clear hphO
      have hph : Phase 4 := .mk 4
      (with_unfolding_all refine For_invTF F9 ?_ (by intro _; rfl))
      k_steps
      refine Stop.out ?_
      rename Rows _ _ _ => R9
      rename (∀ p ∈ _, ∀ q ∈ _, _ ≠ _) => sep9
      rename Fr _ _ _ _ => F11
      rename News _ _ _ _ => N11
      obtain ⟨DP, nP, R, rfl, rfl, hR⟩ := R9
      have N12 := rows_back N11
      have hoff12 := rows_off hoff10 rfl sep9
      clear N11 sep9
      refine my_listT (σ := AW) (D := DP) (vs := refs R) (nn := nP) (fun c => [(_, listOf c.as.toArray c.nA), _, _, _, (_, c.oW), (_, c.oP), _, _]) ((DP, listOf (refs R).toArray nP) :: (rowsLed R ++ own)) (fun _ => [(Str.ofString "answers", .ref _), (Str.ofString "edges", .ref _)])
        (fun i c => IntsAre c.as ((ansN es i).map fun n : Nat => (n : Int)) ∧ (∃ v, c.oP.data = Data.cell v) ∧ ∃ v, c.oW.data = Data.cell v) ⟨[], 0, _, _⟩ quiet_name (fun _ => rfl) rfl (.head _) (by exact hoff12) F11 N12 (by with_unfolding_all kst_all) ⟨.nil, ⟨_, by assumption⟩, _, by assumption⟩ ?_ ?_
      · clear F11 N12
        rintro i v ⟨as, nA, oP, oW⟩ u ⟨hh9, gg9, dd9, tt9, os9⟩ own2 hv hin hoff2 ⟨hA, ⟨vP, hoP⟩, vW, hoW⟩ F13 N13
        dsimp only [kstB] at F13 N13 hA hoP hoW hoff2 ⊢
        obtain ⟨r, hr, rfl⟩ := refs_at hv
        obtain ⟨l, hl, hI⟩ := paired_at hR hr
        refine hideQ ?_
        intro QP hQP
        rename Phase _ => hphO
        clear hphO
        have hph : Phase 5 := .mk 5
        have hrm := hin _ (.tail _ (List.mem_append_left _ (row_mem hr)))
        obtain ⟨hi, rfl⟩ := pl_row hl
        have hll : ((plN i).map fun n : Nat => (n : Int)).length = 4 := by rw [List.length_map]; exact (pl_bound i hi).1
        have N14 := see_own N13 hrm
        have r1 : @Ne Nat r.a _ := hoff2 _ hrm _ (.head _)
        have r4 : @Ne Nat r.a _ := hoff2 _ hrm _ (.tail _ (.tail _ (.tail _ (.tail _ (.head _)))))
        have r5 : @Ne Nat r.a _ := hoff2 _ hrm _ (.tail _ (.tail _ (.tail _ (.tail _ (.tail _ (.head _))))))
        clear N13
        k_steps
        refine Stop.out ?_
        rename Fr _ _ _ _ => F15
        rename News _ _ _ _ => N15
        rw [num_eq hi] at F15
        obtain ⟨hn1, hn2⟩ := dig_num hF hi
        obtain ⟨hw1, hw2⟩ := dig_ap hF hi
        refine my_cutL (σ := Obj × Tok) (fun c => [_, _, _, _, _, _, (_, c.1), _, _, _] ++ own2) (fun _ => [(Str.ofString "number", .int (numI (digP f0 f1 f2 f3 i)) _), (Str.ofString "answers", .ref _), (Str.ofString "edges", .ref D2)])
          (fun c => c.1.data = Data.cell (some (.bytes (Bt (wordP f0 f1 f2 f3 i)) c.2))) ⟨_, 0⟩ F15 N15 (by with_unfolding_all kst_all) ?_ ?_
        · refine hideP5 ?_
          intro QC hQC
          refine wpAny_Assign_Name ?_
          clear hin hl hr
          k_steps
          all_goals (subst hQC; dsimp only [MyCut]; (rename (Obj.data _ = Data.cell (some (Value.bytes _ _))) => dW) ; (rename Fr _ _ _ _ => fE; rename News _ _ _ _ => nE; (refine' my_end ⟨_, _⟩ fE nE ?e1 ?e2 ?e3 ?_); (case e1 => walk_at "my names"); (case e2 => walk_at "my sub"); (case e3 => first | exact mem_nilE | exact mem_rightE | (walk_at "my own") | kst_in); (try dsimp only)); (first | (rw [hw1] at dW; exact dW) | (rw [hw2] at dW; exact dW)))
        · intros
          rename Phase _ => hphO
          clear hphO
          have hph : Phase 6 := .mk 6
          rename Obj × Tok => cW
          obtain ⟨oW2, tW⟩ := cW
          rename (Obj.data _ = Data.cell (some (Value.bytes _ _))) => dW
          rename Fr _ _ _ _ => F16
          rename News _ _ _ _ => N16
          dsimp only [kstB] at F16 N16 dW ⊢
          simp only [List.cons_append, List.nil_append] at N16
          k_steps
          refine Stop.out ?_
          have hx256 : ∀ x ∈ wordP f0 f1 f2 f3 i, x < 256 := fun x hx => (word_256 hF hi x hx).2.1
          rename IntsAre r.us _ => hIr
          refine ints_src (vs := r.us) (k := r.n) (fun p : Int => (((wordP f0 f1 f2 f3 i).getD p.toNat 0 : Nat) : Int)) (by rfl) (by k_asm) (by k_asm) (by k_mem) hIr (by rw [hll]; decide) ?_ ?_
          · intro k t I oI C oC D m₂ ys h tk E' hk hC hx F N off ne
            obtain ⟨hk0, hk1⟩ := pl_mem hi hk
            k_steps
          · intro g ys hc
            rw [spell hF hi] at hc
            have hwl : (wordP f0 f1 f2 f3 i).length ≤ 1000 := by rw [wordP_len hi]; decide
            k_steps
            refine Stop.out ?_
            rename Phase _ => hphO
            clear hphO
            have hph : Phase 7 := .mk 7
            rename Fr _ _ _ _ => F17
            (with_unfolding_all refine For_invTF F17 ?_ (by intro _; rfl))
            k_steps
            refine Stop.out ?_
            rename Fr _ _ _ _ => F18
            rename News _ _ _ _ => N18
            have hback : ∀ p ∈ tupsLed T, p ∈ own2 := fun p hp => hin p (.tail _ (List.mem_append_right _ (by rw [hown]; exact .tail _ hp)))
            refine my_listT (σ := ME) (D := D2) (vs := tupRefs T) (nn := nE) (fun _ => []) (_ :: _ :: _ :: _ :: _ :: _ :: _ :: _ :: _ :: _ :: _ :: _ :: own2) (fun c => [(Str.ofString "mark", .int (c.ma : Int) c.tm), (Str.ofString "word", .str (S (wordP f0 f1 f2 f3 i)) _), (Str.ofString "answers", .ref _), (Str.ofString "edges", .ref D2)])
              (fun j c => c.ma = markN (es.take j) i) ⟨0, _⟩ quiet_tuple (fun _ => rfl) rfl ?hD (fun _ _ _ h => nomatch h) F18 N18 (by with_unfolding_all kst_all) rfl ?_ ?_
            case hD => (iterate 12 (refine List.Mem.tail _ ?_)); exact hin _ (.tail _ (List.mem_append_right _ (by rw [hown]; exact .head _)))
            · clear F18 N18
              rintro j v ⟨ma, tma⟩ u2 ⟨hh8, gg8, dd8, tt8, os8⟩ own3 hv hin3 - hP F19 N19
              obtain ⟨t, e, rfl, hej, hp, hq, htm⟩ := tup_at hE hv
              dsimp only [kstB] at F19 N19 hP ⊢
              refine hideQ ?_
              intro QE hQE
              rename Phase _ => hphO
              clear hphO
              have hph : Phase 8 := .mk 8
              obtain ⟨ta, tp, tq, ttp, ttq, tn⟩ := t
              dsimp only at hp hq htm ⊢
              subst hp hq
              obtain ⟨he6, hp0, hp4, hq0, hq4⟩ := edge_ends hes hej
              have m1 := hback _ htm
              have hin4 : ∀ p ∈ own2, p ∈ own3 := fun p hp => hin3 p (by (iterate 12 (refine List.Mem.tail _ ?_)); exact hp)
              have N20 := news_pick5 N19 (hin4 _ m1) (hin3 _ (List.mem_of_getElem? (i := 3) rfl)) (hin3 _ (List.mem_of_getElem? (i := 5) rfl)) (hin3 _ (List.mem_of_getElem? (i := 9) rfl)) (hin3 _ (List.mem_of_getElem? (i := 10) rfl))
              clear N19
              obtain ⟨hx1, hx2, hx3⟩ := chP_in hF hp0 hp4
              obtain ⟨hy1, hy2, hy3⟩ := chP_in hF hq0 hq4
              have hw40 : (S (wordP f0 f1 f2 f3 i)).length ≤ 40 := by rw [S_len, wordP_len hi]; decide
              k_steps
              refine Stop.out ?_
              rename Fr _ _ _ _ => F21
              rw [ahead_eq hi he6] at F21
              have hto := told_ahead hF hi he6
              unfold chP at hto
              rw [hto] at F21
              have hmt := mark_take (i := i) hej
              generalize aheadN i e = b at F21 hmt
              refine wpAny_If ?_
              cases b
              · k_steps
                subst hQE; dsimp only [MyPostT]
                rename Fr _ _ _ _ => fE
                rw [show 2 * (ma : Int) + 0 = ((2 * ma + 0 : Nat) : Int) from rfl] at fE
                (rename Fr _ _ _ _ => fE; rename News _ _ _ _ => nE; (refine' my_end ⟨_, _⟩ fE nE ?e1 ?e2 ?e3 ?_); (case e1 => walk_at "my names"); (case e2 => walk_at "my sub"); (case e3 => first | exact mem_nilE | exact mem_rightE | (walk_at "my own") | kst_in); (try dsimp only))
                rw [hP]; exact hmt.symm
              · k_steps
                subst hQE; dsimp only [MyPostT]
                rename Fr _ _ _ _ => fE
                rw [show 2 * (ma : Int) + 1 = ((2 * ma + 1 : Nat) : Int) from rfl] at fE
                (rename Fr _ _ _ _ => fE; rename News _ _ _ _ => nE; (refine' my_end ⟨_, _⟩ fE nE ?e1 ?e2 ?e3 ?_); (case e1 => walk_at "my names"); (case e2 => walk_at "my sub"); (case e3 => first | exact mem_nilE | exact mem_rightE | (walk_at "my own") | kst_in); (try dsimp only))
                rw [hP]; exact hmt.symm
            · clear F18 N18
              rintro ⟨ma, tma⟩ u2 h2 tk2 hP F19 N19
              dsimp only [kstB] at F19 N19 hP ⊢
              rename Phase _ => hphO
              clear hphO
              have hph : Phase 9 := .mk 9
              rw [mark_all hE] at hP
              have hal : as.length ≤ 24 := by
                rw [hA.length, List.length_map]
                have := ans_len es i
                omega
              rename News _ _ _ _ => N19
              have N21 := news_drop4 (l := [_, _, _, _, _, _, _, _]) (own := own2) N19
              clear N19
              k_steps
              · subst hQP; dsimp only [MyPostT]
                (rename Fr _ _ _ _ => fE; rename News _ _ _ _ => nE; (refine' my_end ⟨_, _, _, _⟩ fE nE ?e1 ?e2 ?e3 ?_); (case e1 => walk_at "my names"); (case e2 => walk_at "my sub"); (case e3 => first | exact mem_nilE | exact mem_rightE | (walk_at "my own") | kst_in); (try dsimp only))
                exact ⟨ans_no hA hP (by assumption), ⟨_, by assumption⟩, _, by assumption⟩
              · subst hQP; dsimp only [MyPostT]
                (rename Fr _ _ _ _ => fE; rename News _ _ _ _ => nE; (refine' my_end ⟨_, _, _, _⟩ fE nE ?e1 ?e2 ?e3 ?_); (case e1 => walk_at "my names"); (case e2 => walk_at "my sub"); (case e3 => first | exact mem_nilE | exact mem_rightE | (walk_at "my own") | kst_in); (try dsimp only))
                exact ⟨ans_yes hA hP (by assumption), ⟨_, by assumption⟩, _, by assumption⟩
      · clear F11 N12
        rintro ⟨as, nA, oP, oW⟩ u h tk ⟨hA, ⟨vP, hoP⟩, vW, hoW⟩ F13 N13
        dsimp only [kstB] at F13 N13 hA hoP hoW ⊢
        rename Phase _ => hphO
        clear hphO
        have hph : Phase 10 := .mk 10
        rw [rows24 hR] at hA
        rename News _ _ _ _ => N30
        have N31 := own_rows N30
        clear N30
        simp only [List.cons_append, List.nil_append] at N31
        k_steps
        refine Stop.out ?_
        rename Fr _ _ _ _ => F31
        (with_unfolding_all refine For_invTF F31 ?_ (by intro _; rfl))
        k_steps
        rename Fr _ _ _ _ => F32
        rename News _ _ _ _ => N32
        rename IsRange _ _ _ _ _ _ _ _ => rgX
        rename (_ < _ ∧ _ < _ ∧ _ < _ ∧ _ < _ ∧ _ < _ ∧ _ < _ ∧ _ < _ ∧ _ < _ ∧ AllLt _ own) => q9
        have zw := ne_la q9
        have : @Ne Nat _ _ := zw.1.1
        have : @Ne Nat _ _ := zw.1.2.1
        have : @Ne Nat _ _ := zw.1.2.2.1
        have : @Ne Nat _ _ := zw.1.2.2.2.1
        have : @Ne Nat _ _ := zw.1.2.2.2.2.1
        have : @Ne Nat _ _ := zw.1.2.2.2.2.2.1
        have : @Ne Nat _ _ := zw.1.2.2.2.2.2.2.1
        have : @Ne Nat _ _ := zw.1.2.2.2.2.2.2.2
        have : @Ne Nat _ _ := zw.2.1
        have : @Ne Nat _ _ := zw.2.2.1
        have : @Ne Nat _ _ := zw.2.2.2.1
        have : @Ne Nat _ _ := zw.2.2.2.2
        clear zw
        have hoff13 := own_one q9.2.2.2.2.2.2.2.2 hoff10
        refine my_rangeB (σ := WC) (fun c => [(_, listOf c.us.toArray c.n), _, _, _, (_, c.oK), _, _, _, _]) own (fun c => [(Str.ofString "words", .ref _), (Str.ofString "answers", .ref _), (Str.ofString "edges", .ref D2)]) 16
          (fun i c => StrsAre c.us ((List.range i).map fun k => S (wordL f0 f1 f2 f3 k)) ∧ ∃ v, c.oK.data = Data.cell v) ⟨[], 0, _⟩ (fun _ => rfl) rfl rgX small016 size016 (by exact hoff13) F32 N32 (by with_unfolding_all kst_all) ⟨.nil, _, by assumption⟩ ?_ ?_
        · clear F32 N32 rgX
          rintro i t ⟨us, n, oK⟩ u ⟨h, g, dr, tk, os⟩ own2 hi hin hoff ⟨hus, v, hoK⟩ F33 N33
          dsimp only [kstB] at F33 N33 hus hoK hoff ⊢
          refine hideQ ?_
          intro QW hQW
          rename Phase _ => hphO
          clear hphO
          have hph : Phase 11 := .mk 11
          rename Fr _ _ _ _ => F33
          rename News _ _ _ _ => N33
          rw [show (0 : Int) + (i : Int) = (i : Int) by omega]
          simp only [List.cons_append, List.nil_append] at N33
          k_steps
          refine Stop.out ?_
          rename Fr _ _ _ _ => F34
          rename News _ _ _ _ => N34
          rename IntsAre _ (List.map _ (List.filter _ _)) => hch
          rw [chosen0 hi] at hch
          have hlen := sel4_len i f0 f1 f2 f3
          refine my_intsV (σ := Int × Tok) (fun _ => _) (fun c => [(Str.ofString "number", .int c.1 c.2), (Str.ofString "octets", .ref _), (Str.ofString "words", .ref _), (Str.ofString "answers", .ref _), (Str.ofString "edges", .ref D2)])
            (fun j c => c.1 = numI ((sel4 i f0 f1 f2 f3).take j)) (0, _) rfl (fun _ => .head _) hch (fun _ => rfl) F34 N34 (by with_unfolding_all kst_all) (by simp [numI]) ?_ ?_
          · clear F34 N34
            rintro j f tf ⟨nu, tn⟩ u2 h2 tk2 own3 hj hoff3 hP F35 N35
            dsimp only [kstB] at F35 N35 hP hoff3 ⊢
            obtain ⟨f, hjf, rfl⟩ := octs_at hj
            subst hP
            k_steps
            dsimp only [MyPost]
            (rename Fr _ _ _ _ => fE; rename News _ _ _ _ => nE; (refine' my_end ⟨_, _⟩ fE nE ?e1 ?e2 ?e3 ?_); (case e1 => walk_at "my names"); (case e2 => walk_at "my sub"); (case e3 => first | exact mem_nilE | exact mem_rightE | (walk_at "my own") | kst_in); (try dsimp only))
            exact num_step hjf
          · clear F34 N34
            rintro ⟨nu, tn⟩ u2 h2 tk2 hP F35 N35
            dsimp only [kstB] at F35 N35 hP ⊢
            rw [octs_len, List.take_length] at hP
            subst hP
            have hul := strs_short0 hus (by omega)
            k_steps
            refine Stop.out ?_
            have hwl := word_short f0 f1 f2 f3 i
            refine chr_src hF (by rfl) (by k_asm) (by k_asm) (by k_mem) (by assumption) ?_ ?_
            · intro k t I oI C oC D m₂ ys h tk E' hk0 hk1 hC hx F N off ne
              k_steps
            · intro g ys hc
              k_steps
              subst hQW; dsimp only [MyPostT]
              (rename Fr _ _ _ _ => fE; rename News _ _ _ _ => nE; (refine' my_end ⟨_, _, _⟩ fE nE ?e1 ?e2 ?e3 ?_); (case e1 => walk_at "my names"); (case e2 => walk_at "my sub"); (case e3 => first | exact mem_nilE | exact mem_rightE | (walk_at "my own") | kst_in); (try dsimp only))
              refine ⟨?_, _, by assumption⟩
              rw [List.range_succ, List.map_append]
              exact kct_snoc hus
        · clear F32 N32 rgX
          rintro ⟨us, n, oK⟩ u h tk ⟨hus, v, hoK⟩ F33 N33
          dsimp only [kstB] at F33 N33 hus hoK ⊢
          rename Phase _ => hphO
          clear hphO
          have hph : Phase 12 := .mk 12
          rename Fr _ _ _ _ => F33
          rename News _ _ _ _ => N33
          simp only [List.cons_append, List.nil_append] at N33
          k_steps
          refine Stop.out ?_
          rename Fr _ _ _ _ => F31
          (with_unfolding_all refine For_invTF F31 ?_ (by intro _; rfl))
          k_steps
          rename Fr _ _ _ _ => F32
          rename News _ _ _ _ => N32
          rename IsRange _ _ _ _ _ _ _ _ => rgX
          rename (_ < _ ∧ _ < _ ∧ _ < _ ∧ _ < _ ∧ _ < _ ∧ _ < _ ∧ _ < _ ∧ _ < _ ∧ _ < _ ∧ AllLt _ own) => q10
          have : @Ne Nat _ _ := Nat.ne_of_lt q10.1
          have zh := ne_la q10.2
          have : @Ne Nat _ _ := zh.1.1
          have : @Ne Nat _ _ := zh.1.2.1
          have : @Ne Nat _ _ := zh.1.2.2.1
          have : @Ne Nat _ _ := zh.1.2.2.2.1
          have : @Ne Nat _ _ := zh.1.2.2.2.2.1
          have : @Ne Nat _ _ := zh.1.2.2.2.2.2.1
          have : @Ne Nat _ _ := zh.1.2.2.2.2.2.2.1
          have : @Ne Nat _ _ := zh.1.2.2.2.2.2.2.2
          have : @Ne Nat _ _ := zh.2.1
          have : @Ne Nat _ _ := zh.2.2.1
          have : @Ne Nat _ _ := zh.2.2.2.1
          have : @Ne Nat _ _ := zh.2.2.2.2
          clear zh
          have hoff14 := own_one q10.2.2.2.2.2.2.2.2.2 hoff13
          refine my_rangeB (σ := HC) (fun c => [(_, listOf c.hs.toArray c.nH), _, _, _, _, (_, c.oK), _, _, _, _]) own (fun c => [(Str.ofString "words", .ref _), (Str.ofString "answers", .ref _), (Str.ofString "edges", .ref D2)]) 15
            (fun i c => IntsAre c.hs ((hlN es i).map fun n : Nat => (n : Int)) ∧ ∃ v, c.oK.data = Data.cell v) ⟨[], 0, _⟩ (fun _ => rfl) rfl rgX small16 size16 (by exact hoff14) F32 N32 (by with_unfolding_all kst_all) ⟨.nil, _, by assumption⟩ ?_ ?_
          · clear F32 N32 rgX
            rintro i t ⟨hs, nH, oK2⟩ u2 ⟨h, g, dr, tk, os⟩ own2 hi hin hoff ⟨hH, v2, hoK2⟩ F34 N34
            dsimp only [kstB] at F34 N34 hH hoK2 hoff ⊢
            refine hideQ ?_
            intro QH hQH
            rename Phase _ => hphO
            clear hphO
            have hph : Phase 13 := .mk 13
            rename Fr _ _ _ _ => F34
            rename News _ _ _ _ => N34
            rw [show (1 : Int) + (i : Int) = ((i + 1 : Nat) : Int) by omega]
            have hback : ∀ p ∈ tupsLed T, p ∈ own2 := fun p hp => hin p (by rw [hown]; exact .tail _ hp)
            have hk16 : i + 1 < 16 := by omega
            have hk0 : i + 1 ≠ 0 := by omega
            simp only [List.cons_append, List.nil_append] at N34
            k_steps
            refine Stop.out ?_
            rename Fr _ _ _ _ => F35
            (with_unfolding_all refine For_invTF F35 ?_ (by intro _; rfl))
            k_steps
            refine Stop.out ?_
            rename Fr _ _ _ _ => F36
            rename News _ _ _ _ => N36
            refine my_listT (σ := HE) (D := D2) (vs := tupRefs T) (nn := nE) (fun c => [(_, listOf c.hs.toArray c.nH), _, _, _, _, _, _, _, _, _]) own2 (fun _ => [(Str.ofString "due", .int (2 * ((wordL f0 f1 f2 f3 (i + 1)).length : Int) - 4) _), (Str.ofString "words", .ref _), (Str.ofString "answers", .ref _), (Str.ofString "edges", .ref D2)])
              (fun j c => IntsAre c.hs ((hlN es i ++ hjN es (i + 1) j).map fun n : Nat => (n : Int))) ⟨hs, nH⟩ quiet_tuple (fun _ => rfl) rfl (hin _ (by rw [hown]; exact .head _)) (by exact hoff) F36 N36 (by with_unfolding_all kst_all) ?hP ?_ ?_
            case hP => rw [hj_zero, List.append_nil]; exact hH
            · clear F36 N36 hin
              rintro j v ⟨hs2, nH2⟩ u3 ⟨hh8, gg8, dd8, tt8, os8⟩ own3 hv hin3 hoff3 hP F37 N37
              obtain ⟨⟨ta, tp, tq, ttp, ttq, tn⟩, e, rfl, hej, hp, hq, htm⟩ := tup_at hE hv
              dsimp only [kstB] at F37 N37 hP hp hq htm hoff3 ⊢
              refine hideQ ?_
              intro QI hQI
              rename Phase _ => hphO
              clear hphO
              have hph : Phase 14 := .mk 14
              subst hp hq
              obtain ⟨he6, hp0, hp4, hq0, hq4⟩ := edge_ends hes hej
              have N38 := see_own N37 (hin3 _ (hback _ htm))
              clear N37
              simp only [List.cons_append, List.nil_append] at N38
              k_steps
              refine Stop.out ?_
              rename Fr _ _ _ _ => F38
              obtain ⟨hpr1, hpr2⟩ := held_ok hF hk16 hk0 he6 rfl
              generalize lev cst (wordL f0 f1 f2 f3 (i + 1)) (wordL f0 f1 f2 f3 (maskE e)) (2 * ((wordL f0 f1 f2 f3 (i + 1)).length : Int) - 4) = pr at F38 hpr1 hpr2
              refine wpAny_If ?_
              k_steps
              refine Stop.out ?_
              have hsl : hs2.length ≤ 1000 := by
                rw [hP.length, List.length_map, List.length_append]
                have h1 := hl_len hen.2 i
                have h2 := hj_len es (i + 1) j
                omega
              refine wpAny_If ?_
              k_steps
              · have hi1 : incl (maskE e) (i + 1) = true := by rw [← hpr2]; first | assumption | (rw [beq_iff_eq]; assumption)
                subst hQI; dsimp only [MyPostT]
                (rename Fr _ _ _ _ => fE; rename News _ _ _ _ => nE; (refine' my_end ⟨_, _⟩ fE nE ?e1 ?e2 ?e3 ?_); (case e1 => walk_at "my names"); (case e2 => walk_at "my sub"); (case e3 => first | exact mem_nilE | exact mem_rightE | (walk_at "my own") | kst_in); (try dsimp only))
                rw [hj_yes hej hi1, ← List.append_assoc, List.map_append]
                exact ints_snoc hP
              · have hi1 : incl (maskE e) (i + 1) = false := by rw [← hpr2]; first | assumption | (rw [beq_eq_false_iff_ne]; assumption)
                subst hQI; dsimp only [MyPostT]
                (rename Fr _ _ _ _ => fE; rename News _ _ _ _ => nE; (refine' my_end ⟨_, _⟩ fE nE ?e1 ?e2 ?e3 ?_); (case e1 => walk_at "my names"); (case e2 => walk_at "my sub"); (case e3 => first | exact mem_nilE | exact mem_rightE | (walk_at "my own") | kst_in); (try dsimp only))
                rw [hj_no hej hi1]
                exact hP
            · clear F36 N36
              rintro ⟨hs2, nH2⟩ u3 h3 tk3 hP F37 N37
              dsimp only [kstB] at F37 N37 hP ⊢
              rename Phase _ => hphO
              clear hphO
              have hph : Phase 15 := .mk 15
              have hTl : (tupRefs T).length = es.length := by
                have h := congrArg List.length hE
                rw [List.length_map, List.length_map] at h
                rw [tupRefs, List.length_map, h]
              rw [hTl] at hP
              k_steps
              subst hQH; dsimp only [MyPostT]
              (rename Fr _ _ _ _ => fE; rename News _ _ _ _ => nE; (refine' my_end ⟨_, _, _⟩ fE nE ?e1 ?e2 ?e3 ?_); (case e1 => walk_at "my names"); (case e2 => walk_at "my sub"); (case e3 => first | exact mem_nilE | exact mem_rightE | (walk_at "my own") | kst_in); (try dsimp only))
              refine ⟨?_, _, by assumption⟩
              rw [hlN]
              exact hP
          · clear F32 N32 rgX
            rintro ⟨hs, nH, oK2⟩ u2 h2 tk2 ⟨hH, v2, hoK2⟩ F34 N34
            dsimp only [kstB] at F34 N34 hH hoK2 ⊢
            rename Phase _ => hphO
            clear hphO
            have hph : Phase 16 := .mk 16
            rename Fr _ _ _ _ => F34
            rename News _ _ _ _ => N34
            rename RowsAre _ (placesUp 4) => hR0
            k_steps
            refine Stop.out ?_
            rename Fr _ _ _ _ => F35
            (with_unfolding_all refine For_invTF F35 ?_ (by intro _; rfl))
            k_steps
            refine Stop.out ?_
            rename Rows _ _ _ => R9
            rename (∀ p ∈ _, ∀ q ∈ _, _ ≠ _) => sep9
            rename Fr _ _ _ _ => F36
            rename News _ _ _ _ => N36
            obtain ⟨DQ, nQ, R2, rfl, rfl, hR2⟩ := R9
            have N37 := rows_back N36
            have hoff15 := rows_off hoff14 rfl sep9
            clear N36 sep9
            refine my_listT (σ := AM) (D := DQ) (vs := refs R2) (nn := nQ) (fun _ => [_, _, _, _, _, _, _, _, _, _]) ((DQ, listOf (refs R2).toArray nQ) :: (rowsLed R2 ++ own)) (fun c => [(Str.ofString "amount", .int c.am c.ta), (Str.ofString "answers", .ref _)])
              (fun i c => c.am = amtN es i) ⟨0, _⟩ quiet_name (fun _ => rfl) rfl (.head _) (by exact hoff15) F36 N37 (by with_unfolding_all kst_all) rfl ?_ ?_
            · clear F36 N37
              rintro i v ⟨am, ta⟩ u3 ⟨hh9, gg9, dd9, tt9, os9⟩ own2 hv hin hoff2 ham F38 N38
              dsimp only [kstB] at F38 N38 ham hoff2 ⊢
              obtain ⟨r, hr, rfl⟩ := refs_at hv
              obtain ⟨l, hl2, hIr⟩ := paired_at hR2 hr
              refine hideQ ?_
              intro QQ hQQ
              rename Phase _ => hphO
              clear hphO
              have hph : Phase 17 := .mk 17
              rename IntsAre r.us _ => hIr
              rename News _ _ _ _ => N38
              have hrm := hin _ (.tail _ (List.mem_append_left _ (row_mem hr)))
              obtain ⟨hi, rfl⟩ := pt_row hl2
              have N39 := see_own N38 hrm
              clear N38
              simp only [List.cons_append, List.nil_append] at N39
              rename IntsAre hs _ => hH
              k_steps
              refine Stop.out ?_
              obtain ⟨hpl4, hpl1, hpin⟩ := pt_tab i hi
              have hrl : r.us.length = (ptN i).length := by rw [hIr.length, List.length_map]
              refine test_src (vs := r.us) (k := r.n) (fun k => ((hlN es 15).map fun n : Nat => (n : Int)).any (· == k)) (by rfl) (by k_asm) (by k_asm) (by k_mem) hIr (by rw [List.length_map]; omega) ?_ ?_
              · intro k t I oI C oC D m₂ ys l h tk E' hk hl hC hx F N off ne
                k_steps
              · intro g ys hc
                k_steps
                · have hfr : (ptN i).any (heldN es) = false := by
                    rw [← Bool.not_eq_true', ← part_held hi]
                    first | assumption | (rw [List.isEmpty_iff]; assumption)
                  subst hQQ; dsimp only [MyPostT]
                  (rename Fr _ _ _ _ => fE; rename News _ _ _ _ => nE; (refine' my_end ⟨_, _⟩ fE nE ?e1 ?e2 ?e3 ?_); (case e1 => walk_at "my names"); (case e2 => walk_at "my sub"); (case e3 => first | exact mem_nilE | exact mem_rightE | (walk_at "my own") | kst_in); (try dsimp only))
                  rw [amt_free hfr, ham]
                · have hfr : (ptN i).any (heldN es) = true := by
                    rw [← Bool.not_eq_false', ← part_held hi]
                    first | assumption | (rw [List.isEmpty_eq_false_iff]; assumption)
                  subst hQQ; dsimp only [MyPostT]
                  (rename Fr _ _ _ _ => fE; rename News _ _ _ _ => nE; (refine' my_end ⟨_, _⟩ fE nE ?e1 ?e2 ?e3 ?_); (case e1 => walk_at "my names"); (case e2 => walk_at "my sub"); (case e3 => first | exact mem_nilE | exact mem_rightE | (walk_at "my own") | kst_in); (try dsimp only))
                  rw [amt_held hfr, ham]
            · clear F36 N37
              rintro ⟨am, ta⟩ u3 h3 tk3 ham F38 N38
              dsimp only [kstB] at F38 N38 ham ⊢
              rename Phase _ => hphO
              clear hphO
              have hph : Phase 18 := .mk 18
              rename News _ _ _ _ => N38
              rename Fr _ _ _ _ => F38
              rw [rows15 hR2] at ham
              have hlaw := law_all hes
              rw [← ham] at hlaw
              rw [hlaw] at F38
              rename IntsAre as _ => hA
              have hAl : as.length = (ansN es 24).length := by rw [hA.length, List.length_map]
              have hA24 := ans_len es 24
              generalize (ansN es 24).length = nn at F38 hAl hA24
              simp only [List.cons_append, List.nil_append] at N38
              k_steps))
end
end Mine
theorem PySem.Challenge.cw_rw0046_02_holds : PySem.Challenge.rw_rw0046_02.Holds := by
  exact Mine.law_holds
