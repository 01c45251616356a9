import PyProof.Rows.All
import Wide.All
import OpenK.AllK
import Wide.FinOn
import PySem.Challenge.RW_fw0003_01
open PySem PySem.W PyProof.Rows
set_option Elab.async false
set_option maxRecDepth 100000
namespace Mine
open_top hd for PySem.Challenge.rw_fw0003_01
end Mine

/- Base -/
namespace Mine

/-- the frame's map with some of its values written in front -/
def lk (u : Str → Option Value) : List (Str × Value) → Str → Option Value
  | [] => u
  | p :: r => fun z => if z = p.1 then some p.2 else lk u r z
theorem lk_eq {u : Str → Option Value} : ∀ {ps : List (Str × Value)}, (∀ p ∈ ps, u p.1 = some p.2) → lk u ps = u
  | [], _ => rfl
  | p :: r, h => by
    have ih : lk u r = u := lk_eq fun q hq => h q (.tail _ hq)
    funext z
    show (if z = p.1 then some p.2 else lk u r z) = u z
    rw [ih]
    by_cases e : z = p.1
    · rw [if_pos e, e]; exact (h p (.head _)).symm
    · rw [if_neg e]

def IsSeq (o : Obj) (vs : List Value) : Prop := (o.cls = .type "list" ∨ o.cls = .type "tuple") ∧ ∃ n, o.data = .seq vs.toArray n

def FEnd {σ : Type} (h₀ : Heap) (L : Addr) (Led : σ → List (Addr × Obj)) (ps : σ → List (Str × Value)) (P : σ → Prop) (own : List (Addr × Obj)) (s₁ : Shared) (Q : Flow → Shared → Prop) (f : Flow) (s₂ : Shared) : Prop :=
  match f with
  | .ret v => Q (.ret v) s₂
  | .brk => Q .next s₂
  | _ => ∃ (c : σ) (h' : Heap) (tk : Nat) (m' : Str → Option Value) (nx : List (Addr × Obj)), s₂ = { s₁ with heap := h', toks := tk } ∧ Fr h₀ L h' m' ∧ News h₀ L h' nx ∧
      (∀ q ∈ Led c, q ∈ nx) ∧ (∀ q ∈ own, q ∈ nx) ∧ (∀ p ∈ ps c, m' p.1 = some p.2) ∧ P c

section
variable {prog : Program} {w : World} {A : Around} {E : Value → Shared → Prop} {s : Shared} {env : Env} {h₀ : Heap} {x : Str} {body : List Stmt} {Q : Flow → Shared → Prop}

theorem my_for0 {σ : Type} {d I : Addr} {o : Obj} {vs : List Value} {ns : List Int} {m₀ : Str → Option Value} {St : Nat → Heap → Prop} (Led : σ → List (Addr × Obj)) (ps : σ → List (Str × Value)) (P : List Int → σ → Prop) (c₀ : σ)
    (W : Walks prog w A I [I, d] [I] vs.length (fun i v => vs[i]? = some v) St) (hI : env.locals ≠ I) (hIn : h₀.get? I = none) (hIL : ∀ c : σ, ∀ q ∈ Led c, q.1 ≠ I)
    (hd : ∀ c : σ, (d, o) ∈ Led c) (hi : IntsAre vs ns) (hst : St 0 s.heap)
    (F : Fr h₀ env.locals s.heap m₀) (N : News h₀ env.locals s.heap (Led c₀)) (hk : ∀ p ∈ ps c₀, m₀ p.1 = some p.2) (hp : P ns c₀)
    (turn : ∀ (c : σ) (n : Int) (rest : List Int) (t : Tok) (u : Str → Option Value) (h : Heap) (tk : Nat) (own : List (Addr × Obj)), P (n :: rest) c → (∀ q ∈ own, ∀ r ∈ Led c, q.1 ≠ r.1) →
      Fr h₀ env.locals h (fun y => if y = x then some (.int n t) else lk u (ps c) y) → News h₀ env.locals h (Led c ++ own) →
      wpAny (model prog w) A (execs body env) (FEnd h₀ env.locals Led ps (P rest) own { s with heap := h, toks := tk } Q) E { s with heap := h, toks := tk })
    (done : ∀ (c : σ) (u : Str → Option Value) (h : Heap) (tk : Nat), P [] c → Fr h₀ env.locals h (lk u (ps c)) → News h₀ env.locals h (Led c) → Q .next { s with heap := h, toks := tk }) :
    LoopAtV prog w A h₀ env x body Q E (.ref I) s := by
  have hlen : vs.length = ns.length := hi.length
  have hLd : env.locals ≠ d := fun e => (N _ (hd c₀)).2.1 e.symm
  refine ⟨I, [I, d], [I], vs.length, _, St, m₀, Led c₀, (fun i m nx => ∃ c : σ, nx = Led c ∧ (∀ p ∈ ps c, m p.1 = some p.2) ∧ P (ns.drop i) c), rfl, W, ?_, ?_, ?_, hst, F, N, ⟨c₀, rfl, hk, by simpa using hp⟩, ?_, ?_⟩
  · intro hm
    rcases List.mem_cons.mp hm with e | hm
    · exact hI e
    · exact hLd (List.mem_singleton.mp hm)
  · intro b hb
    rw [List.mem_singleton.mp hb]; exact hIn
  · intro p hp' hm
    exact hIL c₀ p hp' (List.mem_singleton.mp hm)
  · rintro i v m₁ nx s₁ own ⟨h, tk, rfl⟩ hin hv ⟨c, rfl, hk₁, hp₁⟩ _ hown hget _ _ F₁ N₁
    have hlt : i < ns.length := hlen ▸ hin
    have hdr : ns.drop i = ns[i] :: ns.drop (i + 1) := List.drop_eq_getElem_cons hlt
    obtain ⟨t, hx⟩ := hi.get i ns[i] (by simp [hlt])
    have hv' : v = .int ns[i] t := by rw [hx] at hv; exact (Option.some.inj hv).symm
    subst hv'
    rw [hdr] at hp₁
    have hdo : h.get? d = some o := (N₁ _ (List.mem_append_right _ (hd c))).1
    have F₂ : Fr h₀ env.locals h (fun y => if y = x then some (.int ns[i] t) else lk m₁ (ps c) y) := by rw [lk_eq hk₁]; exact F₁
    have N₂ : News h₀ env.locals h (Led c ++ own.filter fun p => decide (p.1 = I)) := fun p hp' => N₁ p ((List.mem_append.mp hp').elim (fun q => List.mem_append_right _ q) fun q => List.mem_append_left _ (List.mem_filter.mp q).1)
    refine wpAny_mono (turn c _ _ t m₁ h tk _ hp₁ (fun q hq r hr => ?_) F₂ N₂) (fun f s₂ hf => ?_) fun _ _ e => e
    · have e : q.1 = I := by simpa using (List.mem_filter.mp hq).2
      rw [e]; exact (hIL c r hr).symm
    · have fin : FEnd h₀ env.locals Led ps (P (ns.drop (i + 1))) (own.filter fun p => decide (p.1 = I)) { s with heap := h, toks := tk } Q .next s₂ →
          LoopStepU h₀ env.locals [I] own (fun m nx => ∃ c : σ, nx = Led c ∧ (∀ p ∈ ps c, m p.1 = some p.2) ∧ P (ns.drop (i + 1)) c) { s with heap := h, toks := tk } .next s₂ := by
        rintro ⟨c', h', tk', m', nx, rfl, F', N', h1, h2, h3, h4⟩
        refine ⟨rfl, h', tk', m', Led c', rfl, F', fun p hp' => ?_, fun p hp' hm => hIL c' p hp' (List.mem_singleton.mp hm), c', rfl, h3, h4⟩
        rcases List.mem_append.mp hp' with q | q
        · by_cases e : p.1 = I
          · exact N' p (h2 p (List.mem_filter.mpr ⟨q, by simpa using e⟩))
          · have e2 : p.1 = d := by
              rcases List.mem_cons.mp (hown p q) with e3 | e3
              · exact absurd e3 e
              · exact List.mem_singleton.mp e3
            have e3 : h.get? p.1 = some p.2 := hget p q
            rw [e2, hdo] at e3
            have e4 : p = (d, o) := Prod.ext e2 (Option.some.inj e3).symm
            rw [e4]; exact N' _ (h1 _ (hd c'))
        · exact N' p (h1 p q)
      cases f with
      | ret v => exact .ret hf
      | brk => exact .brk hf
      | next => exact .next (fin hf)
      | cont => exact .cont (fin hf)
  · rintro h' tk m' nx F' N' _ ⟨c, rfl, hk', hp'⟩
    rw [hlen, List.drop_length] at hp'
    exact done c m' h' tk hp' (by rw [lk_eq hk']; exact F') N'

theorem my_for {σ : Type} {d : Addr} {o : Obj} {vs : List Value} {ns : List Int} {m₀ : Str → Option Value} (Led : σ → List (Addr × Obj)) (ps : σ → List (Str × Value)) (P : List Int → σ → Prop) (c₀ : σ)
    (hh : A.handled = none) (hadr : ∀ c c' : σ, (Led c).map (·.1) = (Led c').map (·.1)) (hd : ∀ c : σ, (d, o) ∈ Led c) (hs : IsSeq o vs) (hi : IntsAre vs ns)
    (F : Fr h₀ env.locals s.heap m₀) (N : News h₀ env.locals s.heap (Led c₀)) (hk : ∀ p ∈ ps c₀, m₀ p.1 = some p.2) (hp : P ns c₀)
    (turn : ∀ (c : σ) (n : Int) (rest : List Int) (t : Tok) (u : Str → Option Value) (h : Heap) (tk : Nat) (own : List (Addr × Obj)), P (n :: rest) c → (∀ q ∈ own, ∀ r ∈ Led c, q.1 ≠ r.1) →
      Fr h₀ env.locals h (fun y => if y = x then some (.int n t) else lk u (ps c) y) → News h₀ env.locals h (Led c ++ own) →
      wpAny (model prog w) A (execs body env) (FEnd h₀ env.locals Led ps (P rest) own { s with heap := h, toks := tk } Q) E { s with heap := h, toks := tk })
    (done : ∀ (c : σ) (u : Str → Option Value) (h : Heap) (tk : Nat), P [] c → Fr h₀ env.locals h (lk u (ps c)) → News h₀ env.locals h (Led c) → Q .next { s with heap := h, toks := tk }) :
    wpAny (model prog w) A (pyIter (.ref d)) (fun it s₂ => LoopAtV prog w A h₀ env x body Q E it s₂) E s := by
  have hdo := N _ (hd c₀)
  have hne : d ≠ s.heap.objs.size := Nat.ne_of_lt (Heap.lt_size hdo.1)
  have hIL : ∀ c : σ, ∀ q ∈ Led c, q.1 ≠ s.heap.objs.size := fun c q hq => by
    have h1 : q.1 ∈ (Led c).map (·.1) := List.mem_map_of_mem hq
    rw [hadr c c₀] at h1
    obtain ⟨r, hr, e⟩ := List.mem_map.mp h1
    rw [← e]; exact Nat.ne_of_lt (Heap.lt_size (N r hr).1)
  have N₁ : ∀ ob : Obj, News h₀ env.locals (s.heap.push ob) (Led c₀) := fun ob p hp => ⟨Heap.get?_push_of_some _ (N p hp).1, (N p hp).2⟩
  have hI : env.locals ≠ s.heap.objs.size := Nat.ne_of_lt F.ns.lt
  obtain ⟨hc, n, hdat⟩ := hs
  rcases hc with hc | hc
  · have hl : s.heap.IsList d vs.toArray := ⟨o, hdo.1, hc, n, hdat⟩
    refine wpAny_pyIter_list hl ?_
    have W := Walks.list (prog := prog) (w := w) hh s.heap.objs.size d hne vs.toArray
    simp only [List.size_toArray, List.getElem?_toArray] at W
    exact my_for0 (s := { s with heap := _ }) Led ps P c₀ W hI (next_is_new F) hIL hd hi ⟨⟨_, Heap.get?_push_size _ rfl, rfl, rfl⟩, hl.at fun o e => Heap.get?_push_of_some _ e⟩ (F.push _) (N₁ _) hk hp turn done
  · have hl : s.heap.IsTuple d vs.toArray := ⟨o, hdo.1, hc, n, hdat⟩
    refine wpAny_pyIter_tuple hl ?_
    have W := Walks.tuple (prog := prog) (w := w) hh s.heap.objs.size d hne vs.toArray
    simp only [List.size_toArray, List.getElem?_toArray] at W
    exact my_for0 (s := { s with heap := _ }) Led ps P c₀ W hI (next_is_new F) hIL hd hi ⟨⟨_, Heap.get?_push_size _ rfl, rfl, rfl⟩, hl.at fun o e => Heap.get?_push_of_some _ e⟩ (F.push _) (N₁ _) hk hp turn done

/-- a while: the state c, a measure -/
def WEnd {σ : Type} (h₀ : Heap) (L : Addr) (Led : σ → List (Addr × Obj)) (ps : σ → List (Str × Value)) (P : σ → Prop) (s₁ : Shared) (Q : Flow → Shared → Prop) (f : Flow) (s₂ : Shared) : Prop :=
  match f with
  | .ret v => Q (.ret v) s₂
  | .brk => Q .next s₂
  | _ => ∃ (c : σ) (h' : Heap) (tk : Nat) (m' : Str → Option Value) (nx : List (Addr × Obj)), s₂ = { s₁ with heap := h', toks := tk } ∧ Fr h₀ L h' m' ∧ News h₀ L h' nx ∧
      (∀ q ∈ Led c, q ∈ nx) ∧ (∀ p ∈ ps c, m' p.1 = some p.2) ∧ P c

theorem my_while {σ : Type} {test : Expr} {pos : Pos} {L : Addr} {m₀ : Str → Option Value} (Led : σ → List (Addr × Obj)) (ps : σ → List (Str × Value)) (P : Nat → σ → Prop) (c₀ : σ) (n₀ : Nat)
    (F : Fr h₀ L s.heap m₀) (N : News h₀ L s.heap (Led c₀)) (hk : ∀ p ∈ ps c₀, m₀ p.1 = some p.2) (hp : P n₀ c₀)
    (turn : ∀ (c : σ) (n : Nat) (u : Str → Option Value) (h : Heap) (tk : Nat), P n c → Fr h₀ L h (lk u (ps c)) → News h₀ L h (Led c) →
      wpAny (model prog w) A (isTrue test env (eval test env)) (fun b s₂ =>
        if b = true then wpAny (model prog w) A (execs body env) (WEnd h₀ L Led ps (fun c' => ∃ n', n' < n ∧ P n' c') s Q) E s₂ else Q .next s₂) E { s with heap := h, toks := tk })
    (hE : PassesOwn (model prog w) A env E := by passes_own) :
    wpAny (model prog w) A (exec (.While test body [] pos) env) Q E s := by
  refine While_inv2 (fun n m nx => ∃ c : σ, nx = Led c ∧ (∀ p ∈ ps c, m p.1 = some p.2) ∧ P n c) F N ⟨c₀, rfl, hk, hp⟩ ?_ hE
  rintro n m₁ nx h tk F₁ N₁ ⟨c, rfl, hk', hp'⟩
  refine wpAny_mono (turn c n m₁ h tk hp' (by rw [lk_eq hk']; exact F₁) N₁) (fun b s₂ q => ?_) fun _ _ e => e
  cases b with
  | false => simpa using q
  | true =>
    simp only [if_true] at q ⊢
    refine wpAny_mono q (fun f s₃ q => ?_) fun _ _ e => e
    cases f with
    | ret v => exact q
    | brk => exact q
    | next =>
      obtain ⟨c', h', tk', m', nx, rfl, F', N', h1, h2, n', hn, h3⟩ := q
      exact ⟨h', tk', m', Led c', n', rfl, F', fun p hp => N' p (h1 p hp), hn, c', rfl, h2, h3⟩
    | cont =>
      obtain ⟨c', h', tk', m', nx, rfl, F', N', h1, h2, n', hn, h3⟩ := q
      exact ⟨h', tk', m', Led c', n', rfl, F', fun p hp => N' p (h1 p hp), hn, c', rfl, h2, h3⟩
end
end Mine

/- Ops -/
namespace Mine

section
variable {prog : Program} {w : World} {A : Around} {E : Value → Shared → Prop} {s : Shared} {env : Env} {h₀ : Heap} {x : Str} {body : List Stmt} {Q : Flow → Shared → Prop}
theorem my_forR {σ : Type} {r : Addr} {a b c : Int} {t₀ u₀ v₀ : Tok} {n : Nat} {m₀ : Str → Option Value} (Led : σ → List (Addr × Obj)) (ps : σ → List (Str × Value)) (P : Nat → σ → Prop) (c₀ : σ)
    (hh : A.handled = none) (hadr : ∀ c c' : σ, (Led c).map (·.1) = (Led c').map (·.1)) (hr : IsRange s.heap r a b c t₀ u₀ v₀) (hsmall : Builtin.Range.small a b c = true) (hn : Builtin.Range.rangeSize a b c = (n : Int))
    (F : Fr h₀ env.locals s.heap m₀) (N : News h₀ env.locals s.heap (Led c₀)) (hk : ∀ p ∈ ps c₀, m₀ p.1 = some p.2) (hp : P 0 c₀)
    (turn : ∀ (c' : σ) (i : Nat) (t : Tok) (u : Str → Option Value) (h : Heap) (tk : Nat) (own : List (Addr × Obj)), i < n → P i c' → (∀ q ∈ own, ∀ r ∈ Led c', q.1 ≠ r.1) →
      Fr h₀ env.locals h (fun y => if y = x then some (.int (a + (i : Int) * c) t) else lk u (ps c') y) → News h₀ env.locals h (Led c' ++ own) →
      wpAny (model prog w) A (execs body env) (FEnd h₀ env.locals Led ps (P (i + 1)) own { s with heap := h, toks := tk } Q) E { s with heap := h, toks := tk })
    (done : ∀ (c' : σ) (u : Str → Option Value) (h : Heap) (tk : Nat), P n c' → Fr h₀ env.locals h (lk u (ps c')) → News h₀ env.locals h (Led c') → Q .next { s with heap := h, toks := tk }) :
    wpAny (model prog w) A (pyIter (.ref r)) (fun it s₂ => LoopAtV prog w A h₀ env x body Q E it s₂) E s := by
  refine wpAny_pyIter_range hr hsmall ?_
  have hIL : ∀ c : σ, ∀ q ∈ Led c, q.1 ≠ s.heap.objs.size := fun c q hq => by
    have h1 : q.1 ∈ (Led c).map (·.1) := List.mem_map_of_mem hq
    rw [hadr c c₀] at h1
    obtain ⟨r, hr, e⟩ := List.mem_map.mp h1
    rw [← e]; exact Nat.ne_of_lt (Heap.lt_size (N r hr).1)
  have hI : env.locals ≠ s.heap.objs.size := Nat.ne_of_lt F.ns.lt
  refine ⟨s.heap.objs.size, [s.heap.objs.size], [s.heap.objs.size], n, _, _, m₀, Led c₀, (fun i m nx => ∃ c : σ, nx = Led c ∧ (∀ p ∈ ps c, m p.1 = some p.2) ∧ P i c), rfl, Walks.range hh s.heap.objs.size a c n, ?_, ?_, ?_,
    (by show IsRangeIter _ _ _ _ _; rw [hn]; simpa using Heap.get?_push_size _ rfl), F.push _, (fun p hp => ⟨Heap.get?_push_of_some _ (N p hp).1, (N p hp).2⟩), ⟨c₀, rfl, hk, hp⟩, ?_, ?_⟩
  · intro hm; exact hI (List.mem_singleton.mp hm)
  · intro b hb
    rw [List.mem_singleton.mp hb]; exact next_is_new F
  · intro p hp' hm; exact hIL c₀ p hp' (List.mem_singleton.mp hm)
  · rintro i v m₁ nx s₁ own ⟨h, tk, rfl⟩ hin ⟨t, rfl⟩ ⟨c', rfl, hk₁, hp₁⟩ _ hown hget _ _ F₁ N₁
    have F₂ : Fr h₀ env.locals h (fun y => if y = x then some (.int (a + (i : Int) * c) t) else lk m₁ (ps c') y) := by rw [lk_eq hk₁]; exact F₁
    have N₂ : News h₀ env.locals h (Led c' ++ own) := fun p hp' => N₁ p ((List.mem_append.mp hp').elim (fun q => List.mem_append_right _ q) fun q => List.mem_append_left _ q)
    refine wpAny_mono (turn c' i t m₁ h tk own hin hp₁ (fun q hq r hr => ?_) F₂ N₂) (fun f s₂ hf => ?_) fun _ _ e => e
    · rw [List.mem_singleton.mp (hown q hq)]; exact (hIL c' r hr).symm
    · have fin : FEnd h₀ env.locals Led ps (P (i + 1)) own { s with heap := h, toks := tk } Q .next s₂ →
          LoopStepU h₀ env.locals [s.heap.objs.size] own (fun m nx => ∃ c : σ, nx = Led c ∧ (∀ p ∈ ps c, m p.1 = some p.2) ∧ P (i + 1) c) { s with heap := h, toks := tk } .next s₂ := by
        rintro ⟨c', h', tk', m', nx, rfl, F', N', h1, h2, h3, h4⟩
        exact ⟨rfl, h', tk', m', Led c', rfl, F', fun p hp' => (List.mem_append.mp hp').elim (fun q => N' p (h2 p q)) (fun q => N' p (h1 p q)), fun p hp' hm => hIL c' p hp' (List.mem_singleton.mp hm), c', rfl, h3, h4⟩
      cases f with
      | ret v => exact .ret hf
      | brk => exact .brk hf
      | next => exact .next (fin hf)
      | cont => exact .cont (fin hf)
  · rintro h' tk m' nx F' N' _ ⟨c', rfl, hk', hp'⟩
    exact done c' m' h' tk hp' (by rw [lk_eq hk']; exact F') N'
end

section
variable {prog : Program} {w : World} {A : Around} {E : Value → Shared → Prop} {s : Shared} {h₀ : Heap} {L : Addr} {m : Str → Option Value} {news : List (Addr × Obj)}
theorem isL {l : Addr} {us : List Value} {k : Nat} (N : News h₀ L s.heap news) (hm : (l, listOf us.toArray k) ∈ news) : s.heap.IsList l us.toArray := ⟨_, (N _ hm).1, rfl, k, rfl⟩
theorem my_len {l : Addr} {us : List Value} {k : Nat} {ns : List Int} {Q : Value → Shared → Prop} (N : News h₀ L s.heap news) (hm : (l, listOf us.toArray k) ∈ news) (hi : IntsAre us ns) (hfit : ns.length < 2 ^ 62)
    (h : Q (.int (ns.length : Nat) (s.toks + 1)) { s with toks := s.toks + 1 + 1 }) : wpAny (model prog w) A (call (.builtin "len") [.ref l]) Q E s :=
  len_ints_fit (isL N hm) hi hfit h

def cut (ns : List Int) (lo hi : Option Int) : List Int := (ns.drop (lo.elim 0 (clipAt ns.length))).take (hi.elim ns.length (clipAt ns.length) - lo.elim 0 (clipAt ns.length))
theorem cut_ints {vs : List Value} {ns : List Int} (h : IntsAre vs ns) (lo hi : Option Int) : IntsAre (slicePick vs.toArray lo hi none).toList (cut ns lo hi) := by
  rw [slicePick_plain]
  have e : vs.toArray.size = ns.length := by simp [h.length]
  simp only [e]
  exact (h.drop _).take _
theorem cut_len (ns : List Int) (lo hi : Option Int) : (cut ns lo hi).length ≤ ns.length := by
  unfold cut
  rw [List.length_take, List.length_drop]; omega
theorem my_slice {value slice : Expr} {l : Addr} {us : List Value} {k : Nat} {ns : List Int} {vl vu : Value} {lo hi : Option Int} {Q : Value → Shared → Prop}
    (F : Fr h₀ L s.heap m) (N : News h₀ L s.heap news) (hm : (l, listOf us.toArray k) ∈ news) (hi' : IntsAre us ns) (pl : IsPart vl lo) (pu : IsPart vu hi) (hsz : ns.length ≤ 2 ^ 24)
    (h : ∀ l' vs h', Fr h₀ L h' m → News h₀ L h' ((l', listOf vs.toArray 0) :: news) → (∀ p ∈ news, p.1 < l') → IntsAre vs (cut ns lo hi) → (cut ns lo hi).length ≤ ns.length → Q (.ref l') { s with heap := h' })
    (hs : subscripted slice false (.ref l) (.ref s.heap.objs.size) = operate [.ref s.heap.objs.size, .ref l] (getItem (.ref l) (.ref s.heap.objs.size)) := by with_unfolding_all rfl)
    (ht : ∀ r, letTemporaryGo value (.ref l) r = pure () := by intro _; with_unfolding_all rfl) :
    wpAny (model prog w) A (subscriptTail value slice (.ref l) (.ref s.heap.objs.size)) Q E { s with heap := s.heap.push { cls := .type "slice", data := .fields #[vl, vu, .none] } } := by
  refine slice_list F N (isL N hm) pl pu (fun h' F' N' => ?_) hs ht (by rw [List.size_toArray, hi'.length, sizeLine_eq]; exact hsz)
  exact h _ (slicePick us.toArray lo hi none).toList h' F' (by simpa using N') (fun p hp => Nat.lt_succ_of_lt (Heap.lt_size (N p hp).1)) (cut_ints hi' lo hi) (cut_len ns lo hi)
end
end Mine

/- Conv2 -/
namespace Mine
local macro_rules | `(tactic| walk_at "mypad0") => `(tactic| skip)
local macro_rules | `(tactic| walk_at "mypad1") => `(tactic| skip)
local macro_rules | `(tactic| walk_at "mypad2") => `(tactic| skip)
local macro_rules | `(tactic| walk_at "mypad3") => `(tactic| skip)
local macro_rules | `(tactic| walk_at "mypad4") => `(tactic| skip)
local macro_rules | `(tactic| walk_at "mypad5") => `(tactic| skip)
local macro_rules | `(tactic| walk_at "mypad6") => `(tactic| skip)
local macro_rules | `(tactic| walk_at "mypad7") => `(tactic| skip)
local macro_rules | `(tactic| walk_at "mypad8") => `(tactic| skip)
local macro_rules | `(tactic| walk_at "mypad9") => `(tactic| skip)
local macro_rules | `(tactic| walk_at "mypad10") => `(tactic| skip)
local macro_rules | `(tactic| walk_at "mypad11") => `(tactic| skip)
local macro_rules | `(tactic| walk_at "mypad12") => `(tactic| skip)
local macro_rules | `(tactic| walk_at "mypad13") => `(tactic| skip)
local macro_rules | `(tactic| walk_at "mypad14") => `(tactic| skip)
local macro_rules | `(tactic| walk_at "mypad15") => `(tactic| skip)
local macro_rules | `(tactic| walk_at "mypad16") => `(tactic| skip)
abbrev PR : Program := PySem.Challenge.rw_fw0003_01.row.prog

/-- the walk stops here -/
def stopHere {α : Type} (t : Sem α) : Sem α := t
theorem with_addr {h₀ h : Heap} {L l : Addr} {o : Obj} {rest : List (Addr × Obj)} (_ : News h₀ L h ((l, o) :: rest)) {P : Prop} (k : ∀ l', l' = l → P) : P := k l rfl
theorem stop_here {α : Type} {M : Model} {A : Around} {t : Sem α} {Q : α → Shared → Prop} {E : Value → Shared → Prop} {s : Shared} (h : wpAny M A (stopHere t) Q E s) : wpAny M A t Q E s := h

section
variable {prog : Program} {w : World} {A : Around} {E : Value → Shared → Prop} {s : Shared} {a n : Int} {t u : Tok} {Q : Value → Shared → Prop}
theorem shl_ok (hn : 0 ≤ n) (hn2 : n ≤ 1000) (h0 : 0 ≤ a) (h1 : a < 2 ^ 100) (h : Q (.int (a * 2 ^ n.toNat) s.toks) { s with toks := s.toks + 1 }) : wpAny (model prog w) A (binaryOp .LShift (.int a t) (.int n u)) Q E s := by
  refine lshift_int hn ?_ h
  have hb : Builtin.Int.intBits a ≤ 100 := PySem.intBits_le_iff.mpr (by omega)
  omega
end
local macro_rules | `(tactic| walk_at "binaryOp LShift int int") => `(tactic| (refine shl_ok ?kb1 ?kb2 ?kb3 ?kb4 ?_; (case kb1 => omega); (case kb2 => omega); (case kb3 => omega); (case kb4 => omega)))
local macro_rules | `(tactic| walk_at "binaryOp RShift int int") => `(tactic| (refine rshift_int ?kb1 ?_; (case kb1 => omega)))
local macro_rules | `(tactic| walk_at "exec While Compare cons nil") => `(tactic| (refine stop_here ?_))
local macro_rules | `(tactic| walk_at "pyIter ref") => `(tactic| (refine stop_here ?_))

local macro_rules | `(tactic| walk_at "call builtin:list.append") => `(tactic| (k_here; (with_reducible show wpAny _ _ (call (Value.builtin _) [Value.ref _, _]) _ _ _); k_dflt (refine' append_K ?k1 ?k2 ?k3 ?_ ?z; (case k1 => k_asm); (case k2 => k_asm); (case k3 => exact Upd.head (by assumption)); (case z => assumption); k_whole); intro h' F' N'; (try k_sweep)))

def wl (tb acc : Int) : Nat → Int → List Int → Int × List Int
  | 0, bits, ret => (bits, ret)
  | k + 1, bits, ret => if tb ≤ bits then wl tb acc k (bits - tb) (ret ++ [Builtin.bitAnd (acc.fdiv (2 ^ (bits - tb).toNat)) (1 * 2 ^ tb.toNat - 1)]) else (bits, ret)
def cf (fb tb : Int) : List Int → Int → Int → List Int → Option (Int × Int × List Int)
  | [], acc, bits, ret => some (acc, bits, ret)
  | x :: r, acc, bits, ret => if x < 0 ∨ x.fdiv (2 ^ fb.toNat) ≠ 0 then none else
    let acc' := Builtin.bitAnd (Builtin.bitOr (acc * 2 ^ fb.toNat) x) (1 * 2 ^ (fb + tb - 1).toNat - 1)
    let p := wl tb acc' (bits + fb).toNat (bits + fb) ret
    cf fb tb r acc' p.1 p.2
def cfin (fb tb : Int) (pad : Bool) : Option (Int × Int × List Int) → Option (List Int)
  | none => none
  | some (acc, bits, ys) =>
    if pad = true then (if bits = 0 then some ys else some (ys ++ [Builtin.bitAnd (acc * 2 ^ (tb - bits).toNat) (1 * 2 ^ tb.toNat - 1)]))
    else if fb ≤ bits ∨ Builtin.bitAnd (acc * 2 ^ (tb - bits).toNat) (1 * 2 ^ tb.toNat - 1) ≠ 0 then none else some ys
def conv (xs : List Int) (fb tb : Int) (pad : Bool) : Option (List Int) := cfin fb tb pad (cf fb tb xs 0 0 [])

theorem acc_bd (x k : Int) (hk : k ≤ 99) : 0 ≤ Builtin.bitAnd x (1 * 2 ^ k.toNat - 1) ∧ Builtin.bitAnd x (1 * 2 ^ k.toNat - 1) < 2 ^ 100 := by
  rw [Int.one_mul, kbt_mask]
  have hp := kbt_pos k.toNat
  refine ⟨Int.emod_nonneg _ (by omega), Int.lt_trans (Int.emod_lt_of_pos _ hp) ?_⟩
  have h1 : (2 : Nat) ^ k.toNat < 2 ^ 100 := Nat.pow_lt_pow_right (by decide) (by omega)
  have h2 := kbt_cast k.toNat
  omega

def Ans (h₀ : Heap) (L : Addr) (m : Str → Option Value) (news : List (Addr × Obj)) (s : Shared) (Q : Value → Shared → Prop) : Option (List Int) → Prop
  | none => ∀ h' tk', Fr h₀ L h' m → News h₀ L h' news → Q .none { s with heap := h', toks := tk' }
  | some ys => ∀ l vs k h' tk', Fr h₀ L h' m → News h₀ L h' ((l, listOf vs.toArray k) :: news) → (∀ q ∈ news, q.1 < l) → IntsAre vs ys → Q (.ref l) { s with heap := h', toks := tk' }

structure CS where
  acc : Int
  ta : Tok
  bits : Int
  tb : Tok
  vs : List Value
  ys : List Int
  k : Nat
  tv : Tok
  tm : Tok

set_option maxHeartbeats 8000000 in
theorem conv_spec {w : World} {p : Program} {loose : List Str} {mean : ExcName → Option Value} {mg mb : Str → Option Value}
  {dp un : Nat} {gd : Option (List Code)} {cn : Str} {cs : Scope} {a : Addr} {ccd : Value} {cl : List (Str × Addr)} {outer : List Env} {A₀ : Around} {base h₀ : Heap} {L : Addr} {m : Str → Option Value} {news : List (Addr × Obj)} {s : Shared} {Q E : Value → Shared → Prop}
  {d : Addr} {o : Obj} {us : List Value} {xs : List Int} {fb tb : Int} {t1 t2 : Tok} {pad : Bool}
  (B : Below A₀ base outer h₀) (F : Fr h₀ L s.heap m) (X : (hd.heap_39 w.params).In h₀) (N : News h₀ L s.heap news) (T : Top p loose mean mg mb h₀) (hk : cs.kind = .function)
  (hdt : (d, o) ∈ news) (hso : IsSeq o us) (hi : IntsAre us xs) (hf1 : 1 ≤ fb) (hf2 : fb ≤ 40) (ht1 : 1 ≤ tb) (ht2 : tb ≤ 40)
  (hlen : xs.length ≤ 10000)
  (hdp : dp + 1 < recursionLimit)
  (hret : Ans h₀ L m news s Q (conv xs fb tb pad)) :
  wpAny (model PR w) (ktrTop dp un gd cn cs L a ccd cl outer) (call (.ref 22) [.ref d, .int fb t1, .int tb t2, .bool pad]) Q E s := by
  w_top off
  refine wpAny_call ?_
  (refine' code_def ?k1 ?k2 ?k3 ?k4 ?k5 ?kA ?kF ?kK ?k6 ?k7 ?k8 ?k9 ?kB ?_ ?c2 ?c3 ?c4 ?c5; (case kA => exact rfl); (case kF => exact rfl); (case kK => assumption); (case k1 => k_asm); (case k2 => k_asm); (case k3 => k_asm); (case k4 => k_asm); (case k5 => k_asm); (case k6 => k_dflt k_is); (case k7 => k_dflt k_is); (case k8 => ktr_room); (case k9 => exact binds_K (by k_in) rfl (by k_dflt k_is) rfl rfl rfl); (case c5 => decide); (case kB => exact locs rfl); (case c2 => exact rfl); (case c3 => exact rfl); (case c4 => exact rfl); k_whole; intro g' L' h' FG' F' N' B' X' T'; (try dsimp only); (try k_fold))
  k_steps
  rename Fr _ _ _ _ => F1
  rename News _ _ _ _ => N1
  rename (∀ p ∈ news, p.1 < _) => hl1
  rename IntsAre us xs => hi
  refine with_addr N1 fun l1 e => ?_
  subst e
  refine' my_for (o := o) (σ := CS) (fun c => (l1, listOf c.vs.toArray c.k) :: news)
    (fun c => [("acc", .int c.acc c.ta), ("bits", .int c.bits c.tb), ("ret", .ref l1), ("maxv", .int (1 * 2 ^ tb.toNat - 1) c.tv), ("max_acc", .int (1 * 2 ^ (fb + tb - 1).toNat - 1) c.tm),
      ("frombits", .int fb t1), ("tobits", .int tb t2), ("pad", .bool pad)])
    (fun rest c => IntsAre c.vs c.ys ∧ 0 ≤ c.acc ∧ c.acc < 2 ^ 100 ∧ 0 ≤ c.bits ∧ c.bits < tb ∧ (c.ys.length : Int) + c.bits + 40 * (rest.length : Int) ≤ 40 * (xs.length : Int) ∧ cf fb tb rest c.acc c.bits c.ys = cf fb tb xs 0 0 [])
    ⟨0, ?t1, 0, ?t2, [], [], 0, ?t3, ?t4⟩ rfl (fun _ _ => rfl) (fun _ => .tail _ hdt) hso hi F1 N1 ?hk ?hp ?turn ?done
  case hk => kst_all
  case hp => exact ⟨.nil, Int.le_refl _, by show (0:Int) < _; omega, Int.le_refl _, by show (0:Int) < _; omega, by simp, rfl⟩
  case turn =>
    clear F1 N1
    intro c n rest t u h tk own ⟨hv, ha0, ha1, hb0, hb1, hcl, hc⟩ hoff F1 N1
    have hne : ∀ q ∈ news ++ own, q.1 ≠ l1 := fun q hq => (List.mem_append.mp hq).elim (fun e => Nat.ne_of_lt (hl1 q e)) (fun e => hoff q e _ (.head _))
    (try k_fold)
    k_steps
    · rename n < 0 => hneg
      have hR : conv xs fb tb pad = none := by
        unfold conv; rw [← hc]; simp [cf, hneg, cfin]
      rw [hR] at hret
      dsimp only [FEnd]
      (try k_unfold)
      (try dsimp only)
      k_steps
      exact hret _ _ (by assumption) (fun q hq => (by assumption : News h₀ L _ _) q (.tail _ (List.mem_append_left _ hq)))
    · rename ¬ n.fdiv _ = 0 => hbig
      have hR : conv xs fb tb pad = none := by
        unfold conv; rw [← hc]; simp [cf, hbig, cfin]
      rw [hR] at hret
      dsimp only [FEnd]
      (try k_unfold)
      (try dsimp only)
      k_steps
      exact hret _ _ (by assumption) (fun q hq => (by assumption : News h₀ L _ _) q (.tail _ (List.mem_append_left _ hq)))
    · rename Fr _ _ _ _ => F2
      rename News _ _ _ _ => N2
      rename n.fdiv _ = 0 => hsmall
      rename ¬ n < 0 => hnn
      refine' my_while (σ := CS) (fun c => (l1, listOf c.vs.toArray c.k) :: (news ++ own))
        (fun c => [("acc", .int c.acc c.ta), ("bits", .int c.bits c.tb), ("ret", .ref l1), ("maxv", .int (1 * 2 ^ tb.toNat - 1) c.tv), ("max_acc", .int (1 * 2 ^ (fb + tb - 1).toNat - 1) c.tm),
          ("frombits", .int fb t1), ("tobits", .int tb t2), ("pad", .bool pad)])
        (fun n' c' => IntsAre c'.vs c'.ys ∧ c'.acc = Builtin.bitAnd (Builtin.bitOr (c.acc * 2 ^ fb.toNat) n) (1 * 2 ^ (fb + tb - 1).toNat - 1) ∧ 0 ≤ c'.bits ∧ c'.bits.toNat ≤ n' ∧
          (c'.ys.length : Int) + c'.bits ≤ c.ys.length + c.bits + fb ∧
          wl tb c'.acc n' c'.bits c'.ys = wl tb c'.acc (c.bits + fb).toNat (c.bits + fb) c.ys)
        ⟨Builtin.bitAnd (Builtin.bitOr (c.acc * 2 ^ fb.toNat) n) (1 * 2 ^ (fb + tb - 1).toNat - 1), ?w0, c.bits + fb, ?w2, c.vs, c.ys, c.k, ?w3, ?w4⟩ (c.bits + fb).toNat F2 N2 ?hk ⟨hv, rfl, by show 0 ≤ c.bits + fb; omega, Nat.le_refl _, by show (c.ys.length : Int) + (c.bits + fb) ≤ c.ys.length + c.bits + fb; omega, rfl⟩ ?turn
      case hk => kst_all
      case turn =>
        clear F2 N2 F1 N1
        intro c2 n2 u2 h2 tk2 ⟨hv2, ha2, hb2, hbn2, hcl2, hw2⟩ F2 N2
        have hsz : c2.vs.toArray.size ≤ sizeLine := by
          rw [sizeLine_eq, List.size_toArray, hv2.length]
          simp only [List.length_cons] at hcl
          omega
        (try k_fold)
        k_steps
        · rename tb ≤ c2.bits => hle
          dsimp only [WEnd]
          obtain ⟨n3, rfl⟩ : ∃ n3, n2 = n3 + 1 := ⟨n2 - 1, by omega⟩
          rename Fr _ _ _ _ => F3
          rename News _ _ _ _ => N3
          (try simp only [List.push_toArray] at N3)
          refine' ⟨⟨c2.acc, ?v0, c2.bits - tb, ?v1, ?v5, c2.ys ++ [Builtin.bitAnd (c2.acc.fdiv (2 ^ (c2.bits - tb).toNat)) (1 * 2 ^ tb.toNat - 1)], ?v6, ?v2, ?v3⟩, _, _, _, _, rfl, F3, N3, fun q hq => hq, ?hk, n3, Nat.lt_succ_self _, ?hP⟩
          case hk => kst_all
          case hP =>
            refine ⟨hv2.append (.cons _ _ .nil), ha2, by show 0 ≤ c2.bits - tb; omega, by show (c2.bits - tb).toNat ≤ n3; omega, by show ((c2.ys ++ _).length : Int) + (c2.bits - tb) ≤ _; rw [List.length_append]; simp only [List.length_cons, List.length_nil]; omega, ?_⟩
            rw [← hw2]
            simp only [wl, if_pos hle]
        · rename ¬ tb ≤ c2.bits => hle
          dsimp only [FEnd]
          have hwe : wl tb c2.acc n2 c2.bits c2.ys = (c2.bits, c2.ys) := by cases n2 <;> simp [wl, hle]
          rw [hwe] at hw2
          refine' ⟨⟨c2.acc, ?z0, c2.bits, ?z1, c2.vs, c2.ys, c2.k, ?z2, ?z3⟩, _, _, _, _, rfl, F2, N2, ?hin, fun q hq => .tail _ (List.mem_append_right _ hq), ?hk, hv2, ?ha, ?hb, hb2, by show c2.bits < tb; omega, ?hl, ?hc⟩
          case hin => exact fun q hq => (List.mem_cons.mp hq).elim (fun e => e ▸ .head _) fun e => .tail _ (List.mem_append_left _ e)
          case hk => kst_all
          case hl =>
            simp only [List.length_cons] at hcl
            show (c2.ys.length : Int) + c2.bits + _ ≤ _
            omega
          case ha => rw [ha2]; exact (acc_bd _ _ (by omega)).1
          case hb => rw [ha2]; exact (acc_bd _ _ (by omega)).2
          case hc =>
            rw [← hc]
            have e1 : ¬ (n < 0 ∨ n.fdiv (2 ^ fb.toNat) ≠ 0) := by simp only [not_or]; exact ⟨hnn, fun q => q hsmall⟩
            simp only [cf, if_neg e1]
            rw [← ha2, ← hw2]
  case done =>
    intro c u h tk ⟨hv, ha0, ha1, hb0, hb1, hcl, hc⟩ F1 N1
    have hne : ∀ q ∈ news, q.1 ≠ l1 := fun q hq => Nat.ne_of_lt (hl1 q hq)
    have hsz : c.vs.toArray.size ≤ sizeLine := by
      rw [sizeLine_eq, List.size_toArray, hv.length]
      simp only [List.length_nil] at hcl
      omega
    have hR : conv xs fb tb pad = cfin fb tb pad (some (c.acc, c.bits, c.ys)) := by unfold conv; rw [← hc]; rfl
    rw [hR] at hret
    dsimp only
    cases pad with
    | true =>
      k_steps
      · rename c.bits ≠ 0 => hb
        rename Fr h₀ _ _ _ => kF
        rename News h₀ _ _ _ => kN
        simp only [cfin, if_pos, if_neg hb] at hret
        (try simp only [List.push_toArray] at kN)
        exact hret l1 _ _ _ _ kF kN hl1 (hv.append (.cons _ _ .nil))
      · rename c.bits = 0 => hb
        rename Fr h₀ _ _ _ => kF
        rename News h₀ _ _ _ => kN
        simp only [cfin, if_pos, if_pos hb] at hret
        exact hret l1 _ _ _ _ kF kN hl1 hv
    | false =>
      k_steps
      · rename fb ≤ c.bits => hb
        rename Fr h₀ _ _ _ => kF
        rename News h₀ _ _ _ => kN
        simp only [cfin, Bool.false_eq_true, if_false, if_pos (Or.inl hb)] at hret
        exact hret _ _ kF fun q hq => kN q (.tail _ hq)
      · rename Builtin.bitAnd _ _ ≠ 0 => hb
        rename Fr h₀ _ _ _ => kF
        rename News h₀ _ _ _ => kN
        simp only [cfin, Bool.false_eq_true, if_false, if_pos (Or.inr hb)] at hret
        exact hret _ _ kF fun q hq => kN q (.tail _ hq)
      · rename Builtin.bitAnd _ _ = 0 => hb
        rename ¬ fb ≤ c.bits => hb'
        rename Fr h₀ _ _ _ => kF
        rename News h₀ _ _ _ => kN
        have e1 : ¬ (fb ≤ c.bits ∨ Builtin.bitAnd (c.acc * 2 ^ (tb - c.bits).toNat) (1 * 2 ^ tb.toNat - 1) ≠ 0) := by simp only [not_or]; exact ⟨hb', fun q => q hb⟩
        simp only [cfin, Bool.false_eq_true, if_false, if_neg e1] at hret
        exact hret l1 _ _ _ _ kF kN hl1 hv
end Mine

/- Conv3 -/
namespace Mine
local macro_rules | `(tactic| walk_at "mypad0") => `(tactic| skip)
local macro_rules | `(tactic| walk_at "mypad1") => `(tactic| skip)
local macro_rules | `(tactic| walk_at "mypad2") => `(tactic| skip)
local macro_rules | `(tactic| walk_at "mypad3") => `(tactic| skip)
local macro_rules | `(tactic| walk_at "mypad4") => `(tactic| skip)
local macro_rules | `(tactic| walk_at "mypad5") => `(tactic| skip)
local macro_rules | `(tactic| walk_at "mypad6") => `(tactic| skip)
local macro_rules | `(tactic| walk_at "mypad7") => `(tactic| skip)
local macro_rules | `(tactic| walk_at "mypad8") => `(tactic| skip)
local macro_rules | `(tactic| walk_at "mypad9") => `(tactic| skip)
local macro_rules | `(tactic| walk_at "mypad10") => `(tactic| skip)
local macro_rules | `(tactic| walk_at "mypad11") => `(tactic| skip)
local macro_rules | `(tactic| walk_at "mypad12") => `(tactic| skip)
local macro_rules | `(tactic| walk_at "mypad13") => `(tactic| skip)
local macro_rules | `(tactic| walk_at "mypad14") => `(tactic| skip)
local macro_rules | `(tactic| walk_at "mypad15") => `(tactic| skip)
local macro_rules | `(tactic| walk_at "mypad16") => `(tactic| skip)
local macro_rules | `(tactic| walk_at "mypad17") => `(tactic| skip)
local macro_rules | `(tactic| walk_at "binaryOp LShift int int") => `(tactic| (refine shl_ok ?kb1 ?kb2 ?kb3 ?kb4 ?_; (case kb1 => omega); (case kb2 => omega); (case kb3 => omega); (case kb4 => omega)))
local macro_rules | `(tactic| walk_at "binaryOp RShift int int") => `(tactic| (refine rshift_int ?kb1 ?_; (case kb1 => omega)))
local macro_rules | `(tactic| walk_at "exec While Compare cons nil") => `(tactic| (refine stop_here ?_))
local macro_rules | `(tactic| walk_at "pyIter ref") => `(tactic| (refine stop_here ?_))
local macro_rules | `(tactic| walk_at "call builtin:list.append") => `(tactic| (k_here; (with_reducible show wpAny _ _ (call (Value.builtin _) [Value.ref _, _]) _ _ _); k_dflt (refine' append_K ?k1 ?k2 ?k3 ?_ ?z; (case k1 => k_asm); (case k2 => k_asm); (case k3 => exact Upd.head (by assumption)); (case z => assumption); k_whole); intro h' F' N'; (try k_sweep)))
set_option maxHeartbeats 8000000 in
theorem conv_spec3 {w : World} {p : Program} {loose : List Str} {mean : ExcName → Option Value} {mg mb : Str → Option Value}
  {dp un : Nat} {gd : Option (List Code)} {cn : Str} {cs : Scope} {a : Addr} {ccd : Value} {cl : List (Str × Addr)} {outer : List Env} {A₀ : Around} {base h₀ : Heap} {L : Addr} {m : Str → Option Value} {news : List (Addr × Obj)} {s : Shared} {Q E : Value → Shared → Prop}
  {d : Addr} {o : Obj} {us : List Value} {xs : List Int} {fb tb : Int} {t1 t2 : Tok}
  (B : Below A₀ base outer h₀) (F : Fr h₀ L s.heap m) (X : (hd.heap_39 w.params).In h₀) (N : News h₀ L s.heap news) (T : Top p loose mean mg mb h₀) (hk : cs.kind = .function)
  (hdt : (d, o) ∈ news) (hso : IsSeq o us) (hi : IntsAre us xs) (hf1 : 1 ≤ fb) (hf2 : fb ≤ 40) (ht1 : 1 ≤ tb) (ht2 : tb ≤ 40)
  (hlen : xs.length ≤ 10000)
  (hdp : dp + 1 < recursionLimit)
  (hret : Ans h₀ L m news s Q (conv xs fb tb true)) :
  wpAny (model PR w) (ktrTop dp un gd cn cs L a ccd cl outer) (call (.ref 22) [.ref d, .int fb t1, .int tb t2]) Q E s := by
  w_top off
  refine wpAny_call ?_
  (refine' code_def ?k1 ?k2 ?k3 ?k4 ?k5 ?kA ?kF ?kK ?k6 ?k7 ?k8 ?k9 ?kB ?_ ?c2 ?c3 ?c4 ?c5; (case kA => exact rfl); (case kF => exact rfl); (case kK => assumption); (case k1 => k_asm); (case k2 => k_asm); (case k3 => k_asm); (case k4 => k_asm); (case k5 => k_asm); (case k6 => k_dflt k_is); (case k7 => k_dflt k_is); (case k8 => ktr_room); (case k9 => exact binds_K (by k_in) rfl (by k_dflt k_is) rfl rfl rfl); (case c5 => decide); (case kB => exact locs rfl); (case c2 => exact rfl); (case c3 => exact rfl); (case c4 => exact rfl); k_whole; intro g' L' h' FG' F' N' B' X' T'; (try dsimp only); (try k_fold))
  k_steps
  rename Fr _ _ _ _ => F1
  rename News _ _ _ _ => N1
  rename (∀ p ∈ news, p.1 < _) => hl1
  rename IntsAre us xs => hi
  refine with_addr N1 fun l1 e => ?_
  subst e
  refine' my_for (o := o) (σ := CS) (fun c => (l1, listOf c.vs.toArray c.k) :: news)
    (fun c => [("acc", .int c.acc c.ta), ("bits", .int c.bits c.tb), ("ret", .ref l1), ("maxv", .int (1 * 2 ^ tb.toNat - 1) c.tv), ("max_acc", .int (1 * 2 ^ (fb + tb - 1).toNat - 1) c.tm),
      ("frombits", .int fb t1), ("tobits", .int tb t2), ("pad", .bool true)])
    (fun rest c => IntsAre c.vs c.ys ∧ 0 ≤ c.acc ∧ c.acc < 2 ^ 100 ∧ 0 ≤ c.bits ∧ c.bits < tb ∧ (c.ys.length : Int) + c.bits + 40 * (rest.length : Int) ≤ 40 * (xs.length : Int) ∧ cf fb tb rest c.acc c.bits c.ys = cf fb tb xs 0 0 [])
    ⟨0, ?t1, 0, ?t2, [], [], 0, ?t3, ?t4⟩ rfl (fun _ _ => rfl) (fun _ => .tail _ hdt) hso hi F1 N1 ?hk ?hp ?turn ?done
  case hk => kst_all
  case hp => exact ⟨.nil, Int.le_refl _, by show (0:Int) < _; omega, Int.le_refl _, by show (0:Int) < _; omega, by simp, rfl⟩
  case turn =>
    clear F1 N1
    intro c n rest t u h tk own ⟨hv, ha0, ha1, hb0, hb1, hcl, hc⟩ hoff F1 N1
    have hne : ∀ q ∈ news ++ own, q.1 ≠ l1 := fun q hq => (List.mem_append.mp hq).elim (fun e => Nat.ne_of_lt (hl1 q e)) (fun e => hoff q e _ (.head _))
    (try k_fold)
    k_steps
    · rename n < 0 => hneg
      have hR : conv xs fb tb true = none := by
        unfold conv; rw [← hc]; simp [cf, hneg, cfin]
      rw [hR] at hret
      dsimp only [FEnd]
      (try k_unfold)
      (try dsimp only)
      k_steps
      exact hret _ _ (by assumption) (fun q hq => (by assumption : News h₀ L _ _) q (.tail _ (List.mem_append_left _ hq)))
    · rename ¬ n.fdiv _ = 0 => hbig
      have hR : conv xs fb tb true = none := by
        unfold conv; rw [← hc]; simp [cf, hbig, cfin]
      rw [hR] at hret
      dsimp only [FEnd]
      (try k_unfold)
      (try dsimp only)
      k_steps
      exact hret _ _ (by assumption) (fun q hq => (by assumption : News h₀ L _ _) q (.tail _ (List.mem_append_left _ hq)))
    · rename Fr _ _ _ _ => F2
      rename News _ _ _ _ => N2
      rename n.fdiv _ = 0 => hsmall
      rename ¬ n < 0 => hnn
      refine' my_while (σ := CS) (fun c => (l1, listOf c.vs.toArray c.k) :: (news ++ own))
        (fun c => [("acc", .int c.acc c.ta), ("bits", .int c.bits c.tb), ("ret", .ref l1), ("maxv", .int (1 * 2 ^ tb.toNat - 1) c.tv), ("max_acc", .int (1 * 2 ^ (fb + tb - 1).toNat - 1) c.tm),
          ("frombits", .int fb t1), ("tobits", .int tb t2), ("pad", .bool true)])
        (fun n' c' => IntsAre c'.vs c'.ys ∧ c'.acc = Builtin.bitAnd (Builtin.bitOr (c.acc * 2 ^ fb.toNat) n) (1 * 2 ^ (fb + tb - 1).toNat - 1) ∧ 0 ≤ c'.bits ∧ c'.bits.toNat ≤ n' ∧
          (c'.ys.length : Int) + c'.bits ≤ c.ys.length + c.bits + fb ∧
          wl tb c'.acc n' c'.bits c'.ys = wl tb c'.acc (c.bits + fb).toNat (c.bits + fb) c.ys)
        ⟨Builtin.bitAnd (Builtin.bitOr (c.acc * 2 ^ fb.toNat) n) (1 * 2 ^ (fb + tb - 1).toNat - 1), ?w0, c.bits + fb, ?w2, c.vs, c.ys, c.k, ?w3, ?w4⟩ (c.bits + fb).toNat F2 N2 ?hk ⟨hv, rfl, by show 0 ≤ c.bits + fb; omega, Nat.le_refl _, by show (c.ys.length : Int) + (c.bits + fb) ≤ c.ys.length + c.bits + fb; omega, rfl⟩ ?turn
      case hk => kst_all
      case turn =>
        clear F2 N2 F1 N1
        intro c2 n2 u2 h2 tk2 ⟨hv2, ha2, hb2, hbn2, hcl2, hw2⟩ F2 N2
        have hsz : c2.vs.toArray.size ≤ sizeLine := by
          rw [sizeLine_eq, List.size_toArray, hv2.length]
          simp only [List.length_cons] at hcl
          omega
        (try k_fold)
        k_steps
        · rename tb ≤ c2.bits => hle
          dsimp only [WEnd]
          obtain ⟨n3, rfl⟩ : ∃ n3, n2 = n3 + 1 := ⟨n2 - 1, by omega⟩
          rename Fr _ _ _ _ => F3
          rename News _ _ _ _ => N3
          (try simp only [List.push_toArray] at N3)
          refine' ⟨⟨c2.acc, ?v0, c2.bits - tb, ?v1, ?v5, c2.ys ++ [Builtin.bitAnd (c2.acc.fdiv (2 ^ (c2.bits - tb).toNat)) (1 * 2 ^ tb.toNat - 1)], ?v6, ?v2, ?v3⟩, _, _, _, _, rfl, F3, N3, fun q hq => hq, ?hk, n3, Nat.lt_succ_self _, ?hP⟩
          case hk => kst_all
          case hP =>
            refine ⟨hv2.append (.cons _ _ .nil), ha2, by show 0 ≤ c2.bits - tb; omega, by show (c2.bits - tb).toNat ≤ n3; omega, by show ((c2.ys ++ _).length : Int) + (c2.bits - tb) ≤ _; rw [List.length_append]; simp only [List.length_cons, List.length_nil]; omega, ?_⟩
            rw [← hw2]
            simp only [wl, if_pos hle]
        · rename ¬ tb ≤ c2.bits => hle
          dsimp only [FEnd]
          have hwe : wl tb c2.acc n2 c2.bits c2.ys = (c2.bits, c2.ys) := by cases n2 <;> simp [wl, hle]
          rw [hwe] at hw2
          refine' ⟨⟨c2.acc, ?z0, c2.bits, ?z1, c2.vs, c2.ys, c2.k, ?z2, ?z3⟩, _, _, _, _, rfl, F2, N2, ?hin, fun q hq => .tail _ (List.mem_append_right _ hq), ?hk, hv2, ?ha, ?hb, hb2, by show c2.bits < tb; omega, ?hl, ?hc⟩
          case hin => exact fun q hq => (List.mem_cons.mp hq).elim (fun e => e ▸ .head _) fun e => .tail _ (List.mem_append_left _ e)
          case hk => kst_all
          case hl =>
            simp only [List.length_cons] at hcl
            show (c2.ys.length : Int) + c2.bits + _ ≤ _
            omega
          case ha => rw [ha2]; exact (acc_bd _ _ (by omega)).1
          case hb => rw [ha2]; exact (acc_bd _ _ (by omega)).2
          case hc =>
            rw [← hc]
            have e1 : ¬ (n < 0 ∨ n.fdiv (2 ^ fb.toNat) ≠ 0) := by simp only [not_or]; exact ⟨hnn, fun q => q hsmall⟩
            simp only [cf, if_neg e1]
            rw [← ha2, ← hw2]
  case done =>
    intro c u h tk ⟨hv, ha0, ha1, hb0, hb1, hcl, hc⟩ F1 N1
    have hne : ∀ q ∈ news, q.1 ≠ l1 := fun q hq => Nat.ne_of_lt (hl1 q hq)
    have hsz : c.vs.toArray.size ≤ sizeLine := by
      rw [sizeLine_eq, List.size_toArray, hv.length]
      simp only [List.length_nil] at hcl
      omega
    have hR : conv xs fb tb true = cfin fb tb true (some (c.acc, c.bits, c.ys)) := by unfold conv; rw [← hc]; rfl
    rw [hR] at hret
    dsimp only
    k_steps
    · rename c.bits ≠ 0 => hb
      rename Fr h₀ _ _ _ => kF
      rename News h₀ _ _ _ => kN
      simp only [cfin, if_pos, if_neg hb] at hret
      (try simp only [List.push_toArray] at kN)
      exact hret l1 _ _ _ _ kF kN hl1 (hv.append (.cons _ _ .nil))
    · rename c.bits = 0 => hb
      rename Fr h₀ _ _ _ => kF
      rename News h₀ _ _ _ => kN
      simp only [cfin, if_pos, if_pos hb] at hret
      exact hret l1 _ _ _ _ kF kN hl1 hv

end Mine

/- Grp1 -/
namespace Mine
local macro_rules | `(tactic| walk_at "mypad0") => `(tactic| skip)
local macro_rules | `(tactic| walk_at "mypad1") => `(tactic| skip)
local macro_rules | `(tactic| walk_at "mypad2") => `(tactic| skip)
local macro_rules | `(tactic| walk_at "mypad3") => `(tactic| skip)
local macro_rules | `(tactic| walk_at "mypad4") => `(tactic| skip)
local macro_rules | `(tactic| walk_at "mypad5") => `(tactic| skip)
local macro_rules | `(tactic| walk_at "mypad6") => `(tactic| skip)
local macro_rules | `(tactic| walk_at "mypad7") => `(tactic| skip)
local macro_rules | `(tactic| walk_at "mypad8") => `(tactic| skip)
local macro_rules | `(tactic| walk_at "mypad9") => `(tactic| skip)
local macro_rules | `(tactic| walk_at "mypad10") => `(tactic| skip)
local macro_rules | `(tactic| walk_at "mypad11") => `(tactic| skip)
local macro_rules | `(tactic| walk_at "mypad12") => `(tactic| skip)
local macro_rules | `(tactic| walk_at "mypad13") => `(tactic| skip)
local macro_rules | `(tactic| walk_at "mypad14") => `(tactic| skip)
local macro_rules | `(tactic| walk_at "mypad15") => `(tactic| skip)
local macro_rules | `(tactic| walk_at "mypad16") => `(tactic| skip)
local macro_rules | `(tactic| walk_at "exec While Compare cons nil") => `(tactic| (refine stop_here ?_))
local macro_rules | `(tactic| walk_at "pyIter ref") => `(tactic| (refine stop_here ?_))
local macro_rules | `(tactic| walk_at "call builtin:list.append") => `(tactic| (k_here; (with_reducible show wpAny _ _ (call (Value.builtin _) [Value.ref _, _]) _ _ _); k_dflt (refine' append_K ?k1 ?k2 ?k3 ?_ ?z; (case k1 => k_asm); (case k2 => k_asm); (case k3 => exact Upd.head (by assumption)); (case z => assumption); k_whole); intro h' F' N'; (try k_sweep)))
local macro_rules | `(tactic| walk_at "mymem") => `(tactic| first | exact List.Mem.head _ | assumption | (refine List.Mem.tail _ ?_; walk_at "mymem") | (refine List.mem_append_left _ ?_; walk_at "mymem") | (refine List.mem_append_right _ ?_; walk_at "mymem"))
local macro_rules | `(tactic| walk_at "call builtin:len") => `(tactic| (k_here; (with_reducible show wpAny _ _ (call (Value.builtin "len") [Value.ref _]) _ _ _); k_dflt (refine' my_len ?k1 ?k2 ?k3 ?k4 ?_; (case k1 => k_asm); (case k2 => walk_at "mymem"); (case k3 => assumption); (case k4 => omega); k_whole)))
local macro_rules | `(tactic| walk_at "subscriptTail Name Slice ref ref") => `(tactic| (k_here; (with_reducible show wpAny _ _ (subscriptTail _ (PySem.Expr.Slice _ _ none _) (Value.ref _) (Value.ref _)) _ _ _); k_dflt (refine' my_slice ?F ?N ?m ?i ?p ?q ?z ?_ ?s ?t; (case F => k_asm); (case N => k_asm); (case m => walk_at "mymem"); (case i => assumption); (case p => first | exact IsPart.none | exact IsPart.int _ _); (case q => first | exact IsPart.none | exact IsPart.int _ _); (case z => omega); (case s => with_unfolding_all rfl); (case t => intro _; with_unfolding_all rfl); k_whole); intro l' vs' h' F' N' l1 hI' hL'; (try k_sweep)))

local macro_rules | `(tactic| walk_at "exec For Name Subscript cons nil") => `(tactic| (k_here; (rename Fr _ _ _ _ => lF'); (with_unfolding_all refine' For_invVF lF' ?k1 ?k2 ?_; (case k1 => exact rfl); (case k2 => exact rfl); k_whole)))
theorem with_vs {vs : List Value} {ns : List Int} (_ : IntsAre vs ns) {P : Prop} (k : ∀ vs', vs' = vs → P) : P := k vs rfl

def num (l : List Int) : Int := l.foldl (fun a b => a * 2 + b) 0
def grpAt (xs : List Int) (tb : Int) (j : Nat) : Int := num (cut xs (some (0 + (j : Int) * tb)) (some (0 + (j : Int) * tb + tb)))
def groupsC (xs : List Int) (tb : Int) : List Int := (List.range (xs.length / tb.toNat)).map (grpAt xs tb)
theorem range_n {len tb : Int} {n : Nat} (hl : len = (n : Int)) (ht : 1 ≤ tb) : Builtin.Range.rangeSize 0 (len - tb + 1) tb = ((n / tb.toNat : Nat) : Int) := by
  subst hl
  obtain ⟨k, rfl⟩ : ∃ k : Nat, tb = (k : Int) := ⟨tb.toNat, by omega⟩
  unfold Builtin.Range.rangeSize
  rw [if_pos (by omega), Int.toNat_natCast, Int.natCast_ediv]
  split
  · have e : (n : Int) = ((n : Int) - k + 1 - 0 - 1) + 1 * k := by omega
    conv => rhs; rw [e]
    rw [Int.add_mul_ediv_right _ _ (by omega)]
  · rw [Int.ediv_eq_zero_of_lt (by omega) (by omega)]
theorem range_small {len tb : Int} {n : Nat} (hl : len = (n : Int)) (h0 : n ≤ 10000) (ht : 1 ≤ tb) (ht2 : tb ≤ 40) : Builtin.Range.small 0 (len - tb + 1) tb = true := by
  unfold Builtin.Range.small
  rw [range_n hl ht]
  have h1 : n / tb.toNat ≤ n := Nat.div_le_self _ _
  have h2 : (0 : Int) ≤ ((n / tb.toNat : Nat) : Int) := Int.natCast_nonneg _
  have h3 : ((n / tb.toNat : Nat) : Int) ≤ 10000 := by omega
  simp only [Builtin.Range.rangeFitsLong, Bool.and_eq_true, Bool.or_eq_true, decide_eq_true_eq, beq_iff_eq]
  rw [if_pos (by omega)]
  simp only [Bool.and_eq_true, decide_eq_true_eq]
  refine ⟨⟨⟨⟨by omega, by omega⟩, by omega⟩, by omega⟩, Or.inr ⟨by omega, by omega⟩⟩

structure GS where
  vs : List Value
  ys : List Int
  k : Nat
structure NS where
  z : Int
  t : Tok

set_option maxHeartbeats 8000000 in
theorem groups_spec {w : World} {p : Program} {loose : List Str} {mean : ExcName → Option Value} {mg mb : Str → Option Value}
  {dp un : Nat} {gd : Option (List Code)} {cn : Str} {cs : Scope} {a : Addr} {ccd : Value} {cl : List (Str × Addr)} {outer : List Env} {A₀ : Around} {base h₀ : Heap} {L : Addr} {m : Str → Option Value} {news : List (Addr × Obj)} {s : Shared} {Q E : Value → Shared → Prop}
  {d : Addr} {kd : Nat} {us : List Value} {xs : List Int} {tb : Int} {t1 : Tok}
  (B : Below A₀ base outer h₀) (F : Fr h₀ L s.heap m) (X : (hd.heap_39 w.params).In h₀) (N : News h₀ L s.heap news) (T : Top p loose mean mg mb h₀) (hk : cs.kind = .function)
  (hdt : (d, listOf us.toArray kd) ∈ news) (hi : IntsAre us xs) (ht1 : 1 ≤ tb) (ht2 : tb ≤ 40) (hlen : xs.length ≤ 10000)
  (hdp : dp + 1 < recursionLimit)
  (hret : Ans h₀ L m news s Q (some (groupsC xs tb))) :
  wpAny (model PR w) (ktrTop dp un gd cn cs L a ccd cl outer) (call (.ref 34) [.ref d, .int tb t1]) Q E s := by
  w_top off
  refine wpAny_call ?_
  (refine' code_def ?k1 ?k2 ?k3 ?k4 ?k5 ?kA ?kF ?kK ?k6 ?k7 ?k8 ?k9 ?kB ?_ ?c2 ?c3 ?c4 ?c5; (case kA => exact rfl); (case kF => exact rfl); (case kK => assumption); (case k1 => k_asm); (case k2 => k_asm); (case k3 => k_asm); (case k4 => k_asm); (case k5 => k_asm); (case k6 => k_dflt k_is); (case k7 => k_dflt k_is); (case k8 => ktr_room); (case k9 => exact BindsTo.of_eq rfl); (case c5 => decide); (case kB => exact locs rfl); (case c2 => exact rfl); (case c3 => exact rfl); (case c4 => exact rfl); k_whole; intro g' L' h' FG' F' N' B' X' T'; (try dsimp only); (try k_fold))
  k_steps
  rename Fr _ _ _ _ => F1
  rename News _ _ _ _ => N1
  rename IsRange _ _ _ _ _ _ _ _ => hR
  rename (∀ p ∈ news, p.1 < _) => hl1
  refine with_addr N1 fun l1 e => ?_
  subst e
  refine' my_forR (σ := GS) (n := xs.length / tb.toNat) (fun c => (l1, listOf c.vs.toArray c.k) :: news)
    (fun c => [("out", .ref l1), ("bits", .ref d), ("size", .int tb t1)])
    (fun i c => IntsAre c.vs c.ys ∧ c.ys = (List.range i).map (grpAt xs tb))
    ⟨[], [], 0⟩ rfl (fun _ _ => rfl) hR (range_small rfl hlen ht1 ht2) (range_n rfl ht1) F1 N1 ?hk ⟨.nil, rfl⟩ ?turn ?done
  case hk => kst_all
  case turn =>
    clear F1 N1
    intro c i t u h tk own hin ⟨hv, hys⟩ hoff F1 N1
    have hne : ∀ q ∈ news ++ own, q.1 ≠ l1 := fun q hq => (List.mem_append.mp hq).elim (fun e => Nat.ne_of_lt (hl1 q e)) (fun e => hoff q e _ (.head _))
    (try k_fold)
    have hdiv : xs.length / tb.toNat ≤ xs.length := Nat.div_le_self _ _
    have hcl : c.ys.length = i := by rw [hys]; simp
    have hsz : c.vs.toArray.size ≤ sizeLine := by
      rw [sizeLine_eq, List.size_toArray, hv.length]
      omega
    k_steps
    rename Fr _ _ _ _ => F2
    rename News _ _ _ _ => N2
    rename IntsAre _ (cut _ _ _) => hcut
    rename (∀ p ∈ _ ++ own, p.1 < _) => hl2
    refine with_addr N2 fun l2 e => ?_
    subst e
    refine with_vs hcut fun vs2 e => ?_
    subst e
    refine' my_for (o := listOf vs2.toArray 0) (σ := NS) (fun _ => (l2, listOf vs2.toArray 0) :: ((l1, listOf c.vs.toArray c.k) :: (news ++ own)))
      (fun c => [("number", .int c.z c.t), ("out", .ref l1), ("bits", .ref d), ("size", .int tb t1)])
      (fun rest c => rest.foldl (fun a b => a * 2 + b) c.z = grpAt xs tb i)
      ⟨0, ?t5⟩ rfl (fun _ _ => rfl) (fun _ => .head _) ⟨.inl rfl, 0, rfl⟩ hcut F2 N2 ?hkI rfl ?turnI ?doneI
    case hkI => kst_all
    case turnI =>
      clear F2 N2 F1 N1
      intro c2 n rest t u h tk own2 hP hoff2 F2 N2
      (try k_fold)
      k_steps
      rename Fr _ _ _ _ => F3
      rename News _ _ _ _ => N3
      dsimp only [FEnd]
      refine' ⟨⟨c2.z * 2 + n, ?z1⟩, _, _, _, _, rfl, F3, N3, fun q hq => List.mem_append_left _ hq, fun q hq => List.mem_append_right _ hq, ?hkJ, hP⟩
      case hkJ => kst_all
    case doneI =>
      clear F2 N2 F1 N1
      intro c2 u h tk hP F2 N2
      have hz : c2.z = grpAt xs tb i := hP
      replace N2 := fun q hq => N2 q (.tail _ hq)
      dsimp only
      k_steps
      rename Fr _ _ _ _ => F3
      rename News _ _ _ _ => N3
      (try simp only [List.push_toArray] at N3)
      dsimp only [FEnd]
      refine' ⟨⟨c.vs ++ [.int c2.z c2.t], c.ys ++ [c2.z], c.k + 1⟩, _, _, _, _, rfl, F3, N3, ?hinK, fun q hq => .tail _ (List.mem_append_right _ hq), ?hkK, hv.append (.cons _ c2.t .nil), ?hyK⟩
      case hinK =>
        intro q hq
        rcases List.mem_cons.mp hq with rfl | hq
        · with_unfolding_all exact List.Mem.head _
        · exact List.Mem.tail _ (List.mem_append_left _ hq)
      case hkK => kst_all
      case hyK => rw [hys, hz, List.range_succ, List.map_append]; rfl
  case done =>
    intro c u h tk ⟨hv, hys⟩ F1 N1
    dsimp only
    k_steps
    rename Fr h₀ _ _ _ => kF
    rename News h₀ _ _ _ => kN
    exact hret l1 _ _ _ _ kF kN hl1 (by show IntsAre _ (groupsC xs tb); rw [groupsC, ← hys]; exact hv)
end Mine

/- Tgt1 -/
namespace Mine
local macro_rules | `(tactic| walk_at "mypad0") => `(tactic| skip)
local macro_rules | `(tactic| walk_at "mypad1") => `(tactic| skip)
local macro_rules | `(tactic| walk_at "mypad2") => `(tactic| skip)
local macro_rules | `(tactic| walk_at "mypad3") => `(tactic| skip)
local macro_rules | `(tactic| walk_at "mypad4") => `(tactic| skip)
local macro_rules | `(tactic| walk_at "mypad5") => `(tactic| skip)
local macro_rules | `(tactic| walk_at "mypad6") => `(tactic| skip)
local macro_rules | `(tactic| walk_at "mypad7") => `(tactic| skip)
local macro_rules | `(tactic| walk_at "mypad8") => `(tactic| skip)
local macro_rules | `(tactic| walk_at "mypad9") => `(tactic| skip)
local macro_rules | `(tactic| walk_at "mypad10") => `(tactic| skip)
local macro_rules | `(tactic| walk_at "mypad11") => `(tactic| skip)
local macro_rules | `(tactic| walk_at "mypad12") => `(tactic| skip)
local macro_rules | `(tactic| walk_at "mypad13") => `(tactic| skip)
local macro_rules | `(tactic| walk_at "mypad14") => `(tactic| skip)
local macro_rules | `(tactic| walk_at "mypad15") => `(tactic| skip)
local macro_rules | `(tactic| walk_at "mypad16") => `(tactic| skip)
local macro_rules | `(tactic| walk_at "mypad17") => `(tactic| skip)
local macro_rules | `(tactic| walk_at "exec While Compare cons nil") => `(tactic| (refine stop_here ?_))
local macro_rules | `(tactic| walk_at "pyIter ref") => `(tactic| (refine stop_here ?_))
local macro_rules | `(tactic| walk_at "call builtin:list.append") => `(tactic| (k_here; (with_reducible show wpAny _ _ (call (Value.builtin _) [Value.ref _, _]) _ _ _); k_dflt (refine' append_K ?k1 ?k2 ?k3 ?_ ?z; (case k1 => k_asm); (case k2 => k_asm); (case k3 => exact Upd.head (by assumption)); (case z => assumption); k_whole); intro h' F' N'; (try k_sweep)))
local macro_rules | `(tactic| walk_at "mymem") => `(tactic| first | exact List.Mem.head _ | assumption | (refine List.Mem.tail _ ?_; walk_at "mymem") | (refine List.mem_append_left _ ?_; walk_at "mymem") | (refine List.mem_append_right _ ?_; walk_at "mymem"))
local macro_rules | `(tactic| walk_at "call builtin:len") => `(tactic| (k_here; (with_reducible show wpAny _ _ (call (Value.builtin "len") [Value.ref _]) _ _ _); k_dflt (refine' my_len ?k1 ?k2 ?k3 ?k4 ?_; (case k1 => k_asm); (case k2 => walk_at "mymem"); (case k3 => assumption); (case k4 => omega); k_whole)))
local macro_rules | `(tactic| walk_at "subscriptTail Name Slice ref ref") => `(tactic| (k_here; (with_reducible show wpAny _ _ (subscriptTail _ (PySem.Expr.Slice _ _ none _) (Value.ref _) (Value.ref _)) _ _ _); k_dflt (refine' my_slice ?F ?N ?m ?i ?p ?q ?z ?_ ?s ?t; (case F => k_asm); (case N => k_asm); (case m => walk_at "mymem"); (case i => assumption); (case p => first | exact IsPart.none | exact IsPart.int _ _); (case q => first | exact IsPart.none | exact IsPart.int _ _); (case z => omega); (case s => with_unfolding_all rfl); (case t => intro _; with_unfolding_all rfl); k_whole); intro l' vs' h' F' N' l1 hI' hL'; (try k_sweep)))

local macro_rules | `(tactic| walk_at "exec For Name Subscript cons nil") => `(tactic| (k_here; (rename Fr _ _ _ _ => lF'); (with_unfolding_all refine' For_invVF lF' ?k1 ?k2 ?_; (case k1 => exact rfl); (case k2 => exact rfl); k_whole)))

def tightC (xs : List Int) (one two : Int) : Option (List Int) :=
  if one ≤ Int.fmod xs.length two ∨ ((cut xs (some (xs.length - Int.fmod xs.length two)) none).any fun x => x == 1) = true then none else some (groupsC xs two)
set_option maxHeartbeats 8000000 in
theorem tight_spec {w : World} {p : Program} {loose : List Str} {mean : ExcName → Option Value} {mg mb : Str → Option Value}
  {dp un : Nat} {gd : Option (List Code)} {cn : Str} {cs : Scope} {a : Addr} {ccd : Value} {cl : List (Str × Addr)} {outer : List Env} {A₀ : Around} {base h₀ : Heap} {L : Addr} {m : Str → Option Value} {news : List (Addr × Obj)} {s : Shared} {Q E : Value → Shared → Prop}
  {d : Addr} {kd : Nat} {us : List Value} {xs : List Int} {one two : Int} {t1 t2 : Tok}
  (B : Below A₀ base outer h₀) (F : Fr h₀ L s.heap m) (X : (hd.heap_39 w.params).In h₀) (N : News h₀ L s.heap news) (T : Top p loose mean mg mb h₀) (hk : cs.kind = .function)
  (hdt : (d, listOf us.toArray kd) ∈ news) (hi : IntsAre us xs) (ht1 : 1 ≤ two) (ht2 : two ≤ 40) (hlen : xs.length ≤ 10000)
  (hdp : dp + 2 < recursionLimit)
  (hret : Ans h₀ L m news s Q (tightC xs one two)) :
  wpAny (model PR w) (ktrTop dp un gd cn cs L a ccd cl outer) (call (.ref 41) [.ref d, .int one t1, .int two t2]) Q E s := by
  have hdp1 : dp + 1 < recursionLimit := by omega
  refine wpAny_call ?_
  (refine' code_def ?k1 ?k2 ?k3 ?k4 ?k5 ?kA ?kF ?kK ?k6 ?k7 ?k8 ?k9 ?kB ?_ ?c2 ?c3 ?c4 ?c5; (case kA => exact rfl); (case kF => exact rfl); (case kK => assumption); (case k1 => k_asm); (case k2 => k_asm); (case k3 => k_asm); (case k4 => k_asm); (case k5 => k_asm); (case k6 => k_dflt k_is); (case k7 => k_dflt k_is); (case k8 => ktr_room); (case k9 => exact BindsTo.of_eq rfl); (case c5 => decide); (case kB => exact locs rfl); (case c2 => exact rfl); (case c3 => exact rfl); (case c4 => exact rfl); k_whole; intro g' L' h' FG' F' N' B' X' T'; (try dsimp only); (try k_fold))
  k_steps
  · rename one ≤ _ => hc
    rename Fr h₀ _ _ _ => kF
    rename News h₀ _ _ _ => kN
    rw [tightC, if_pos (Or.inl hc)] at hret
    exact hret _ _ kF kN
  · rename List.any _ _ = true => hc
    rename Fr h₀ _ _ _ => kF
    rename News h₀ _ _ _ => kN
    rw [tightC, if_pos (Or.inr hc)] at hret
    exact hret _ _ kF fun q hq => kN q (.tail _ hq)
  · rename List.any _ _ = false => hc
    rename ¬ one ≤ _ => hc'
    have e1 : ¬ (one ≤ Int.fmod xs.length two ∨ ((cut xs (some (xs.length - Int.fmod xs.length two)) none).any fun x => x == 1) = true) := by
      rw [hc]; simp only [not_or]; exact ⟨hc', Bool.false_ne_true⟩
    rw [tightC, if_neg e1] at hret
    refine' groups_spec (xs := xs) ?B ?F ?X ?N ?T ?hk ?hdt ?hi ht1 ht2 hlen ?hdp ?hret
    case B => k_asm
    case F => k_asm
    case X => k_asm
    case N => k_asm
    case T => k_asm
    case hk => exact rfl
    case hdt => walk_at "mymem"
    case hi => assumption
    case hdp => ktr_room
    case hret =>
      intro l vs k h2 tk2 F2 N2 hlt hv2
      dsimp only
      k_steps
      rename Fr h₀ _ _ _ => kF
      rename News h₀ _ _ _ => kN
      refine hret l vs k _ _ kF (fun q hq => kN q ?_) (fun q hq => hlt q (.tail _ hq)) hv2
      rcases List.mem_cons.mp hq with rfl | hq
      · exact .head _
      · exact .tail _ (.tail _ hq)
end Mine

/- Comp2 -/
namespace Mine

theorem compTurn_in (elt t0 it0 target iter : Expr) (scope : Scope) (pos : Pos) (it acc : Value) (env : Env) :
    compTurn (.ListComp elt [⟨t0, it0, [], 0⟩, ⟨target, iter, [], 0⟩] scope pos) 1 it acc env = (standAt iter.pos >>= fun _ => pyNext it >>= fun r => match r with
      | none => pure (.done .next)
      | some v => letOwnedTupleGo target it v >>= fun _ => assign target env v >>= fun _ =>
        (eval elt env >>= fun x => call (.builtin "list.append") [acc, x] >>= fun _ => pure ()) >>= fun _ =>
          again (.compLoop (.ListComp elt [⟨t0, it0, [], 0⟩, ⟨target, iter, [], 0⟩] scope pos) 1 it acc env)) := by rfl
theorem compTurn_out (elt t0 it0 target iter : Expr) (scope : Scope) (pos : Pos) (it acc : Value) (env : Env) :
    compTurn (.ListComp elt [⟨t0, it0, [], 0⟩, ⟨target, iter, [], 0⟩] scope pos) 0 it acc env = (do
      standAt it0.pos
      match ← pyNext it with
      | none => pure (.done .next)
      | some v =>
        letOwnedTupleGo t0 it v
        assign t0 env v
        let x ← eval iter env
        standAt iter.pos
        let x ← foldedSetIterable iter env x
        let _ ← runOwn (.compStart (.ListComp elt [⟨t0, it0, [], 0⟩, ⟨target, iter, [], 0⟩] scope pos) 1 (← holding [x] (pyIter x)) acc env) env
        again (.compLoop (.ListComp elt [⟨t0, it0, [], 0⟩, ⟨target, iter, [], 0⟩] scope pos) 0 it acc env)) := by
  rfl

section
variable {prog : Program} {w : World} {A : Around} {E : Value → Shared → Prop} {R : Result → Shared → Prop} {s : Shared}

theorem start_in {elt t0 it0 target iter : Expr} {scope : Scope} {pos : Pos} {it acc : Value} {env : Env}
    (h0 : codeAny (model prog w) A (.compLoop (.ListComp elt [⟨t0, it0, [], 0⟩, ⟨target, iter, [], 0⟩] scope pos) 1 it acc env) R s)
    (h : wpAny (model prog w) A (pyIter it) (fun it' s' => codeAny (model prog w) A (.compLoop (.ListComp elt [⟨t0, it0, [], 0⟩, ⟨target, iter, [], 0⟩] scope pos) 1 it' acc env) R s')
      (notedBy (model prog w) A env fun x s' => R (.error x) s') s) :
    codeAny (model prog w) A (.compStart (.ListComp elt [⟨t0, it0, [], 0⟩, ⟨target, iter, [], 0⟩] scope pos) 1 it acc env) R s := by
  refine codeAny_of_tree ?_
  show wpAny _ _ ((compStart (.ListComp elt [⟨t0, it0, [], 0⟩, ⟨target, iter, [], 0⟩] scope pos) 1 it acc env).onRaise (fun x => do noteFrame x env; standAt theWindowsPlace)) _ _ s
  refine wpAny_notedAt ?_
  unfold compStart
  show wpAny _ _ (ask >>= _) _ _ s
  refine wpAny_bind (wpAny_askSetting (wpAny_ite ?_))
  split
  · exact wpAny_pure ⟨rfl, h0⟩
  · refine wpAny_bind (wpAny_rule ?_)
    change wpAny _ _ (standAt iter.pos >>= _) _ _ s
    refine wpAny_bind (wpAny_standAt (wpAny_bind (wpAny_mono h ?_ fun _ _ e => e)))
    exact fun _ _ k => wpAny_pure ⟨rfl, k⟩

/-- the old objects stand -/
def OldBut (C I D : Addr) (h h' : Heap) : Prop := ∀ b o, b ≠ C → b ≠ I → b ≠ D → h.get? b = some o → h'.get? b = some o

theorem loop_in {elt t0 it0 iter : Expr} {y : Str} {py : Pos} {scope : Scope} {pos : Pos} {J C D : Addr} {cenv : Env} {x : Str} {vx : Value} {m : Str → Option Value} {n : Nat} {ys : List Value} {ns : List Int} (g : Nat → Int)
    (hh : A.handled = none) (hC : cenv.locals = C) (hy : cenv.kindOf y = some .local) (hp : (cenv.scope.kind == .class || (cenv.scope.kind == .module && cenv.locals != cenv.globals)) = false) (hxy : x ≠ y)
    (hDJ : D ≠ J) (hDC : D ≠ C) (hJC : J ≠ C)
    (hst : IsRangeIter s.heap J 0 n 1) (hD : s.heap.get? D = some (LCg.lst ys)) (hi : IntsAre ys ns) (hn : s.heap.Ns C m) (hx : m x = some vx) (hsz : ns.length + n ≤ sizeLine)
    (helt : ∀ (p : Nat) (t : Tok) (s₂ : Shared) (m₂ : Str → Option Value) (E' : Value → Shared → Prop), p < n → s₂.heap.Ns C m₂ → m₂ x = some vx → m₂ y = some (.int p t) → OldBut C J D s.heap s₂.heap →
      wpAny (model prog w) A (eval elt cenv) (fun r s₃ => (∃ t', r = .int (g p) t') ∧ Keeps s₂ s₃) E' s₂)
    (hR : ∀ h' tk ys' m', h'.Ns C m' → h'.get? D = some (LCg.lst ys') → IntsAre ys' (ns ++ (List.range n).map g) → OldBut C J D s.heap h' → R (.ok .next) { s with heap := h', toks := tk }) :
    codeAny (model prog w) A (.compLoop (.ListComp elt [⟨t0, it0, [], 0⟩, ⟨.Name y py, iter, [], 0⟩] scope pos) 1 (.ref J) (.ref D) cenv) R s := by
  subst hC
  have W := Walks.range (prog := prog) (w := w) (A := A) hh J 0 1 n
  refine codeAny_loop rfl (fun k s' => ∃ h' tk i ys' m', s' = { s with heap := h', toks := tk } ∧ i ≤ n ∧ k = n + 1 - i ∧ IsRangeIter h' J (0 + (i : Nat) * 1) ((n : Int) - (i : Nat)) 1 ∧ h'.get? D = some (LCg.lst ys') ∧
      IntsAre ys' (ns ++ (List.range i).map g) ∧ h'.Ns cenv.locals m' ∧ m' x = some vx ∧ OldBut cenv.locals J D s.heap h') ?_ (n + 1)
    ⟨s.heap, s.toks, 0, ys, m, rfl, Nat.zero_le _, rfl, by simpa using hst, hD, by simpa using hi, hn, hx, fun _ _ _ _ _ e => e⟩
  rintro k s' ⟨h', tk, i, ys', m', rfl, hin, rfl, hst', hD', hi', hn', hx', hk'⟩
  show wpAny _ _ ((compTurn (.ListComp elt [⟨t0, it0, [], 0⟩, ⟨.Name y py, iter, [], 0⟩] scope pos) 1 (.ref J) (.ref D) cenv).onRaise (fun x => do noteFrame x cenv; theTreesLotGoes x)) _ _ _
  refine wpAny_noted ?_
  rw [compTurn_in]
  refine wpAny_bind (wpAny_standAt (wpAny_bind ?_))
  by_cases hlt : i < n
  · refine W.item i _ _ _ hlt hst' fun v h₁ tk₁ ⟨t, hv⟩ hst₁ hk₁ => ?_
    have hv : v = .int (i : Int) t := by rw [hv]; congr 1; omega
    subst hv
    refine wpAny_bind (wpAny_of_eq (show letOwnedTupleGo (.Name y py) (.ref J) _ = pure () from rfl) ?_)
    have hn₁ : h₁.Ns cenv.locals m' := hn'.at' fun o e => hk₁ _ o (by simpa using Ne.symm hJC) e
    refine wpAny_bind (wpAny_assign_Name (wpAny_storeName_local hy hn₁ (fun h₂ hn₂ hs₂ => ?_) hp))
    have hst₂ : IsRangeIter h₂ J (0 + ((i + 1 : Nat) : Nat) * 1) ((n : Int) - ((i + 1 : Nat) : Nat)) 1 := W.frame _ _ _ hst₁ fun b hb o e => hs₂.extBut b o (by rw [List.mem_singleton.mp hb]; exact hJC) e
    have hD₂ : h₂.get? D = some (LCg.lst ys') := hs₂.extBut _ _ hDC (hk₁ _ _ (by simpa using hDJ) hD')
    have hk₂ : OldBut cenv.locals J D s.heap h₂ := fun b o h1 h2 h3 e => hs₂.extBut b o h1 (hk₁ b o (by simpa using h2) (hk' b o h1 h2 h3 e))
    refine wpAny_bind (wpAny_bind (wpAny_mono (helt i t _ _ _ hlt hn₂ (by simpa [hxy] using hx') (by simp) hk₂) (fun r s₃ hr => ?_) fun _ _ e => e))
    obtain ⟨⟨t', rfl⟩, h₃, tk₃, rfl, hk₃⟩ := hr
    refine wpAny_bind (append_at (hk₃ _ _ hD₂) (fun h₄ hs₄ hD₄ => wpAny_pure (wpAny_pure ⟨rfl, n + 1 - (i + 1), by omega, h₄, tk₃, i + 1, ys' ++ [.int (g i) t'], (fun z => if z = y then some (.int (i : Int) t) else m' z), rfl, hlt, rfl, ?_, ?_, ?_, ?_, ?_, ?_⟩)) ?_)
    · exact hs₄.extBut _ _ (Ne.symm hDJ) (hk₃ _ _ hst₂)
    · rw [hD₄]; exact congrArg some (LCg.lst_snoc _ _)
    · rw [List.range_succ, List.map_append, ← List.append_assoc]
      exact hi'.append (.cons _ _ .nil)
    · exact (hn₂.at' fun o e => hk₃ _ o e).sameBut hs₄ (Ne.symm hDC)
    · simpa [hxy] using hx'
    · exact fun b o h1 h2 h3 e => hs₄.extBut b o h3 (hk₃ b o (hk₂ b o h1 h2 h3 e))
    · have := hi'.length
      simp only [List.length_append, List.length_map, List.length_range] at this
      rw [List.size_toArray, this]; omega
  · obtain rfl : i = n := Nat.le_antisymm hin (Nat.not_lt.mp hlt)
    refine W.done _ _ _ hst' fun h₁ tk₁ hk₁ => wpAny_pure ?_
    exact hR h₁ tk₁ ys' m' (hn'.at' fun o e => hk₁ _ o (by simpa using Ne.symm hJC) e) (hk₁ _ _ (by simpa using hDJ) hD') hi' fun b o h1 h2 h3 e => hk₁ b o (by simpa using h2) (hk' b o h1 h2 h3 e)

theorem loop_out {elt it0 iter : Expr} {x y : Str} {px py : Pos} {scope : Scope} {pos : Pos} {I ax C D : Addr} {cenv : Env} {m : Str → Option Value} {n : Nat} {vs : List Value} {xs : List Int} (g : Int → Nat → Int)
    (hh : A.handled = none) (hC : cenv.locals = C) (hkx : cenv.kindOf x = some .local) (hky : cenv.kindOf y = some .local) (hp : (cenv.scope.kind == .class || (cenv.scope.kind == .module && cenv.locals != cenv.globals)) = false) (hxy : x ≠ y)
    (hDI : D ≠ I) (hDC : D ≠ C) (hIC : I ≠ C) (haI : ax ≠ I) (haC : ax ≠ C) (haD : ax ≠ D)
    (hit : s.heap.IsListIter I ax 0) (hl : s.heap.IsList ax vs.toArray) (hD : s.heap.get? D = some (LCg.lst [])) (hi : IntsAre vs xs) (hn : s.heap.Ns C m) (hsz : xs.length * n + n ≤ sizeLine)
    (hsmall : Builtin.Range.small 0 n 1 = true) (hrs : Builtin.Range.rangeSize 0 n 1 = (n : Int)) (hs : ∀ v, foldedSetIterable iter cenv v = pure v)
    (hiter : ∀ (s₂ : Shared) (m₂ : Str → Option Value) (E' : Value → Shared → Prop), s₂.heap.Ns C m₂ → OldBut C I D s.heap s₂.heap →
      wpAny (model prog w) A (eval iter cenv) (fun r s₃ => (∃ a t u v, r = .ref a ∧ IsRange s₃.heap a 0 n 1 t u v) ∧ Keeps s₂ s₃) E' s₂)
    (helt : ∀ (v : Int) (t : Tok) (p : Nat) (t' : Tok) (s₂ : Shared) (m₂ : Str → Option Value) (E' : Value → Shared → Prop), v ∈ xs → p < n → s₂.heap.Ns C m₂ → m₂ x = some (.int v t) → m₂ y = some (.int p t') → OldBut C I D s.heap s₂.heap →
      wpAny (model prog w) A (eval elt cenv) (fun r s₃ => (∃ t', r = .int (g v p) t') ∧ Keeps s₂ s₃) E' s₂)
    (hR : ∀ h' tk ys' m', h'.Ns C m' → h'.get? D = some (LCg.lst ys') → IntsAre ys' (xs.flatMap fun v => (List.range n).map (g v)) → OldBut C I D s.heap h' → R (.ok .next) { s with heap := h', toks := tk }) :
    codeAny (model prog w) A (.compLoop (.ListComp elt [⟨.Name x px, it0, [], 0⟩, ⟨.Name y py, iter, [], 0⟩] scope pos) 0 (.ref I) (.ref D) cenv) R s := by
  subst hC
  have hlen : vs.length = xs.length := hi.length
  have W := Walks.list (prog := prog) (w := w) (A := A) hh I ax haI vs.toArray
  simp only [List.size_toArray, List.getElem?_toArray] at W
  rw [hlen] at W
  refine codeAny_loop rfl (fun k s' => ∃ h' tk i ys' m', s' = { s with heap := h', toks := tk } ∧ i ≤ xs.length ∧ k = xs.length + 1 - i ∧ (h'.IsListIter I ax i ∧ h'.IsList ax vs.toArray) ∧ h'.get? D = some (LCg.lst ys') ∧
      IntsAre ys' ((xs.take i).flatMap fun v => (List.range n).map (g v)) ∧ h'.Ns cenv.locals m' ∧ OldBut cenv.locals I D s.heap h') ?_ (xs.length + 1)
    ⟨s.heap, s.toks, 0, [], m, rfl, Nat.zero_le _, rfl, ⟨hit, hl⟩, hD, by simpa using IntsAre.nil, hn, fun _ _ _ _ _ e => e⟩
  rintro k s' ⟨h', tk, i, ys', m', rfl, hin, rfl, hst', hD', hi', hn', hk'⟩
  show wpAny _ _ ((compTurn (.ListComp elt [⟨.Name x px, it0, [], 0⟩, ⟨.Name y py, iter, [], 0⟩] scope pos) 0 (.ref I) (.ref D) cenv).onRaise (fun x => do noteFrame x cenv; theTreesLotGoes x)) _ _ _
  refine wpAny_noted ?_
  rw [compTurn_out]
  refine wpAny_bind (wpAny_standAt (wpAny_bind ?_))
  by_cases hlt : i < xs.length
  · refine W.item i _ _ _ hlt hst' fun v h₁ tk₁ hv hst₁ hk₁ => ?_
    obtain ⟨t, hx⟩ := hi.get i xs[i] (by simp [hlt])
    have hv' : v = .int xs[i] t := by rw [hx] at hv; exact (Option.some.inj hv).symm
    subst hv'
    refine wpAny_bind (wpAny_of_eq (show letOwnedTupleGo (.Name x px) (.ref I) _ = pure () from rfl) ?_)
    have hn₁ : h₁.Ns cenv.locals m' := hn'.at' fun o e => hk₁ _ o (by simpa using Ne.symm hIC) e
    refine wpAny_bind (wpAny_assign_Name (wpAny_storeName_local hkx hn₁ (fun h₂ hn₂ hs₂ => ?_) hp))
    have hst₂ : h₂.IsListIter I ax (i + 1) ∧ h₂.IsList ax vs.toArray := W.frame _ _ _ hst₁ fun b hb o e => hs₂.extBut b o (by
      rcases List.mem_cons.mp hb with rfl | hb
      · exact hIC
      · rw [List.mem_singleton.mp hb]; exact haC) e
    have hD₂ : h₂.get? D = some (LCg.lst ys') := hs₂.extBut _ _ hDC (hk₁ _ _ (by simpa using hDI) hD')
    have hk₂ : OldBut cenv.locals I D s.heap h₂ := fun b o h1 h2 h3 e => hs₂.extBut b o h1 (hk₁ b o (by simpa using h2) (hk' b o h1 h2 h3 e))
    refine wpAny_bind (wpAny_mono (hiter _ _ _ hn₂ hk₂) (fun r s₃ hr => ?_) fun _ _ e => e)
    obtain ⟨⟨ra, ta, tb, tc, rfl, hra⟩, h₃, tk₃, rfl, hk₃⟩ := hr
    refine wpAny_bind (wpAny_standAt (wpAny_bind (wpAny_of_eq (hs _) (wpAny_bind (wpAny_holding (wpAny_pyIter_range hra hsmall ?_))))))
    rw [hrs]
    refine wpAny_bind ?_
    -- the inner loop
    have up : ∀ b o, h₃.get? b = some o → (h₃.push { cls := .type "range_iterator", data := .fields #[rawInt 0, rawInt n, rawInt 1] }).get? b = some o := fun b o e => Heap.get?_push_of_some _ e
    have hJ : ∀ b o, h₃.get? b = some o → b ≠ h₃.objs.size := fun b o e => Nat.ne_of_lt (Heap.lt_size e)
    obtain ⟨oC, _, _, heC, _⟩ := id hn₂
    have hCJ : h₃.objs.size ≠ cenv.locals := fun e => hJ _ _ (hk₃ _ _ heC) e.symm
    have hDJ : D ≠ h₃.objs.size := hJ _ _ (hk₃ _ _ hD₂)
    have hylen : ys'.length = i * n := by
      rw [hi'.length]
      simp only [List.length_flatMap, List.length_map, List.length_range, List.map_const', List.sum_replicate_nat, List.length_take]
      rw [Nat.min_eq_left hin]
    have inner : ∀ (R' : Result → Shared → Prop), (∀ h' tk ys'' m'', h'.Ns cenv.locals m'' → h'.get? D = some (LCg.lst ys'') → IntsAre ys'' (((xs.take i).flatMap fun v => (List.range n).map (g v)) ++ (List.range n).map (g xs[i])) → OldBut cenv.locals h₃.objs.size D (h₃.push { cls := .type "range_iterator", data := .fields #[rawInt 0, rawInt n, rawInt 1] }) h' → R' (.ok .next) { s with heap := h', toks := tk }) →
        codeAny (model prog w) A (.compLoop (.ListComp elt [⟨.Name x px, it0, [], 0⟩, ⟨.Name y py, iter, [], 0⟩] scope pos) 1 (.ref h₃.objs.size) (.ref D) cenv) R' { s with heap := h₃.push { cls := .type "range_iterator", data := .fields #[rawInt 0, rawInt n, rawInt 1] }, toks := tk₃ } := by
      intro R' hR'
      refine loop_in (x := x) (vx := .int xs[i] t) (m := fun z => if z = x then some (.int xs[i] t) else m' z) (n := n) (ys := ys') (g := g xs[i]) hh rfl hky hp hxy hDJ hDC hCJ (Heap.get?_push_size _ rfl) (up _ _ (hk₃ _ _ hD₂)) hi'
        (hn₂.at' fun o e => up _ _ (hk₃ _ o e)) (by simp) ?_ (fun p tp s₂ m₂ E' hpn hns hmx hmy hold => helt _ t p tp s₂ m₂ E' (List.getElem_mem _) hpn hns hmx hmy fun b o h1 h2 h3 e => ?_) (fun h' tk ys'' m'' h1 h2 h3 h4 => hR' h' tk ys'' m'' h1 h2 h3 h4)
      · have := hi'.length
        rw [← this, hylen]
        have : i * n ≤ xs.length * n := Nat.mul_le_mul_right _ hin
        omega
      · have e3 := hk₃ _ _ (hk₂ b o h1 h2 h3 e)
        exact hold b o h1 (hJ _ _ e3) h3 (up _ _ e3)
    have fin : ∀ (Q' : Flow → Shared → Prop) (E' : Value → Shared → Prop), (∀ h' tk ys'' m'', h'.Ns cenv.locals m'' → h'.get? D = some (LCg.lst ys'') → IntsAre ys'' (((xs.take i).flatMap fun v => (List.range n).map (g v)) ++ (List.range n).map (g xs[i])) → OldBut cenv.locals h₃.objs.size D (h₃.push { cls := .type "range_iterator", data := .fields #[rawInt 0, rawInt n, rawInt 1] }) h' → Q' .next { s with heap := h', toks := tk }) →
        wpAny (model prog w) A (runOwn (.compStart (.ListComp elt [⟨.Name x px, it0, [], 0⟩, ⟨.Name y py, iter, [], 0⟩] scope pos) 1 (.ref h₃.objs.size) (.ref D) cenv) cenv) Q' E' { s with heap := h₃.push { cls := .type "range_iterator", data := .fields #[rawInt 0, rawInt n, rawInt 1] }, toks := tk₃ } := by
      intro Q' E' hQ'
      refine wpAny_runOwn (h := none) ?_
      exact start_in (inner _ fun h' tk ys'' m'' h1 h2 h3 h4 => hQ' h' tk ys'' m'' h1 h2 h3 h4) (wpAny_pyIter_rangeiter (Heap.get?_push_size _ rfl) (inner _ fun h' tk ys'' m'' h1 h2 h3 h4 => hQ' h' tk ys'' m'' h1 h2 h3 h4))
    refine fin _ _ fun h₄ tk₄ ys₄ m₄ hn₄ hD₄ hi₄ hk₄ => ?_
    have hIJ : I ≠ h₃.objs.size := by obtain ⟨o, e, _⟩ := hst₂.1; exact hJ _ _ (hk₃ _ _ e)
    have haJ : ax ≠ h₃.objs.size := by obtain ⟨o, e, _⟩ := hst₂.2; exact hJ _ _ (hk₃ _ _ e)
    refine wpAny_pure ⟨rfl, xs.length + 1 - (i + 1), by omega, h₄, tk₄, i + 1, ys₄, m₄, rfl, hlt, rfl, ?_, hD₄, ?_, hn₄, ?_⟩
    · refine W.frame _ _ _ hst₂ fun b hb o e => ?_
      rcases List.mem_cons.mp hb with rfl | hb
      · exact hk₄ _ o hIC hIJ (Ne.symm hDI) (up _ _ (hk₃ _ _ e))
      · rw [List.mem_singleton.mp hb] at e ⊢
        exact hk₄ _ o haC haJ haD (up _ _ (hk₃ _ _ e))
    · have e : xs.take (i + 1) = xs.take i ++ [xs[i]] := by rw [List.take_add_one]; simp [hlt]
      rw [e, List.flatMap_append]
      simpa using hi₄
    · intro b o h1 h2 h3 e
      have e3 := hk₃ _ _ (hk₂ b o h1 h2 h3 e)
      exact hk₄ b o h1 (hJ _ _ e3) h3 (up _ _ e3)
  · obtain rfl : i = xs.length := Nat.le_antisymm hin (Nat.not_lt.mp hlt)
    refine W.done _ _ _ hst' fun h₁ tk₁ hk₁ => wpAny_pure ?_
    rw [List.take_length] at hi'
    exact hR h₁ tk₁ ys' m' (hn'.at' fun o e => hk₁ _ o (by simpa using Ne.symm hIC) e) (hk₁ _ _ (by simpa using hDI) hD') hi' fun b o h1 h2 h3 e => hk₁ b o (by simpa using h2) (hk' b o h1 h2 h3 e)

def ItBack (n : Nat) (s₂ : Shared) (r : Value) (s₃ : Shared) : Prop := (∃ a t u v, r = .ref a ∧ IsRange s₃.heap a 0 n 1 t u v) ∧ Keeps s₂ s₃
def ElBack (k : Int) (s₂ : Shared) (r : Value) (s₃ : Shared) : Prop := (∃ t', r = .int k t') ∧ Keeps s₂ s₃

theorem comp2 {elt it0 iter : Expr} {x y : Str} {px py : Pos} {scope : Scope} {cl : List (Str × Addr)} {pos : Pos} {env : Env} {h₀ : Heap} {L : Addr} {m : Str → Option Value} {news : List (Addr × Obj)} {xs : List Int} {n : Nat} {Q : Value → Shared → Prop} (g : Int → Nat → Int)
    (hh : A.handled = none) (hclos : closureFor scope env = pure cl) (hcell : ∀ z ∈ scope.names, z.2 ≠ .cell) (hkind : scope.kind = .function)
    (hnames : ∀ z ∈ scope.names, z.2 = .local → scope.names.lookup z.1 = some .local) (hx : scope.names.lookup x = some .local) (hy : scope.names.lookup y = some .local) (hxy : x ≠ y)
    (hsz : xs.length * n + n ≤ sizeLine) (hsmall : Builtin.Range.small 0 n 1 = true) (hrs : Builtin.Range.rangeSize 0 n 1 = (n : Int))
    (h : wpAny (model prog w) A (eval it0 env) (fun xv s₁ => ∃ ax vs k, xv = .ref ax ∧ Fr h₀ L s₁.heap m ∧ News h₀ L s₁.heap news ∧ (ax, listOf vs.toArray k) ∈ news ∧ IntsAre vs xs ∧
      (∀ C oC m₂ (s₂ : Shared) (E' : Value → Shared → Prop), LCg.NsObj oC m₂ → Fr h₀ L s₂.heap m → News h₀ L s₂.heap ((C, oC) :: news) →
        wpAny (model prog w) A (eval iter (compEnvC scope cl C env)) (ItBack n s₂) E' s₂) ∧
      (∀ v t (p : Nat) t' C oC m₂ (s₂ : Shared) (E' : Value → Shared → Prop), v ∈ xs → p < n → LCg.NsObj oC m₂ → m₂ x = some (.int v t) → m₂ y = some (.int (p : Int) t') → Fr h₀ L s₂.heap m → News h₀ L s₂.heap ((C, oC) :: news) →
        wpAny (model prog w) A (eval elt (compEnvC scope cl C env)) (ElBack (g v p) s₂) E' s₂) ∧
      (∀ D ys k h' tk, Fr h₀ L h' m → News h₀ L h' ((D, listOf ys.toArray k) :: news) → (∀ q ∈ news, q.1 < D) → IntsAre ys (xs.flatMap fun v => (List.range n).map (g v)) → Q (.ref D) { s₁ with heap := h', toks := tk })) E s)
    (hs0 : ∀ v, foldedSetIterable it0 env v = pure v := by intro _; rfl) (hs : ∀ C v, foldedSetIterable iter (compEnvC scope cl C env) v = pure v := by intro _ _; rfl) :
    wpAny (model prog w) A (eval (.ListComp elt [⟨.Name x px, it0, [], 0⟩, ⟨.Name y py, iter, [], 0⟩] scope pos) env) Q E s := by
  show wpAny _ _ (comprehension (.ListComp elt [⟨.Name x px, it0, [], 0⟩, ⟨.Name y py, iter, [], 0⟩] scope pos) scope env _ (newList []) false (eval it0 env)) _ _ s
  refine wpAny_comprehension_free (use := none) rfl hs0 hclos hkind hnames (wpAny_mono h (fun xv s₁ h₁ => ?_) fun _ _ e => e)
  obtain ⟨ax, vs, k, rfl, F, N, hm, hi, hiter, helt, hfin⟩ := h₁
  have hl := isL N hm
  have hax : ax < s₁.heap.objs.size := Heap.lt_size (N _ hm).1
  refine wpAny_pyIter_list hl (wpAny_newObj_type (wpAny_newFunctionEnv hcell (by intro y hy; simp at hy) (fun h₁ hns₁ hsb₁ => ?_) hkind))
  dsimp only at hns₁ hsb₁ ⊢
  generalize hH1 : s₁.heap.push { cls := .type "list_iterator", data := .fields #[.ref ax, .int 0 0] } = H1 at hns₁ hsb₁ ⊢
  have hI1 : H1.objs.size = s₁.heap.objs.size + 1 := by rw [← hH1, Heap.size_push]
  generalize hH2 : H1.push { cls := .type "list", dict := none, data := .seq ([] : List Value).toArray } = H2 at hns₁ hsb₁ ⊢
  have hC2 : H2.objs.size = s₁.heap.objs.size + 2 := by rw [← hH2, Heap.size_push, hI1]
  generalize hIe : s₁.heap.objs.size = I at *
  generalize hDe : H1.objs.size = D at *
  generalize hCe : H2.objs.size = C at *
  have hIC : I ≠ C := by rw [hC2]; exact Nat.ne_of_lt (Nat.lt_succ_of_lt (Nat.lt_succ_self _))
  have hDI : D ≠ I := by rw [hI1]; exact Nat.succ_ne_self _
  have hDC : D ≠ C := by rw [hC2, hI1]; exact Nat.ne_of_lt (Nat.lt_succ_self _)
  have below : ∀ b, b < I → b ≠ C ∧ b ≠ I ∧ b ≠ D := fun b hb => ⟨by rw [hC2]; exact Nat.ne_of_lt (Nat.lt_succ_of_lt (Nat.lt_succ_of_lt hb)), Nat.ne_of_lt hb, by rw [hI1]; exact Nat.ne_of_lt (Nat.lt_succ_of_lt hb)⟩
  have old : ∀ b o, s₁.heap.get? b = some o → h₁.get? b = some o := fun b o e =>
    hsb₁.extBut b o (below b (hIe ▸ Heap.lt_size e)).1 (Heap.get?_push_of_some _ (hH2 ▸ Heap.get?_push_of_some _ (hH1 ▸ Heap.get?_push_of_some _ e)))
  have e1 : H1.get? I = some { cls := .type "list_iterator", data := .fields #[.ref ax, .int 0 0] } := by rw [← hH1, ← hIe]; exact Heap.get?_push_size _ rfl
  have e2 : H2.get? D = some { cls := .type "list", dict := none, data := .seq ([] : List Value).toArray } := by rw [← hH2, ← hDe]; exact Heap.get?_push_size _ rfl
  have e3 : h₁.get? I = some { cls := .type "list_iterator", data := .fields #[.ref ax, .int 0 0] } := hsb₁.extBut _ _ hIC (Heap.get?_push_of_some _ (hH2 ▸ Heap.get?_push_of_some _ e1))
  have e4 : h₁.get? D = some (LCg.lst []) := hsb₁.extBut _ _ hDC (Heap.get?_push_of_some _ e2)
  have hLI : L < I := hIe ▸ F.ns.lt
  have hnone : ∀ b, I ≤ b → h₀.get? b = none := fun b hb => by
    cases e : h₀.get? b with
    | none => rfl
    | some o => exact absurd (hIe ▸ Heap.lt_size (F.keep b o e)) (Nat.not_lt.mpr hb)
  have hC0 : h₀.get? C = none := hnone C (by rw [hC2]; omega)
  have hD0 : h₀.get? D = none := hnone D (by rw [hI1]; exact Nat.le_succ _)
  -- behind the loops' steps
  have fr : ∀ h₂ : Heap, OldBut C I D h₁ h₂ → Fr h₀ L h₂ m ∧ News h₀ L h₂ news := fun h₂ hk =>
    have hk' : ∀ b o, s₁.heap.get? b = some o → h₂.get? b = some o := fun b o e => by
      obtain ⟨b1, b2, b3⟩ := below b (hIe ▸ Heap.lt_size e)
      exact hk b o b1 b2 b3 (old b o e)
    ⟨F.keeps hk', N.grown hk'⟩
  have frC : ∀ (h₂ : Heap) (m₂ : Str → Option Value), OldBut C I D h₁ h₂ → h₂.Ns C m₂ → ∃ oC, LCg.NsObj oC m₂ ∧ Fr h₀ L h₂ m ∧ News h₀ L h₂ ((C, oC) :: news) := fun h₂ m₂ hk hns => by
    obtain ⟨oC, heC, hoC⟩ := LCg.ns_obj hns
    obtain ⟨F₂, N₂⟩ := fr h₂ hk
    refine ⟨oC, hoC, F₂, fun q hq => ?_⟩
    rcases List.mem_cons.mp hq with rfl | hq
    · exact ⟨heC, Ne.symm (below L hLI).1, hC0⟩
    · exact N₂ q hq
  have loop : ∀ s₃ : Shared, (∃ tk, s₃ = { s₁ with heap := h₁, toks := tk }) →
      codeAny (model prog w) A (.compLoop (.ListComp elt [⟨.Name x px, it0, [], 0⟩, ⟨.Name y py, iter, [], 0⟩] scope pos) 0 (.ref I) (.ref D) (compEnvC scope cl C env)) (compPost (model prog w) A E none Q (.ref D) C) s₃ := by
    rintro s₃ ⟨tk, rfl⟩
    refine loop_out (cenv := compEnvC scope cl C env) (ax := ax) (C := C) (m := _) (n := n) (vs := vs) (xs := xs) g hh rfl (lookup_relabel_local hx) (lookup_relabel_local hy) (by simp [compEnvC, relabel, hkind]) hxy hDI hDC hIC (below ax (hIe ▸ hax)).2.1 (below ax (hIe ▸ hax)).1 (below ax (hIe ▸ hax)).2.2
      ⟨_, e3, rfl, rfl⟩ (hl.at fun o e => old _ o e) e4 hi hns₁ hsz hsmall hrs (hs C) (fun s₂ m₂ E' hns hk => ?_) (fun v t p t' s₂ m₂ E' hv hpn hns hmx hmy hk => ?_) (fun h' tk' ys m' hns hD hys hk => ?_)
    · obtain ⟨oC, hoC, F₂, N₂⟩ := frC _ _ hk hns
      exact hiter C oC m₂ _ E' hoC F₂ N₂
    · obtain ⟨oC, hoC, F₂, N₂⟩ := frC _ _ hk hns
      exact helt v t p t' C oC m₂ _ E' hv hpn hoC hmx hmy F₂ N₂
    · refine ⟨m', hns, fun h'' hs'' => ?_⟩
      have hCL : C ≠ L := Ne.symm (below L hLI).1
      obtain ⟨F₂, N₂⟩ := fr h' hk
      refine hfin D ys ys.length h'' tk' (F₂.change hs'' hCL hC0) (fun q hq => ?_) (fun q hq => ?_) hys
      · rcases List.mem_cons.mp hq with rfl | hq
        · exact ⟨hs''.extBut _ _ hDC hD, Ne.symm (below L hLI).2.2, hD0⟩
        · have z := N₂ q hq
          exact ⟨hs''.extBut _ _ (below q.1 (hIe ▸ Heap.lt_size (N q hq).1)).1 z.1, z.2⟩
      · rw [hI1]; exact Nat.lt_succ_of_lt (hIe ▸ Heap.lt_size (N q hq).1)
  exact codeAny_compStart_list (loop _ ⟨_, rfl⟩) (wpAny_pyIter_listiter ⟨_, e3, rfl, rfl⟩ (loop _ ⟨_, rfl⟩))
end
end Mine

/- Bit1 -/
namespace Mine
local macro_rules | `(tactic| walk_at "mypad0") => `(tactic| skip)
local macro_rules | `(tactic| walk_at "mypad1") => `(tactic| skip)
local macro_rules | `(tactic| walk_at "mypad2") => `(tactic| skip)
local macro_rules | `(tactic| walk_at "mypad3") => `(tactic| skip)
local macro_rules | `(tactic| walk_at "mypad4") => `(tactic| skip)
local macro_rules | `(tactic| walk_at "mypad5") => `(tactic| skip)
local macro_rules | `(tactic| walk_at "mypad6") => `(tactic| skip)
local macro_rules | `(tactic| walk_at "mypad7") => `(tactic| skip)
local macro_rules | `(tactic| walk_at "mypad8") => `(tactic| skip)
local macro_rules | `(tactic| walk_at "mypad9") => `(tactic| skip)
local macro_rules | `(tactic| walk_at "mypad10") => `(tactic| skip)
local macro_rules | `(tactic| walk_at "mypad11") => `(tactic| skip)
local macro_rules | `(tactic| walk_at "mypad12") => `(tactic| skip)
local macro_rules | `(tactic| walk_at "mypad13") => `(tactic| skip)
local macro_rules | `(tactic| walk_at "mypad14") => `(tactic| skip)
local macro_rules | `(tactic| walk_at "mypad15") => `(tactic| skip)
local macro_rules | `(tactic| walk_at "mypad16") => `(tactic| skip)
local macro_rules | `(tactic| walk_at "mypad17") => `(tactic| skip)
local macro_rules | `(tactic| walk_at "exec While Compare cons nil") => `(tactic| (refine stop_here ?_))
local macro_rules | `(tactic| walk_at "pyIter ref") => `(tactic| (refine stop_here ?_))
local macro_rules | `(tactic| walk_at "call builtin:list.append") => `(tactic| (k_here; (with_reducible show wpAny _ _ (call (Value.builtin _) [Value.ref _, _]) _ _ _); k_dflt (refine' append_K ?k1 ?k2 ?k3 ?_ ?z; (case k1 => k_asm); (case k2 => k_asm); (case k3 => exact Upd.head (by assumption)); (case z => assumption); k_whole); intro h' F' N'; (try k_sweep)))
local macro_rules | `(tactic| walk_at "mymem") => `(tactic| first | exact List.Mem.head _ | assumption | (refine List.Mem.tail _ ?_; walk_at "mymem") | (refine List.mem_append_left _ ?_; walk_at "mymem") | (refine List.mem_append_right _ ?_; walk_at "mymem"))
local macro_rules | `(tactic| walk_at "call builtin:len") => `(tactic| (k_here; (with_reducible show wpAny _ _ (call (Value.builtin "len") [Value.ref _]) _ _ _); k_dflt (refine' my_len ?k1 ?k2 ?k3 ?k4 ?_; (case k1 => k_asm); (case k2 => walk_at "mymem"); (case k3 => assumption); (case k4 => omega); k_whole)))
local macro_rules | `(tactic| walk_at "subscriptTail Name Slice ref ref") => `(tactic| (k_here; (with_reducible show wpAny _ _ (subscriptTail _ (PySem.Expr.Slice _ _ none _) (Value.ref _) (Value.ref _)) _ _ _); k_dflt (refine' my_slice ?F ?N ?m ?i ?p ?q ?z ?_ ?s ?t; (case F => k_asm); (case N => k_asm); (case m => walk_at "mymem"); (case i => assumption); (case p => first | exact IsPart.none | exact IsPart.int _ _); (case q => first | exact IsPart.none | exact IsPart.int _ _); (case z => omega); (case s => with_unfolding_all rfl); (case t => intro _; with_unfolding_all rfl); k_whole); intro l' vs' h' F' N' l1 hI' hL'; (try k_sweep)))

local macro_rules | `(tactic| walk_at "eval ListComp") => `(tactic| (refine stop_here ?_))
local macro_rules | `(tactic| walk_at "binaryOp RShift int int") => `(tactic| (refine rshift_int ?kb1 ?_; (case kb1 => omega)))

local macro_rules | `(tactic| walk_at "eval Name") => `(tactic| ((with_reducible show wpAny _ _ (eval (Expr.Name _ _) (compEnvC _ _ _ _)) _ _ _); k_dflt (first
  | refine LCgL.ld_own (by k_asm) (by k_mem) (by assumption) (by with_reducible assumption) ?_
  | refine kcf_cell (by k_asm) (by rfl) (by k_mem) (by with_reducible assumption) ?_
  | refine LCgL.ld_built (by k_asm) (by k_asm) (by k_asm) (by k_is) (by boot_by_name) (by decide) ?_)))
def bitsC (xs : List Int) (size : Int) : List Int := xs.flatMap fun v => (List.range size.toNat).map fun p => Builtin.bitAnd (v.fdiv (2 ^ (size - 1 - (p : Int)).toNat)) 1
set_option maxHeartbeats 8000000 in
theorem bits_spec {w : World} {p : Program} {loose : List Str} {mean : ExcName → Option Value} {mg mb : Str → Option Value}
  {dp un : Nat} {gd : Option (List Code)} {cn : Str} {cs : Scope} {a : Addr} {ccd : Value} {cl : List (Str × Addr)} {outer : List Env} {A₀ : Around} {base h₀ : Heap} {L : Addr} {m : Str → Option Value} {news : List (Addr × Obj)} {s : Shared} {Q E : Value → Shared → Prop}
  {d : Addr} {kd : Nat} {us : List Value} {xs : List Int} {size : Int} {t1 : Tok}
  (B : Below A₀ base outer h₀) (F : Fr h₀ L s.heap m) (X : (hd.heap_39 w.params).In h₀) (N : News h₀ L s.heap news) (T : Top p loose mean mg mb h₀) (hk : cs.kind = .function)
  (hdt : (d, listOf us.toArray kd) ∈ news) (hi : IntsAre us xs) (ht1 : 1 ≤ size) (ht2 : size ≤ 40) (hlen : xs.length ≤ 10000)
  (hdp : dp + 1 < recursionLimit)
  (hret : Ans h₀ L m news s Q (some (bitsC xs size))) :
  wpAny (model PR w) (ktrTop dp un gd cn cs L a ccd cl outer) (call (.ref 27) [.ref d, .int size t1]) Q E s := by
  w_top off
  refine wpAny_call ?_
  (refine' code_defC ?k1 ?k2 ?k3 ?k4 ?k5 ?kA ?kF ?kK ?k6 ?k7 ?k8 ?k9 ?kB ?kD ?_ ?c2 ?c3 ?c4; (case kA => exact rfl); (case kF => exact rfl); (case kK => assumption); (case k1 => k_asm); (case k2 => k_asm); (case k3 => k_asm); (case k4 => k_asm); (case k5 => k_asm); (case k6 => k_dflt k_is); (case k7 => k_dflt k_is); (case k8 => ktr_room); (case k9 => exact BindsTo.of_eq rfl); (case kB => exact rfl); (case kD => decide +kernel); (case c2 => exact rfl); (case c3 => exact rfl); (case c4 => exact rfl); k_whole; intro g' L' h' tk' cells' FG' F' N' Y' B' X' T' l1; k_cells Y'; (try simp only [List.cons_append, List.nil_append] at N'); (try dsimp only); (try k_fold))
  k_steps
  rename News _ _ _ _ => N1
  rename Fr g' L' _ _ => F1
  rename Obj.data _ = _ => hdc
  rename Obj => oS
  replace hdc : oS.data = .cell (some (.int size t1)) := hdc
  have hn1 : ((size.toNat : Nat) : Int) = size := by omega
  have hsm : Builtin.Range.small 0 (size.toNat : Int) 1 = true := small_one (by omega) (by omega) (by omega) (by omega)
  have hrs : Builtin.Range.rangeSize 0 (size.toNat : Int) 1 = (size.toNat : Int) := by rw [rangeSize_nat]; omega
  have hszl : xs.length * size.toNat + size.toNat ≤ sizeLine := by
    rw [sizeLine_eq]
    have h1 : xs.length * size.toNat ≤ 10000 * 40 := Nat.mul_le_mul hlen (by omega)
    omega
  refine' comp2 (h₀ := g') (L := L') (news := (L' + 1, oS) :: news) (cl := [(Str.ofString "size", L' + 1)]) (xs := xs) (n := size.toNat) (fun v p => Builtin.bitAnd (v.fdiv (2 ^ (size - 1 - (p : Int)).toNat)) 1) rfl ?clos ?cell rfl ?names rfl rfl ?ne hszl hsm hrs ?h ?s0 ?s1
  case clos => with_unfolding_all rfl
  case cell => decide
  case names => decide
  case ne => decide
  case s0 => intro _; rfl
  case s1 => intro _ _; rfl
  case h =>
    refine nameX_L F1 (by rfl) ?_ (by rfl) (by rfl)
    refine ⟨d, us, kd, rfl, F1, N1, .tail _ hdt, hi, ?_, ?_, ?_⟩
    · intro C oC m₂ s₂ E' hoC F2 N2
      clear F1 N1
      (try k_fold)
      k_steps
      rename IsRange _ _ _ _ _ _ _ _ => hR
      rename (∀ (b : Addr) (o : Obj), _ → _) => hkeep
      rw [← hn1] at hR
      exact ⟨⟨_, _, _, _, rfl, hR⟩, _, _, rfl, hkeep⟩
    · intro v t p t' C oC m₂ s₂ E' hv hp hoC hmx hmy F2 N2
      clear F1 N1
      (try k_fold)
      k_steps
      exact ⟨⟨_, rfl⟩, _, _, rfl, fun _ _ e => e⟩
    · intro D ys k h2 tk2 F2 N2 hlt hys
      dsimp only
      k_steps
      rename Fr h₀ _ _ _ => kF
      rename News h₀ _ _ _ => kN
      refine hret D ys k _ _ kF (fun q hq => kN q ?_) (fun q hq => hlt q (.tail _ hq)) hys
      rcases List.mem_cons.mp hq with rfl | hq
      · exact .head _
      · exact .tail _ (.tail _ hq)
end Mine

/- Pure -/
namespace Mine

def Bits (S : List Int) : Prop := ∀ c ∈ S, c = 0 ∨ c = 1
theorem p2 (k : Nat) : (0 : Int) < 2 ^ k := kbt_pos k
theorem Bits.append {S T : List Int} (h : Bits S) (g : Bits T) : Bits (S ++ T) := fun c hc => (List.mem_append.mp hc).elim (h c) (g c)
theorem Bits.left {S T : List Int} (h : Bits (S ++ T)) : Bits S := fun c hc => h c (List.mem_append_left _ hc)
theorem Bits.right {S T : List Int} (h : Bits (S ++ T)) : Bits T := fun c hc => h c (List.mem_append_right _ hc)
theorem Bits.zeros (n : Nat) : Bits (List.replicate n 0) := fun _ hc => .inl (List.eq_of_mem_replicate hc)

theorem foldl_num (D : List Int) : ∀ z : Int, D.foldl (fun a b => a * 2 + b) z = z * 2 ^ D.length + num D := by
  induction D with
  | nil => intro z; simp [num]
  | cons d D ih =>
    intro z
    have e1 : num (d :: D) = D.foldl (fun a b => a * 2 + b) (0 * 2 + d) := rfl
    rw [List.foldl_cons, ih, e1, ih, List.length_cons, Int.pow_succ', Int.add_mul, Int.mul_assoc, Int.add_mul, Int.zero_mul, Int.zero_mul]
    omega
theorem num_append (C D : List Int) : num (C ++ D) = num C * 2 ^ D.length + num D := by
  show (C ++ D).foldl _ 0 = _
  rw [List.foldl_append, foldl_num]; rfl
theorem num_cons (c : Int) (D : List Int) : num (c :: D) = c * 2 ^ D.length + num D := by
  have h := num_append [c] D
  have e : num [c] = c := by simp [num]
  rw [e] at h; exact h
theorem num_bound : ∀ {S : List Int}, Bits S → 0 ≤ num S ∧ num S < 2 ^ S.length
  | [], _ => by simp [num]
  | c :: D, h => by
    have ih := num_bound (S := D) fun x hx => h x (.tail _ hx)
    have hc := h c (.head _)
    rw [num_cons, List.length_cons, Int.pow_succ]
    have hp := p2 D.length
    rcases hc with rfl | rfl
    · rw [Int.zero_mul]; omega
    · rw [Int.one_mul]; omega
theorem num_zeros (n : Nat) : num (List.replicate n 0) = 0 := by
  induction n with
  | zero => rfl
  | succ n ih => rw [List.replicate_succ, num_cons, ih]; simp

/-- the bits of one number -/
def bits1 (a : Nat) (x : Int) : List Int := (List.range a).map fun p => x / 2 ^ (a - 1 - p) % 2
theorem bits1_succ (a : Nat) (x : Int) : bits1 (a + 1) x = (x / 2 ^ a % 2) :: bits1 a x := by
  unfold bits1
  rw [List.range_succ_eq_map, List.map_cons, List.map_map]
  congr 1
  apply List.map_congr_left
  intro p _
  show x / 2 ^ (a + 1 - 1 - (p + 1)) % 2 = _
  congr 3
  omega
theorem bits1_length (a : Nat) (x : Int) : (bits1 a x).length = a := by simp [bits1]
theorem bits1_bits (a : Nat) (x : Int) : Bits (bits1 a x) := by
  intro c hc
  obtain ⟨p, _, rfl⟩ := List.mem_map.mp hc
  omega
theorem num_bits1 (x : Int) : ∀ a : Nat, num (bits1 a x) = x % 2 ^ a
  | 0 => by simp [bits1, num]
  | a + 1 => by
    rw [bits1_succ, num_cons, num_bits1 x a, bits1_length, Int.pow_succ]
    have h1 := Int.emod_add_mul_ediv x (2 ^ a)
    have h2 := Int.emod_add_mul_ediv (x / 2 ^ a) 2
    have h3 := Int.emod_nonneg x (show (2 : Int) ^ a ≠ 0 from Int.ne_of_gt (p2 a))
    have h4 := Int.emod_lt_of_pos x (p2 a)
    have h5 : (0 : Int) < 2 ^ a * 2 := by have := p2 a; omega
    symm
    have h6 : x % 2 ^ a + (x / 2 ^ a % 2) * 2 ^ a + (2 ^ a * 2) * (x / 2 ^ a / 2) = x := by
      have e : 2 ^ a * (x / 2 ^ a) = 2 ^ a * (x / 2 ^ a % 2) + 2 ^ a * 2 * (x / 2 ^ a / 2) := by
        rw [Int.mul_assoc, ← Int.mul_add, h2]
      rw [Int.mul_comm (x / 2 ^ a % 2)]
      omega
    have hb : x / 2 ^ a % 2 = 0 ∨ x / 2 ^ a % 2 = 1 := by omega
    have := (Int.ediv_emod_unique h5 (a := x) (r := (x / 2 ^ a % 2) * 2 ^ a + x % 2 ^ a) (q := x / 2 ^ a / 2)).mpr ⟨by omega, by rcases hb with e | e <;> rw [e] <;> simp <;> omega, by rcases hb with e | e <;> rw [e] <;> simp <;> omega⟩
    exact this.2
theorem num_bits1_small {a : Nat} {x : Int} (h0 : 0 ≤ x) (h1 : x < 2 ^ a) : num (bits1 a x) = x := by
  rw [num_bits1, Int.emod_eq_of_lt h0 h1]
theorem bits1_add (a : Nat) (y c : Int) : bits1 a (c * 2 ^ a + y) = bits1 a y := by
  unfold bits1
  apply List.map_congr_left
  intro p hp
  have hlt : p < a := List.mem_range.mp hp
  have e : (2 : Int) ^ a = 2 ^ (p + 1) * 2 ^ (a - 1 - p) := by rw [← Int.pow_add]; congr 1; omega
  rw [e, ← Int.mul_assoc, Int.add_comm, Int.add_mul_ediv_right _ _ (Int.ne_of_gt (p2 _)), Int.pow_succ, ← Int.mul_assoc, Int.add_mul_emod_self_right]
theorem bits1_num : ∀ {C : List Int}, Bits C → bits1 C.length (num C) = C
  | [], _ => rfl
  | c :: D, h => by
    have hD : Bits D := fun x hx => h x (.tail _ hx)
    have ih := bits1_num hD
    obtain ⟨b0, b1⟩ := num_bound hD
    have hc := h c (.head _)
    rw [num_cons, List.length_cons, bits1_succ, bits1_add, ih]
    congr 1
    rw [Int.add_comm, Int.add_mul_ediv_right _ _ (Int.ne_of_gt (p2 _)), Int.ediv_eq_zero_of_lt b0 b1]
    omega

def bitsN (a : Nat) (xs : List Int) : List Int := xs.flatMap (bits1 a)
theorem bitsN_length (a : Nat) (xs : List Int) : (bitsN a xs).length = xs.length * a := by
  induction xs with
  | nil => simp [bitsN]
  | cons x r ih => rw [bitsN, List.flatMap_cons, List.length_append, bits1_length, List.length_cons, Nat.add_mul, Nat.one_mul, ← ih, bitsN]; omega
theorem bitsN_bits (a : Nat) (xs : List Int) : Bits (bitsN a xs) := fun c hc => by
  obtain ⟨x, _, h⟩ := List.mem_flatMap.mp hc
  exact bits1_bits a x c h

def groupsN (b : Nat) (S : List Int) : List Int := (List.range (S.length / b)).map fun j => num ((S.drop (j * b)).take b)
theorem groupsN_short {b : Nat} {S : List Int} (h : S.length < b) : groupsN b S = [] := by
  unfold groupsN; rw [Nat.div_eq_of_lt h]; rfl
theorem groupsN_cons {b : Nat} (hb : 0 < b) {C S : List Int} (h : C.length = b) : groupsN b (C ++ S) = num C :: groupsN b S := by
  subst h
  unfold groupsN
  rw [List.length_append, Nat.add_comm, Nat.add_div_right _ hb, List.range_succ_eq_map, List.map_cons, List.map_map]
  congr 1
  · simp
  · apply List.map_congr_left
    intro j _
    show num (((C ++ S).drop ((j + 1) * C.length)).take C.length) = _
    rw [Nat.add_mul, Nat.one_mul, Nat.add_comm, ← List.drop_drop, List.drop_left]
/-- S in whole groups -/
theorem whole_ind {b : Nat} (hb : 0 < b) {P : List Int → Prop} (h0 : P []) (hs : ∀ C S, C.length = b → S.length % b = 0 → P S → P (C ++ S)) : ∀ S : List Int, S.length % b = 0 → P S := by
  have key : ∀ n (S : List Int), S.length ≤ n → S.length % b = 0 → P S := by
    intro n
    induction n with
    | zero =>
      intro S h _
      have : S = [] := List.length_eq_zero_iff.mp (Nat.le_zero.mp h)
      rw [this]; exact h0
    | succ n ih =>
      intro S h hm
      by_cases hlt : S.length < b
      · rw [Nat.mod_eq_of_lt hlt] at hm
        have : S = [] := List.length_eq_zero_iff.mp hm
        rw [this]; exact h0
      · have e : S = S.take b ++ S.drop b := (List.take_append_drop b S).symm
        have h1 : (S.drop b).length % b = 0 := by
          rw [List.length_drop, ← Nat.mod_eq_sub_mod (Nat.not_lt.mp hlt)]; exact hm
        rw [e]
        exact hs _ _ (by rw [List.length_take]; omega) h1 (ih _ (by rw [List.length_drop]; omega) h1)
  exact fun S => key _ S (Nat.le_refl _)
theorem groupsN_append {b : Nat} (hb : 0 < b) (S : List Int) (h : S.length % b = 0) (T : List Int) : groupsN b (S ++ T) = groupsN b S ++ groupsN b T := by
  refine whole_ind hb (P := fun S => groupsN b (S ++ T) = groupsN b S ++ groupsN b T) ?_ ?_ S h
  · rw [groupsN_short (S := []) (by simpa using hb)]; rfl
  · intro C S hC _ ih
    rw [List.append_assoc, groupsN_cons hb hC, groupsN_cons hb hC, ih]; rfl
theorem groupsN_zeros {b : Nat} (hb : 0 < b) (n : Nat) : groupsN b (List.replicate n 0) = List.replicate (n / b) 0 := by
  induction n using Nat.strongRecOn with
  | ind n ih =>
    by_cases h : n < b
    · rw [groupsN_short (by simpa using h), Nat.div_eq_of_lt h]; rfl
    · have e : n = b + (n - b) := by omega
      have e2 : n / b = (n - b) / b + 1 := by conv => lhs; rw [e, Nat.add_comm]; rw [Nat.add_div_right _ hb]
      rw [e2, List.replicate_succ]
      conv => lhs; rw [e, ← List.replicate_append_replicate]
      rw [groupsN_cons hb (List.length_replicate), num_zeros, ih (n - b) (by omega)]
def Ok (a : Nat) (xs : List Int) : Prop := ∀ x ∈ xs, 0 ≤ x ∧ x < 2 ^ a
theorem groupsN_bitsN {a : Nat} (ha : 0 < a) : ∀ {xs : List Int}, Ok a xs → groupsN a (bitsN a xs) = xs
  | [], _ => groupsN_short (by simpa [bitsN] using ha)
  | x :: r, h => by
    rw [bitsN, List.flatMap_cons, groupsN_cons ha (bits1_length a x), num_bits1_small (h x (.head _)).1 (h x (.head _)).2]
    exact congrArg _ (groupsN_bitsN ha fun y hy => h y (.tail _ hy))
theorem bitsN_groupsN {b : Nat} (hb : 0 < b) (S : List Int) (h : S.length % b = 0) : Bits S → bitsN b (groupsN b S) = S := by
  refine whole_ind hb (P := fun S => Bits S → bitsN b (groupsN b S) = S) ?_ ?_ S h
  · intro _; rw [groupsN_short (S := []) (by simpa using hb)]; rfl
  · intro C S hC _ ih hB
    rw [groupsN_cons hb hC, bitsN, List.flatMap_cons, ← hC, bits1_num hB.left, hC]
    exact congrArg _ (ih hB.right)
theorem groupsN_ok {b : Nat} (hb : 0 < b) (S : List Int) (h : S.length % b = 0) : Bits S → Ok b (groupsN b S) := by
  refine whole_ind hb (P := fun S => Bits S → Ok b (groupsN b S)) ?_ ?_ S h
  · intro _; rw [groupsN_short (S := []) (by simpa using hb)]; intro x hx; cases hx
  · intro C S hC _ ih hB
    rw [groupsN_cons hb hC]
    intro x hx
    rcases List.mem_cons.mp hx with rfl | hx
    · have := num_bound hB.left; rw [hC] at this; exact this
    · exact ih hB.right x hx
theorem groupsN_length (b : Nat) (S : List Int) : (groupsN b S).length = S.length / b := by simp [groupsN]
end Mine

/- Pure2 -/
namespace Mine

theorem bitAnd_apart : ∀ (a : Nat) (m x : Int), 0 ≤ x → x < 2 ^ a → Builtin.bitAnd (m * 2 ^ a) x = 0
  | 0, m, x, h0, h1 => by
    have e : x = 0 := by simp at h1; omega
    rw [e, bitAnd_zero]
  | a + 1, m, x, h0, h1 => by
    rw [Int.pow_succ] at h1
    have e1 : m * 2 ^ (a + 1) / 2 = m * 2 ^ a := by rw [Int.pow_succ, ← Int.mul_assoc]; omega
    have e2 : m * 2 ^ (a + 1) % 2 = 0 := by rw [Int.pow_succ, ← Int.mul_assoc]; omega
    rw [kbt_halves, e1, e2, bitAnd_apart a m (x / 2) (by omega) (by omega)]
    simp
theorem bitOr_apart (a : Nat) (m x : Int) (h0 : 0 ≤ x) (h1 : x < 2 ^ a) : Builtin.bitOr (m * 2 ^ a) x = m * 2 ^ a + x := by
  rw [bitOr_and, bitAnd_apart a m x h0 h1]; omega
theorem fdiv_p (x : Int) (k : Nat) : x.fdiv (2 ^ k) = x / 2 ^ k := Int.fdiv_eq_ediv_of_nonneg _ (Int.le_of_lt (p2 k))

theorem wl_eq {b : Nat} (hb : 0 < b) : ∀ (k : Nat) (T : List Int) (q acc : Int) (ys : List Int), Bits T → T.length ≤ k → acc = q * 2 ^ T.length + num T →
    wl (b : Int) acc k (T.length : Int) ys = (((T.length % b : Nat) : Int), ys ++ groupsN b T)
  | 0, T, q, acc, ys, _, hk, _ => by
    have e : T = [] := List.length_eq_zero_iff.mp (Nat.le_zero.mp hk)
    subst e
    rw [groupsN_short (by simpa using hb)]
    simp [wl]
  | k + 1, T, q, acc, ys, hB, hk, hacc => by
    by_cases h : b ≤ T.length
    · have e : T = T.take b ++ T.drop b := (List.take_append_drop b T).symm
      generalize hC : T.take b = C at e
      generalize hD : T.drop b = D at e
      have hCl : C.length = b := by rw [← hC, List.length_take]; omega
      subst e
      rw [List.length_append] at hk h hacc
      have hDb := num_bound hB.right
      have hCb := num_bound hB.left
      rw [hCl] at hCb
      have hacc2 : acc = (q * 2 ^ b + num C) * 2 ^ D.length + num D := by
        rw [hacc, num_append, hCl, Int.pow_add, Int.add_mul, Int.mul_assoc]; omega
      have ediv : acc / 2 ^ D.length = q * 2 ^ b + num C := by
        rw [hacc2, Int.add_comm, Int.add_mul_ediv_right _ _ (Int.ne_of_gt (p2 _)), Int.ediv_eq_zero_of_lt hDb.1 hDb.2]; omega
      have ih := wl_eq hb k D (q * 2 ^ b + num C) acc (ys ++ [num C]) hB.right (by omega) hacc2
      have e1 : ((C ++ D).length : Int) - b = (D.length : Int) := by rw [List.length_append, hCl]; omega
      have e2 : Builtin.bitAnd (acc.fdiv (2 ^ (D.length : Int).toNat)) (1 * 2 ^ (b : Int).toNat - 1) = num C := by
        rw [Int.one_mul, kbt_mask, fdiv_p, Int.toNat_natCast, Int.toNat_natCast, ediv, Int.add_comm, Int.add_mul_emod_self_right, Int.emod_eq_of_lt hCb.1 hCb.2]
      have e3 : (b : Int) ≤ ((C ++ D).length : Int) := by rw [List.length_append]; omega
      simp only [wl, if_pos e3, e1, e2]
      rw [ih, groupsN_cons hb hCl, List.append_assoc]
      have e4 : (C ++ D).length % b = D.length % b := by rw [List.length_append, hCl, Nat.add_comm, Nat.add_mod_right]
      rw [e4]; rfl
    · have e3 : ¬ (b : Int) ≤ (T.length : Int) := by omega
      simp only [wl, if_neg e3]
      rw [groupsN_short (by omega), List.append_nil, Nat.mod_eq_of_lt (by omega)]

theorem bad_iff (a : Nat) (x : Int) : (x < 0 ∨ x.fdiv (2 ^ a) ≠ 0) ↔ ¬ (0 ≤ x ∧ x < 2 ^ a) := by
  have hp := p2 a
  rw [fdiv_p]
  constructor
  · rintro (h | h) ⟨h0, h1⟩
    · omega
    · exact h (Int.ediv_eq_zero_of_lt h0 h1)
  · intro h
    by_cases h0 : x < 0
    · exact .inl h0
    · refine .inr fun e => h ⟨by omega, ?_⟩
      have := Int.emod_add_mul_ediv x (2 ^ a)
      rw [e, Int.mul_zero, Int.add_zero] at this
      rw [← this]; exact Int.emod_lt_of_pos _ hp

theorem cf_eq {a b : Nat} (hb : 0 < b) : ∀ (xs : List Int), Ok a xs → ∀ (T : List Int) (q acc : Int) (ys : List Int), Bits T → T.length < b → acc = q * 2 ^ T.length + num T →
    ∃ (q' acc' : Int) (G T' : List Int), Bits T' ∧ T'.length < b ∧ T ++ bitsN a xs = G ++ T' ∧ G.length % b = 0 ∧ acc' = q' * 2 ^ T'.length + num T' ∧
      cf (a : Int) (b : Int) xs acc (T.length : Int) ys = some (acc', (T'.length : Int), ys ++ groupsN b G)
  | [], _, T, q, acc, ys, hB, hl, hacc => ⟨q, acc, [], T, hB, hl, by simp [bitsN], by simp, hacc, by rw [groupsN_short (by simpa using hb)]; simp [cf]⟩
  | x :: r, hok, T, q, acc, ys, hB, hl, hacc => by
    obtain ⟨hx0, hx1⟩ := hok x (.head _)
    have hgood : ¬ (x < 0 ∨ x.fdiv (2 ^ (a : Int).toNat) ≠ 0) := by rw [Int.toNat_natCast, bad_iff]; exact fun h => h ⟨hx0, hx1⟩
    have hB1 : Bits (T ++ bits1 a x) := hB.append (bits1_bits a x)
    have hl1 : (T ++ bits1 a x).length = T.length + a := by rw [List.length_append, bits1_length]
    -- the new acc
    generalize hA : Builtin.bitAnd (Builtin.bitOr (acc * 2 ^ (a : Int).toNat) x) (1 * 2 ^ ((a : Int) + b - 1).toNat - 1) = acc1
    have hacc1 : ∃ q1, acc1 = q1 * 2 ^ (T ++ bits1 a x).length + num (T ++ bits1 a x) := by
      have ek : ((a : Int) + b - 1).toNat = a + b - 1 := by omega
      rw [Int.one_mul, kbt_mask, Int.toNat_natCast, bitOr_apart a acc x hx0 hx1, ek] at hA
      have h1 := Int.emod_add_mul_ediv (acc * 2 ^ a + x) (2 ^ (a + b - 1))
      generalize (acc * 2 ^ a + x) / 2 ^ (a + b - 1) = mm at h1
      have e2 : (2 : Int) ^ (a + b - 1) = 2 ^ (a + b - 1 - (T.length + a)) * 2 ^ (T.length + a) := by rw [← Int.pow_add]; congr 1; omega
      refine ⟨q - 2 ^ (a + b - 1 - (T.length + a)) * mm, ?_⟩
      rw [hl1, num_append, bits1_length, num_bits1_small hx0 hx1, Int.sub_mul]
      have e3 : q * 2 ^ (T.length + a) = q * 2 ^ T.length * 2 ^ a := by rw [Int.pow_add, Int.mul_assoc]
      have e4 : 2 ^ (a + b - 1 - (T.length + a)) * mm * 2 ^ (T.length + a) = 2 ^ (a + b - 1) * mm := by rw [e2, Int.mul_assoc, Int.mul_comm mm, ← Int.mul_assoc]
      have e5 : acc * 2 ^ a = q * 2 ^ T.length * 2 ^ a + num T * 2 ^ a := by rw [hacc, Int.add_mul]
      rw [e3, e4]
      omega
    obtain ⟨q1, hq1⟩ := hacc1
    generalize hT1 : T ++ bits1 a x = T1 at *
    have hw := wl_eq hb T1.length T1 q1 acc1 ys hB1 (Nat.le_refl _) hq1
    -- whole groups and the rest
    have hsplit : T1 = T1.take (T1.length - T1.length % b) ++ T1.drop (T1.length - T1.length % b) := (List.take_append_drop _ T1).symm
    have hmle := Nat.mod_le T1.length b
    have hmlt := Nat.mod_lt T1.length hb
    generalize hG1 : T1.take (T1.length - T1.length % b) = G1 at hsplit
    generalize hT2 : T1.drop (T1.length - T1.length % b) = T2 at hsplit
    have hG1l : G1.length = T1.length - T1.length % b := by rw [← hG1, List.length_take]; omega
    have hT2l : T2.length = T1.length % b := by rw [← hT2, List.length_drop]; omega
    have hG1m : G1.length % b = 0 := by
      rw [hG1l]
      have := Nat.div_add_mod T1.length b
      have e : T1.length - T1.length % b = b * (T1.length / b) := by omega
      rw [e, Nat.mul_mod_right]
    have hB2 : Bits T2 := by rw [hsplit] at hB1; exact hB1.right
    have hq2 : acc1 = (q1 * 2 ^ G1.length + num G1) * 2 ^ T2.length + num T2 := by
      rw [hq1]
      conv => lhs; rw [hsplit]
      rw [List.length_append, num_append, Int.pow_add, Int.add_mul, Int.mul_assoc]; omega
    obtain ⟨q', acc', G, T', h1, h2, h3, h4, h5, h6⟩ := cf_eq hb r (fun y hy => hok y (.tail _ hy)) T2 _ acc1 (ys ++ groupsN b G1) hB2 (by omega) hq2
    refine ⟨q', acc', G1 ++ G, T', h1, h2, ?_, ?_, h5, ?_⟩
    · have e : bitsN a (x :: r) = bits1 a x ++ bitsN a r := by rw [bitsN, List.flatMap_cons]; rfl
      rw [e, ← List.append_assoc, hT1, hsplit, List.append_assoc, h3, List.append_assoc]
    · rw [List.length_append, Nat.add_mod, hG1m, h4]; simp
    · have e0 : (T.length : Int) + a = (T1.length : Int) := by rw [hl1]; omega
      have e1 : ((T.length : Int) + a).toNat = T1.length := by rw [e0]; simp
      have e2 : groupsN b T1 = groupsN b G1 := by
        conv => lhs; rw [hsplit]
        rw [groupsN_append hb _ hG1m, groupsN_short (S := T2) (by omega), List.append_nil]
      have e3 : (T1.length % b : Nat) = T2.length := hT2l.symm
      simp only [cf, if_neg hgood, hA]
      rw [e1, e0, hw, e2]
      simp only [e3]
      rw [h6, groupsN_append hb _ hG1m, List.append_assoc]

theorem cf_none {a : Nat} {tb : Int} : ∀ (xs : List Int), ¬ Ok a xs → ∀ acc bits ys, cf (a : Int) tb xs acc bits ys = none
  | [], h, _, _, _ => absurd (fun x hx => nomatch hx) h
  | x :: r, h, acc, bits, ys => by
    by_cases hx : x < 0 ∨ x.fdiv (2 ^ (a : Int).toNat) ≠ 0
    · simp only [cf, if_pos hx]
    · simp only [cf, if_neg hx]
      refine cf_none r (fun hr => h fun y hy => ?_) _ _ _
      rcases List.mem_cons.mp hy with rfl | hy
      · rw [Int.toNat_natCast, bad_iff] at hx
        exact Decidable.not_not.mp hx
      · exact hr y hy
theorem conv_none {a : Nat} {tb : Int} {pad : Bool} {xs : List Int} (h : ¬ Ok a xs) : conv xs (a : Int) tb pad = none := by
  unfold conv; rw [cf_none xs h]; rfl

theorem num_zero_iff : ∀ {T : List Int}, Bits T → (num T = 0 ↔ 1 ∉ T)
  | [], _ => by simp [num]
  | c :: D, h => by
    have hD : Bits D := fun x hx => h x (.tail _ hx)
    have ih := num_zero_iff hD
    have hb := num_bound hD
    have hp := p2 D.length
    rw [num_cons, List.mem_cons, not_or, ← ih]
    rcases h c (.head _) with rfl | rfl
    · rw [Int.zero_mul]
      constructor
      · intro e; exact ⟨by decide, by omega⟩
      · rintro ⟨_, e⟩; omega
    · rw [Int.one_mul]
      constructor
      · intro e; omega
      · rintro ⟨e, _⟩; exact absurd rfl e

theorem last_val {b : Nat} {T : List Int} {q acc : Int} (hB : Bits T) (hl : T.length < b) (hacc : acc = q * 2 ^ T.length + num T) :
    Builtin.bitAnd (acc * 2 ^ ((b : Int) - T.length).toNat) (1 * 2 ^ (b : Int).toNat - 1) = num (T ++ List.replicate (b - T.length) 0) := by
  have e1 : ((b : Int) - T.length).toNat = b - T.length := by omega
  have hb2 := num_bound (hB.append (Bits.zeros (b - T.length)))
  rw [List.length_append, List.length_replicate, show T.length + (b - T.length) = b by omega] at hb2
  have e2 : (2 : Int) ^ b = 2 ^ T.length * 2 ^ (b - T.length) := by rw [← Int.pow_add]; congr 1; omega
  have e3 : acc * 2 ^ (b - T.length) = q * 2 ^ b + num (T ++ List.replicate (b - T.length) 0) := by
    rw [num_append, num_zeros, List.length_replicate, hacc, e2, Int.add_mul, Int.mul_assoc]; omega
  rw [Int.one_mul, kbt_mask, Int.toNat_natCast, e1, e3, Int.add_comm, Int.add_mul_emod_self_right, Int.emod_eq_of_lt hb2.1 hb2.2]

theorem conv_cf {a b : Nat} (hb : 0 < b) {xs : List Int} (h : Ok a xs) : ∃ (q acc : Int) (G T : List Int), Bits T ∧ T.length < b ∧ bitsN a xs = G ++ T ∧ G.length % b = 0 ∧ acc = q * 2 ^ T.length + num T ∧
    ∀ pad, conv xs (a : Int) (b : Int) pad = cfin (a : Int) (b : Int) pad (some (acc, (T.length : Int), groupsN b G)) := by
  obtain ⟨q, acc, G, T, h1, h2, h3, h4, h5, h6⟩ := cf_eq (a := a) hb xs h [] 0 0 [] (fun _ hc => nomatch hc) (by simpa using hb) (by simp [num])
  refine ⟨q, acc, G, T, h1, h2, by simpa using h3, h4, h5, fun pad => ?_⟩
  unfold conv
  rw [show (0 : Int) = (([] : List Int).length : Int) from rfl] at h6 ⊢
  rw [h6]; rfl

theorem conv_pad {a b : Nat} (hb : 0 < b) {xs : List Int} (h : Ok a xs) :
    conv xs (a : Int) (b : Int) true = some (groupsN b (bitsN a xs ++ List.replicate ((b - (bitsN a xs).length % b) % b) 0)) := by
  obtain ⟨q, acc, G, T, h1, h2, h3, h4, h5, h6⟩ := conv_cf hb h
  have hm : (bitsN a xs).length % b = T.length := by rw [h3, List.length_append, Nat.add_mod, h4, Nat.zero_add, Nat.mod_mod, Nat.mod_eq_of_lt h2]
  rw [h6, hm, h3, List.append_assoc, groupsN_append hb _ h4]
  by_cases ht : T.length = 0
  · have e : T = [] := List.length_eq_zero_iff.mp ht
    subst e
    have e2 : (b - 0) % b = 0 := by simp
    simp only [cfin, List.length_nil, if_true, Int.ofNat_zero]
    rw [e2]
    simp only [List.replicate_zero, List.append_nil]
    rw [groupsN_short (S := []) (by simpa using hb), List.append_nil]
  · have e1 : ¬ (T.length : Int) = 0 := by omega
    have e2 : (b - T.length) % b = b - T.length := Nat.mod_eq_of_lt (by omega)
    have e3 : (T ++ List.replicate (b - T.length) 0).length = b := by rw [List.length_append, List.length_replicate]; omega
    have e4 : groupsN b (T ++ List.replicate (b - T.length) 0) = [num (T ++ List.replicate (b - T.length) 0)] := by
      have := groupsN_cons hb e3 (S := [])
      rw [List.append_nil, groupsN_short (S := []) (by simpa using hb)] at this
      exact this
    simp only [cfin, if_true, if_neg e1]
    rw [last_val h1 h2 h5, e2, e4]
theorem conv_nopad {a b : Nat} (hb : 0 < b) {xs : List Int} (h : Ok a xs) :
    conv xs (a : Int) (b : Int) false = if a ≤ (bitsN a xs).length % b ∨ 1 ∈ (bitsN a xs).drop ((bitsN a xs).length - (bitsN a xs).length % b) then none else some (groupsN b (bitsN a xs)) := by
  obtain ⟨q, acc, G, T, h1, h2, h3, h4, h5, h6⟩ := conv_cf hb h
  have hm : (bitsN a xs).length % b = T.length := by rw [h3, List.length_append, Nat.add_mod, h4, Nat.zero_add, Nat.mod_mod, Nat.mod_eq_of_lt h2]
  have hd : (bitsN a xs).drop ((bitsN a xs).length - (bitsN a xs).length % b) = T := by
    rw [hm, h3, List.length_append, Nat.add_sub_cancel, List.drop_left]
  rw [h6, hd, hm, h3, groupsN_append hb _ h4, groupsN_short h2, List.append_nil]
  simp only [cfin, Bool.false_eq_true, if_false]
  rw [last_val h1 h2 h5]
  have e : ((a : Int) ≤ (T.length : Int) ∨ num (T ++ List.replicate (b - T.length) 0) ≠ 0) ↔ (a ≤ T.length ∨ 1 ∈ T) := by
    have hz : num (T ++ List.replicate (b - T.length) 0) = 0 ↔ 1 ∉ T := by
      rw [num_zero_iff (h1.append (Bits.zeros _)), List.mem_append, not_or]
      constructor
      · exact fun h => h.1
      · exact fun h => ⟨h, fun hm => by have := List.eq_of_mem_replicate hm; omega⟩
    have hle : (a : Int) ≤ (T.length : Int) ↔ a ≤ T.length := by omega
    rw [hle, Ne, hz, Decidable.not_not]
  by_cases hc : a ≤ T.length ∨ 1 ∈ T
  · rw [if_pos hc, if_pos (e.mpr hc)]
  · rw [if_neg hc, if_neg (fun h => hc (e.mp h))]

-- the walk's words
theorem bitsC_eq (a : Nat) (xs : List Int) : bitsC xs (a : Int) = bitsN a xs := by
  unfold bitsC bitsN
  congr 1
  funext v
  unfold bits1
  rw [Int.toNat_natCast]
  apply List.map_congr_left
  intro p hp
  have hlt : p < a := List.mem_range.mp hp
  have e : ((a : Int) - 1 - (p : Int)).toNat = a - 1 - p := by omega
  rw [bitAnd_m1, fdiv_p, e]
theorem cut_both (S : List Int) (x y : Nat) : cut S (some (x : Int)) (some (y : Int)) = (S.drop x).take (y - x) := by
  unfold cut
  simp only [Option.elim, clipAt_nat]
  rcases Nat.le_total x S.length with h | h
  · rw [Nat.min_eq_left h]
    rcases Nat.le_total y S.length with g | g
    · rw [Nat.min_eq_left g]
    · rw [Nat.min_eq_right g, List.take_of_length_le (by simp), List.take_of_length_le (by simp; omega)]
  · rw [Nat.min_eq_right h, List.drop_of_length_le (Nat.le_refl _), List.drop_of_length_le h]; simp
theorem cut_from (S : List Int) (x : Nat) : cut S (some (x : Int)) none = S.drop x := by
  unfold cut
  simp only [Option.elim, clipAt_nat]
  rcases Nat.le_total x S.length with h | h
  · rw [Nat.min_eq_left h, List.take_of_length_le (by simp)]
  · rw [Nat.min_eq_right h, List.drop_of_length_le (Nat.le_refl _), List.drop_of_length_le h]; simp
theorem cut_to (S : List Int) (y : Nat) : cut S none (some (y : Int)) = S.take y := by
  unfold cut
  simp only [Option.elim, clipAt_nat, List.drop_zero, Nat.sub_zero]
  rcases Nat.le_total y S.length with g | g
  · rw [Nat.min_eq_left g]
  · rw [Nat.min_eq_right g, List.take_of_length_le (Nat.le_refl _), List.take_of_length_le g]
theorem groupsC_eq (b : Nat) (S : List Int) : groupsC S (b : Int) = groupsN b S := by
  unfold groupsC groupsN
  rw [Int.toNat_natCast]
  apply List.map_congr_left
  intro j _
  unfold grpAt
  have e1 : 0 + (j : Int) * (b : Int) = ((j * b : Nat) : Int) := by push_cast; omega
  have e2 : 0 + (j : Int) * (b : Int) + (b : Int) = ((j * b + b : Nat) : Int) := by push_cast; omega
  rw [e2, e1, cut_both, Nat.add_sub_cancel_left]
theorem tightC_eq (a b : Nat) (S : List Int) : tightC S (a : Int) (b : Int) = if a ≤ S.length % b ∨ 1 ∈ S.drop (S.length - S.length % b) then none else some (groupsN b S) := by
  unfold tightC
  have e1 : Int.fmod (S.length : Int) (b : Int) = ((S.length % b : Nat) : Int) := by
    rw [Int.fmod_eq_emod_of_nonneg _ (by omega)]; rfl
  have hle := Nat.mod_le S.length b
  have e2 : (S.length : Int) - ((S.length % b : Nat) : Int) = ((S.length - S.length % b : Nat) : Int) := by omega
  rw [e1, e2, cut_from, groupsC_eq]
  have e3 : ((a : Int) ≤ ((S.length % b : Nat) : Int) ∨ ((S.drop (S.length - S.length % b)).any fun x => x == 1) = true) ↔ (a ≤ S.length % b ∨ 1 ∈ S.drop (S.length - S.length % b)) := by
    have h1 : ((a : Int) ≤ ((S.length % b : Nat) : Int)) ↔ a ≤ S.length % b := by omega
    rw [h1, List.any_eq_true]
    constructor
    · rintro (h | ⟨x, hx, e⟩)
      · exact .inl h
      · have : x = 1 := by simpa using e
        exact .inr (this ▸ hx)
    · rintro (h | h)
      · exact .inl h
      · exact .inr ⟨1, h, by simp⟩
  by_cases hc : a ≤ S.length % b ∨ 1 ∈ S.drop (S.length - S.length % b)
  · rw [if_pos hc, if_pos (e3.mpr hc)]
  · rw [if_neg hc, if_neg (fun h => hc (e3.mp h))]
end Mine

/- Ops2 -/
namespace Mine
section
variable {prog : Program} {w : World} {A : Around} {E : Value → Shared → Prop} {s : Shared} {h₀ : Heap} {L : Addr} {m : Str → Option Value} {news : List (Addr × Obj)}
theorem my_listof {l : Addr} {us : List Value} {k : Nat} {ns : List Int} {Q : Value → Shared → Prop} (F : Fr h₀ L s.heap m) (N : News h₀ L s.heap news) (hm : (l, listOf us.toArray k) ∈ news) (hi : IntsAre us ns) (hsz : ns.length ≤ 2 ^ 24)
    (h : ∀ l' c vs h', Fr h₀ L h' m → News h₀ L h' ((l', listOf vs.toArray c) :: news) → (∀ q ∈ news, q.1 < l') → IntsAre vs ns → Q (.ref l') { s with heap := h' }) :
    wpAny (model prog w) A (call (.type "list") [.ref l]) Q E s :=
  list_copyK F N (isL N hm) (fun D c h' F' N' hl => h D c us h' F' N' hl hi) (by rw [List.size_toArray, hi.length, sizeLine_eq]; exact hsz)
abbrev tupOf (us : List Value) : Obj := { cls := .type "tuple", data := .seq us.toArray }
theorem my_tupleof {l : Addr} {us : List Value} {k : Nat} {ns : List Int} {Q : Value → Shared → Prop} (F : Fr h₀ L s.heap m) (N : News h₀ L s.heap news) (hm : (l, listOf us.toArray k) ∈ news) (hi : IntsAre us ns) (hsz : ns.length ≤ 16384)
    (h : ∀ l' vs h', Fr h₀ L h' m → News h₀ L h' ((l', tupOf vs) :: news) → (∀ q ∈ news, q.1 < l') → IntsAre vs ns → Q (.ref l') { s with heap := h' }) :
    wpAny (model prog w) A (call (.type "tuple") [.ref l]) Q E s :=
  kde_tupleOf F N (isL N hm) (by rw [List.size_toArray, hi.length]; exact hsz) (zs := us) (by simp) (fun D h' F' N' hl => h D us h' F' N' hl hi)
theorem my_add {l b : Addr} {us vs : List Value} {k j : Nat} {ns ms : List Int} {Q : Value → Shared → Prop} (F : Fr h₀ L s.heap m) (N : News h₀ L s.heap news) (hm : (l, listOf us.toArray k) ∈ news) (hm' : (b, listOf vs.toArray j) ∈ news) (hi : IntsAre us ns) (hj : IntsAre vs ms) (hsz : ns.length + ms.length ≤ 2 ^ 24)
    (h : ∀ l' ws h', Fr h₀ L h' m → News h₀ L h' ((l', listOf ws.toArray 0) :: news) → (∀ q ∈ news, q.1 < l') → IntsAre ws (ns ++ ms) → Q (.ref l') { s with heap := h' }) :
    wpAny (model prog w) A (binaryOp .Add (.ref l) (.ref b)) Q E s :=
  add_arrays_ints (its := us.toArray) (its2 := vs.toArray) F N (isL N hm) (isL N hm') (by simpa using hi) (by simpa using hj) (fun h' F' N' hI => h _ (us ++ vs) h' F' (by simpa using N') (fun p hp => Heap.lt_size (N p hp).1) (by simpa using hI)) (by rw [sizeLine_eq]; exact hsz)
theorem foldl_reps (x : Value) (n : Nat) : ∀ acc : Array Value, List.foldl (fun x1 x2 => x1 ++ x2) acc (List.replicate n #[x]) = acc ++ (List.replicate n x).toArray := by
  induction n with
  | zero => intro acc; simp
  | succ n ih => intro acc; rw [List.replicate_succ, List.foldl_cons, ih, List.replicate_succ]; apply Array.toList_inj.mp; simp
theorem ints_reps (x : Int) (t : Tok) (n : Nat) : IntsAre (List.replicate n (.int x t)) (List.replicate n x) := by
  induction n with
  | zero => exact .nil
  | succ n ih => rw [List.replicate_succ, List.replicate_succ]; exact .cons _ _ ih
theorem my_mul {l : Addr} {k : Nat} {z x : Int} {t u : Tok} {Q : Value → Shared → Prop} (F : Fr h₀ L s.heap m) (N : News h₀ L s.heap news) (hm : (l, listOf #[.int z t] k) ∈ news) (hlo : 0 ≤ x) (hsz : x ≤ 2 ^ 20)
    (h : ∀ l' ws h', Fr h₀ L h' m → News h₀ L h' ((l', listOf ws.toArray 0) :: news) → (∀ q ∈ news, q.1 < l') → IntsAre ws (List.replicate x.toNat z) → Q (.ref l') { s with heap := h' }) :
    wpAny (model prog w) A (binaryOp .Mult (.ref l) (.int x u)) Q E s := by
  refine mul_list F N (N _ hm).1 (by omega) (by omega) (by simp; omega) (fun h' F' N' => h _ (List.replicate x.toNat (.int z t)) h' F' ?_ (fun p hp => Heap.lt_size (N p hp).1) (ints_reps z t _))
  have e : List.foldl (fun x1 x2 => x1 ++ x2) #[] (List.replicate (if (#[Value.int z t] : Array Value).isEmpty = true then 0 else x.toNat) #[Value.int z t]) = (List.replicate x.toNat (Value.int z t)).toArray := by
    rw [if_neg (by simp), foldl_reps]; simp
  rw [e] at N'
  exact N'
theorem my_ne {a b : Addr} {us vs : List Value} {k j : Nat} {ns ms : List Int} {Q : Value → Shared → Prop} (N : News h₀ L s.heap news) (hm : (a, listOf us.toArray k) ∈ news) (hm' : (b, listOf vs.toArray j) ∈ news) (hi : IntsAre us ns) (hj : IntsAre vs ms) (hu : A.units + 64 < cLine)
    (e : ns = ms) (h : Q (.bool false) s) : wpAny (model prog w) A (compareOp .NotEq (.ref a) (.ref b)) Q E s :=
  ne_intsK (isL N hm) hi (isL N hm') hj hu (by rw [decide_eq_true e]; exact h)
theorem my_eq {a b : Addr} {us vs : List Value} {k j : Nat} {ns ms : List Int} {Q : Value → Shared → Prop} (N : News h₀ L s.heap news) (hm : (a, listOf us.toArray k) ∈ news) (hm' : (b, listOf vs.toArray j) ∈ news) (hi : IntsAre us ns) (hj : IntsAre vs ms) (hu : A.units + 64 < cLine)
    (e : ns = ms) (h : Q (.bool true) s) : wpAny (model prog w) A (compareOp .Eq (.ref a) (.ref b)) Q E s :=
  eq_intsK (isL N hm) hi (isL N hm') hj hu (by rw [decide_eq_true e]; exact h)
theorem my_item_neg {value slice : Expr} {l : Addr} {us : List Value} {j : Nat} {ns : List Int} {k : Int} {u : Tok} {Q : Value → Shared → Prop} (N : News h₀ L s.heap news) (hm : (l, listOf us.toArray j) ∈ news) (hi : IntsAre us ns)
    (h0 : k < 0) (h1 : -(ns.length : Int) ≤ k) (hfit : -(2 ^ 63) ≤ k) (h : ∀ t, Q (.int (ns.getD (k + ns.length).toNat 0) t) s)
    (hs : subscripted slice false (.ref l) (.int k u) = operate [.ref l, .int k u] (getItem (.ref l) (.int k u)) := by with_unfolding_all rfl) (hg : ∀ r, letTemporaryGo value (.ref l) r = pure () := by intro _; with_unfolding_all rfl) :
    wpAny (model prog w) A (subscriptTail value slice (.ref l) (.int k u)) Q E s :=
  item_list_ints_neg (isL N hm) hi h0 h1 hfit h hs hg
theorem my_item {value slice : Expr} {l : Addr} {us : List Value} {j : Nat} {ns : List Int} {k : Int} {u : Tok} {Q : Value → Shared → Prop} (N : News h₀ L s.heap news) (hm : (l, listOf us.toArray j) ∈ news) (hi : IntsAre us ns)
    (h0 : 0 ≤ k) (h1 : k < ns.length) (hfit : k < 2 ^ 63) (h : ∀ t, Q (.int (ns.getD k.toNat 0) t) s)
    (hs : subscripted slice false (.ref l) (.int k u) = operate [.ref l, .int k u] (getItem (.ref l) (.int k u)) := by with_unfolding_all rfl) (hg : ∀ r, letTemporaryGo value (.ref l) r = pure () := by intro _; with_unfolding_all rfl) :
    wpAny (model prog w) A (subscriptTail value slice (.ref l) (.int k u)) Q E s :=
  item_list_ints (isL N hm) hi h0 h1 hfit h hs hg
end
end Mine

/- Ops3 -/
namespace Mine
/-- a test that comes out false; what was made on the way is let go -/
def FB (h₀ : Heap) (L : Addr) (m : Str → Option Value) (news : List (Addr × Obj)) (s : Shared) (b : Bool) (s' : Shared) : Prop :=
  b = false ∧ ∃ h' tk, s' = { s with heap := h', toks := tk } ∧ Fr h₀ L h' m ∧ News h₀ L h' news
section
variable {M : Model} {A : Around} {E : Value → Shared → Prop} {s : Shared} {h₀ : Heap} {L : Addr} {m : Str → Option Value} {news nx : List (Addr × Obj)} {env : Env}
theorem if_cut {test : Expr} {body orelse : List Stmt} {pos : Pos} {Q : Flow → Shared → Prop}
    (h : wpAny M A (isTrue test env (eval test env)) (FB h₀ L m news s) E s)
    (k : ∀ h' tk, Fr h₀ L h' m → News h₀ L h' news → wpAny M A (execs orelse env) Q E { s with heap := h', toks := tk }) : wpAny M A (exec (.If test body orelse pos) env) Q E s := by
  refine wpAny_If (wpAny_mono h (fun b s' hb => ?_) fun _ _ e => e)
  obtain ⟨rfl, h', tk, rfl, F, N⟩ := hb
  simpa using k h' tk F N
theorem fb_end {h' : Heap} {tk : Nat} (F : Fr h₀ L h' m) (N : News h₀ L h' nx) (hs : ∀ q ∈ news, q ∈ nx) : FB h₀ L m news s false { s with heap := h', toks := tk } :=
  ⟨rfl, h', tk, rfl, F, fun q hq => N q (hs q hq)⟩
/-- a statement cut off by what holds behind it -/
theorem stmt_cut {t : Sem Flow} {P : Flow → Shared → Prop} {Q : Flow → Shared → Prop} (h : wpAny M A t P E s) (k : ∀ f s', P f s' → Q f s') : wpAny M A t Q E s := wpAny_mono h k fun _ _ e => e
end
end Mine

/- Pure3 -/
namespace Mine

def padN (b n : Nat) : Nat := (b - n % b) % b
theorem padN_lt {b : Nat} (hb : 0 < b) (n : Nat) : padN b n < b := Nat.mod_lt _ hb
theorem add_padN {b : Nat} (hb : 0 < b) (n : Nat) : (n + padN b n) % b = 0 := by
  have h1 := Nat.mod_lt n hb
  unfold padN
  by_cases h : n % b = 0
  · rw [h, Nat.sub_zero, Nat.mod_self, Nat.add_zero, h]
  · rw [Nat.mod_eq_of_lt (show b - n % b < b by omega)]
    have h2 := Nat.div_add_mod n b
    have e : n + (b - n % b) = b * (n / b + 1) := by rw [Nat.mul_add, Nat.mul_one]; omega
    rw [e, Nat.mul_mod_right]
theorem neg_mod {b : Nat} (hb : 0 < b) (n : Nat) : (-(n : Int)).fmod (b : Int) = ((padN b n : Nat) : Int) := by
  rw [Int.fmod_eq_emod_of_nonneg _ (by omega)]
  have h1 := add_padN hb n
  have h2 := padN_lt hb n
  obtain ⟨q, hq⟩ := Nat.dvd_of_mod_eq_zero h1
  have h3 : ((n : Int) + (padN b n : Nat)) = (b : Int) * q := by rw [← Int.natCast_add, hq, Int.natCast_mul]
  have e : -(n : Int) = (padN b n : Nat) + (-(q : Int)) * (b : Int) := by rw [Int.neg_mul, Int.mul_comm]; omega
  rw [e, Int.add_mul_emod_self_right, Int.emod_eq_of_lt (by omega) (by omega)]
theorem padN_min {b : Nat} (hb : 0 < b) {n m : Nat} (hm : m % b = 0) (h : n ≤ m) : n + padN b n ≤ m := by
  by_cases hlt : m < n + padN b n
  · have h1 := add_padN hb n
    have h2 := padN_lt hb n
    obtain ⟨q, hq⟩ := Nat.dvd_of_mod_eq_zero h1
    obtain ⟨r, hr⟩ := Nat.dvd_of_mod_eq_zero hm
    have h3 : r < q := by
      have : b * r < b * q := by omega
      exact Nat.lt_of_mul_lt_mul_left this
    have h4 : b * (r + 1) ≤ b * q := Nat.mul_le_mul_left b h3
    rw [Nat.mul_add, Nat.mul_one] at h4
    omega
  · omega

section
variable {a b c : Nat} (ha : 0 < a) (hb : 0 < b) (hc : 0 < c) {V : List Int} (hV : Ok a V)
/-- the row turned into the second size -/
def keptN (a b : Nat) (V : List Int) : List Int := groupsN b (bitsN a V ++ List.replicate (padN b (bitsN a V).length) 0)
include hb
theorem kept_whole : (bitsN a V ++ List.replicate (padN b (bitsN a V).length) 0).length % b = 0 := by
  rw [List.length_append, List.length_replicate]; exact add_padN hb _
omit hb in
theorem kept_bits : Bits (bitsN a V ++ List.replicate (padN b (bitsN a V).length) 0) := (bitsN_bits a V).append (Bits.zeros _)
theorem kept_back : bitsN b (keptN a b V) = bitsN a V ++ List.replicate (padN b (bitsN a V).length) 0 := bitsN_groupsN hb _ (kept_whole hb) kept_bits
theorem kept_ok : Ok b (keptN a b V) := groupsN_ok hb _ (kept_whole hb) kept_bits
theorem kept_len : (keptN a b V).length * b = (bitsN a V).length + padN b (bitsN a V).length := by
  have h := bitsN_length b (keptN a b V)
  rw [kept_back hb, List.length_append, List.length_replicate] at h
  exact h.symm
theorem kept_len_le : (keptN a b V).length ≤ (bitsN a V).length + padN b (bitsN a V).length := by
  rw [← kept_len hb]; exact Nat.le_mul_of_pos_right _ hb
theorem kept_held : ((keptN a b V).length : Int) * (b : Int) - ((bitsN a V).length : Int) = ((padN b (bitsN a V).length : Nat) : Int) := by
  have h := kept_len (a := a) hb (V := V)
  rw [← Int.natCast_mul, h]; omega
include hV
theorem conv_there : conv V (a : Int) (b : Int) true = some (keptN a b V) := conv_pad hb hV
include ha
theorem conv_home : conv (keptN a b V) (b : Int) (a : Int) false = some (V ++ List.replicate (padN b (bitsN a V).length / a) 0) := by
  have hp := padN_lt hb (bitsN a V).length
  generalize hpe : padN b (bitsN a V).length = p at *
  have hk : bitsN b (keptN a b V) = bitsN a V ++ List.replicate p 0 := by rw [kept_back hb, hpe]
  have hS : (bitsN a V).length % a = 0 := by rw [bitsN_length, Nat.mul_mod_left]
  have hm : (bitsN a V ++ List.replicate p 0).length % a = p % a := by rw [List.length_append, List.length_replicate, Nat.add_mod, hS, Nat.zero_add, Nat.mod_mod]
  have hpa : p % a ≤ p := Nat.mod_le _ _
  rw [conv_nopad ha (kept_ok hb), hk, hm]
  have hd : (bitsN a V ++ List.replicate p 0).drop ((bitsN a V ++ List.replicate p 0).length - p % a) = List.replicate (p % a) 0 := by
    rw [List.length_append, List.length_replicate, List.drop_append, List.drop_of_length_le (by omega), List.nil_append, List.drop_replicate]
    congr 1; omega
  rw [hd, if_neg (by
    rintro (h | h)
    · omega
    · have := List.eq_of_mem_replicate h; omega), groupsN_append ha _ hS, groupsN_bitsN ha hV, groupsN_zeros ha]
omit ha hV
include hc
theorem conv_third : Ok c (keptN a c V) ∧ ∃ more : Nat, conv (keptN a c V) (c : Int) (b : Int) true = some (keptN a b V ++ List.replicate more 0) ∧
    ((((bitsN a V).length : Int) + ((padN c (bitsN a V).length : Nat) : Int)) + (b : Int) - 1).fdiv (b : Int) - ((keptN a b V).length : Int) = (more : Int) ∧ more ≤ padN c (bitsN a V).length + b := by
  have hok : Ok c (keptN a c V) := kept_ok hc
  refine ⟨hok, ?_⟩
  have h1 := conv_pad (a := c) hb hok
  have hkl := kept_len (a := a) hb (V := V)
  rw [kept_back hc] at h1
  generalize hS : bitsN a V = S at *
  have hw : (S ++ List.replicate (padN c S.length) 0).length = S.length + padN c S.length := by rw [List.length_append, List.length_replicate]
  rw [hw] at h1
  change _ = some (groupsN b (_ ++ List.replicate (padN b (S.length + padN c S.length)) 0)) at h1
  generalize padN c S.length = pc at *
  have hp2 := add_padN hb (S.length + pc)
  have hle := padN_min hb hp2 (show S.length ≤ S.length + pc + padN b (S.length + pc) by omega)
  have hp2lt := padN_lt hb (S.length + pc)
  generalize padN b (S.length + pc) = p2 at *
  have hp := add_padN hb S.length
  have hK : keptN a b V = groupsN b (S ++ List.replicate (padN b S.length) 0) := by unfold keptN; rw [hS]
  generalize padN b S.length = p at *
  have e1 : S ++ List.replicate pc 0 ++ List.replicate p2 0 = (S ++ List.replicate p 0) ++ List.replicate (pc + p2 - p) 0 := by
    rw [List.append_assoc, List.append_assoc, List.replicate_append_replicate, List.replicate_append_replicate]
    congr 2; omega
  have hmod : (S ++ List.replicate p 0).length % b = 0 := by rw [List.length_append, List.length_replicate]; exact hp
  rw [e1, groupsN_append hb _ hmod, ← hK, groupsN_zeros hb] at h1
  refine ⟨_, h1, ?_, Nat.le_trans (Nat.div_le_self _ _) (by omega)⟩
  -- the count
  obtain ⟨q, hq⟩ := Nat.dvd_of_mod_eq_zero hp2
  have hKl : (keptN a b V).length ≤ q := by
    have : (keptN a b V).length * b ≤ q * b := by rw [hkl, Nat.mul_comm q b, ← hq]; omega
    exact Nat.le_of_mul_le_mul_right this hb
  have e2 : (pc + p2 - p) / b = q - (keptN a b V).length := by
    have : pc + p2 - p = (q - (keptN a b V).length) * b := by rw [Nat.sub_mul, hkl, Nat.mul_comm q b, ← hq]; omega
    rw [this, Nat.mul_div_cancel _ hb]
  have e3 : ((((S.length : Int) + (pc : Int))) + (b : Int) - 1).fdiv (b : Int) = (q : Int) := by
    rw [Int.fdiv_eq_ediv_of_nonneg _ (by omega)]
    have e4 : ((S.length : Int) + (pc : Int)) + (b : Int) - 1 = ((b : Int) - 1 - p2) + (q : Int) * (b : Int) := by
      have : ((S.length : Int) + pc + p2) = (b : Int) * q := by rw [← Int.natCast_mul, ← hq]; simp
      rw [Int.mul_comm]; omega
    rw [e4, Int.add_mul_ediv_right _ _ (by omega), Int.ediv_eq_zero_of_lt (by omega) (by omega)]; omega
  rw [e3, e2]; omega
end

theorem hurt_ok {a b : Nat} (hb : 0 < b) {V : List Int} (hp : 0 < padN b (bitsN a V).length) {j : Nat} (hj : j < padN b (bitsN a V).length) :
    0 < (keptN a b V).length ∧ Ok b ((keptN a b V).take ((keptN a b V).length - 1) ++ [(keptN a b V).getD ((keptN a b V).length - 1) 0 + 2 ^ j]) := by
  have hok : Ok b (keptN a b V) := kept_ok hb
  have hlt := padN_lt hb (bitsN a V).length
  have hS := bitsN_bits a V
  generalize hKe : keptN a b V = K at *
  have hK : K = groupsN b (bitsN a V ++ List.replicate (padN b (bitsN a V).length) 0) := by rw [← hKe]; rfl
  generalize bitsN a V = S at *
  have hm : padN b S.length = b - S.length % b := by
    unfold padN
    refine Nat.mod_eq_of_lt ?_
    by_cases h : S.length % b = 0
    · unfold padN at hp; rw [h, Nat.sub_zero, Nat.mod_self] at hp; exact absurd hp (Nat.lt_irrefl _)
    · have := Nat.mod_lt S.length hb; omega
  have hml := Nat.mod_lt S.length hb
  have hmle := Nat.mod_le S.length b
  generalize hpe : padN b S.length = p at *
  -- S in whole groups and the rest T
  have hsplit : S = S.take (S.length - S.length % b) ++ S.drop (S.length - S.length % b) := (List.take_append_drop _ S).symm
  generalize hG : S.take (S.length - S.length % b) = G at hsplit
  generalize hT : S.drop (S.length - S.length % b) = T at hsplit
  have hGl : G.length % b = 0 := by
    have e : G.length = b * (S.length / b) := by
      have := Nat.div_add_mod S.length b
      rw [← hG, List.length_take]; omega
    rw [e, Nat.mul_mod_right]
  have hTl : T.length = S.length % b := by rw [← hT, List.length_drop]; omega
  have hTB : Bits T := by rw [hsplit] at hS; exact hS.right
  have e3 : (T ++ List.replicate p 0).length = b := by rw [List.length_append, List.length_replicate, hTl]; omega
  have e4 : K = groupsN b G ++ [num (T ++ List.replicate p 0)] := by
    rw [hK, hsplit, List.append_assoc, groupsN_append hb _ hGl]
    have := groupsN_cons hb e3 (S := [])
    rw [List.append_nil, groupsN_short (S := []) (by simpa using hb)] at this
    rw [this]
  have hzv : num (T ++ List.replicate p 0) = num T * 2 ^ p := by rw [num_append, num_zeros, List.length_replicate]; omega
  have hTb := num_bound hTB
  have hpw : (2 : Int) ^ b = 2 ^ T.length * 2 ^ p := by rw [← Int.pow_add, hTl]; congr 1; omega
  have hjp : (2 : Int) ^ j < 2 ^ p := by
    have h1 : (2 : Nat) ^ j < 2 ^ p := Nat.pow_lt_pow_right (by decide) hj
    have h2 := kbt_cast j
    have h3 := kbt_cast p
    omega
  rw [e4] at hok ⊢
  refine ⟨by simp, ?_⟩
  have e5 : (groupsN b G ++ [num (T ++ List.replicate p 0)]).length - 1 = (groupsN b G).length := by simp
  rw [e5, List.take_left]
  intro x hx
  rcases List.mem_append.mp hx with hx | hx
  · exact hok x (List.mem_append_left _ hx)
  · rw [List.mem_singleton] at hx
    have e6 : (groupsN b G ++ [num (T ++ List.replicate p 0)]).getD (groupsN b G).length 0 = num (T ++ List.replicate p 0) := by simp [List.getD]
    rw [e6, hzv] at hx
    have hpp := p2 p
    have hjj := p2 j
    have h0 : 0 ≤ num T * 2 ^ p := Int.mul_nonneg hTb.1 (Int.le_of_lt hpp)
    have h1 : (num T + 1) * 2 ^ p ≤ 2 ^ T.length * 2 ^ p := Int.mul_le_mul_of_nonneg_right (by omega) (Int.le_of_lt hpp)
    rw [Int.add_mul, Int.one_mul, ← hpw] at h1
    omega
end Mine

/- Pure4 -/
namespace Mine
theorem cut_m1 (S : List Int) : cut S none (some (-1)) = S.take (S.length - 1) := by
  unfold cut
  have := clipAt_neg S.length 1 (Nat.le_refl 1)
  simp only [Option.elim, List.drop_zero, Nat.sub_zero]
  rw [show (-1 : Int) = -((1 : Nat) : Int) from rfl, this]
theorem hurt_fine {a b : Nat} (hb : 0 < b) {V : List Int} (hp : 0 < padN b (bitsN a V).length) (r : Int) :
    Ok b (cut (keptN a b V) none (some (-1)) ++ [(keptN a b V).getD (-1 + ((keptN a b V).length : Int)).toNat 0 + 1 * 2 ^ (r.fmod ((padN b (bitsN a V).length : Nat) : Int)).toNat]) := by
  have h0 := fmod_lo r (n := ((padN b (bitsN a V).length : Nat) : Int)) (by omega)
  have h1 := fmod_hi r (n := ((padN b (bitsN a V).length : Nat) : Int)) (by omega)
  obtain ⟨hl, hok⟩ := hurt_ok (a := a) hb (V := V) hp (j := (r.fmod ((padN b (bitsN a V).length : Nat) : Int)).toNat) (by omega)
  rw [cut_m1, Int.one_mul, show (-1 + ((keptN a b V).length : Int)).toNat = (keptN a b V).length - 1 by omega]
  exact hok
theorem kept_pos {a b : Nat} (hb : 0 < b) {V : List Int} (hp : 0 < padN b (bitsN a V).length) : 0 < (keptN a b V).length := (hurt_ok (a := a) hb (V := V) hp (j := 0) hp).1
theorem ok_zero {b : Nat} {K : List Int} (h : Ok b K) : Ok b (K ++ [0]) := by
  intro x hx
  rcases List.mem_append.mp hx with hx | hx
  · exact h x hx
  · rw [List.mem_singleton] at hx
    subst hx
    exact ⟨Int.le_refl _, p2 _⟩
theorem not_ok {a : Nat} {A B : List Int} {w : Int} (h : w < 0 ∨ 2 ^ a ≤ w) : ¬ Ok a (A ++ [w] ++ B) := by
  intro hok
  have := hok w (List.mem_append_left _ (List.mem_append_right _ (List.mem_singleton.mpr rfl)))
  omega
theorem hurt_len {a b : Nat} (hb : 0 < b) {V H : List Int} (h : H.length ≤ (keptN a b V).length + 1) : (bitsN b H).length ≤ (bitsN a V).length + padN b (bitsN a V).length + b := by
  rw [bitsN_length, ← kept_len (a := a) hb (V := V), ← Nat.succ_mul]
  exact Nat.mul_le_mul_right b h
theorem bad_of {a n : Nat} {A B : List Int} {w : Int} {v : List Value} (h : IntsAre v (A ++ [w] ++ B)) (hA : A.length ≤ n) (hB : B.length ≤ n) (hw : w < 0 ∨ 2 ^ a ≤ w) : ∃ bad, IntsAre v bad ∧ ¬ Ok a bad ∧ bad.length ≤ 2 * n + 1 := by
  refine ⟨_, h, not_ok hw, ?_⟩
  simp only [List.length_append, List.length_cons, List.length_nil]
  omega
theorem wrong_hi (a : Nat) (R : Int) : 1 * 2 ^ (a : Int).toNat + R.fmod (1 * 2 ^ (a : Int).toNat) < 0 ∨ 2 ^ a ≤ 1 * 2 ^ (a : Int).toNat + R.fmod (1 * 2 ^ (a : Int).toNat) := by
  rw [Int.toNat_natCast, Int.one_mul]
  have := fmod_lo R (p2 a)
  exact .inr (by omega)
theorem wrong_lo (a : Nat) (R : Int) : -1 - R.fmod (1 * 2 ^ (a : Int).toNat) < 0 ∨ 2 ^ a ≤ -1 - R.fmod (1 * 2 ^ (a : Int).toNat) := by
  rw [Int.toNat_natCast, Int.one_mul]
  have := fmod_lo R (p2 a)
  exact .inl (by omega)
end Mine

/- LawA -/
namespace Mine
local macro_rules | `(tactic| walk_at "mypad0") => `(tactic| skip)
local macro_rules | `(tactic| walk_at "mypad1") => `(tactic| skip)
local macro_rules | `(tactic| walk_at "mypad2") => `(tactic| skip)
local macro_rules | `(tactic| walk_at "mypad3") => `(tactic| skip)
local macro_rules | `(tactic| walk_at "mypad4") => `(tactic| skip)
local macro_rules | `(tactic| walk_at "mypad5") => `(tactic| skip)
local macro_rules | `(tactic| walk_at "mypad6") => `(tactic| skip)
local macro_rules | `(tactic| walk_at "mypad7") => `(tactic| skip)
local macro_rules | `(tactic| walk_at "mypad8") => `(tactic| skip)
local macro_rules | `(tactic| walk_at "mypad9") => `(tactic| skip)
local macro_rules | `(tactic| walk_at "mypad10") => `(tactic| skip)
local macro_rules | `(tactic| walk_at "mypad11") => `(tactic| skip)
local macro_rules | `(tactic| walk_at "mypad12") => `(tactic| skip)
local macro_rules | `(tactic| walk_at "mypad13") => `(tactic| skip)
local macro_rules | `(tactic| walk_at "mypad14") => `(tactic| skip)
local macro_rules | `(tactic| walk_at "pyIter ref") => `(tactic| (refine stop_here ?_))
local macro_rules | `(tactic| walk_at "call ref") => `(tactic| (refine stop_here ?_))
local macro_rules | `(tactic| walk_at "call builtin:list.append") => `(tactic| (refine stop_here ?_))
local macro_rules | `(tactic| walk_at "subscriptTail Name UnaryOp ref int") => `(tactic| (refine stop_here ?_))
local macro_rules | `(tactic| walk_at "exec If") => `(tactic| (refine stop_here ?_))
local macro_rules | `(tactic| walk_at "compareOp NotEq ref ref") => `(tactic| (refine stop_here ?_))
local macro_rules | `(tactic| walk_at "compareOp Eq ref ref") => `(tactic| (refine stop_here ?_))
local macro_rules | `(tactic| walk_at "cs") => `(tactic| ((case B => k_asm); (case F => k_asm); (case X => k_asm); (case N => k_asm); (case T => k_asm); (case hk => exact rfl); (case hdt => walk_at "mymem"); (case hl => first | omega | (simp only [List.length_append, List.length_replicate]; omega)); (case hdp => decide)))
local macro_rules | `(tactic| walk_at "mymem") => `(tactic| first | exact List.Mem.head _ | assumption | (refine List.Mem.tail _ ?_; walk_at "mymem") | (refine List.mem_append_left _ ?_; walk_at "mymem") | (refine List.mem_append_right _ ?_; walk_at "mymem"))
local macro_rules | `(tactic| walk_at "call builtin:len") => `(tactic| (k_here; (with_reducible show wpAny _ _ (call (Value.builtin "len") [Value.ref _]) _ _ _); k_dflt (refine' my_len ?k1 ?k2 ?k3 ?k4 ?_; (case k1 => k_asm); (case k2 => walk_at "mymem"); (case k3 => assumption); (case k4 => omega); k_whole)))
local macro_rules | `(tactic| walk_at "subscriptTail Name Slice ref ref") => `(tactic| (k_here; (with_reducible show wpAny _ _ (subscriptTail _ (PySem.Expr.Slice _ _ none _) (Value.ref _) (Value.ref _)) _ _ _); k_dflt (refine' my_slice ?F ?N ?m ?i ?p ?q ?z ?_ ?s ?t; (case F => k_asm); (case N => k_asm); (case m => walk_at "mymem"); (case i => assumption); (case p => first | exact IsPart.none | exact IsPart.int _ _); (case q => first | exact IsPart.none | exact IsPart.int _ _); (case z => first | omega | (simp only [List.length_cons]; omega)); (case s => with_unfolding_all rfl); (case t => intro _; with_unfolding_all rfl); k_whole); intro l' vs' h' F' N' l1 hI' hL'; (try simp only [List.length_cons] at hL'); (try k_sweep)))
local macro_rules | `(tactic| walk_at "call type:list") => `(tactic| (k_here; (with_reducible show wpAny _ _ (call (Value.type _) [Value.ref _]) _ _ _); k_dflt (refine' my_listof ?F ?N ?m ?i ?z ?_; (case F => k_asm); (case N => k_asm); (case m => walk_at "mymem"); (case i => assumption); (case z => omega); k_whole); intro l' c' vs' h' F' N' l1 hI'; (try k_sweep)))
local macro_rules | `(tactic| walk_at "call type:tuple") => `(tactic| (k_here; (with_reducible show wpAny _ _ (call (Value.type _) [Value.ref _]) _ _ _); k_dflt (refine' my_tupleof ?F ?N ?m ?i ?z ?_; (case F => k_asm); (case N => k_asm); (case m => walk_at "mymem"); (case i => assumption); (case z => omega); k_whole); intro l' vs' h' F' N' l1 hI'; (try k_sweep)))
local macro_rules | `(tactic| walk_at "binaryOp Add ref ref") => `(tactic| (k_here; (with_reducible show wpAny _ _ (binaryOp _ (Value.ref _) (Value.ref _)) _ _ _); k_dflt (refine' my_add ?F ?N ?m ?n ?i ?j ?z ?_; (case F => k_asm); (case N => k_asm); (case m => walk_at "mymem"); (case n => walk_at "mymem"); (case i => l_ints); (case j => l_ints); (case z => (simp only [List.length_cons, List.length_nil, List.length_append, List.length_replicate]; omega)); k_whole); intro l' vs' h' F' N' l1 hI'; (try k_sweep)))
local macro_rules | `(tactic| walk_at "binaryOp Mult ref int") => `(tactic| (k_here; (with_reducible show wpAny _ _ (binaryOp _ (Value.ref _) (Value.int _ _)) _ _ _); k_dflt (refine' my_mul ?F ?N ?m ?a ?b ?_; (case F => k_asm); (case N => k_asm); (case m => walk_at "mymem"); (case a => omega); (case b => omega); k_whole); intro l' vs' h' F' N' l1 hI'; (try k_sweep)))
local macro_rules | `(tactic| walk_at "binaryOp LShift int int") => `(tactic| (refine shl_ok ?kb1 ?kb2 ?kb3 ?kb4 ?_; (case kb1 => omega); (case kb2 => omega); (case kb3 => omega); (case kb4 => omega)))
local macro_rules | `(tactic| walk_at "binaryOp RShift int int") => `(tactic| (refine rshift_int ?kb1 ?_; (case kb1 => omega)))

theorem size_of (k : Int) : ∃ o : Int, 1 ≤ o ∧ o ≤ 40 ∧ (if ¬ (k.fdiv 40).fmod 2 = 0 then 1 + k.fmod 40 else 1 + k.fmod 9) = o := by
  refine ⟨_, ?_, ?_, rfl⟩ <;>
  · have h1 := fmod_lo k (n := 40) (by decide)
    have h2 := fmod_hi k (n := 40) (by decide)
    have h3 := fmod_lo k (n := 9) (by decide)
    have h4 := fmod_hi k (n := 9) (by decide)
    split <;> omega
theorem four (xs : List Int) : ∃ r0 r1 r2 r3 rest, xs ++ [3, 8, 1, 6] = r0 :: r1 :: r2 :: r3 :: rest ∧ rest.length = xs.length := by
  rcases xs with _ | ⟨a, _ | ⟨b, _ | ⟨c, _ | ⟨d, r⟩⟩⟩⟩
  · exact ⟨_, _, _, _, _, rfl, rfl⟩
  · exact ⟨_, _, _, _, _, rfl, rfl⟩
  · exact ⟨_, _, _, _, _, rfl, rfl⟩
  · exact ⟨_, _, _, _, _, rfl, rfl⟩
  · exact ⟨a, b, c, d, r ++ [3, 8, 1, 6], by simp, by simp⟩
theorem row_of {vs ys : List Value} {xs : List Int} {f : Int → Int} (h1 : IntsAre vs (xs ++ [3, 8, 1, 6])) (h8 : IntsAre ys (List.map f (List.take 3 (xs ++ [3, 8, 1, 6])))) (hf : ∀ k, 1 ≤ f k ∧ f k ≤ 40) (hx : xs.length ≤ 40) :
    ∃ r0 r1 r2 r3 rest o1 o2 o3 t1 t2 t3, IntsAre vs (r0 :: r1 :: r2 :: r3 :: rest) ∧ rest.length ≤ 40 ∧ ys = [.int o1 t1, .int o2 t2, .int o3 t3] ∧ (1 ≤ o1 ∧ o1 ≤ 40) ∧ (1 ≤ o2 ∧ o2 ≤ 40) ∧ (1 ≤ o3 ∧ o3 ≤ 40) := by
  obtain ⟨r0, r1, r2, r3, rest, e, hl⟩ := four xs
  rw [e] at h1 h8
  simp only [List.take, List.map] at h8
  cases h8 with | cons _ t1 h8 =>
  cases h8 with | cons _ t2 h8 =>
  cases h8 with | cons _ t3 h8 =>
  cases h8
  exact ⟨r0, r1, r2, r3, rest, _, _, _, t1, t2, t3, h1, by omega, rfl, hf _, hf _, hf _⟩
theorem ref_at {h₀ h : Heap} {L : Addr} {m : Str → Option Value} (_ : Fr h₀ L h m) (x : Str) (e : ∃ l, m x = some (.ref l)) : ∃ l, m x = some (.ref l) := e
theorem int_at {h₀ h : Heap} {L : Addr} {m : Str → Option Value} (_ : Fr h₀ L h m) (x : Str) (e : ∃ k t, m x = some (.int k t)) : ∃ k t, m x = some (.int k t) := e
theorem tok_at {h₀ h : Heap} {L : Addr} {m : Str → Option Value} {k : Int} (_ : Fr h₀ L h m) (x : Str) (e : ∃ t, m x = some (.int k t)) : ∃ t, m x = some (.int k t) := e
theorem fewer {h₀ h : Heap} {L : Addr} {nx nx' : List (Addr × Obj)} (N : News h₀ L h nx) (hs : ∀ q ∈ nx', q ∈ nx) : News h₀ L h nx' := fun q hq => N q (hs q hq)
theorem all1 {α : Type} {P : α → Prop} {a : α} {r : List α} (h : P a) (g : ∀ q ∈ r, P q) : ∀ q ∈ a :: r, P q := fun q hq => (List.mem_cons.mp hq).elim (fun e => e ▸ h) (g q)
theorem all0 {α : Type} {P : α → Prop} : ∀ q ∈ ([] : List α), P q := fun _ hq => nomatch hq
theorem ltOf {l : Addr} {nx : List (Addr × Obj)} (h : ∀ q ∈ nx, q.1 < l) {a : Addr} {o : Obj} (hm : (a, o) ∈ nx) : @LT.lt Nat _ a l := h _ hm
theorem canon {h₀ h : Heap} {L : Addr} {m : Str → Option Value} (F : Fr h₀ L h m) (ps : List (Str × Value)) (hps : ∀ p ∈ ps, m p.1 = some p.2) : ∃ u, Fr h₀ L h (lk u ps) := ⟨m, by rw [lk_eq hps]; exact F⟩
theorem values_of {ys : List Value} {f : Int → Int} {o : Int} {ks : List Int} (h : IntsAre ys (ks.map fun k => (f k).fmod (1 * 2 ^ o.toNat))) (hk : ks.length ≤ 44) : ∃ V, IntsAre ys V ∧ Ok o.toNat V ∧ V.length ≤ 44 := by
  refine ⟨_, h, fun x hx => ?_, by rw [List.length_map]; exact hk⟩
  obtain ⟨k, _, rfl⟩ := List.mem_map.mp hx
  rw [Int.one_mul]
  exact ⟨fmod_lo _ (p2 _), fmod_hi _ (p2 _)⟩
theorem with_obj {o : Obj} {v : Data} (_ : o.data = v) {P : Prop} (k : ∀ o', o' = o → P) : P := k o rfl
theorem with_cnt {h₀ h : Heap} {L l : Addr} {us : List Value} {n : Nat} {rest : List (Addr × Obj)} (_ : News h₀ L h ((l, listOf us.toArray n) :: rest)) {P : Prop} (k : ∀ n', n' = n → P) : P := k n rfl

/-- what holds behind the branch that makes the hurt row -/
def HurtP (h₀ : Heap) (L : Addr) (ps : List (Str × Value)) (news : List (Addr × Obj)) (b n : Nat) (s : Shared) (f : Flow) (s' : Shared) : Prop :=
  f = .next ∧ ∃ (H : List Int) (lH : Addr) (vs : List Value) (k : Nat) (h' : Heap) (tk : Nat) (u : Str → Option Value), s' = { s with heap := h', toks := tk } ∧
    Fr h₀ L h' (lk u ((Str.ofString "hurt", .ref lH) :: ps)) ∧ News h₀ L h' ((lH, listOf vs.toArray k) :: news) ∧ IntsAre vs H ∧ Ok b H ∧ H.length ≤ n
theorem hurt_end {h₀ h' : Heap} {L lH : Addr} {ps : List (Str × Value)} {news nx : List (Addr × Obj)} {b n : Nat} {s : Shared} {m : Str → Option Value} {H : List Int} {vs : List Value} {k tk : Nat}
    (F : Fr h₀ L h' m) (N : News h₀ L h' nx) (hi : IntsAre vs H) (hok : Ok b H) (hl : H.length ≤ n) (hps : ∀ p ∈ (Str.ofString "hurt", Value.ref lH) :: ps, m p.1 = some p.2) (hs : ∀ q ∈ (lH, listOf vs.toArray k) :: news, q ∈ nx) :
    HurtP h₀ L ps news b n s .next { s with heap := h', toks := tk } := by
  obtain ⟨u, F'⟩ := canon F _ hps
  exact ⟨rfl, H, lH, vs, k, h', tk, u, rfl, F', fewer N hs, hi, hok, hl⟩

/-- a test whose answer is not known; if it is true, P holds -/
def TB (h₀ : Heap) (L : Addr) (m : Str → Option Value) (news : List (Addr × Obj)) (s : Shared) (P : Prop) (b : Bool) (s' : Shared) : Prop :=
  (b = true → P) ∧ ∃ h' tk, s' = { s with heap := h', toks := tk } ∧ Fr h₀ L h' m ∧ News h₀ L h' news
theorem tb_end {h₀ h' : Heap} {L : Addr} {m : Str → Option Value} {news nx : List (Addr × Obj)} {s : Shared} {P : Prop} {b : Bool} {tk : Nat} (F : Fr h₀ L h' m) (N : News h₀ L h' nx) (hp : b = true → P) (hs : ∀ q ∈ news, q ∈ nx) : TB h₀ L m news s P b { s with heap := h', toks := tk } :=
  ⟨hp, h', tk, rfl, F, fewer N hs⟩
theorem if_two {M : Model} {A : Around} {E : Value → Shared → Prop} {s : Shared} {h₀ : Heap} {L : Addr} {m : Str → Option Value} {news : List (Addr × Obj)} {env : Env} {P : Prop} {test : Expr} {body orelse : List Stmt} {pos : Pos} {Q : Flow → Shared → Prop}
    (h : wpAny M A (isTrue test env (eval test env)) (TB h₀ L m news s P) E s)
    (k1 : ∀ h' tk, P → Fr h₀ L h' m → News h₀ L h' news → wpAny M A (execs body env) Q E { s with heap := h', toks := tk })
    (k2 : ∀ h' tk, Fr h₀ L h' m → News h₀ L h' news → wpAny M A (execs orelse env) Q E { s with heap := h', toks := tk }) : wpAny M A (exec (.If test body orelse pos) env) Q E s := by
  refine wpAny_If (wpAny_mono h (fun b s' hb => ?_) fun _ _ e => e)
  obtain ⟨hp, h', tk, rfl, F, N⟩ := hb
  cases b with
  | true => simpa using k1 h' tk (hp rfl) F N
  | false => simpa using k2 h' tk F N
local macro_rules | `(tactic| walk_at "mykst") => `(tactic| first | exact all0 | (refine all1 (by first | assumption | rfl) ?_; walk_at "mykst"))
local macro_rules | `(tactic| walk_at "mysub") => `(tactic| first | exact all0 | (refine all1 (by walk_at "mymem") ?_; walk_at "mysub"))
set_option maxHeartbeats 20000000 in
theorem see : PySem.Challenge.rw_fw0003_01.Holds := hd (by
  k_go0
  all_goals try k_fold
  k_steps
  rename IntsAre _ (List.map _ _) => h8
  rename IntsAre _ (_ ++ [3, 8, 1, 6]) => hrow0
  obtain ⟨r0, r1, r2, r3, rest, one, two, three, t1, t2, t3, hrow, hrest, hys, ⟨h11, h12⟩, ⟨h21, h22⟩, ⟨h31, h32⟩⟩ := row_of hrow0 h8 (fun k => by obtain ⟨o, a, b, e⟩ := size_of k; rw [e]; exact ⟨a, b⟩) (by rw [List.length_take]; omega)
  subst hys
  clear h8 hrow0
  k_steps
  rename Shared => s1
  rename World => wd
  rename (Obj.data _ = _) => hc1; revert hc1; rename (Obj.data _ = _) => hc2; intro hc1
  replace hc1 : _ = Data.cell none := hc1
  replace hc2 : _ = Data.cell none := hc2
  rename Fr _ _ _ _ => F1
  rename News _ _ _ _ => N1
  obtain ⟨lr, hlr⟩ := ref_at F1 (Str.ofString "row") ⟨_, rfl⟩
  replace hlr := (Value.ref.inj (Option.some.inj hlr)).symm
  subst hlr
  refine with_vs hrow fun vr e => ?_
  subst e
  rename (∀ q ∈ (_ : List (Addr × Obj)), q.1 < lr) => hlt
  have hl1 := ltOf hlt (a := s1.heap.objs.size + 1) (by walk_at "mymem")
  have hl2 := ltOf hlt (a := s1.heap.objs.size + 1 + 1) (by walk_at "mymem")
  clear hlt
  replace N1 := fewer N1 (nx' := [(lr, listOf vr.toArray 0), (s1.heap.objs.size + 1 + 1, _), (s1.heap.objs.size + 1, _)]) (all1 (by walk_at "mymem") (all1 (by walk_at "mymem") (all1 (by walk_at "mymem") all0)))
  k_steps
  -- values and given stand
  rename Fr _ _ _ _ => F1
  rename News _ _ _ _ => N1
  rename IntsAre _ (List.map _ (rangeKs _ _)) => hV0
  obtain ⟨V, hV, hOk, hVl⟩ := values_of hV0 (by rw [rangeKs_length]; omega)
  clear hV0
  refine with_vs hV fun ys e => ?_
  subst e
  obtain ⟨lg, hlg⟩ := ref_at F1 (Str.ofString "given") ⟨_, rfl⟩
  replace hlg := (Value.ref.inj (Option.some.inj hlg)).symm
  subst hlg
  obtain ⟨lv, hlv⟩ := ref_at F1 (Str.ofString "values") ⟨_, rfl⟩
  replace hlv := (Value.ref.inj (Option.some.inj hlv)).symm
  subst hlv
  obtain ⟨a, rfl⟩ : ∃ a : Nat, one = (a : Int) := ⟨one.toNat, by omega⟩
  obtain ⟨b, rfl⟩ : ∃ b : Nat, two = (b : Int) := ⟨two.toNat, by omega⟩
  obtain ⟨c, rfl⟩ : ∃ c : Nat, three = (c : Int) := ⟨three.toNat, by omega⟩
  rw [Int.toNat_natCast] at hOk
  rename (Obj.data _ = Data.cell (some (Value.int _ _))) => hlim
  refine with_obj hlim fun oL e => ?_
  subst e
  rename (Obj.data _ = Data.cell (some (Value.ref _))) => hdr
  refine with_obj hdr fun oD e => ?_
  subst e
  refine with_cnt N1 fun kg e => ?_
  subst e
  obtain ⟨u1, F2⟩ := canon F1 [(Str.ofString "one", .int (a : Int) t1), (Str.ofString "two", .int (b : Int) t2), (Str.ofString "three", .int (c : Int) t3), (Str.ofString "row", .ref lr), (Str.ofString "values", .ref lv), (Str.ofString "given", .ref lg)] (by kst_all)
  clear F1
  repeat (rename (@Eq Nat _ _) => hj; clear hj)
  rename IsRange _ _ _ _ _ _ _ _ => hj; clear hj
  replace N1 := fewer N1 (nx' := [(lg, listOf ys.toArray kg), (lv, listOf ys.toArray ys.length), (lr, listOf vr.toArray 0), (s1.heap.objs.size + 1 + 1, _), (s1.heap.objs.size + 1, _)]) (all1 (by walk_at "mymem") (all1 (by walk_at "mymem") (all1 (by walk_at "mymem") (all1 (by walk_at "mymem") (all1 (by walk_at "mymem") all0)))))
  have hSl : (bitsN a V).length ≤ 1760 := by rw [bitsN_length]; exact Nat.le_trans (Nat.mul_le_mul hVl (by omega : a ≤ 40)) (by decide)
  refine' bits_spec (xs := V) ?B ?F ?X ?N ?T ?hk ?hdt ?hi h11 h12 ?hl ?hdp ?hret
  case hi => assumption
  walk_at "cs"
  case hret =>
  intro lb vb kb h2 tk2 F3 N3 hltb hvb
  rw [bitsC_eq] at hvb
  clear F2 N1
  dsimp only
  k_steps
  have ha0 : 0 < a := by omega
  have hb0 : 0 < b := by omega
  have hc0 : 0 < c := by omega
  have hpb := padN_lt hb0 (bitsN a V).length
  have hpc := padN_lt hc0 (bitsN a V).length
  have hKl := kept_len_le (a := a) hb0 (V := V)
  have hx1 := neg_mod hb0 (bitsN a V).length
  refine' conv_spec3 (o := listOf ys.toArray _) (us := ys) (xs := V) ?B ?F ?X ?N ?T ?hk ?hdt ?hso hV h11 h12 h21 h22 ?hl ?hdp ?hret
  case hso => exact ⟨.inl rfl, _, rfl⟩
  walk_at "cs"
  case hret =>
  rw [conv_there hb0 hOk]
  intro lt vt kt h3 tk3 F4 N4 hltt hvt
  dsimp only
  k_steps
  rename Fr _ _ _ _ => F5
  rename News _ _ _ _ => N5
  obtain ⟨u2, F6⟩ := canon F5 [(Str.ofString "one", .int (a : Int) t1), (Str.ofString "two", .int (b : Int) t2), (Str.ofString "three", .int (c : Int) t3), (Str.ofString "row", .ref lr), (Str.ofString "values", .ref lv), (Str.ofString "given", .ref lg), (Str.ofString "bits", .ref lb), (Str.ofString "there", .ref lt)] (by kst_all)
  clear F5
  refine if_cut (m := lk u2 [(Str.ofString "one", .int (a : Int) t1), (Str.ofString "two", .int (b : Int) t2), (Str.ofString "three", .int (c : Int) t3), (Str.ofString "row", .ref lr), (Str.ofString "values", .ref lv), (Str.ofString "given", .ref lg), (Str.ofString "bits", .ref lb), (Str.ofString "there", .ref lt)]) (h₀ := s1.heap) (L := s1.heap.objs.size)
    (news := [(lt, listOf vt.toArray kt), (lb, listOf vb.toArray kb), (lg, listOf ys.toArray kg), (lv, listOf ys.toArray ys.length), (lr, listOf vr.toArray 0), (s1.heap.objs.size + 1 + 1, oD), (s1.heap.objs.size + 1, oL)]) ?test ?cont
  case test =>
    (try k_fold)
    k_steps
    rename IntsAre _ (bitsN a V ++ _) => hq1
    rw [hx1, Int.toNat_natCast] at hq1
    refine with_vs hq1 fun vq e => ?_
    subst e
    refine' groups_spec (xs := bitsN a V ++ List.replicate (padN b (bitsN a V).length) 0) ?B ?F ?X ?N ?T ?hk ?hdt ?hi h21 h22 ?hl ?hdp ?hret
    case hi => assumption
    walk_at "cs"
    case hret =>
    rw [groupsC_eq]
    intro lq vr2 kq h5 tk5 F7 N7 hltq hvq
    dsimp only
    k_steps
    refine' my_ne (e := rfl) N7 ?m1 ?m2 hvt hvq ?hu ?hq
    case m1 => walk_at "mymem"
    case m2 => walk_at "mymem"
    case hu => units_room
    case hq =>
    k_steps
    exact fb_end F7 N7 (by walk_at "mysub")
  case cont =>
  clear F6 N5
  intro h4 tk4 F1 N1
  k_steps
  rename Fr _ _ _ _ => F2
  rename News _ _ _ _ => N2
  rename IntsAre _ (keptN a b V) => hvk
  obtain ⟨lK, hlK⟩ := ref_at F2 (Str.ofString "kept") ⟨_, rfl⟩
  replace hlK := (Value.ref.inj (Option.some.inj hlK)).symm
  subst hlK
  refine with_vs hvk fun vk e => ?_
  subst e
  refine with_cnt N2 fun kK e => ?_
  subst e
  rename (∀ q ∈ (_ : List (Addr × Obj)), q.1 < lK) => hltk
  refine' append_K F2 N2 (Upd.tail (Nat.ne_of_gt (ltOf hltk (.head _))) (Upd.head (fun p hp => Nat.ne_of_lt (hltt p hp)))) ?ap ?z
  case z => rw [List.size_toArray, hvt.length, sizeLine_eq]; omega
  case ap =>
  clear F2 N2
  intro h' F1 N1
  replace N1 := fewer N1 (nx' := [(lK, listOf vk.toArray kK), (lb, listOf vb.toArray kb), (lg, listOf ys.toArray kg), (lv, listOf ys.toArray ys.length), (lr, listOf vr.toArray 0), (s1.heap.objs.size + 1 + 1, oD), (s1.heap.objs.size + 1, oL)]) (by walk_at "mysub")
  obtain ⟨u3, F2⟩ := canon F1 [(Str.ofString "one", .int (a : Int) t1), (Str.ofString "two", .int (b : Int) t2), (Str.ofString "three", .int (c : Int) t3), (Str.ofString "row", .ref lr), (Str.ofString "values", .ref lv), (Str.ofString "given", .ref lg), (Str.ofString "bits", .ref lb), (Str.ofString "kept", .ref lK)] (by kst_all)
  clear F1
  clear hltt hvt
  k_steps
  rename Fr _ _ _ _ => F3
  rename News _ _ _ _ => N3
  rw [kept_held hb0] at F3
  obtain ⟨th, hth⟩ := tok_at F3 (Str.ofString "held") ⟨_, rfl⟩
  obtain ⟨u4, F4⟩ := canon F3 [(Str.ofString "one", .int (a : Int) t1), (Str.ofString "two", .int (b : Int) t2), (Str.ofString "three", .int (c : Int) t3), (Str.ofString "row", .ref lr), (Str.ofString "values", .ref lv), (Str.ofString "given", .ref lg), (Str.ofString "bits", .ref lb), (Str.ofString "kept", .ref lK), (Str.ofString "held", .int ((padN b (bitsN a V).length : Nat) : Int) th)] (by walk_at "mykst")
  clear F3 hth
  have hfd : (((padN b (bitsN a V).length : Nat) : Int)).fdiv (a : Int) = ((padN b (bitsN a V).length / a : Nat) : Int) := by
    rw [Int.fdiv_eq_ediv_of_nonneg _ (by omega)]; exact (Int.natCast_ediv _ _).symm
  have hfl := Nat.div_le_self (padN b (bitsN a V).length) a
  have hch := conv_home ha0 hb0 hOk
  generalize padN b (bitsN a V).length / a = fz at hfd hfl hch
  refine if_cut (m := lk u4 [(Str.ofString "one", .int (a : Int) t1), (Str.ofString "two", .int (b : Int) t2), (Str.ofString "three", .int (c : Int) t3), (Str.ofString "row", .ref lr), (Str.ofString "values", .ref lv), (Str.ofString "given", .ref lg), (Str.ofString "bits", .ref lb), (Str.ofString "kept", .ref lK), (Str.ofString "held", .int ((padN b (bitsN a V).length : Nat) : Int) th)]) (h₀ := s1.heap) (L := s1.heap.objs.size)
    (news := [(lK, listOf vk.toArray kK), (lb, listOf vb.toArray kb), (lg, listOf ys.toArray kg), (lv, listOf ys.toArray ys.length), (lr, listOf vr.toArray 0), (s1.heap.objs.size + 1 + 1, oD), (s1.heap.objs.size + 1, oL)]) ?test ?cont
  case test =>
    (try k_fold)
    k_steps
    refine' conv_spec (o := listOf vk.toArray _) (us := vk) (xs := keptN a b V) ?B ?F ?X ?N ?T ?hk ?hdt ?hso hvk h21 h22 h11 h12 ?hl ?hdp ?hret
    case hso => exact ⟨.inl rfl, _, rfl⟩
    walk_at "cs"
    case hret =>
    rw [hch]
    intro lq vq kq h5 tk5 F7 N7 hltq hvq
    dsimp only
    k_steps
    rename IntsAre _ (V ++ List.replicate _ 0) => hw
    rw [hfd, Int.toNat_natCast] at hw
    rename News _ _ _ _ => N8
    rename Fr _ _ _ _ => F8
    refine' my_ne (e := rfl) N8 ?m1 ?m2 hvq hw ?hu ?hq
    case m1 => walk_at "mymem"
    case m2 => walk_at "mymem"
    case hu => units_room
    case hq =>
    k_steps
    exact fb_end F8 N8 (by walk_at "mysub")
  case cont =>
  clear F4 N3
  intro h4 tk4 F1 N1
  have hx3 := neg_mod hc0 (bitsN a V).length
  obtain ⟨hcok, more, hmc, hme, hml⟩ := conv_third (a := a) (V := V) hb0 hc0
  have hKl3 := kept_len_le (a := a) hc0 (V := V)
  clear hch hfl hfd fz
  k_steps
  rename Fr _ _ _ _ => F2
  rename News _ _ _ _ => N2
  rw [hx3, hme] at F2
  obtain ⟨tm, htm⟩ := tok_at F2 (Str.ofString "more") ⟨_, rfl⟩
  obtain ⟨u5, F3⟩ := canon F2 [(Str.ofString "one", .int (a : Int) t1), (Str.ofString "two", .int (b : Int) t2), (Str.ofString "three", .int (c : Int) t3), (Str.ofString "row", .ref lr), (Str.ofString "values", .ref lv), (Str.ofString "given", .ref lg), (Str.ofString "bits", .ref lb), (Str.ofString "kept", .ref lK), (Str.ofString "held", .int ((padN b (bitsN a V).length : Nat) : Int) th), (Str.ofString "more", .int (more : Int) tm)] (by walk_at "mykst")
  clear F2 htm
  refine if_cut (m := lk u5 [(Str.ofString "one", .int (a : Int) t1), (Str.ofString "two", .int (b : Int) t2), (Str.ofString "three", .int (c : Int) t3), (Str.ofString "row", .ref lr), (Str.ofString "values", .ref lv), (Str.ofString "given", .ref lg), (Str.ofString "bits", .ref lb), (Str.ofString "kept", .ref lK), (Str.ofString "held", .int ((padN b (bitsN a V).length : Nat) : Int) th), (Str.ofString "more", .int (more : Int) tm)]) (h₀ := s1.heap) (L := s1.heap.objs.size)
    (news := [(lK, listOf vk.toArray kK), (lb, listOf vb.toArray kb), (lg, listOf ys.toArray kg), (lv, listOf ys.toArray ys.length), (lr, listOf vr.toArray 0), (s1.heap.objs.size + 1 + 1, oD), (s1.heap.objs.size + 1, oL)]) ?test ?cont
  case test =>
    (try k_fold)
    k_steps
    refine' conv_spec3 (o := listOf ys.toArray _) (us := ys) (xs := V) ?B ?F ?X ?N ?T ?hk ?hdt ?hso hV h11 h12 h31 h32 ?hl ?hdp ?hret
    case hso => exact ⟨.inl rfl, _, rfl⟩
    walk_at "cs"
    case hret =>
    rw [conv_there hc0 hOk]
    intro lp vp kp h5 tk5 F7 N7 hltp hvp
    dsimp only
    k_steps
    refine' conv_spec3 (o := listOf vp.toArray _) (us := vp) (xs := keptN a c V) ?B ?F ?X ?N ?T ?hk ?hdt ?hso hvp h31 h32 h21 h22 ?hl ?hdp ?hret
    case hso => exact ⟨.inl rfl, _, rfl⟩
    walk_at "cs"
    case hret =>
    rw [hmc]
    intro lq vq kq h5 tk5 F7 N7 hltq hvq
    dsimp only
    k_steps
    rename Fr _ _ _ _ => F8
    rename News _ _ _ _ => N8
    rename IntsAre _ (_ ++ List.replicate _ 0) => hw
    rw [Int.toNat_natCast] at hw
    refine' my_ne (e := rfl) N8 ?m1 ?m2 hvq hw ?hu ?hq
    case m1 => walk_at "mymem"
    case m2 => walk_at "mymem"
    case hu => units_room
    case hq =>
    k_steps
    exact fb_end F8 N8 (by walk_at "mysub")
  case cont =>
  clear F3 N2
  intro h4 tk4 F1 N1
  clear hmc hme hml hKl3 hx3
  obtain ⟨u6, F2⟩ := canon F1 [(Str.ofString "one", .int (a : Int) t1), (Str.ofString "two", .int (b : Int) t2), (Str.ofString "row", .ref lr), (Str.ofString "values", .ref lv), (Str.ofString "given", .ref lg), (Str.ofString "bits", .ref lb), (Str.ofString "kept", .ref lK), (Str.ofString "held", .int ((padN b (bitsN a V).length : Nat) : Int) th)] (by kst_all)
  clear F1
  have hsame : tightC (bitsN a V) (a : Int) (b : Int) = conv V (a : Int) (b : Int) false := by rw [tightC_eq, conv_nopad hb0 hOk]
  k_steps
  refine if_cut (m := lk u6 [(Str.ofString "one", .int (a : Int) t1), (Str.ofString "two", .int (b : Int) t2), (Str.ofString "row", .ref lr), (Str.ofString "values", .ref lv), (Str.ofString "given", .ref lg), (Str.ofString "bits", .ref lb), (Str.ofString "kept", .ref lK), (Str.ofString "held", .int ((padN b (bitsN a V).length : Nat) : Int) th)]) (h₀ := s1.heap) (L := s1.heap.objs.size)
    (news := [(lK, listOf vk.toArray kK), (lb, listOf vb.toArray kb), (lg, listOf ys.toArray kg), (lv, listOf ys.toArray ys.length), (lr, listOf vr.toArray 0), (s1.heap.objs.size + 1 + 1, oD), (s1.heap.objs.size + 1, oL)]) ?test ?cont
  case test =>
    (try k_fold)
    k_steps
    rename Fr _ _ _ _ => F8
    rename News _ _ _ _ => N8
    rename IntsAre _ V => hti
    refine with_vs hti fun vz e => ?_
    subst e
    cases hcv : conv V (a : Int) (b : Int) false with
    | none =>
      refine' conv_spec (o := tupOf vz) (us := vz) (xs := V) ?B ?F ?X ?N ?T ?hk ?hdt ?hso hti h11 h12 h21 h22 ?hl ?hdp ?hret
      case hso => exact ⟨.inr rfl, _, rfl⟩
      walk_at "cs"
      case hret =>
      rw [hcv]
      intro h5 tk5 F7 N7
      dsimp only
      k_steps
      refine' tight_spec (us := vb) (xs := bitsN a V) ?B ?F ?X ?N ?T ?hk ?hdt hvb h21 h22 ?hl ?hdp ?hret
      walk_at "cs"
      case hret =>
      rw [hsame, hcv]
      intro h6 tk6 F9 N9
      dsimp only
      k_steps
      exact fb_end F9 N9 (by walk_at "mysub")
    | some G =>
      refine' conv_spec (o := tupOf vz) (us := vz) (xs := V) ?B ?F ?X ?N ?T ?hk ?hdt ?hso hti h11 h12 h21 h22 ?hl ?hdp ?hret
      case hso => exact ⟨.inr rfl, _, rfl⟩
      walk_at "cs"
      case hret =>
      rw [hcv]
      intro lq vq kq h5 tk5 F7 N7 hltq hvq
      dsimp only
      k_steps
      refine' tight_spec (us := vb) (xs := bitsN a V) ?B ?F ?X ?N ?T ?hk ?hdt hvb h21 h22 ?hl ?hdp ?hret
      walk_at "cs"
      case hret =>
      rw [hsame, hcv]
      intro lp vp kp h6 tk6 F9 N9 hltp hvp
      dsimp only
      k_steps
      refine' my_ne (e := rfl) N9 ?m1 ?m2 hvq hvp ?hu ?hq
      case m1 => walk_at "mymem"
      case m2 => walk_at "mymem"
      case hu => units_room
      case hq =>
      k_steps
      exact fb_end F9 N9 (by walk_at "mysub")
  case cont =>
  clear F2 N1 hsame hcok more
  intro h4 tk4 F1 N1
  k_steps
  refine stmt_cut (P := HurtP s1.heap s1.heap.objs.size [(Str.ofString "one", .int (a : Int) t1), (Str.ofString "two", .int (b : Int) t2), (Str.ofString "row", .ref lr), (Str.ofString "values", .ref lv), (Str.ofString "given", .ref lg), (Str.ofString "bits", .ref lb), (Str.ofString "kept", .ref lK)] [(lK, listOf vk.toArray kK), (lb, listOf vb.toArray kb), (lg, listOf ys.toArray kg), (lv, listOf ys.toArray ys.length), (lr, listOf vr.toArray 0), (s1.heap.objs.size + 1 + 1, oD), (s1.heap.objs.size + 1, oL)] b ((keptN a b V).length + 1) { s1 with heap := h4, toks := tk4 }) ?hstm ?hrest
  case hstm =>
    refine if_two (P := 0 < padN b (bitsN a V).length) (m := lk u6 [(Str.ofString "one", .int (a : Int) t1), (Str.ofString "two", .int (b : Int) t2), (Str.ofString "row", .ref lr), (Str.ofString "values", .ref lv), (Str.ofString "given", .ref lg), (Str.ofString "bits", .ref lb), (Str.ofString "kept", .ref lK), (Str.ofString "held", .int ((padN b (bitsN a V).length : Nat) : Int) th)]) (h₀ := s1.heap) (L := s1.heap.objs.size)
      (news := [(lK, listOf vk.toArray kK), (lb, listOf vb.toArray kb), (lg, listOf ys.toArray kg), (lv, listOf ys.toArray ys.length), (lr, listOf vr.toArray 0), (s1.heap.objs.size + 1 + 1, oD), (s1.heap.objs.size + 1, oL)]) ?tst ?yes ?no
    case tst =>
      (try k_fold)
      k_steps
      all_goals first
        | exact tb_end F1 N1 (fun _ => by omega) (by walk_at "mysub")
        | exact tb_end F1 N1 (fun e => nomatch e) (by walk_at "mysub")
    case yes =>
      clear F1 N1
      intro h4 tk4 hpos F1 N1
      have hKp := kept_pos (a := a) hb0 (V := V) hpos
      have hj0 := fmod_lo ((r0 :: r1 :: r2 :: r3 :: rest).getD (Int.toNat 3) 0) (n := ((padN b (bitsN a V).length : Nat) : Int)) (by omega)
      have hj1 := fmod_hi ((r0 :: r1 :: r2 :: r3 :: rest).getD (Int.toNat 3) 0) (n := ((padN b (bitsN a V).length : Nat) : Int)) (by omega)
      (try k_fold)
      k_steps
      rename Fr _ _ _ _ => F2
      rename News _ _ _ _ => N2
      refine' my_item_neg (ns := keptN a b V) N2 ?im hvk (by decide) ?ib (by decide) ?iq
      case im => walk_at "mymem"
      case ib => omega
      case iq =>
      intro t
      generalize (Shared.toks _) = tq
      dsimp only
      k_steps
      rename Fr _ _ _ _ => F3
      rename News _ _ _ _ => N3
      rename IntsAre _ (cut _ _ _ ++ _) => hz
      exact hurt_end F3 N3 hz (hurt_fine hb0 hpos _) (by rw [List.length_append, List.length_cons, List.length_nil]; omega) (by kst_all) (by walk_at "mysub")
    case no =>
      clear F1 N1
      intro h4 tk4 F1 N1
      (try k_fold)
      k_steps
      rename Fr _ _ _ _ => F2
      rename News _ _ _ _ => N2
      rename IntsAre _ (_ ++ [0]) => hz
      exact hurt_end F2 N2 hz (ok_zero (kept_ok hb0)) (by rw [List.length_append]; exact Nat.le_refl _) (by kst_all) (by walk_at "mysub")
  case hrest =>
  clear F1 N1
  intro f s' hf
  obtain ⟨rfl, H, lH, vh, kh, h7, tk7, u7, rfl, F1, N1, hH, hHok, hHl⟩ := hf
  dsimp only
  have hHS := hurt_len (a := a) hb0 (V := V) hHl
  have hsame : tightC (bitsN b H) (b : Int) (a : Int) = conv H (b : Int) (a : Int) false := by rw [tightC_eq, conv_nopad ha0 hHok]
  k_steps
  refine if_cut (m := lk u7 [(Str.ofString "hurt", .ref lH), (Str.ofString "one", .int (a : Int) t1), (Str.ofString "two", .int (b : Int) t2), (Str.ofString "row", .ref lr), (Str.ofString "values", .ref lv), (Str.ofString "given", .ref lg), (Str.ofString "bits", .ref lb), (Str.ofString "kept", .ref lK)]) (h₀ := s1.heap) (L := s1.heap.objs.size)
    (news := [(lH, listOf vh.toArray kh), (lK, listOf vk.toArray kK), (lb, listOf vb.toArray kb), (lg, listOf ys.toArray kg), (lv, listOf ys.toArray ys.length), (lr, listOf vr.toArray 0), (s1.heap.objs.size + 1 + 1, oD), (s1.heap.objs.size + 1, oL)]) ?test ?cont
  case test =>
    (try k_fold)
    k_steps
    cases hcv : conv H (b : Int) (a : Int) false with
    | none =>
      refine' conv_spec (o := listOf vh.toArray _) (us := vh) (xs := H) ?B ?F ?X ?N ?T ?hk ?hdt ?hso hH h21 h22 h11 h12 ?hl ?hdp ?hret
      case hso => exact ⟨.inl rfl, _, rfl⟩
      walk_at "cs"
      case hret =>
      rw [hcv]
      intro h5 tk5 F7 N7
      dsimp only
      k_steps
      refine' bits_spec (us := vh) (xs := H) ?B ?F ?X ?N ?T ?hk ?hdt ?hi h21 h22 ?hl ?hdp ?hret
      case hi => assumption
      walk_at "cs"
      case hret =>
      intro lq vq kq h6 tk6 F8 N8 hltq hvq
      rw [bitsC_eq] at hvq
      dsimp only
      k_steps
      refine' tight_spec (us := vq) (xs := bitsN b H) ?B ?F ?X ?N ?T ?hk ?hdt hvq h11 h12 ?hl ?hdp ?hret
      walk_at "cs"
      case hret =>
      rw [hsame, hcv]
      intro h7 tk7 F9 N9
      dsimp only
      k_steps
      exact fb_end F9 N9 (by walk_at "mysub")
    | some G =>
      refine' conv_spec (o := listOf vh.toArray _) (us := vh) (xs := H) ?B ?F ?X ?N ?T ?hk ?hdt ?hso hH h21 h22 h11 h12 ?hl ?hdp ?hret
      case hso => exact ⟨.inl rfl, _, rfl⟩
      walk_at "cs"
      case hret =>
      rw [hcv]
      intro lx vx kx h5 tk5 F7 N7 hltx hvx
      dsimp only
      k_steps
      refine' bits_spec (us := vh) (xs := H) ?B ?F ?X ?N ?T ?hk ?hdt ?hi h21 h22 ?hl ?hdp ?hret
      case hi => assumption
      walk_at "cs"
      case hret =>
      intro lq vq kq h6 tk6 F8 N8 hltq hvq
      rw [bitsC_eq] at hvq
      dsimp only
      k_steps
      refine' tight_spec (us := vq) (xs := bitsN b H) ?B ?F ?X ?N ?T ?hk ?hdt hvq h11 h12 ?hl ?hdp ?hret
      walk_at "cs"
      case hret =>
      rw [hsame, hcv]
      intro lp vp kp h7 tk7 F9 N9 hltp hvp
      dsimp only
      k_steps
      refine' my_ne (e := rfl) N9 ?m1 ?m2 hvx hvp ?hu ?hq
      case m1 => walk_at "mymem"
      case m2 => walk_at "mymem"
      case hu => units_room
      case hq =>
      k_steps
      exact fb_end F9 N9 (by walk_at "mysub")
  case cont =>
  clear F1 N1 hsame hHS
  intro h4 tk4 F1 N1
  k_steps
  · rename Fr _ _ _ _ => F2
    rename News _ _ _ _ => N2
    rename IntsAre _ (_ ++ [_] ++ _) => hbad
    obtain ⟨lB, hlB⟩ := ref_at F2 (Str.ofString "bad") ⟨_, rfl⟩
    replace hlB := (Value.ref.inj (Option.some.inj hlB)).symm
    subst hlB
    refine with_vs hbad fun vbad e => ?_
    subst e
    obtain ⟨bad, hbi, hbn, hbl⟩ := bad_of (a := a) hbad (cut_len _ _ _) (cut_len _ _ _) (wrong_hi _ _)
    clear hbad
    obtain ⟨u8, F3⟩ := canon F2 [(Str.ofString "one", .int (a : Int) t1), (Str.ofString "two", .int (b : Int) t2), (Str.ofString "values", .ref lv), (Str.ofString "given", .ref lg), (Str.ofString "kept", .ref lK), (Str.ofString "bad", .ref lB)] (by kst_all)
    clear F2
    refine if_cut (m := lk u8 [(Str.ofString "one", .int (a : Int) t1), (Str.ofString "two", .int (b : Int) t2), (Str.ofString "values", .ref lv), (Str.ofString "given", .ref lg), (Str.ofString "kept", .ref lK), (Str.ofString "bad", .ref lB)]) (h₀ := s1.heap) (L := s1.heap.objs.size) (news := [(lB, listOf vbad.toArray 0), (lK, listOf vk.toArray kK), (lg, listOf ys.toArray kg), (lv, listOf ys.toArray ys.length)]) ?tst6a ?cnt6a
    case tst6a =>
      (try k_fold)
      k_steps
      refine' conv_spec3 (o := listOf vbad.toArray _) (us := vbad) (xs := bad) ?B ?F ?X ?N ?T ?hk ?hdt ?hso hbi h11 h12 h21 h22 ?hl ?hdp ?hret
      case hso => exact ⟨.inl rfl, _, rfl⟩
      walk_at "cs"
      case hret =>
      rw [conv_none hbn]
      intro h5 tk5 F7 N7
      dsimp only
      k_steps
      refine' conv_spec (o := listOf vbad.toArray _) (us := vbad) (xs := bad) ?B ?F ?X ?N ?T ?hk ?hdt ?hso hbi h11 h12 h21 h22 ?hl ?hdp ?hret
      case hso => exact ⟨.inl rfl, _, rfl⟩
      walk_at "cs"
      case hret =>
      rw [conv_none hbn]
      intro h6 tk6 F9 N9
      dsimp only
      k_steps
      exact fb_end F9 N9 (by walk_at "mysub")
    case cnt6a =>
      clear F3 N2
      intro h9 tk9 F1 N1
      k_steps
      refine' conv_spec3 (o := listOf ys.toArray _) (us := ys) (xs := V) ?B ?F ?X ?N ?T ?hk ?hdt ?hso hV h11 h12 h21 h22 ?hl ?hdp ?hret
      case hso => exact ⟨.inl rfl, _, rfl⟩
      walk_at "cs"
      case hret =>
      rw [conv_there hb0 hOk]
      intro lq vq kq h5 tk5 F7 N7 hltq hvq
      dsimp only
      k_steps
      refine' my_eq (e := rfl) N7 ?m1 ?m2 hvq hvk ?hu ?hq
      case m1 => walk_at "mymem"
      case m2 => walk_at "mymem"
      case hu => units_room
      case hq =>
      k_steps
      refine' my_eq (e := rfl) (a := lg) (b := lv) N7 ?m3 ?m4 hV hV ?hu2 ?hq2
      case m3 => walk_at "mymem"
      case m4 => walk_at "mymem"
      case hu2 => units_room
      case hq2 =>
      k_steps

  · rename Fr _ _ _ _ => F2
    rename News _ _ _ _ => N2
    rename IntsAre _ (_ ++ [_] ++ _) => hbad
    obtain ⟨lB, hlB⟩ := ref_at F2 (Str.ofString "bad") ⟨_, rfl⟩
    replace hlB := (Value.ref.inj (Option.some.inj hlB)).symm
    subst hlB
    refine with_vs hbad fun vbad e => ?_
    subst e
    obtain ⟨bad, hbi, hbn, hbl⟩ := bad_of (a := a) hbad (cut_len _ _ _) (cut_len _ _ _) (wrong_lo _ _)
    clear hbad
    obtain ⟨u8, F3⟩ := canon F2 [(Str.ofString "one", .int (a : Int) t1), (Str.ofString "two", .int (b : Int) t2), (Str.ofString "values", .ref lv), (Str.ofString "given", .ref lg), (Str.ofString "kept", .ref lK), (Str.ofString "bad", .ref lB)] (by kst_all)
    clear F2
    refine if_cut (m := lk u8 [(Str.ofString "one", .int (a : Int) t1), (Str.ofString "two", .int (b : Int) t2), (Str.ofString "values", .ref lv), (Str.ofString "given", .ref lg), (Str.ofString "kept", .ref lK), (Str.ofString "bad", .ref lB)]) (h₀ := s1.heap) (L := s1.heap.objs.size) (news := [(lB, listOf vbad.toArray 0), (lK, listOf vk.toArray kK), (lg, listOf ys.toArray kg), (lv, listOf ys.toArray ys.length)]) ?tst6b ?cnt6b
    case tst6b =>
      (try k_fold)
      k_steps
      refine' conv_spec3 (o := listOf vbad.toArray _) (us := vbad) (xs := bad) ?B ?F ?X ?N ?T ?hk ?hdt ?hso hbi h11 h12 h21 h22 ?hl ?hdp ?hret
      case hso => exact ⟨.inl rfl, _, rfl⟩
      walk_at "cs"
      case hret =>
      rw [conv_none hbn]
      intro h5 tk5 F7 N7
      dsimp only
      k_steps
      refine' conv_spec (o := listOf vbad.toArray _) (us := vbad) (xs := bad) ?B ?F ?X ?N ?T ?hk ?hdt ?hso hbi h11 h12 h21 h22 ?hl ?hdp ?hret
      case hso => exact ⟨.inl rfl, _, rfl⟩
      walk_at "cs"
      case hret =>
      rw [conv_none hbn]
      intro h6 tk6 F9 N9
      dsimp only
      k_steps
      exact fb_end F9 N9 (by walk_at "mysub")
    case cnt6b =>
      clear F3 N2
      intro h9 tk9 F1 N1
      k_steps
      refine' conv_spec3 (o := listOf ys.toArray _) (us := ys) (xs := V) ?B ?F ?X ?N ?T ?hk ?hdt ?hso hV h11 h12 h21 h22 ?hl ?hdp ?hret
      case hso => exact ⟨.inl rfl, _, rfl⟩
      walk_at "cs"
      case hret =>
      rw [conv_there hb0 hOk]
      intro lq vq kq h5 tk5 F7 N7 hltq hvq
      dsimp only
      k_steps
      refine' my_eq (e := rfl) N7 ?m1 ?m2 hvq hvk ?hu ?hq
      case m1 => walk_at "mymem"
      case m2 => walk_at "mymem"
      case hu => units_room
      case hq =>
      k_steps
      refine' my_eq (e := rfl) (a := lg) (b := lv) N7 ?m3 ?m4 hV hV ?hu2 ?hq2
      case m3 => walk_at "mymem"
      case m4 => walk_at "mymem"
      case hu2 => units_room
      case hq2 =>
      k_steps

)
end Mine

theorem PySem.Challenge.cw_fw0003_01_holds : PySem.Challenge.rw_fw0003_01.Holds := by
  exact Mine.see
