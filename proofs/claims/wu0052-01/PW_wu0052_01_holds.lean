import PyProof.Rows.All
import Wide.All
import OpenK.AllK
import Wide.FinOn
import PySem.Challenge.RW_wu0052_01
set_option Elab.async false
set_option compiler.extract_closed false
section
open PySem PySem.W PyProof.Rows
local macro_rules | `(tactic| k_room) => `(tactic| ktr_room)
local macro_rules | `(tactic| k_mem) => `(tactic| ((show (_ : Addr × Obj) ∈ (_ : List (Addr × Obj))); ktr_member))
local macro_rules | `(tactic| k_units) => `(tactic| ktr_units)
local macro_rules | `(tactic| ksw_same) => `(tactic| (intro z h2 h3; (simp only [List.forall_mem_cons, List.not_mem_nil, false_implies, implies_true, and_true, ne_eq] at h2); (simp only [List.contains_cons, List.contains_nil, Bool.or_false, Bool.or_eq_false_iff, beq_eq_false_iff_ne, ne_eq] at h3); (simp [h2, h3, kstB]; done)))
section
open PySem PySem.W PyProof.Rows
namespace Mine
set_option maxRecDepth 100000 in
set_option maxHeartbeats 8000000 in
open_top hd for PySem.Challenge.rw_wu0052_01
end Mine
end
section
open PySem PySem.W PyProof.Rows
namespace Mine
def Stop (P : Prop) : Prop := P
theorem Stop.out {P : Prop} (h : Stop P) : P := h
section
variable {prog : Program} {w : World} {A : Around} {E : Value → Shared → Prop} {s : Shared} {env : Env} {h₀ : Heap} {x : Str} {body : List Stmt} {Q : Flow → Shared → Prop}
def FEnd {σ : Type} (h₀ : Heap) (L : Addr) (Led : σ → List (Addr × Obj)) (ps : σ → List (Str × Value)) (x : Str) (stored : List Str) (m₀ : Str → Option Value) (P : σ → Prop) (I : Addr) (oI : Obj) (s₁ s₂ : Shared) : Prop :=
  ∃ (c : σ) (h' : Heap) (tk : Nat) (m' : Str → Option Value) (news' : List (Addr × Obj)), s₂ = { s₁ with heap := h', toks := tk } ∧ Fr h₀ L h' m' ∧ News h₀ L h' news' ∧ (I, oI) ∈ news' ∧ (∀ p ∈ Led c, p ∈ news') ∧ (∀ p ∈ Led c, p.1 ≠ I) ∧
    (∀ p ∈ ps c, m' p.1 = some p.2) ∧ (∀ z, z ≠ x → (∀ p ∈ ps c, z ≠ p.1) → stored.contains z = false → m' z = m₀ z) ∧ P c
def FPost {σ : Type} (h₀ : Heap) (L : Addr) (Led : σ → List (Addr × Obj)) (ps : σ → List (Str × Value)) (x : Str) (stored : List Str) (m₀ : Str → Option Value) (P : σ → Prop) (I : Addr) (oI : Obj) (s₁ : Shared) (Q : Flow → Shared → Prop) (f : Flow) (s₂ : Shared) : Prop :=
  match f with
  | .ret v => Q (.ret v) s₂
  | .brk => Q .next s₂
  | _ => FEnd h₀ L Led ps x stored m₀ P I oI s₁ s₂
theorem FEnd.intro {σ : Type} {L : Addr} {Led : σ → List (Addr × Obj)} {ps : σ → List (Str × Value)} {stored : List Str} {m₀ : Str → Option Value} {P : σ → Prop} {I : Addr} {oI : Obj} {s₁ : Shared} {h' : Heap} {tk : Nat} {m' : Str → Option Value} {news' : List (Addr × Obj)} (c : σ)
    (F : Fr h₀ L h' m') (N : News h₀ L h' news') (hI : (I, oI) ∈ news') (hn : ∀ p ∈ Led c, p ∈ news') (ho : ∀ p ∈ Led c, p.1 ≠ I) (hk : ∀ p ∈ ps c, m' p.1 = some p.2) (hr : ∀ z, z ≠ x → (∀ p ∈ ps c, z ≠ p.1) → stored.contains z = false → m' z = m₀ z) (hp : P c) :
    FEnd h₀ L Led ps x stored m₀ P I oI s₁ { s₁ with heap := h', toks := tk } := ⟨c, h', tk, m', news', rfl, F, N, hI, hn, ho, hk, hr, hp⟩
theorem my_loop {σ : Type} {I : Addr} {fp : List Addr} {n : Nat} {Pv : Nat → Value → Prop} {St : Nat → Heap → Prop} {m₀ : Str → Option Value} (Led : σ → List (Addr × Obj)) (ps : σ → List (Str × Value)) (stored : List Str) (P : Nat → σ → Prop) (c₀ : σ)
    (W : Walks prog w A I fp [I] n Pv St) (hLf : env.locals ∉ fp) (hI0 : h₀.get? I = none) (hfp : ∀ b ∈ fp, b = I ∨ ∃ o, ∀ c, (b, o) ∈ Led c) (hstI : ∀ i h, St i h → ∃ o, h.get? I = some o) (hst : St 0 s.heap)
    (F : Fr h₀ env.locals s.heap m₀) (N : News h₀ env.locals s.heap (Led c₀)) (hne : ∀ p ∈ Led c₀, p.1 ≠ I) (hk : ∀ p ∈ ps c₀, m₀ p.1 = some p.2) (hp : P 0 c₀)
    (turn : ∀ (c : σ) (i : Nat) (v : Value) (u : Str → Option Value) (h : Heap) (tk : Nat) (oI : Obj), i < n → Pv i v → P i c → (∀ p ∈ Led c, p.1 ≠ I) →
      Fr h₀ env.locals h (fun y => if y = x then some v else kstB (fun z => if stored.contains z then u z else m₀ z) (ps c) y) → News h₀ env.locals h ((I, oI) :: Led c) →
      wpAny (model prog w) A (execs body env) (FPost h₀ env.locals Led ps x stored m₀ (P (i + 1)) I oI { s with heap := h, toks := tk } Q) E { s with heap := h, toks := tk })
    (done : ∀ (c : σ) (u : Str → Option Value) h tk, P n c → Fr h₀ env.locals h (fun y => if y = x then u y else kstB (fun z => if stored.contains z then u z else m₀ z) (ps c) y) → News h₀ env.locals h (Led c) → Q .next { s with heap := h, toks := tk }) :
    LoopAtV prog w A h₀ env x body Q E (.ref I) s := by
  refine ⟨I, fp, [I], n, Pv, St, m₀, Led c₀, fun i m nx => ∃ c : σ, nx = Led c ∧ (∀ p ∈ ps c, m p.1 = some p.2) ∧ (∀ z, z ≠ x → (∀ p ∈ ps c, z ≠ p.1) → stored.contains z = false → m z = m₀ z) ∧ P i c, rfl, W, hLf, ?_, ?_, hst, F, N, ⟨c₀, rfl, hk, fun _ _ _ _ => rfl, hp⟩, ?_, ?_⟩
  · intro b hb
    rw [List.mem_singleton.mp hb]
    exact hI0
  · intro p hp hI
    exact hne p hp (List.mem_singleton.mp hI)
  · rintro i v m₁ news₁ s₁ own ⟨hh', tk', rfl⟩ hin hP ⟨c, rfl, h1, h2, hP'⟩ hoff hown hget hfp' hst' F₁ N₁
    obtain ⟨oI, hoI⟩ := hstI _ _ hst'
    have hIown : (I, oI) ∈ own := hfp' I (W.sub I (.head _)) hI0 oI hoI
    have hneI : ∀ p ∈ Led c, p.1 ≠ I := fun p hp e => hoff p hp (by rw [e]; exact .head _)
    have N₂ : News h₀ env.locals hh' ((I, oI) :: Led c) := fun p hp => by
      rcases List.mem_cons.mp hp with rfl | hp
      · exact N₁ _ (List.mem_append.mpr (.inl hIown))
      · exact N₁ _ (List.mem_append.mpr (.inr hp))
    have fin : ∀ s₂, FEnd h₀ env.locals Led ps x stored m₀ (P (i + 1)) I oI { s with heap := hh', toks := tk' } s₂ →
        LoopStepU h₀ env.locals [I] own (fun m nx => ∃ c : σ, nx = Led c ∧ (∀ p ∈ ps c, m p.1 = some p.2) ∧ (∀ z, z ≠ x → (∀ p ∈ ps c, z ≠ p.1) → stored.contains z = false → m z = m₀ z) ∧ P (i + 1) c) { s with heap := hh', toks := tk' } .next s₂ := by
      rintro s₂ ⟨c', h', tk, m', news', rfl, F', N', hI', hn', ho', hk', hr', hp'⟩
      refine ⟨rfl, h', tk, m', Led c', rfl, F', fun p hp => ?_, fun p hp hI => ho' p hp (List.mem_singleton.mp hI), c', rfl, hk', hr', hp'⟩
      rcases List.mem_append.mp hp with h | h
      · have hg := hget p h
        rcases hfp p.1 (hown p h) with e | ⟨o, ho⟩
        · have e2 : p = (I, oI) := by
            refine Prod.ext e ?_
            rw [e] at hg
            have hg' : hh'.get? I = some p.2 := hg
            have hoI' : hh'.get? I = some oI := hoI
            rw [hoI'] at hg'
            exact (Option.some.inj hg').symm
          rw [e2]
          exact N' _ hI'
        · have hg2 := (N₁ _ (List.mem_append.mpr (.inr (ho c)))).1
          have e2 : p = (p.1, o) := by
            refine Prod.ext rfl ?_
            have hg' : hh'.get? p.1 = some p.2 := hg
            have hg3 : hh'.get? p.1 = some o := hg2
            rw [hg3] at hg'
            exact (Option.some.inj hg').symm
          rw [e2]
          exact N' _ (hn' _ (ho c'))
      · exact N' _ (hn' _ h)
    refine wpAny_mono (turn c i v m₁ hh' tk' oI hin hP hP' hneI (kst_fr h1 h2 F₁) N₂) (fun f s₂ p => ?_) fun _ _ e => e
    cases f with
    | ret v => exact .ret p
    | brk => exact .brk p
    | next => exact .next (fin _ p)
    | cont => exact .cont (fin _ p)
  · rintro h' tk m' news' F' N' _ ⟨c, rfl, h1, h2, hP'⟩
    exact done c m' h' tk hP' (kst_frOut h1 h2 F') N'
theorem for_list {σ : Type} {l : Addr} {vs : List Value} {nn : Nat} {m₀ : Str → Option Value} (Led : σ → List (Addr × Obj)) (ps : σ → List (Str × Value)) (stored : List Str) (P : Nat → σ → Prop) (c₀ : σ)
    (hh : A.handled = none) (hl : ∀ c : σ, (l, listOf vs.toArray nn) ∈ Led c) (F : Fr h₀ env.locals s.heap m₀) (N : News h₀ env.locals s.heap (Led c₀)) (hk : ∀ p ∈ ps c₀, m₀ p.1 = some p.2) (hp : P 0 c₀)
    (turn : ∀ (c : σ) (i : Nat) (v : Value) (u : Str → Option Value) (h : Heap) (tk : Nat) (I : Addr) (oI : Obj), vs[i]? = some v → P i c → (∀ p ∈ Led c, p.1 ≠ I) →
      Fr h₀ env.locals h (fun y => if y = x then some v else kstB (fun z => if stored.contains z then u z else m₀ z) (ps c) y) → News h₀ env.locals h ((I, oI) :: Led c) →
      wpAny (model prog w) A (execs body env) (FPost h₀ env.locals Led ps x stored m₀ (P (i + 1)) I oI { s with heap := h, toks := tk } Q) E { s with heap := h, toks := tk })
    (done : ∀ (c : σ) (u : Str → Option Value) h tk, P vs.length c → Fr h₀ env.locals h (fun y => if y = x then u y else kstB (fun z => if stored.contains z then u z else m₀ z) (ps c) y) → News h₀ env.locals h (Led c) → Q .next { s with heap := h, toks := tk }) :
    wpAny (model prog w) A (pyIter (.ref l)) (fun it s₂ => LoopAtV prog w A h₀ env x body Q E it s₂) E s := by
  have hol : s.heap.get? l = some (listOf vs.toArray nn) := (N _ (hl c₀)).1
  have hls : s.heap.IsList l vs.toArray := ⟨_, hol, rfl, nn, rfl⟩
  have hne : l ≠ s.heap.objs.size := Nat.ne_of_lt (Heap.lt_size hol)
  refine wpAny_pyIter_list hls ?_
  have W := Walks.list (prog := prog) (w := w) hh s.heap.objs.size l hne vs.toArray
  have hlen : vs.toArray.size = vs.length := by simp
  rw [hlen] at W
  refine my_loop Led ps stored P c₀ W ?_ (next_is_new F) ?_ ?_ ?_ (F.push _) (fun p hp => ⟨Heap.get?_push_of_some _ (N p hp).1, (N p hp).2⟩) ?_ hk hp ?_ done
  · intro hm
    rcases List.mem_cons.mp hm with e | hm
    · exact absurd F.ns.lt (e ▸ Nat.lt_irrefl _)
    · exact (N _ (hl c₀)).2.1 ((List.mem_singleton.mp hm).symm)
  · intro b hb
    rcases List.mem_cons.mp hb with e | hb
    · exact .inl e
    · rw [List.mem_singleton.mp hb]
      exact .inr ⟨_, hl⟩
  · rintro i h ⟨⟨o, ho, _⟩, _⟩
    exact ⟨o, ho⟩
  · exact ⟨⟨_, Heap.get?_push_size _ rfl, rfl, rfl⟩, hls.at fun o e => Heap.get?_push_of_some _ e⟩
  · intro p hp e
    exact absurd (Heap.lt_size (N p hp).1) (by rw [e]; exact Nat.lt_irrefl _)
  · intro c i v u h tk oI hi hv
    exact turn c i v u h tk _ oI (by simpa using hv)
theorem for_range {σ : Type} {r : Addr} {b₀ : Int} {t₀ u₀ v₀ : Tok} {n : Nat} {m₀ : Str → Option Value} (Led : σ → List (Addr × Obj)) (ps : σ → List (Str × Value)) (stored : List Str) (P : Nat → σ → Prop) (c₀ : σ)
    (hh : A.handled = none) (hr : IsRange s.heap r 0 b₀ 1 t₀ u₀ v₀) (hb : b₀ = (n : Int)) (hsm : n < 2 ^ 62) (F : Fr h₀ env.locals s.heap m₀) (N : News h₀ env.locals s.heap (Led c₀)) (hk : ∀ p ∈ ps c₀, m₀ p.1 = some p.2) (hp : P 0 c₀)
    (turn : ∀ (c : σ) (i : Nat) (t : Tok) (u : Str → Option Value) (h : Heap) (tk : Nat) (I : Addr) (oI : Obj), i < n → P i c → (∀ p ∈ Led c, p.1 ≠ I) →
      Fr h₀ env.locals h (fun y => if y = x then some (.int i t) else kstB (fun z => if stored.contains z then u z else m₀ z) (ps c) y) → News h₀ env.locals h ((I, oI) :: Led c) →
      wpAny (model prog w) A (execs body env) (FPost h₀ env.locals Led ps x stored m₀ (P (i + 1)) I oI { s with heap := h, toks := tk } Q) E { s with heap := h, toks := tk })
    (done : ∀ (c : σ) (u : Str → Option Value) h tk, P n c → Fr h₀ env.locals h (fun y => if y = x then u y else kstB (fun z => if stored.contains z then u z else m₀ z) (ps c) y) → News h₀ env.locals h (Led c) → Q .next { s with heap := h, toks := tk }) :
    wpAny (model prog w) A (pyIter (.ref r)) (fun it s₂ => LoopAtV prog w A h₀ env x body Q E it s₂) E s := by
  subst hb
  have hn : Builtin.Range.rangeSize 0 (n : Int) 1 = (n : Int) := by
    rw [rangeSize_pos (by omega) (by omega)]
    omega
  refine wpAny_pyIter_range hr (small_one (by omega) (by omega) (by omega) (by omega)) ?_
  have W : Walks prog w A s.heap.objs.size [s.heap.objs.size] [s.heap.objs.size] n (fun i v => i < n ∧ ∃ t, v = .int (0 + i * 1) t)
      (fun i h => IsRangeIter h s.heap.objs.size (0 + (i : Nat) * 1) ((n : Int) - (i : Nat)) 1) := (Walks.range hh _ 0 1 n).bound
  refine my_loop Led ps stored P c₀ W ?_ (next_is_new F) ?_ ?_ ?_ (F.push _) (fun p hp => ⟨Heap.get?_push_of_some _ (N p hp).1, (N p hp).2⟩) ?_ hk hp ?_ done
  · intro hm
    exact absurd F.ns.lt ((List.mem_singleton.mp hm) ▸ Nat.lt_irrefl _)
  · intro b hb
    exact .inl (List.mem_singleton.mp hb)
  · intro i h ho
    exact ⟨_, ho⟩
  · show IsRangeIter _ _ _ _ _
    rw [hn]
    simpa using Heap.get?_push_size _ rfl
  · intro p hp e
    exact absurd (Heap.lt_size (N p hp).1) (by rw [e]; exact Nat.lt_irrefl _)
  · rintro c i v u h tk oI hi ⟨_, t, rfl⟩ hP hne F₁ N₁
    have e1 : (0 : Int) + (i : Int) * 1 = (i : Int) := by omega
    rw [e1] at F₁
    exact turn c i t u h tk _ oI hi hP hne F₁ N₁
end
abbrev tupOf (its : Array Value) (n : Nat) : Obj := { cls := .type "tuple", data := .seq its n }
inductive SeqObj (vs : List Value) : Obj → Prop where
  | list (n : Nat) : SeqObj vs (listOf vs.toArray n)
  | tup (n : Nat) : SeqObj vs (tupOf vs.toArray n)
section
variable {prog : Program} {w : World} {A : Around} {E : Value → Shared → Prop} {s : Shared} {h₀ : Heap} {L l : Addr} {news : List (Addr × Obj)} {vs : List Value} {o : Obj}
theorem my_len {k : Nat} {Q : Value → Shared → Prop} (N : News h₀ L s.heap news) (hm : (l, o) ∈ news) (ho : SeqObj vs o) (e : vs.length = k) (hfit : (k : Int) < 2 ^ 63)
    (h : ∀ t tk, Q (.int k t) { s with toks := tk }) : wpAny (model prog w) A (call (.builtin "len") [.ref l]) Q E s := by
  subst e
  cases ho with
  | list n => exact len_list (News.isList N hm) (by simpa using hfit) (by simpa using h _ _)
  | tup n => exact len_tuple (News.isTup N hm) (by simpa using hfit) (by simpa using h _ _)
theorem my_item0 {value slice : Expr} {k : Int} {u : Tok} {v : Value} {Q : Value → Shared → Prop} (N : News h₀ L s.heap news) (hm : (l, o) ∈ news) (ho : SeqObj vs o)
    (h0 : 0 ≤ k) (hfit : k < 2 ^ 63) (hv : vs[k.toNat]? = some v) (h : Q v s)
    (hs : subscripted slice false (.ref l) (.int k u) = operate [.ref l, .int k u] (getItem (.ref l) (.int k u))) :
    wpAny (model prog w) A (subscriptTail value slice (.ref l) (.int k u)) Q E s := by
  have hlt : k.toNat < vs.length := by
    rcases Nat.lt_or_ge k.toNat vs.length with h | h
    · exact h
    · rw [List.getElem?_eq_none h] at hv; cases hv
  cases ho with
  | list n => exact item_listR (News.isList N hm) h0 hfit (by simpa using hv) h hs
  | tup n =>
    refine item_tupleT (l := vs) (j := k.toNat) (News.isTup N hm) (by omega) hfit ?_ hv h hs
    exact seqIndex_of h0 (by omega)
theorem my_item {value slice : Expr} {ns : List Int} {k : Int} {u : Tok} {Q : Value → Shared → Prop} (N : News h₀ L s.heap news) (hm : (l, o) ∈ news) (ho : SeqObj vs o) (hi : IntsAre vs ns)
    (h0 : 0 ≤ k) (h1 : k < ns.length) (hfit : k < 2 ^ 63) (h : ∀ t, Q (.int (ns.getD k.toNat 0) t) s)
    (hs : subscripted slice false (.ref l) (.int k u) = operate [.ref l, .int k u] (getItem (.ref l) (.int k u))) :
    wpAny (model prog w) A (subscriptTail value slice (.ref l) (.int k u)) Q E s := by
  obtain ⟨t, hx⟩ := hi.get k.toNat _ (ints_getD h0 h1)
  exact my_item0 N hm ho h0 hfit hx (h t) hs
theorem strs_get {vs : List Value} {ss : List PySem.Str} (h : PyProof.Rows.StrsAre vs ss) : ∀ k, k < ss.length → ∃ t, vs[k]? = some (.str (ss.getD k PySem.Str.empty) t) := by
  induction h with
  | nil => intro k hk; exact absurd hk (Nat.not_lt_zero _)
  | cons y t _ ih =>
    intro k hk
    cases k with
    | zero => exact ⟨t, rfl⟩
    | succ k =>
      obtain ⟨t', e⟩ := ih k (by simpa using hk)
      exact ⟨t', by simpa using e⟩
theorem my_itemS {value slice : Expr} {ss : List PySem.Str} {k : Int} {u : Tok} {Q : Value → Shared → Prop} (N : News h₀ L s.heap news) (hm : (l, o) ∈ news) (ho : SeqObj vs o) (hi : PyProof.Rows.StrsAre vs ss)
    (h0 : 0 ≤ k) (h1 : k < ss.length) (hfit : k < 2 ^ 63) (h : ∀ t, Q (.str (ss.getD k.toNat PySem.Str.empty) t) s)
    (hs : subscripted slice false (.ref l) (.int k u) = operate [.ref l, .int k u] (getItem (.ref l) (.int k u))) :
    wpAny (model prog w) A (subscriptTail value slice (.ref l) (.int k u)) Q E s := by
  obtain ⟨t, hx⟩ := strs_get hi k.toNat (by omega)
  exact my_item0 N hm ho h0 hfit hx (h t) hs
end
theorem compEnd_same {h₀ : Heap} {L I C D : Addr} {m : Str → Option Value} {s₁ : Shared} {oI oC oD : Obj} {S : List (Addr × Obj) → Prop} {rest : Value → List (Addr × Obj) → Prop} {y : Value} {h' : Heap} {tk : Nat} {news' : List (Addr × Obj)}
    (F : Fr h₀ L h' m) (N : News h₀ L h' ((I, oI) :: (C, oC) :: (D, oD) :: news')) (off : LCg.Off3 I C D news') (hS : S news') (r : rest y news') :
    LCg.CompEnd h₀ L m s₁ I oI C oC D oD S rest y { s₁ with heap := h', toks := tk } := LCg.CompEnd.intro F N news' (fun _ hp => hp) off hS r
def BisR (ns : List Int) (x : Int) (r : Nat) : Prop := r ≤ ns.length ∧ (∀ i, i < r → ns.getD i 0 ≤ x) ∧ (∀ i, r ≤ i → i < ns.length → x < ns.getD i 0)
def Up (ns : List Int) : Prop := ∀ i j, i ≤ j → j < ns.length → ns.getD i 0 ≤ ns.getD j 0
end Mine
end
section
open PySem PySem.W PyProof.Rows
namespace Mine
/-- the place behind all leading items that are at most x -/
def rk (l : List Int) (x : Int) : Nat := (l.takeWhile fun y => decide (y ≤ x)).length
theorem rk_of : ∀ {l : List Int} {x : Int} {r : Nat}, BisR l x r → rk l x = r
  | [], x, r, ⟨h1, _, _⟩ => by
    have : r = 0 := by simpa using h1
    subst this
    rfl
  | a :: l, x, r, ⟨h1, h2, h3⟩ => by
    cases r with
    | zero =>
      have h := h3 0 (Nat.le_refl _) (Nat.succ_pos _)
      have h' : x < a := h
      unfold rk
      rw [List.takeWhile_cons_of_neg (by simp; omega)]
      rfl
    | succ r =>
      have h : a ≤ x := h2 0 (Nat.succ_pos _)
      have ih : rk l x = r := rk_of ⟨by simpa using h1, fun i hi => h2 (i + 1) (by omega), fun i hi hj => h3 (i + 1) (by omega) (by simpa using hj)⟩
      unfold rk at ih ⊢
      rw [List.takeWhile_cons_of_pos (by simp; exact h), List.length_cons, ih]
end Mine
end
section
open PySem PySem.W PyProof.Rows
namespace Mine
section
variable {prog : Program} {w : World} {A : Around} {s : Shared} {env : Env} {h₀ : Heap} {E : Value → Shared → Prop} {Q : Flow → Shared → Prop}
def EStep (h₀ : Heap) (L : Addr) (xi xc : Str) (m : Str → Option Value) (own news : List (Addr × Obj)) (go : Prop) (s₁ : Shared) (Q : Flow → Shared → Prop) (f : Flow) (s₂ : Shared) : Prop :=
  match f with
  | .ret v => Q (.ret v) s₂
  | .next => go ∧ ∃ h' tk' m', s₂ = { s₁ with heap := h', toks := tk' } ∧ Fr h₀ L h' m' ∧ (∀ z, z ≠ xi → z ≠ xc → m' z = m z) ∧ News h₀ L h' (own ++ news)
  | _ => False
theorem enum_find {xi xc : Str} {pk pv pt : Pos} {x1 : Nat} {body orelse : List Stmt} {l : Addr} {vs : List Value} {nn k : Nat} {m : Str → Option Value} {news : List (Addr × Obj)} (hh : A.handled = none)
    (hxi : env.kindOf xi = some .local) (hxc : env.kindOf xc = some .local)
    (hp : (env.scope.kind == .class || (env.scope.kind == .module && env.locals != env.globals)) = false)
    (F : Fr h₀ env.locals s.heap m) (N : News h₀ env.locals s.heap news) (hl : (l, listOf vs.toArray nn) ∈ news) (hk : k < vs.length)
    (turn : ∀ i v t h tk own, i ≤ k → vs[i]? = some v → Fr h₀ env.locals h (fun y => if y = xc then some v else if y = xi then some (.int i t) else m y) → News h₀ env.locals h (own ++ news) →
      wpAny (model prog w) A (execs body env) (EStep h₀ env.locals xi xc m own news (i < k) { s with heap := h, toks := tk } Q) E { s with heap := h, toks := tk })
    (hE : PassesOwn (model prog w) A env E) :
    wpAny (model prog w) A (call (.type "enumerate") [.ref l]) (fun x s₁ => wpAny (model prog w) A (pyIter x) (fun it s₂ =>
      codeAny (model prog w) A (.forLoop (.Tuple [.Name xi pk, .Name xc pv] x1 pt) it body orelse env) (fun r s' => match r with | .ok f => Q f s' | .error e => cameBackBy (model prog w) A env E e s') s₂) E s₁) E s := by
  have hls : s.heap.IsList l vs.toArray := News.isList N hl
  have hol : s.heap.get? l = some (listOf vs.toArray nn) := (N _ hl).1
  have hLs : env.locals < s.heap.objs.size := F.ns.lt
  have hl2 : l < s.heap.objs.size := Heap.lt_size hol
  have hlL : l ≠ env.locals := (N _ hl).2.1
  have hab : h₀.objs.size ≤ env.locals := F.above
  refine call_enumerate_list hls fun h' he hit hsz hkk => ?_
  have F' : Fr h₀ env.locals h' m := ⟨F.ns.keeps hkk, fun b o e => hkk b o (F.keep b o e), F.above⟩
  have N' : News h₀ env.locals h' news := fun p hp => ⟨hkk _ _ (N p hp).1, (N p hp).2⟩
  refine wpAny_pyIter_enum he ?_
  have D := Draws.list (prog := prog) (w := w) (A := A.in1) hh s.heap.objs.size l (Nat.ne_of_lt hl2) vs.toArray
  have W := WalksT.enumerateD D (s.heap.objs.size + 1) (Nat.succ_ne_self _) (by
    intro hm
    rcases List.mem_cons.mp hm with e | hm
    · exact Nat.succ_ne_self _ e
    · exact Nat.ne_of_gt (Nat.lt_succ_of_lt hl2) (List.mem_singleton.mp hm)) (.head _)
  generalize hfpe : (s.heap.objs.size + 1) :: [s.heap.objs.size, l] = fp at W
  have hLf : env.locals ∉ fp := by
    rw [← hfpe]
    intro hm
    rcases List.mem_cons.mp hm with e | hm
    · exact Nat.ne_of_lt (Nat.lt_succ_of_lt hLs) e
    · rcases List.mem_cons.mp hm with e | hm
      · exact Nat.ne_of_lt hLs e
      · exact hlL (List.mem_singleton.mp hm).symm
  have hLw : env.locals ∉ [s.heap.objs.size + 1, s.heap.objs.size] := fun h => hLf (W.sub _ h)
  have hwr : ∀ b ∈ [s.heap.objs.size + 1, s.heap.objs.size], h₀.get? b = none := by
    intro b hb
    rcases List.mem_cons.mp hb with e | hb
    · rw [e]; exact Heap.get?_none_of_le (Nat.le_trans hab (Nat.le_of_lt (Nat.lt_succ_of_lt hLs)))
    · rw [List.mem_singleton.mp hb]; exact Heap.get?_none_of_le (Nat.le_trans hab (Nat.le_of_lt hLs))
  have hnw : ∀ p ∈ news, p.1 ∉ [s.heap.objs.size + 1, s.heap.objs.size] := by
    intro p hp hb
    have hlt := Heap.lt_size (N p hp).1
    rcases List.mem_cons.mp hb with e | hb
    · rw [e] at hlt; exact absurd hlt (Nat.not_lt_of_le (Nat.le_succ _))
    · rw [List.mem_singleton.mp hb] at hlt; exact absurd hlt (Nat.lt_irrefl _)
  have old : ∀ b o, h₀.get? b = some o → b ∉ [s.heap.objs.size + 1, s.heap.objs.size] := fun b o e hb => by rw [hwr b hb] at e; cases e
  refine codeAny_forLoop_any
    (fun j s' => ∃ (h' : Heap) (tk : Nat) (m' : Str → Option Value) (i : Nat), s' = { s with heap := h', toks := tk } ∧ ((∃ old, IsEnum h' (s.heap.objs.size + 1) s.heap.objs.size i old) ∧ h'.IsListIter s.heap.objs.size l i ∧ h'.IsList l vs.toArray) ∧ Fr h₀ env.locals h' m' ∧ (∀ z, z ≠ xi → z ≠ xc → m' z = m z) ∧ News h₀ env.locals h' news ∧ i ≤ k ∧ j = k + 1 - i) ?_ (k + 1)
    ⟨h', s.toks, m, 0, rfl, ⟨⟨_, he⟩, hit, hls.at fun o e => hkk l o e⟩, F', fun _ _ _ => rfl, N', Nat.zero_le _, rfl⟩
  rintro j s' ⟨H, tk, m', i, rfl, hst', F9, hm9, N9, hi9, rfl⟩
  have next : ∀ h₁ : Heap, (∀ b o, b ∉ [s.heap.objs.size + 1, s.heap.objs.size] → H.get? b = some o → h₁.get? b = some o) → Fr h₀ env.locals h₁ m' ∧ News h₀ env.locals h₁ news := fun h₁ hk₁ =>
    ⟨⟨F9.ns.at' fun o e => hk₁ _ o hLw e, fun b o e => hk₁ b o (old b o e) (F9.keep b o e), F9.above⟩, fun p hp => ⟨hk₁ _ _ (hnw p hp) (N9 p hp).1, (N9 p hp).2⟩⟩
  have hlt : i < vs.toArray.size := by simp; omega
  refine W.item i _ _ _ hlt hst' fun T vals h₁ tk₁ hPt _ hT hMid hk₁ => ?_
  obtain ⟨t0, v1, hv1, rfl⟩ := hPt
  refine W.go _ x1 pt i T _ _ _ hMid fun h₂ hst₂ hk₂ => ?_
  have ht₂ : h₂.IsTuple T #[.int i t0, v1] := hT.at fun o e => hk₂ T o (W.apart i T h₁ hMid) e
  refine wpAny_assign_Tuple hh ht₂ rfl rfl fun h₃ hx₃ => ?_
  replace hx₃ : Heap.ExtBut h₂.objs.size h₂ h₃ := hx₃
  have up₃ : ∀ b o, h₂.get? b = some o → h₃.get? b = some o := fun b o x => hx₃ b o (Nat.ne_of_lt (Heap.lt_size x)) x
  obtain ⟨F₃, N₃⟩ := next h₃ fun b o hb x => up₃ b o (hk₂ b o hb (hk₁ b o hb x))
  show wpAny _ A (do holding [v1] (assign (.Name xi pk) env (.int i t0)); do holding [] (assign (.Name xc pv) env v1); pure ()) _ _ _
  refine wpAny_bind (wpAny_holding (wpAny_assign_Name (wpAny_storeName_local hxi F₃.ns (fun h₄ hn₄ hs₄ => ?_) hp)))
  replace hs₄ : Heap.SameBut env.locals h₃ h₄ := hs₄
  have F₄ := F₃.set hn₄ hs₄
  refine wpAny_bind (wpAny_holding (wpAny_assign_Name (wpAny_storeName_local hxc F₄.ns (fun h₅ hn₅ hs₅ => wpAny_pure ?_) hp)))
  replace hs₅ : Heap.SameBut env.locals h₄ h₅ := hs₅
  have F₅ := F₄.set hn₅ hs₅
  have N₅ : News h₀ env.locals h₅ news := (N₃.set hs₄).set hs₅
  have hst₅ := W.frame _ _ _ hst₂ fun b hb o e => hs₅.extBut b o (fun q => hLf (q ▸ hb)) (hs₄.extBut b o (fun q => hLf (q ▸ hb)) (up₃ b o e))
  have em : (fun y => if y = xc then some v1 else if y = xi then some (Value.int i t0) else m' y) = fun y => if y = xc then some v1 else if y = xi then some (Value.int i t0) else m y := by
    funext y
    by_cases h1 : y = xc
    · simp [h1]
    · by_cases h2 : y = xi
      · simp [h2]
      · simp only [if_neg h1, if_neg h2]; exact hm9 y h2 h1
  have F₆ : Fr h₀ env.locals h₅ (fun y => if y = xc then some v1 else if y = xi then some (Value.int i t0) else m y) := em ▸ F₅
  refine wpAny_mono (wpAny_passesOwn hE (turn i v1 t0 h₅ _ (ownOf h₀ fp h₅) hi9 (by simpa using hv1) F₆ ((news_ownOf hLf).append N₅))) (fun f s₃ h₆ => ?_) fun _ _ e => e
  cases f with
  | ret v => exact h₆
  | brk => exact h₆.elim
  | cont => exact h₆.elim
  | next =>
    obtain ⟨hgo, h₆', tk₆, m₂, rfl, F₈, hm₈, N₈⟩ := h₆
    refine ⟨k + 1 - (i + 1), by omega, h₆', tk₆, m₂, i + 1, rfl, ?_, F₈, hm₈, N₈.right, by omega, rfl⟩
    refine W.frame _ _ _ hst₅ fun b hb o e => ?_
    cases hn : h₀.get? b with
    | some o₀ =>
      have : o₀ = o := by have q := F₅.keep b o₀ hn; rw [e] at q; exact (Option.some.inj q).symm
      exact this ▸ F₈.keep b o₀ hn
    | none => exact (N₈ _ (List.mem_append_left _ (mem_ownOf hb hn e))).1
end
end Mine
end
section
open PySem PySem.W PyProof.Rows PySem.Calls Builtin Builtin.Str
namespace Mine
def c02 : Percent := { zero := true, width := some 2, type := 100 }
def padOut (n : Nat) : List Nat :=
  let T := percentInt c02 (decide ((n : Int) < 0)) (PySem.Str.ofString (toString ((n : Nat) : Int))).cps.toList
  match percentField c02 true T with
  | none => T
  | some l => l
set_option maxRecDepth 10000 in
theorem padOut_all : (List.range 100).all (fun n => padOut n == [48 + n / 10, 48 + n % 10]) = true := by decide +kernel
theorem padOut_is (n : Nat) (h : n < 100) : padOut n = [48 + n / 10, 48 + n % 10] := by
  have := List.all_eq_true.mp padOut_all n (List.mem_range.mpr h)
  simpa using this
def p2 (n : Int) : PySem.Str := ⟨#[48 + n.toNat / 10, 48 + n.toNat % 10]⟩
theorem pad_step {M : Model} {A : Around} {E : Value → Shared → Prop} {s : Shared} {c : Percent} {d : List Nat} {i : Int} {p : List Value} {w : Writer} {r : List Nat} {b : Option Value} {Q : ForInStep (List Value × Writer × List Nat) → Shared → Prop} (hc : c = c02)
    (hd : d = (PySem.Str.ofString (toString ((i.natAbs : Nat) : Int))).cps.toList) (h0 : 0 ≤ i) (h1 : i < 100) (hb : b = none)
    (h : Q (.yield (p, w.add (p2 i) none, r)) s) :
    wpAny M A (match percentField c true (percentInt c (decide (i < 0)) d) with | none => pure (.yield (p, w.add ⟨(percentInt c (decide (i < 0)) d).toArray⟩ b, r)) | some l => pure (.yield (p, w.add ⟨l.toArray⟩ none, r))) Q E s := by
  subst hc hd hb
  have e : ((i.toNat : Nat) : Int) = i := by omega
  have ea : i.natAbs = i.toNat := by omega
  have k := padOut_is i.toNat (by omega)
  unfold padOut at k
  simp only [e] at k
  rw [ea, e]
  unfold p2 at h
  split
  · rename_i q
    rw [q] at k
    dsimp only at k
    rw [k]
    exact wpAny_pure h
  · rename_i l q
    rw [q] at k
    dsimp only at k
    rw [k]
    exact wpAny_pure h
set_option maxRecDepth 100000 in
set_option maxHeartbeats 8000000 in
theorem pad_meets (i : Int) (t u : Tok) (h0 : 0 ≤ i) (h1 : i < 100) (hd1 : i.natAbs.log2 < 1920) (hd2 : ((i.natAbs : Nat) : Int).natAbs.log2 < 1920) : Meets («str.__mod__» ⟨[.str ⟨#[37, 48, 50, 100]⟩ t, .int i u], []⟩) (fun _ R s => ∀ t' k, R (.ok (.ret (.str (p2 i) t'))) { s with toks := k }) := by
  apply KPc.meets_of
  intro _ _ _ _ _ _ _
  rw [KPc.entry_is]
  unfold Builtin.Str.percentFormat
  refine wpAny_bind (wpAny_isInstance (typeIs_int _ _ _) F.sub_int_tuple ?_)
  refine wpAny_bind (wpAny_of_eq (a := none) rfl ?_)
  refine wpAny_bind (wpAny_of_eq (KPc.fills _ _) ?_)
  kpc_if
  refine wpAny_bind (wpAny_pure ?_)
  refine wpAny_bind ?_
  rw [KPc.range_list]
  refine KPc.start ?_
  intro w9 g9
  refine KPc.turn ?_; kpc_check; (repeat kpc_if)
  refine wpAny_bind ?_; refine wpAny_holding ?_; (repeat kpc_if); kpc_conv
  refine wpAny_pure ?_
  refine pad_step rfl rfl h0 h1 rfl ?_
  refine KPc.after_add0 g9 rfl (KPc.obj_none rfl) ?_
  intro w8 g8
  have g7 : KPc.Good w8 (p2 i) 2 := KPc.good_mono g8 (Nat.le_refl 2)
  clear g8
  kpc_turns
theorem mod02 {prog : Program} {w : World} {A : Around} {E : Value → Shared → Prop} {s : Shared} {X : PySem.Str} {n : Int} {t u : Tok} {Q : Value → Shared → Prop} (hX : X = ⟨#[37, 48, 50, 100]⟩) (h0 : 0 ≤ n) (h1 : n < 100)
    (h : ∀ t' k, Q (.str (p2 n) t') { s with toks := k }) : wpAny (model prog w) A (binaryOp .Mod (.str X t) (.int n u)) Q E s :=
  KPc.mod_lit hX (shown (N := 2 ^ 1920) (by omega) (by omega) (Int.le_refl _)) (fun a b => pad_meets n t u h0 h1 a b) h
end Mine
end
section
open PySem PySem.W PyProof.Rows PySem.Calls Builtin Builtin.Str
namespace Mine
def fmtLit : PySem.Str := ⟨#[37, 115, 44, 32, 37, 48, 50, 100, 32, 37, 115, 32, 37, 48, 52, 100, 32, 37, 48, 50, 100, 58, 37, 48, 50, 100, 58, 37, 48, 50, 100, 32, 37, 115]⟩
theorem fmtLit_is : PySem.Str.ofString "%s, %02d %s %04d %02d:%02d:%02d %s" = fmtLit := by decide +kernel
def c04 : Percent := { zero := true, width := some 4, type := 100 }
def yOut : List Nat :=
  let T := percentInt c04 (decide ((2029 : Int) < 0)) (PySem.Str.ofString (toString (2029 : Int))).cps.toList
  match percentField c04 true T with
  | none => T
  | some l => l
theorem yOut_is : yOut = [50, 48, 50, 57] := by decide +kernel
def y4 : PySem.Str := ⟨#[50, 48, 50, 57]⟩
theorem y_step {M : Model} {A : Around} {E : Value → Shared → Prop} {s : Shared} {c : Percent} {d : List Nat} {p : List Value} {w : Writer} {r : List Nat} {b : Option Value} {Q : ForInStep (List Value × Writer × List Nat) → Shared → Prop} (hc : c = c04)
    (hd : d = (PySem.Str.ofString (toString (2029 : Int))).cps.toList) (hb : b = none)
    (h : Q (.yield (p, w.add y4 none, r)) s) :
    wpAny M A (match percentField c true (percentInt c (decide ((2029 : Int) < 0)) d) with | none => pure (.yield (p, w.add ⟨(percentInt c (decide ((2029 : Int) < 0)) d).toArray⟩ b, r)) | some l => pure (.yield (p, w.add ⟨l.toArray⟩ none, r))) Q E s := by
  subst hc hd hb
  have k := yOut_is
  unfold yOut at k
  unfold y4 at h
  dsimp only at k
  split
  · rename_i q
    rw [q] at k
    dsimp only at k
    rw [k]
    exact wpAny_pure h
  · rename_i l q
    rw [q] at k
    dsimp only at k
    rw [k]
    exact wpAny_pure h
def dateText (a : PySem.Str) (dd : Int) (mo : PySem.Str) (h mi se : Int) (z : PySem.Str) : PySem.Str :=
  a ++ PySem.Str.ofString ", " ++ p2 dd ++ PySem.Str.ofString " " ++ mo ++ PySem.Str.ofString " " ++ y4 ++ PySem.Str.ofString " " ++ p2 h ++ PySem.Str.ofString ":" ++ p2 mi ++ PySem.Str.ofString ":" ++ p2 se ++ PySem.Str.ofString " " ++ z
theorem bnd {i : Int} (h0 : 0 ≤ i) (h1 : i < 100) : i.natAbs.log2 < 1920 := shown (N := 2 ^ 1920) (by omega) (by omega) (Int.le_refl _)
set_option maxRecDepth 100000 in
set_option maxHeartbeats 8000000 in
theorem fmt_meets (a mo z : PySem.Str) (dd h mi se : Int) (t b ta td tm ty th tmi tse tz : Tok) (ha : a.length ≤ 3) (hmo : mo.length ≤ 3) (hz : z.length ≤ 5) (d0 : 0 ≤ dd) (d1 : dd < 100) (h0 : 0 ≤ h) (h1 : h < 100) (m0 : 0 ≤ mi) (m1 : mi < 100) (s0 : 0 ≤ se) (s1 : se < 100) :
    Meets («str.__mod__» ⟨[.str fmtLit t, .ref b], []⟩) (fun _ R s => IsTup s.heap b #[.str a ta, .int dd td, .str mo tm, .int 2029 ty, .int h th, .int mi tmi, .int se tse, .str z tz] ∧ ∀ t' k, R (.ok (.ret (.str (dateText a dd mo h mi se z) t'))) { s with toks := k }) := by
  have bd := bnd d0 d1
  have bh := bnd h0 h1
  have bm := bnd m0 m1
  have bs := bnd s0 s1
  have by4 : (2029 : Int).natAbs.log2 < 1920 := by decide +kernel
  apply KPt.meets_tup
  intro _ _ _ _ _ _ kptH _
  obtain ⟨kptO, kptG, kptC, kptN, kptD⟩ := kptH
  rw [KPt.entry_is_r]
  unfold Builtin.Str.percentFormat
  refine wpAny_bind (wpAny_isInstance (T := "tuple") ⟨kptO, kptG, kptC⟩ KPt.sub_tt ?_)
  refine wpAny_bind (KPt.asStr_ref kptG kptD ?_)
  refine wpAny_bind (KPt.fills_ref ⟨kptO, kptG, kptC⟩ ?_)
  intro _
  kpc_if
  refine wpAny_bind (wpAny_seqItems kptG kptD ?_)
  refine wpAny_bind (wpAny_pure ?_)
  refine wpAny_bind ?_
  rw [KPc.range_list]
  refine KPc.start ?_
  intro _ _
  refine KPc.turn ?_; kpc_check; (repeat kpc_if)
  (refine wpAny_bind ?_; refine wpAny_holding ?_; (repeat kpc_if); kpt_conv; refine wpAny_pure ?_; refine wpAny_pure ?_)
  refine KPc.after_str0 (by kpc_g) ha (by kpc_obj) ?_
  intro _ _
  refine KPc.turn ?_; kpc_check; (repeat kpc_if)
  refine wpAny_pure ?_; refine KPc.after_add (by kpc_g) (by kpc_text) (by kpc_obj) ?_; intro _ _
  refine KPc.turn ?_; kpc_check; (repeat kpc_if)
  refine wpAny_bind ?_; refine wpAny_holding ?_; (repeat kpc_if); kpt_conv; refine wpAny_pure ?_
  refine pad_step rfl rfl d0 d1 rfl ?_
  refine KPc.after_add (by kpc_g) rfl (KPc.obj_none rfl) ?_
  intro w8 g8; (have g7 := KPc.good_mono (K := _ + 2) g8 (Nat.le_refl _)); clear g8
  refine KPc.turn ?_; kpc_check; (repeat kpc_if)
  refine wpAny_pure ?_; refine KPc.after_add (by kpc_g) (by kpc_text) (by kpc_obj) ?_; intro _ _
  refine KPc.turn ?_; kpc_check; (repeat kpc_if)
  refine wpAny_bind ?_; refine wpAny_holding ?_; (repeat kpc_if); kpt_conv; refine wpAny_pure ?_; refine wpAny_pure ?_
  refine KPc.after_str (by kpc_g) hmo (by kpc_obj) ?_
  intro _ _
  refine KPc.turn ?_; kpc_check; (repeat kpc_if)
  refine wpAny_pure ?_; refine KPc.after_add (by kpc_g) (by kpc_text) (by kpc_obj) ?_; intro _ _
  refine KPc.turn ?_; kpc_check; (repeat kpc_if)
  refine wpAny_bind ?_; refine wpAny_holding ?_; (repeat kpc_if); kpt_conv; refine wpAny_pure ?_
  refine y_step rfl rfl rfl ?_
  refine KPc.after_add (by kpc_g) rfl (KPc.obj_none rfl) ?_
  intro w8 g8; (have g7 := KPc.good_mono (K := _ + 4) g8 (Nat.le_refl _)); clear g8
  refine KPc.turn ?_; kpc_check; (repeat kpc_if)
  refine wpAny_pure ?_; refine KPc.after_add (by kpc_g) (by kpc_text) (by kpc_obj) ?_; intro _ _
  refine KPc.turn ?_; kpc_check; (repeat kpc_if)
  refine wpAny_bind ?_; refine wpAny_holding ?_; (repeat kpc_if); kpt_conv; refine wpAny_pure ?_
  refine pad_step rfl rfl h0 h1 rfl ?_
  refine KPc.after_add (by kpc_g) rfl (KPc.obj_none rfl) ?_
  intro w8 g8; (have g7 := KPc.good_mono (K := _ + 2) g8 (Nat.le_refl _)); clear g8
  refine KPc.turn ?_; kpc_check; (repeat kpc_if)
  refine wpAny_pure ?_; refine KPc.after_add (by kpc_g) (by kpc_text) (by kpc_obj) ?_; intro _ _
  refine KPc.turn ?_; kpc_check; (repeat kpc_if)
  refine wpAny_bind ?_; refine wpAny_holding ?_; (repeat kpc_if); kpt_conv; refine wpAny_pure ?_
  refine pad_step rfl rfl m0 m1 rfl ?_
  refine KPc.after_add (by kpc_g) rfl (KPc.obj_none rfl) ?_
  intro w8 g8; (have g7 := KPc.good_mono (K := _ + 2) g8 (Nat.le_refl _)); clear g8
  refine KPc.turn ?_; kpc_check; (repeat kpc_if)
  refine wpAny_pure ?_; refine KPc.after_add (by kpc_g) (by kpc_text) (by kpc_obj) ?_; intro _ _
  refine KPc.turn ?_; kpc_check; (repeat kpc_if)
  refine wpAny_bind ?_; refine wpAny_holding ?_; (repeat kpc_if); kpt_conv; refine wpAny_pure ?_
  refine pad_step rfl rfl s0 s1 rfl ?_
  refine KPc.after_add (by kpc_g) rfl (KPc.obj_none rfl) ?_
  intro w8 g8; (have g7 := KPc.good_mono (K := _ + 2) g8 (Nat.le_refl _)); clear g8
  refine KPc.turn ?_; kpc_check; (repeat kpc_if)
  refine wpAny_pure ?_; refine KPc.after_add (by kpc_g) (by kpc_text) (by kpc_obj) ?_; intro _ _
  refine KPc.turn ?_; kpc_check; (repeat kpc_if)
  refine wpAny_bind ?_; refine wpAny_holding ?_; (repeat kpc_if); kpt_conv; refine wpAny_pure ?_; refine wpAny_pure ?_
  refine KPc.after_str (by kpc_g) hz (by kpc_obj) ?_
  intro _ _
  refine KPc.turn ?_; kpc_check; (repeat kpc_if)
  kpc_close
theorem mod_date {prog : Program} {w : World} {A : Around} {E : Value → Shared → Prop} {s : Shared} {X : PySem.Str} {t : Tok} {Q : Value → Shared → Prop} {b L : Addr} {n : Nat} {h₀ : Heap} {news : List (Addr × Obj)} {a mo z : PySem.Str} {dd h mi se : Int} {ta td tm ty th tmi tse tz : Tok}
    (N : News h₀ L s.heap news) (hb : (b, tupOf #[.str a ta, .int dd td, .str mo tm, .int 2029 ty, .int h th, .int mi tmi, .int se tse, .str z tz] n) ∈ news) (hX : X = fmtLit)
    (ha : a.length ≤ 3) (hmo : mo.length ≤ 3) (hz : z.length ≤ 5) (d0 : 0 ≤ dd) (d1 : dd < 100) (h0 : 0 ≤ h) (h1 : h < 100) (m0 : 0 ≤ mi) (m1 : mi < 100) (s0 : 0 ≤ se) (s1 : se < 100)
    (hq : ∀ t' k, Q (.str (dateText a dd mo h mi se z) t') { s with toks := k }) : wpAny (model prog w) A (binaryOp .Mod (.str X t) (.ref b)) Q E s :=
  KPt.mod_tuple N hb hX (fmt_meets a mo z dd h mi se t b ta td tm ty th tmi tse tz ha hmo hz d0 d1 h0 h1 m0 m1 s0 s1) hq
end Mine
end
section
open PySem PySem.W PyProof.Rows
namespace Mine
noncomputable abbrev LO : List Str := looseW hd.view_39 [Str.ofString "bisect_right", Str.ofString "insort_left", Str.ofString "bisect_left"]
end Mine
end
section
open PySem PySem.W PyProof.Rows
namespace Mine
section
local macro_rules | `(tactic| walk_at "call builtin:len") => `(tactic| refine Stop.out ?_)
local macro_rules | `(tactic| walk_at "subscriptTail Name Name ref int") => `(tactic| refine Stop.out ?_)
local macro_rules | `(tactic| walk_at "KswEnd") => `(tactic| refine Stop.out ?_)
local macro_rules | `(tactic| walk_at "exec While Compare cons nil") => `(tactic| refine Stop.out ?_)
set_option maxRecDepth 100000 in
set_option maxHeartbeats 8000000 in
theorem c_bisect {w : World} {mean : ExcName → Option Value} {mg mb : Str → Option Value} {dp un : Nat} {gd : Option (List Code)} {cn : Str} {cs : Scope} {a : Addr} {ccd : Value} {cl : List (Str × Addr)} {outer : List Env} {A₀ : Around} {base h₀ : Heap} {L : Addr} {m : Str → Option Value} {news : List (Addr × Obj)} {s : Shared}
    {l : Addr} {vs : List Value} {ns : List Int} {o : Obj} {x : Int} {tx : Tok} {Q E : Value → Shared → Prop}
    (B : Below A₀ base outer h₀) (F : Fr h₀ L s.heap m) (X : (hd.heap_39 w.params).In h₀) (N : News h₀ L s.heap news) (T : Top hd.view_39 LO mean mg mb h₀) (hk : cs.kind = .function)
    (hl : (l, o) ∈ news) (ho : SeqObj vs o) (hi : IntsAre vs ns) (hlen : ns.length < 2 ^ 20) (hup : Up ns)
    (hd : dp + 1 < recursionLimit) (hu : un + 8 < cLine)
    (hret : ∀ (r : Nat) t h' tk', BisR ns x r → Fr h₀ L h' m → News h₀ L h' news → Q (.int r t) { s with heap := h', toks := tk' }) :
    wpAny (model PySem.Challenge.rw_wu0052_01.row.prog w) (ktrTop dp un gd cn cs L a ccd cl outer) (call (.ref 30) [.ref l, .int x tx]) Q E s := by
  w_top off
  revert X
  k_fill
  intro X
  refine wpAny_call ?_
  k_dflt (refine' code_def ?k1 ?k2 ?k3 ?k4 ?k5 ?kA ?kF ?kK ?k6 ?k7 ?k8 ?k9 ?kB ?_ ?c2 ?c3 ?c4 ?c5; (case kA => exact rfl); (case kF => exact rfl); (case kK => assumption); (case k1 => k_asm); (case k2 => k_asm); (case k3 => k_asm); (case k4 => k_asm); (case k5 => k_asm); (case k6 => k_is); (case k7 => k_is); (case k8 => ktr_room); (case k9 => first | exact BindsTo.of_eq rfl | exact binds_K (by k_in) rfl (by k_is) rfl rfl rfl | (refine' kp_binds ?kx ?ke; (case kx => k_in); (case ke => exact fun _ => rfl))); (case c5 => decide); (case kB => exact locs rfl); (case c2 => exact rfl); (case c3 => exact rfl); (case c4 => exact rfl); k_whole; intro g' L' h' FG' F' N' B' X' T'; (try dsimp only); (try k_lift B'); (try k_fold))
  k_steps
  unfold Stop
  k_dflt (refine' my_len ?N ?q ?o ?e ?z ?_; (case N => k_asm); (case q => ktr_member); (case o => assumption); (case e => first | exact IntsAre.length (by assumption) | exact rfl); (case z => omega); k_whole)
  intro t9 tk9
  k_steps
  unfold Stop
  rename Fr g' _ _ _ => F9
  rename News g' _ _ _ => N9
  with_unfolding_all refine' ksw_while (σ := Int × Tok × Int × Tok) (fun _ => news) (fun c => [(Str.ofString "lo", .int c.1 c.2.1), (Str.ofString "hi", .int c.2.2.1 c.2.2.2)]) (fun _ => True) [Str.ofString "mid"] (fun c => 0 ≤ c.1 ∧ c.1 ≤ c.2.2.1 ∧ c.2.2.1 ≤ (ns.length : Int) ∧ (∀ i : Nat, (i : Int) < c.1 → ns.getD i 0 ≤ x) ∧ (∀ i : Nat, c.2.2.1 ≤ (i : Int) → i < ns.length → x < ns.getD i 0)) (fun c => (c.2.2.1 - c.1).toNat) (0, _, (ns.length : Int), _) F9 N9 trivial ?hk ?hp ?turn ?hE
  case hE => passes_own
  case hk => exact List.forall_mem_cons.mpr ⟨by with_unfolding_all rfl, List.forall_mem_cons.mpr ⟨by with_unfolding_all rfl, List.forall_mem_nil _⟩⟩
  case hp => exact ⟨by simp, by simp, by simp, fun i hi => by simp at hi; omega, fun i h1 h2 => by simp at h1; omega⟩
  case turn =>
    rintro ⟨lo, tlo, hi9, thi⟩ u h9 tk9 - ⟨i1, i2, i3, i4, i5⟩ F1 N1
    clear F9 N9
    dsimp only at i1 i2 i3 i4 i5 F1
    k_fold
    k_steps
    · unfold Stop
      k_dflt (refine' my_item ?N ?q ?o ?e ?a ?b ?c ?_ ?z; (case N => k_asm); (case q => ktr_member); (case o => assumption); (case e => assumption); (case a => first | omega | (rw [Int.fdiv_eq_ediv_of_nonneg _ (by omega)]; omega)); (case b => first | omega | (rw [Int.fdiv_eq_ediv_of_nonneg _ (by omega)]; omega)); (case c => first | omega | (rw [Int.fdiv_eq_ediv_of_nonneg _ (by omega)]; omega)); (case z => with_unfolding_all rfl); k_whole)
      intro t9
      k_steps
      · unfold Stop
        rename Fr g' _ _ _ => F2
        rename News g' _ _ _ => N2
        rename (x < ns.getD _ 0) => hx
        rw [Int.fdiv_eq_ediv_of_nonneg _ (by omega)] at hx
        refine ksw_end (lo, tlo, (lo + hi9).fdiv 2, _) F2 N2 (fun p hp => hp) trivial (List.forall_mem_cons.mpr ⟨rfl, List.forall_mem_cons.mpr ⟨rfl, List.forall_mem_nil _⟩⟩) (by ksw_same) ?_ ?_
        · rw [Int.fdiv_eq_ediv_of_nonneg _ (by omega)]
          refine ⟨i1, by show lo ≤ (lo + hi9) / 2; omega, by show (lo + hi9) / 2 ≤ _; omega, i4, fun i h1 h2 => ?_⟩
          have := hup ((lo + hi9) / 2).toNat i (by show ((lo + hi9) / 2).toNat ≤ i; simp only at h1; omega) h2
          omega
        · show ((lo + hi9).fdiv 2 - lo).toNat < (hi9 - lo).toNat
          rw [Int.fdiv_eq_ediv_of_nonneg _ (by omega)]
          omega
      · unfold Stop
        rename Fr g' _ _ _ => F2
        rename News g' _ _ _ => N2
        rename (¬ x < ns.getD _ 0) => hx
        rw [Int.fdiv_eq_ediv_of_nonneg _ (by omega)] at hx
        refine ksw_end ((lo + hi9).fdiv 2 + 1, _, hi9, thi) F2 N2 (fun p hp => hp) trivial (List.forall_mem_cons.mpr ⟨rfl, List.forall_mem_cons.mpr ⟨rfl, List.forall_mem_nil _⟩⟩) (by ksw_same) ?_ ?_
        · rw [Int.fdiv_eq_ediv_of_nonneg _ (by omega)]
          refine ⟨by show 0 ≤ (lo + hi9) / 2 + 1; omega, by show (lo + hi9) / 2 + 1 ≤ hi9; omega, i3, fun i h1 => ?_, i5⟩
          have := hup i ((lo + hi9) / 2).toNat (by simp only at h1; omega) (by omega)
          omega
        · show (hi9 - ((lo + hi9).fdiv 2 + 1)).toNat < (hi9 - lo).toNat
          rw [Int.fdiv_eq_ediv_of_nonneg _ (by omega)]
          omega
    · have e : lo = ((lo.toNat : Nat) : Int) := by omega
      rw [e]
      refine hret lo.toNat _ _ _ ⟨by omega, fun i h => i4 i (by omega), fun i h1 h2 => i5 i (by omega) h2⟩ (by assumption) (by assumption)
end
end Mine
end
section
open PySem PySem.W PyProof.Rows
namespace Mine
section
local macro_rules | `(tactic| walk_at "binaryOp Mod str int") => `(tactic| (k_here; (with_reducible show wpAny _ _ (binaryOp Operator.Mod (Value.str _ _) (Value.int _ _)) _ _ _); (refine' mod02 ?kpcF ?a ?b ?_; (case kpcF => kpc_eq); (case a => omega); (case b => omega)); intro _ _))
local macro_rules | `(tactic| walk_at "CompEnd") => `(tactic| (k_dflt (refine' LCg.CompEnd.intro ?F ?N _ ?sub ?off ?src ?_; (case F => k_asm); (case N => k_asm); (case off => assumption); (case sub => kcf_all); (case src => lcg_src))))
local macro_rules | `(tactic| walk_at "call builtin:str.join") => `(tactic| refine Stop.out ?_)
def gtext (xs : List Int) : PySem.Str := Txt.join (Str.ofString " ") (xs.map p2)
set_option maxRecDepth 100000 in
set_option maxHeartbeats 8000000 in
theorem c_text {w : World} {mean : ExcName → Option Value} {mg mb : Str → Option Value} {dp un : Nat} {gd : Option (List Code)} {cn : Str} {cs : Scope} {a : Addr} {ccd : Value} {cl : List (Str × Addr)} {outer : List Env} {A₀ : Around} {base h₀ : Heap} {L : Addr} {m : Str → Option Value} {news : List (Addr × Obj)} {s : Shared}
    {l : Addr} {n : Nat} {x1 x2 x3 x4 : Int} {t1 t2 t3 t4 : Tok} {Q E : Value → Shared → Prop}
    (B : Below A₀ base outer h₀) (F : Fr h₀ L s.heap m) (X : (hd.heap_39 w.params).In h₀) (N : News h₀ L s.heap news) (T : Top hd.view_39 LO mean mg mb h₀) (hk : cs.kind = .function)
    (hl : (l, listOf #[.int x1 t1, .int x2 t2, .int x3 t3, .int x4 t4] n) ∈ news) (h1 : 0 ≤ x1 ∧ x1 < 91) (h2 : 0 ≤ x2 ∧ x2 < 91) (h3 : 0 ≤ x3 ∧ x3 < 91) (h4 : 0 ≤ x4 ∧ x4 < 91)
    (hd : dp + 1 < recursionLimit) (hu : un + 8 < cLine)
    (hret : ∀ t h' tk', Fr h₀ L h' m → News h₀ L h' news → Q (.str (gtext [x1, x2, x3, x4]) t) { s with heap := h', toks := tk' }) :
    wpAny (model PySem.Challenge.rw_wu0052_01.row.prog w) (ktrTop dp un gd cn cs L a ccd cl outer) (call (.ref 164) [.ref l]) Q E s := by
  w_top off
  revert X
  k_fill
  intro X
  refine wpAny_call ?_
  k_dflt (refine' code_def ?k1 ?k2 ?k3 ?k4 ?k5 ?kA ?kF ?kK ?k6 ?k7 ?k8 ?k9 ?kB ?_ ?c2 ?c3 ?c4 ?c5; (case kA => exact rfl); (case kF => exact rfl); (case kK => assumption); (case k1 => k_asm); (case k2 => k_asm); (case k3 => k_asm); (case k4 => k_asm); (case k5 => k_asm); (case k6 => k_is); (case k7 => k_is); (case k8 => ktr_room); (case k9 => first | exact BindsTo.of_eq rfl | exact binds_K (by k_in) rfl (by k_is) rfl rfl rfl | (refine' kp_binds ?kx ?ke; (case kx => k_in); (case ke => exact fun _ => rfl))); (case c5 => decide); (case kB => exact locs rfl); (case c2 => exact rfl); (case c3 => exact rfl); (case c4 => exact rfl); k_whole; intro g' L' h' FG' F' N' B' X' T'; (try dsimp only); (try k_lift B'); (try k_fold))
  k_steps
  unfold Stop
  k_dflt (refine' join_list (News.isList ?N ?m) ?st ?ok ?_; (case N => k_asm); (case m => k_mem); (case st => kct_strs); (case ok => exact Nat.le_of_ble_eq_true (by kernel_rfl)))
  intro t9 k9
  k_steps
  exact hret _ _ _ (by assumption) (cb_drop (by assumption) (fun p hp => List.Mem.tail _ hp))
end
end Mine
end
section
open PySem PySem.W PyProof.Rows
namespace Mine
section
local macro_rules | `(tactic| walk_at "subscriptTail Name Subscript ref int") => `(tactic| refine Stop.out ?_)
local macro_rules | `(tactic| walk_at "subscriptTail Name BinOp ref int") => `(tactic| refine Stop.out ?_)
local macro_rules | `(tactic| walk_at "subscriptTail Name Constant ref int") => `(tactic| (k_here; (with_reducible show wpAny _ _ (subscriptTail _ _ (Value.ref _) (Value.int _ _)) _ _ _); k_dflt (refine' my_item0 ?N ?q ?o ?a ?c ?v ?_ ?z; (case N => k_asm); (case q => k_mem); (case o => first | exact SeqObj.tup _ | exact SeqObj.list _); (case a => decide); (case c => decide); (case v => exact rfl); (case z => with_unfolding_all rfl); k_whole)))
def wdays : List PySem.Str := [Str.ofString "Mon", Str.ofString "Tue", Str.ofString "Wed", Str.ofString "Thu", Str.ofString "Fri", Str.ofString "Sat", Str.ofString "Sun"]
def monthsL : List PySem.Str := [Str.ofString "Jan", Str.ofString "Feb", Str.ofString "Mar", Str.ofString "Apr", Str.ofString "May", Str.ofString "Jun", Str.ofString "Jul", Str.ofString "Aug", Str.ofString "Sep", Str.ofString "Oct", Str.ofString "Nov", Str.ofString "Dec"]
def wdN (k : Int) : PySem.Str := wdays.getD k.toNat PySem.Str.empty
def moN (k : Int) : PySem.Str := monthsL.getD k.toNat PySem.Str.empty
theorem wd_all : (List.range 7).all (fun n => decide ((wdays.getD n PySem.Str.empty).length = 3)) = true := by decide +kernel
theorem mo_all : (List.range 12).all (fun n => decide ((monthsL.getD n PySem.Str.empty).length = 3)) = true := by decide +kernel
theorem wd_len {k : Int} (h0 : 0 ≤ k) (h1 : k < 7) : (wdN k).length ≤ 3 := by
  have := List.all_eq_true.mp wd_all k.toNat (List.mem_range.mpr (by omega))
  exact Nat.le_of_eq (of_decide_eq_true this)
theorem mo_len {k : Int} (h0 : 0 ≤ k) (h1 : k < 12) : (moN k).length ≤ 3 := by
  have := List.all_eq_true.mp mo_all k.toNat (List.mem_range.mpr (by omega))
  exact Nat.le_of_eq (of_decide_eq_true this)
local macro_rules | `(tactic| walk_at "binaryOp Mod str ref") => `(tactic| refine Stop.out ?_)
set_option maxRecDepth 100000 in
set_option maxHeartbeats 8000000 in
theorem c_format {w : World} {mean : ExcName → Option Value} {mg mb : Str → Option Value} {dp un : Nat} {gd : Option (List Code)} {cn : Str} {cs : Scope} {a : Addr} {ccd : Value} {cl : List (Str × Addr)} {outer : List Env} {A₀ : Around} {base h₀ : Heap} {L : Addr} {m : Str → Option Value} {news : List (Addr × Obj)} {s : Shared}
    {l : Addr} {n : Nat} {mo dd h mi se wd : Int} {t0 t1 t2 t3 t4 t5 t6 tz : Tok} {z : PySem.Str} {Q E : Value → Shared → Prop}
    (B : Below A₀ base outer h₀) (F : Fr h₀ L s.heap m) (X : (hd.heap_39 w.params).In h₀) (N : News h₀ L s.heap news) (T : Top hd.view_39 LO mean mg mb h₀) (hk : cs.kind = .function)
    (hl : (l, tupOf #[.int 2029 t0, .int mo t1, .int dd t2, .int h t3, .int mi t4, .int se t5, .int wd t6] n) ∈ news) (hmo : 1 ≤ mo ∧ mo ≤ 12) (hdd : 0 ≤ dd ∧ dd < 100) (hh : 0 ≤ h ∧ h < 100) (hmi : 0 ≤ mi ∧ mi < 100) (hse : 0 ≤ se ∧ se < 100) (hwd : 0 ≤ wd ∧ wd < 7) (hz : z.length ≤ 5)
    (hd : dp + 1 < recursionLimit) (hu : un + 8 < cLine)
    (hret : ∀ t h' tk', Fr h₀ L h' m → News h₀ L h' news → Q (.str (dateText (wdN wd) dd (moN (mo - 1)) h mi se z) t) { s with heap := h', toks := tk' }) :
    wpAny (model PySem.Challenge.rw_wu0052_01.row.prog w) (ktrTop dp un gd cn cs L a ccd cl outer) (call (.ref 21) [.ref l, .str z tz]) Q E s := by
  w_top off
  revert X
  k_fill
  intro X
  refine wpAny_call ?_
  k_dflt (refine' code_def ?k1 ?k2 ?k3 ?k4 ?k5 ?kA ?kF ?kK ?k6 ?k7 ?k8 ?k9 ?kB ?_ ?c2 ?c3 ?c4 ?c5; (case kA => exact rfl); (case kF => exact rfl); (case kK => assumption); (case k1 => k_asm); (case k2 => k_asm); (case k3 => k_asm); (case k4 => k_asm); (case k5 => k_asm); (case k6 => k_is); (case k7 => k_is); (case k8 => ktr_room); (case k9 => first | exact BindsTo.of_eq rfl | exact binds_K (by k_in) rfl (by k_is) rfl rfl rfl | (refine' kp_binds ?kx ?ke; (case kx => k_in); (case ke => exact fun _ => rfl))); (case c5 => decide); (case kB => exact locs rfl); (case c2 => exact rfl); (case c3 => exact rfl); (case c4 => exact rfl); k_whole; intro g' L' h' FG' F' N' B' X' T'; (try dsimp only); (try k_lift B'); (try k_fold))
  k_steps
  unfold Stop
  k_dflt (refine' my_itemS ?v1N ?v1q ?v1o ?v1e ?v1a ?v1b ?v1c ?_ ?v1z; (case v1N => k_asm); (case v1q => k_mem); (case v1o => exact SeqObj.list _); (case v1e => kct_strs); (case v1a => omega); (case v1b => (simp only [List.length_cons, List.length_nil]; omega)); (case v1c => omega); (case v1z => with_unfolding_all rfl); k_whole)
  intro t9
  k_steps
  unfold Stop
  k_dflt (refine' my_itemS ?v2N ?v2q ?v2o ?v2e ?v2a ?v2b ?v2c ?_ ?v2z; (case v2N => k_asm); (case v2q => k_mem); (case v2o => exact SeqObj.list _); (case v2e => kct_strs); (case v2a => omega); (case v2b => (simp only [List.length_cons, List.length_nil]; omega)); (case v2c => omega); (case v2z => with_unfolding_all rfl); k_whole)
  intro t9
  k_steps
  unfold Stop
  k_dflt (refine' mod_date ?N ?m ?F ?a ?b ?c ?d ?e ?f ?g ?h ?i ?j ?k ?_; (case N => k_asm); (case m => k_mem); (case F => exact fmtLit_is); (case a => exact wd_len (by omega) (by omega)); (case b => exact mo_len (by omega) (by omega)); (case c => omega); (case d => omega); (case e => omega); (case f => omega); (case g => omega); (case h => omega); (case i => omega); (case j => omega); (case k => omega))
  intro t9 k9
  k_steps
  exact hret _ _ _ (by assumption) (cb_drop (by assumption) (fun p hp => List.Mem.tail _ (List.Mem.tail _ (List.Mem.tail _ hp))))
end
end Mine
end
section
open PySem PySem.W PyProof.Rows
namespace Mine
section
local macro_rules | `(tactic| walk_at "no such key") => `(tactic| fail "none")
theorem fm7 (d : Int) : 0 ≤ d.fmod 7 ∧ d.fmod 7 < 7 := by
  rw [Int.fmod_eq_emod_of_nonneg _ (by omega)]
  omega
def sT : List Int := [0, 31, 59, 90, 120, 151, 181, 212, 243, 273, 304, 334]
def moI (day : Int) : Int := (rk sT day : Int) - 1
def ddI (day : Int) : Int := day + 1 - sT.getD (moI day).toNat 0
def dateOf (day h mi se : Int) : PySem.Str := dateText (wdN (day % 7)) (ddI day) (moN (moI day)) h mi se (Str.ofString "-0000")
theorem moI_of {day : Int} {r : Nat} (hB : BisR sT day r) : (r : Int) - 1 = moI day := by
  unfold moI
  rw [rk_of hB]
theorem sT_up : Up sT := by
  have h : ∀ i, i < 12 → ∀ j, j < 12 → i ≤ j → sT.getD i 0 ≤ sT.getD j 0 := by decide
  intro i j hij hj
  exact h i (Nat.lt_of_le_of_lt hij hj) j hj hij
theorem month_facts {day : Int} {r : Nat} (h0 : 0 ≤ day) (h1 : day < 365) (hB : BisR sT day r) :
    1 ≤ (r : Int) ∧ (r : Int) ≤ 12 ∧ sT.getD ((r : Int) - 1).toNat 0 ≤ day ∧ day + 1 - sT.getD ((r : Int) - 1).toNat 0 < 100 := by
  obtain ⟨a, b, c⟩ := hB
  have a' : r ≤ 12 := a
  have hr : 1 ≤ r := by
    rcases Nat.eq_zero_or_pos r with rfl | h
    · have := c 0 (Nat.le_refl _) (by decide)
      have e : sT.getD 0 0 = 0 := rfl
      omega
    · exact h
  have e : ((r : Int) - 1).toNat = r - 1 := by omega
  rw [e]
  refine ⟨by omega, by omega, b (r - 1) (by omega), ?_⟩
  rcases Nat.lt_or_ge r 12 with h | h
  · have k := c r (Nat.le_refl _) h
    have gap : ∀ i, i < 11 → sT.getD (i + 1) 0 ≤ sT.getD i 0 + 31 := by decide
    have g := gap (r - 1) (by omega)
    have e2 : r - 1 + 1 = r := by omega
    rw [e2] at g
    omega
  · have e3 : r = 12 := by omega
    subst e3
    show day + 1 - 334 < 100
    omega
local macro_rules | `(tactic| walk_at "subscriptTail Name Constant ref int") => `(tactic| (k_here; (with_reducible show wpAny _ _ (subscriptTail _ _ (Value.ref _) (Value.int _ _)) _ _ _); k_dflt (refine' my_item0 ?N ?q ?o ?a ?c ?v ?_ ?z; (case N => k_asm); (case q => k_mem); (case o => first | exact SeqObj.tup _ | exact SeqObj.list _); (case a => decide); (case c => decide); (case v => exact rfl); (case z => with_unfolding_all rfl); k_whole)))
local macro_rules | `(tactic| walk_at "subscriptTail Name BinOp ref int") => `(tactic| refine Stop.out ?_)
local macro_rules | `(tactic| walk_at "call ref") => `(tactic| ((with_reducible show wpAny _ _ (call (Value.ref 30) _) _ _ _); refine Stop.out ?_))
local macro_rules | `(tactic| walk_at "call ref") => `(tactic| ((with_reducible show wpAny _ _ (call (Value.ref 21) _) _ _ _); refine Stop.out ?_))
set_option maxRecDepth 100000 in
set_option maxHeartbeats 8000000 in
theorem c_date {w : World} {mean : ExcName → Option Value} {mg mb : Str → Option Value} {dp un : Nat} {gd : Option (List Code)} {cn : Str} {cs : Scope} {a : Addr} {ccd : Value} {cl : List (Str × Addr)} {outer : List Env} {A₀ : Around} {base h₀ : Heap} {L : Addr} {m : Str → Option Value} {news : List (Addr × Obj)} {s : Shared}
    {l : Addr} {n : Nat} {day h mi se : Int} {td t3 t4 t5 : Tok} {Q E : Value → Shared → Prop}
    (B : Below A₀ base outer h₀) (F : Fr h₀ L s.heap m) (X : (hd.heap_39 w.params).In h₀) (N : News h₀ L s.heap news) (T : Top hd.view_39 LO mean mg mb h₀) (hk : cs.kind = .function)
    (hl : (l, listOf #[.int h t3, .int mi t4, .int se t5] n) ∈ news) (hd0 : 0 ≤ day) (hd1 : day < 365) (hh : 0 ≤ h ∧ h < 100) (hmi : 0 ≤ mi ∧ mi < 100) (hse : 0 ≤ se ∧ se < 100)
    (hd : dp + 2 < recursionLimit) (hu : un + 16 < cLine)
    (hret : ∀ t h' tk', Fr h₀ L h' m → News h₀ L h' news → Q (.str (dateOf day h mi se) t) { s with heap := h', toks := tk' }) :
    wpAny (model PySem.Challenge.rw_wu0052_01.row.prog w) (ktrTop dp un gd cn cs L a ccd cl outer) (call (.ref 154) [.int day td, .ref l]) Q E s := by
  w_top off
  revert X
  k_fill
  intro X
  refine wpAny_call ?_
  k_dflt (refine' code_def ?k1 ?k2 ?k3 ?k4 ?k5 ?kA ?kF ?kK ?k6 ?k7 ?k8 ?k9 ?kB ?_ ?c2 ?c3 ?c4 ?c5; (case kA => exact rfl); (case kF => exact rfl); (case kK => assumption); (case k1 => k_asm); (case k2 => k_asm); (case k3 => k_asm); (case k4 => k_asm); (case k5 => k_asm); (case k6 => k_is); (case k7 => k_is); (case k8 => ktr_room); (case k9 => first | exact BindsTo.of_eq rfl | exact binds_K (by k_in) rfl (by k_is) rfl rfl rfl | (refine' kp_binds ?kx ?ke; (case kx => k_in); (case ke => exact fun _ => rfl))); (case c5 => decide); (case kB => exact locs rfl); (case c2 => exact rfl); (case c3 => exact rfl); (case c4 => exact rfl); k_whole; intro g' L' h' FG' F' N' B' X' T'; (try dsimp only); (try k_lift B'); (try k_fold))
  k_steps
  unfold Stop
  k_dflt (refine' c_bisect (ns := sT) ?k1 ?k2 ?k3 ?k4 ?k5 ?k6 ?q ?o ?i ?n ?u ?kd ?ku ?_; (case k1 => k_asm); (case k2 => k_asm); (case k3 => k_asm); (case k4 => k_asm); (case k5 => k_asm); (case k6 => exact rfl); (case q => k_mem); (case o => first | exact SeqObj.tup _ | exact SeqObj.list _); (case i => unfold sT; l_ints); (case n => decide); (case u => exact sT_up); (case kd => ktr_room); (case ku => ktr_units))
  intro r9 t9 h9 tk9 hB9 F9 N9
  (have hM9 := month_facts (by assumption) (by assumption) hB9)
  (try dsimp only)
  k_steps
  unfold Stop
  k_dflt (refine' my_item (ns := sT) ?v3N ?v3q ?v3o ?v3e ?v3a ?v3b ?v3c ?_ ?v3z; (case v3N => k_asm); (case v3q => k_mem); (case v3o => first | exact SeqObj.tup _ | exact SeqObj.list _); (case v3e => unfold sT; l_ints); (case v3a => omega); (case v3b => (show _ < (12 : Int)); omega); (case v3c => omega); (case v3z => with_unfolding_all rfl); k_whole)
  intro t9
  k_steps
  unfold Stop
  k_dflt (refine' c_format ?k1 ?k2 ?k3 ?k4 ?k5 ?k6 ?q ?a ?b ?c ?d ?e ?f ?g ?kd ?ku ?_; (case k1 => k_asm); (case k2 => k_asm); (case k3 => k_asm); (case k4 => k_asm); (case k5 => k_asm); (case k6 => exact rfl); (case q => k_mem); (case a => omega); (case b => omega); (case c => omega); (case d => omega); (case e => omega); (case f => exact fm7 _); (case g => exact Nat.le_of_ble_eq_true (by kernel_rfl)); (case kd => ktr_room); (case ku => ktr_units))
  intro t9 h9 tk9 F9 N9
  (try dsimp only)
  k_steps
  rename (BisR sT day _) => hB
  have e1 := moI_of hB
  have e2 : day.fmod 7 = day % 7 := Int.fmod_eq_emod_of_nonneg _ (by omega)
  rw [e1, e2]
  exact hret _ _ _ (by assumption) (cb_drop (by assumption) (fun p hp => List.Mem.tail _ (List.Mem.tail _ hp)))
end
end Mine
end
section
open PySem PySem.W PyProof.Rows
namespace Mine
def lenT : List Int := [31, 28, 31, 30, 31, 30, 31, 31, 30, 31, 30, 31]
theorem lenT_le : ∀ i, i < 12 → lenT.getD i 0 ≤ 31 := by decide
theorem lenT_next : ∀ i, i < 11 → sT.getD (i + 1) 0 = sT.getD i 0 + lenT.getD i 0 := by decide
theorem due_text (a mo : PySem.Str) (d h mi se : Int) : dateText a d mo h mi se (Str.ofString "-0000") = Txt.join (Str.ofString " ") [a ++ Str.ofString ",", p2 d, mo, Str.ofString "2029", Txt.join (Str.ofString ":") [p2 h, p2 mi, p2 se], Str.ofString "-0000"] := by
  have e1 : Str.ofString ", " = Str.ofString "," ++ Str.ofString " " := by decide +kernel
  have e2 : y4 = Str.ofString "2029" := by decide +kernel
  unfold dateText Txt.join
  rw [StrLaws.glued_eq_join, StrLaws.glued_eq_join, e1, e2]
  simp only [Str.join, PySem.Str.append_assoc]
theorem moI_at {day d9 m9 : Int} (h0 : 0 ≤ day) (h1 : day < 365) (i1 : 0 ≤ m9) (i2 : m9 ≤ 11) (i3 : d9 = day - sT.getD m9.toNat 0) (i4 : 0 ≤ d9) (hx : ¬ lenT.getD m9.toNat 0 ≤ d9) : m9 = moI day := by
  have hB : BisR sT day (m9.toNat + 1) := by
    refine ⟨by show m9.toNat + 1 ≤ 12; omega, fun i hi => ?_, fun i hi hj => ?_⟩
    · have := sT_up i m9.toNat (by omega) (by show m9.toNat < 12; omega)
      omega
    · have hj' : i < 12 := hj
      have hn := lenT_next m9.toNat (by omega)
      have := sT_up (m9.toNat + 1) i hi hj
      omega
  have := moI_of hB
  omega
end Mine
end
section
open PySem PySem.W PyProof.Rows
namespace Mine
section
theorem due_ok {a mo : PySem.Str} {d h mi se : Int} (ha : a.length ≤ 4) (hmo : mo.length ≤ 3) :
    (([a, p2 d, mo, Str.ofString "2029", Txt.join (Str.ofString ":") [p2 h, p2 mi, p2 se], Str.ofString "-0000"] : List PySem.Str).map (·.length)).sum + ([a, p2 d, mo, Str.ofString "2029", Txt.join (Str.ofString ":") [p2 h, p2 mi, p2 se], Str.ofString "-0000"] : List PySem.Str).length * (Str.ofString " ").length ≤ 16777216 := by
  have e1 : (p2 d).length = 2 := rfl
  have e2 : (Str.ofString "2029").length = 4 := by decide +kernel
  have e3 : (Txt.join (Str.ofString ":") [p2 h, p2 mi, p2 se]).length = 8 := rfl
  have e4 : (Str.ofString "-0000").length = 5 := by decide +kernel
  have e5 : (Str.ofString " ").length = 1 := by decide +kernel
  simp only [List.map_cons, List.map_nil, List.sum_cons, List.sum_nil, List.length_cons, List.length_nil, e1, e2, e3, e4, e5]
  omega
def wdaysC : List PySem.Str := [Str.ofString "Mon,", Str.ofString "Tue,", Str.ofString "Wed,", Str.ofString "Thu,", Str.ofString "Fri,", Str.ofString "Sat,", Str.ofString "Sun,"]
local macro_rules | `(tactic| walk_at "binaryOp Mod str int") => `(tactic| (k_here; (with_reducible show wpAny _ _ (binaryOp Operator.Mod (Value.str _ _) (Value.int _ _)) _ _ _); (refine' mod02 ?kpcF ?a ?b ?_; (case kpcF => kpc_eq); (case a => omega); (case b => omega)); intro _ _))
local macro_rules | `(tactic| walk_at "CompEnd") => `(tactic| (k_dflt (refine' compEnd_same ?F ?N ?off ?src ?_; (case F => k_asm); (case N => k_asm); (case off => assumption); (case src => lcg_src))))
def wdC (k : Int) : PySem.Str := wdaysC.getD k.toNat PySem.Str.empty
theorem wdC_all : (List.range 7).all (fun n => decide ((wdaysC.getD n PySem.Str.empty).length = 4) && decide (wdaysC.getD n PySem.Str.empty = wdays.getD n PySem.Str.empty ++ Str.ofString ",")) = true := by decide +kernel
theorem wdC_len {k : Int} (h0 : 0 ≤ k) (h1 : k < 7) : (wdC k).length ≤ 4 := by
  have := List.all_eq_true.mp wdC_all k.toNat (List.mem_range.mpr (by omega))
  exact Nat.le_of_eq (of_decide_eq_true (Bool.and_eq_true_iff.mp this).1)
theorem wdC_is {k : Int} (h0 : 0 ≤ k) (h1 : k < 7) : wdC k = wdN k ++ Str.ofString "," := by
  have := List.all_eq_true.mp wdC_all k.toNat (List.mem_range.mpr (by omega))
  exact of_decide_eq_true (Bool.and_eq_true_iff.mp this).2
local macro_rules | `(tactic| walk_at "call builtin:str.join") => `(tactic| refine Stop.out ?_)
local macro_rules | `(tactic| walk_at "KswEnd") => `(tactic| refine Stop.out ?_)
local macro_rules | `(tactic| walk_at "exec While Compare cons nil") => `(tactic| refine Stop.out ?_)
local macro_rules | `(tactic| walk_at "subscriptTail Name BinOp ref int") => `(tactic| refine Stop.out ?_)
local macro_rules | `(tactic| walk_at "subscriptTail Name Name ref int") => `(tactic| refine Stop.out ?_)
local macro_rules | `(tactic| walk_at "no such key 2") => `(tactic| skip)
set_option maxRecDepth 100000 in
set_option maxHeartbeats 8000000 in
theorem c_due {w : World} {mean : ExcName → Option Value} {mg mb : Str → Option Value} {dp un : Nat} {gd : Option (List Code)} {cn : Str} {cs : Scope} {a : Addr} {ccd : Value} {cl : List (Str × Addr)} {outer : List Env} {A₀ : Around} {base h₀ : Heap} {L : Addr} {m : Str → Option Value} {news : List (Addr × Obj)} {s : Shared}
    {l : Addr} {n : Nat} {day h mi se : Int} {td t3 t4 t5 : Tok} {Q E : Value → Shared → Prop}
    (B : Below A₀ base outer h₀) (F : Fr h₀ L s.heap m) (X : (hd.heap_39 w.params).In h₀) (N : News h₀ L s.heap news) (T : Top hd.view_39 LO mean mg mb h₀) (hk : cs.kind = .function)
    (hl : (l, listOf #[.int h t3, .int mi t4, .int se t5] n) ∈ news) (hd0 : 0 ≤ day) (hd1 : day < 365) (hh : 0 ≤ h ∧ h < 100) (hmi : 0 ≤ mi ∧ mi < 100) (hse : 0 ≤ se ∧ se < 100)
    (hd : dp + 1 < recursionLimit) (hu : un + 8 < cLine)
    (hret : ∀ t h' tk', Fr h₀ L h' m → News h₀ L h' news → Q (.str (dateOf day h mi se) t) { s with heap := h', toks := tk' }) :
    wpAny (model PySem.Challenge.rw_wu0052_01.row.prog w) (ktrTop dp un gd cn cs L a ccd cl outer) (call (.ref 159) [.int day td, .ref l]) Q E s := by
  w_top off
  revert X
  k_fill
  intro X
  refine wpAny_call ?_
  k_dflt (refine' code_def ?k1 ?k2 ?k3 ?k4 ?k5 ?kA ?kF ?kK ?k6 ?k7 ?k8 ?k9 ?kB ?_ ?c2 ?c3 ?c4 ?c5; (case kA => exact rfl); (case kF => exact rfl); (case kK => assumption); (case k1 => k_asm); (case k2 => k_asm); (case k3 => k_asm); (case k4 => k_asm); (case k5 => k_asm); (case k6 => k_is); (case k7 => k_is); (case k8 => ktr_room); (case k9 => first | exact BindsTo.of_eq rfl | exact binds_K (by k_in) rfl (by k_is) rfl rfl rfl | (refine' kp_binds ?kx ?ke; (case kx => k_in); (case ke => exact fun _ => rfl))); (case c5 => decide); (case kB => exact locs rfl); (case c2 => exact rfl); (case c3 => exact rfl); (case c4 => exact rfl); k_whole; intro g' L' h' FG' F' N' B' X' T'; (try dsimp only); (try k_lift B'); (try k_fold))
  k_steps
  unfold Stop
  k_dflt (refine' my_itemS ?v4N ?v4q ?v4o ?v4e ?v4a ?v4b ?v4c ?_ ?v4z; (case v4N => k_asm); (case v4q => k_mem); (case v4o => exact SeqObj.tup _); (case v4e => kct_strs); (case v4a => exact (fm7 _).1); (case v4b => exact (fm7 _).2); (case v4c => exact Int.lt_trans (fm7 _).2 (by decide)); (case v4z => with_unfolding_all rfl); k_whole)
  intro t9
  k_steps
  unfold Stop
  rename Fr g' _ _ _ => F9
  rename News g' _ _ _ => N9
  with_unfolding_all refine' ksw_while (σ := Int × Tok × Int × Tok) (fun _ => _) (fun c => [(Str.ofString "day", .int c.1 c.2.1), (Str.ofString "month", .int c.2.2.1 c.2.2.2)]) (fun _ => True) [] (fun c => 0 ≤ c.2.2.1 ∧ c.2.2.1 ≤ 11 ∧ c.1 = day - sT.getD c.2.2.1.toNat 0 ∧ 0 ≤ c.1) (fun c => (12 - c.2.2.1).toNat) (day, td, 0, _) F9 N9 trivial ?hk ?hp ?turn ?hE
  case hE => passes_own
  case hk => exact List.forall_mem_cons.mpr ⟨by with_unfolding_all rfl, List.forall_mem_cons.mpr ⟨by with_unfolding_all rfl, List.forall_mem_nil _⟩⟩
  case hp => exact ⟨by simp, by simp, by show day = day - 0; omega, by simpa using hd0⟩
  case turn =>
    rintro ⟨d9, td9, m9, tm9⟩ u h9 tk9 - ⟨i1, i2, i3, i4⟩ F1 N1
    clear F9 N9
    dsimp only at i1 i2 i3 i4 F1
    k_fold
    have hl31 := lenT_le m9.toNat (by omega)
    k_steps
    unfold Stop
    k_dflt (refine' my_item (ns := lenT) ?w1N ?w1q ?w1o ?w1e ?w1a ?w1b ?w1c ?_ ?w1z; (case w1N => k_asm); (case w1q => k_mem); (case w1o => exact SeqObj.tup _); (case w1e => unfold lenT; l_ints); (case w1a => exact i1); (case w1b => exact Int.lt_of_le_of_lt i2 (by decide)); (case w1c => exact Int.lt_of_le_of_lt i2 (by decide)); (case w1z => with_unfolding_all rfl); k_whole)
    intro t9
    k_steps
    · unfold Stop
      k_dflt (refine' my_item (ns := lenT) ?w2N ?w2q ?w2o ?w2e ?w2a ?w2b ?w2c ?_ ?w2z; (case w2N => k_asm); (case w2q => k_mem); (case w2o => exact SeqObj.tup _); (case w2e => unfold lenT; l_ints); (case w2a => exact i1); (case w2b => exact Int.lt_of_le_of_lt i2 (by decide)); (case w2c => exact Int.lt_of_le_of_lt i2 (by decide)); (case w2z => with_unfolding_all rfl); k_whole)
      intro t9
      k_steps
      unfold Stop
      rename Fr g' _ _ _ => F2
      rename News g' _ _ _ => N2
      rename (lenT.getD _ 0 ≤ d9) => hx
      have hm : m9 < 11 := by
        rcases Int.lt_or_le m9 11 with h | h
        · exact h
        · have e : m9 = 11 := by omega
          subst e
          have e1 : sT.getD (Int.toNat 11) 0 = 334 := rfl
          have e2 : lenT.getD (Int.toNat 11) 0 = 31 := rfl
          omega
      have hn := lenT_next m9.toNat (by omega)
      have e3 : (m9 + 1).toNat = m9.toNat + 1 := by omega
      refine ksw_end (d9 - lenT.getD m9.toNat 0, _, m9 + 1, _) F2 N2 (fun p hp => hp) trivial (List.forall_mem_cons.mpr ⟨rfl, List.forall_mem_cons.mpr ⟨rfl, List.forall_mem_nil _⟩⟩) (by ksw_same) ?_ ?_
      · refine ⟨by show 0 ≤ m9 + 1; omega, by show m9 + 1 ≤ 11; omega, ?_, by show 0 ≤ d9 - lenT.getD m9.toNat 0; omega⟩
        show d9 - lenT.getD m9.toNat 0 = day - sT.getD (m9 + 1).toNat 0
        rw [e3, hn]
        omega
      · show (12 - (m9 + 1)).toNat < (12 - m9).toNat
        omega
    · unfold Stop
      k_dflt (refine' join_list (News.isList ?N ?m) ?st ?ok ?_; (case N => k_asm); (case m => k_mem); (case st => kct_strs); (case ok => exact Nat.le_of_ble_eq_true (by kernel_rfl)))
      intro t9 k9
      k_steps
      unfold Stop
      k_dflt (refine' my_itemS ?w3N ?w3q ?w3o ?w3e ?w3a ?w3b ?w3c ?_ ?w3z; (case w3N => k_asm); (case w3q => k_mem); (case w3o => exact SeqObj.tup _); (case w3e => kct_strs); (case w3a => exact i1); (case w3b => exact Int.lt_of_le_of_lt i2 (by decide)); (case w3c => exact Int.lt_of_le_of_lt i2 (by decide)); (case w3z => with_unfolding_all rfl); k_whole)
      intro t9
      k_steps
      unfold Stop
      k_dflt (refine' join_list (News.isList ?N ?m) ?st ?ok ?_; (case N => k_asm); (case m => k_mem); (case st => kct_strs); (case ok => exact due_ok (wdC_len (fm7 _).1 (fm7 _).2) (mo_len (by omega) (by omega))))
      intro t9 k9
      k_steps
      have e1 : m9 = moI day := moI_at hd0 hd1 i1 i2 i3 i4 (by assumption)
      have e2 : d9 + 1 = ddI day := by
        unfold ddI
        rw [← e1]
        omega
      have e3 : day.fmod 7 = day % 7 := Int.fmod_eq_emod_of_nonneg _ (by omega)
      have key : dateOf day h mi se = Txt.join (Str.ofString " ") [wdC (day.fmod 7), p2 (d9 + 1), moN m9, Str.ofString "2029", Txt.join (Str.ofString ":") [p2 h, p2 mi, p2 se], Str.ofString "-0000"] := by
        rw [wdC_is (fm7 _).1 (fm7 _).2, e1, e2, e3]
        exact due_text _ _ _ _ _ _
      have hret' := hret
      rw [key] at hret'
      exact hret' _ _ _ (by assumption) (cb_drop (by assumption) (fun p hp => by kcf_m))
end
end Mine
end
section
open PySem PySem.W PyProof.Rows
namespace Mine
theorem setGen_toks (s : Shared) (g : Nat) (x : GenState) : (s.setGen g x).toks = s.toks := rfl
theorem runs_toks {M : Model} {Γ : Ctx} {p : Pos} {t : Sem Fin} {fs : List Frame} {s : Shared} {e : End} {s' : Shared} (h : Runs M Γ p t fs s e s') : s.toks ≤ s'.toks := by
  induction h <;> (try simp only [setGen_toks] at *) <;> first | assumption | exact Nat.le_refl _ | omega
open Sem in
theorem wp_toks {α : Type} {M : Model} {Γ : Ctx} {t : Sem α} : ∀ {Q : α → Pos → Shared → Prop} {E : Value → Pos → Shared → Prop} {p : Pos} {s : Shared} (n : Nat), n ≤ s.toks →
    wp M Γ t Q E p s → wp M Γ t (fun a p' s' => n ≤ s'.toks ∧ Q a p' s') (fun e p' s' => n ≤ s'.toks ∧ E e p' s') p s := by
  induction t with
  | pure a => intro Q E p s n hn h; exact ⟨hn, h⟩
  | raise a => intro Q E p s n hn h; exact ⟨hn, h⟩
  | unsupported _ => intro Q E p s n hn h; exact h.elim
  | finish _ => intro Q E p s n hn h; exact h.elim
  | rule tag k ih => intro Q E p s n hn h; exact ih () n hn h
  | «at» p₀ k ih => intro Q E p s n hn h; exact ih () n hn h
  | load a part k ih => intro Q E p s n hn h; obtain ⟨o, ho, h⟩ := h; exact ⟨o, ho, ih o n hn h⟩
  | update a part f k ih => intro Q E p s n hn h; obtain ⟨ha, h⟩ := h; exact ⟨ha, ih () (s := { s with heap := s.heap.update a f }) n hn h⟩
  | loadIfAlive a k ih => intro Q E p s n hn h; exact ih _ n hn h
  | point l k ih => intro Q E p s n hn h; exact ih _ n hn h
  | register a k ih => intro Q E p s n hn h; exact h.elim
  | alloc o k ih => intro Q E p s n hn h; exact ih _ (s := { s with heap := s.heap.push o }) n hn h
  | fresh k ih => intro Q E p s n hn h; exact ih _ (s := { s with toks := s.toks + 1 }) n (Nat.le_succ_of_le hn) h
  | ask k ih => intro Q E p s n hn h; exact ih _ n hn h
  | choose src m k ih => intro Q E p s n hn h; exact ⟨h.1, ih _ (s := { s with drawn := s.drawn.bump src }) n hn h.2⟩
  | os q l k ih => intro Q E p s n hn h; exact ih _ (s := { s with os := (Os.step s.os q).1 }) n hn h
  | call c hd g l k ih =>
    intro Q E p s n hn h
    obtain ⟨r, s', hr, hk⟩ := h
    exact ⟨r, s', hr, ih r n (Nat.le_trans hn (runs_toks hr)) hk⟩
  | handled own k ih => intro Q E p s n hn h; exact ih _ n hn h
  | genState g k ih => intro Q E p s n hn h; obtain ⟨st, hs, h⟩ := h; exact ⟨st, hs, ih _ n hn h⟩
  | newGen c k ih => intro Q E p s n hn h; exact ih _ (s := { s with gens := s.gens.push (.fresh c) }) n hn h
  | resume g r l k ih =>
    intro Q E p s n hn h
    obtain ⟨res, s', hw, hk⟩ := h
    refine ⟨res, s', hw, ih res n (Nat.le_trans hn ?_) hk⟩
    unfold Wakes at hw
    cases hg : s.gens[g]? with
    | none => rw [hg] at hw; exact hw.elim
    | some x =>
      rw [hg] at hw
      cases x with
      | fresh c =>
        cases r with
        | throw x => obtain ⟨_, rfl⟩ := hw; exact Nat.le_refl _
        | send v =>
          by_cases hv : v = .none
          · subst hv
            obtain ⟨e₁, s₁, hr, _, _, rfl⟩ := hw
            have := runs_toks hr
            exact this
          · have hw' : res = .justStarted ∧ s' = s := by cases v <;> first | exact absurd rfl hv | exact hw
            rw [hw'.2]; exact Nat.le_refl _
      | suspended k₀ l₀ c₀ p₀ fs cl => obtain ⟨e₁, s₁, hr, _, _, rfl⟩ := hw; have := runs_toks hr; exact this
      | running => rw [hw.2]; exact Nat.le_refl _
      | finished => rw [hw.2]; exact Nat.le_refl _
  | «yield» => intro Q E p s n hn h; exact h.elim
  | stack k ih => intro Q E p s n hn h; exact ih _ n hn h
  | fork => intro Q E p s n hn h; exact h.elim
  | thread k ih => intro Q E p s n hn h; exact ih _ n hn h
  | await => intro Q E p s n hn h; exact h.elim
def TokUp (a b : Nat) (P : Prop) : Prop := a ≤ b → P
theorem toks_up {α : Type} {M : Model} {A : Around} {t : Sem α} {Q : α → Shared → Prop} {E : Value → Shared → Prop} {s : Shared} (n : Nat) (hn : n ≤ s.toks)
    (h : wpAny M A t (fun a s' => TokUp n s'.toks (Q a s')) E s) : wpAny M A t Q E s := by
  intro Γ p hΓ
  exact Sem.wp_mono M Γ t (fun a p' s' q => q.2 q.1) (fun e p' s' q => q.2) p s (wp_toks n hn (h Γ p hΓ))
end Mine
end
section
open PySem PySem.W PyProof.Rows
namespace Mine
theorem noneBooked {w : World} {h : Heap} (X : (hd.heap_39 w.params).In h) : NoneBooked h := by
  have e := X 2 { cls := Value.none, data := Data.dict #[] } rfl
  refine ⟨fun _ => none, ?_, rfl⟩
  refine ⟨_, #[], 0, e, rfl, ?_⟩
  refine ⟨by intro e he; simp at he, fun x => rfl⟩
theorem is_str {M : Model} {A : Around} {E : Value → Shared → Prop} {s : Shared} {y z : PySem.Str} {u v : Tok} {Q : Value → Shared → Prop} (hu : u ≠ 0) (hv : v ≠ 0) (huv : u ≠ v) (hb : NoneBooked s.heap)
    (hq : ∀ b, (b = true → y = z) → Q (.bool b) s) : wpAny M A (compareOp .Is (.str y u) (.str z v)) Q E s := by
  show wpAny M A (do return .bool (← isSame (.str y u) (.str z v))) Q E s
  refine wpAny_bind ?_
  have h0 : (u == 0 || v == 0) = false := by simp [hu, hv]
  have h1 : (u == v) = false := by simp [huv]
  by_cases e : y = z
  · exact wpAny_isSame_str h0 hb fun b => wpAny_pure (hq b fun _ => e)
  · rw [isSame_str_other y z u v h0 h1 (by simp [e])]
    exact wpAny_pure (wpAny_pure (hq false fun h => by cases h))
end Mine
end
section
open PySem PySem.W PyProof.Rows
namespace Mine
section
local macro_rules | `(tactic| walk_at "exec For Tuple Call cons cons") => `(tactic| ((with_unfolding_all refine' wpAny_For ?_); k_whole))
local macro_rules | `(tactic| walk_at "call type:enumerate") => `(tactic| refine Stop.out ?_)
local macro_rules | `(tactic| walk_at "compareOp Is str str") => `(tactic| refine Stop.out ?_)
local macro_rules | `(tactic| walk_at "EStep") => `(tactic| first | ((with_reducible show EStep _ _ _ _ _ _ _ _ _ _ Flow.next _); refine Stop.out ?_) | (dsimp only [EStep]))
set_option maxRecDepth 100000 in
set_option maxHeartbeats 8000000 in
theorem c_index {w : World} {mean : ExcName → Option Value} {mg mb : Str → Option Value} {dp un : Nat} {gd : Option (List Code)} {cn : Str} {cs : Scope} {a : Addr} {ccd : Value} {cl : List (Str × Addr)} {outer : List Env} {A₀ : Around} {base h₀ : Heap} {L : Addr} {m : Str → Option Value} {news : List (Addr × Obj)} {s : Shared}
    {l : Addr} {vs : List Value} {ss : List PySem.Str} {n k : Nat} {x : PySem.Str} {tx : Tok} {Q E : Value → Shared → Prop}
    (B : Below A₀ base outer h₀) (F : Fr h₀ L s.heap m) (X : (hd.heap_39 w.params).In h₀) (N : News h₀ L s.heap news) (T : Top hd.view_39 LO mean mg mb h₀) (hk : cs.kind = .function)
    (hl : (l, listOf vs.toArray n) ∈ news) (hi : PyProof.Rows.StrsAre vs ss) (htx : tx ≠ 0) (htv : ∀ (i : Nat) y t, vs[i]? = some (.str y t) → t ≠ 0 ∧ t ≠ tx) (hkl : k < ss.length) (hkx : ss.getD k PySem.Str.empty = x) (hfirst : ∀ i, i < k → ss.getD i PySem.Str.empty ≠ x)
    (hd : dp + 1 < recursionLimit) (hu : un + 8 < cLine)
    (hret : ∀ t h' tk', Fr h₀ L h' m → News h₀ L h' news → Q (.int k t) { s with heap := h', toks := tk' }) :
    wpAny (model PySem.Challenge.rw_wu0052_01.row.prog w) (ktrTop dp un gd cn cs L a ccd cl outer) (call (.ref 62) [.ref l, .str x tx]) Q E s := by
  w_top off
  revert X
  k_fill
  intro X
  refine wpAny_call ?_
  k_dflt (refine' code_def ?k1 ?k2 ?k3 ?k4 ?k5 ?kA ?kF ?kK ?k6 ?k7 ?k8 ?k9 ?kB ?_ ?c2 ?c3 ?c4 ?c5; (case kA => exact rfl); (case kF => exact rfl); (case kK => assumption); (case k1 => k_asm); (case k2 => k_asm); (case k3 => k_asm); (case k4 => k_asm); (case k5 => k_asm); (case k6 => k_is); (case k7 => k_is); (case k8 => ktr_room); (case k9 => first | exact BindsTo.of_eq rfl | exact binds_K (by k_in) rfl (by k_is) rfl rfl rfl | (refine' kp_binds ?kx ?ke; (case kx => k_in); (case ke => exact fun _ => rfl))); (case c5 => decide); (case kB => exact locs rfl); (case c2 => exact rfl); (case c3 => exact rfl); (case c4 => exact rfl); k_whole; intro g' L' h' FG' F' N' B' X' T'; (try dsimp only); (try k_lift B'); (try k_fold))
  k_steps
  unfold Stop
  rename Fr g' _ _ _ => F9
  rename News g' _ _ _ => N9
  have hvl : vs.length = ss.length := hi.length
  with_unfolding_all refine' enum_find (k := k) rfl rfl rfl rfl F9 N9 hl (by omega) ?turn ?hE
  case hE => passes_own
  case turn =>
    intro i v t h tk own hik hvi F1 N1
    obtain ⟨tv, hv⟩ := strs_get hi i (by omega)
    rw [hv] at hvi
    obtain rfl := Option.some.inj hvi
    obtain ⟨htv0, htvx⟩ := htv _ _ _ hv
    clear hvi F9 N9
    k_fold
    k_steps
    unfold Stop
    k_dflt (refine' is_str ?a ?b ?c ?d ?_; (case a => assumption); (case b => assumption); (case c => assumption); (case d => (refine noneBooked (w := ?wb) ?xb; (case xb => k_in))); k_whole)
    intro b9 hb9
    k_steps
    · rename (_ = true → ss.getD i PySem.Str.empty = x) => hb9
      have e : i = k := by
        rcases Nat.lt_or_ge i k with h | h
        · exact absurd (hb9 (by assumption)) (hfirst i h)
        · omega
      subst e
      exact hret _ _ _ (by assumption) (cb_drop (by assumption) (fun p hp => List.mem_append_right _ hp))
    · rename ((ss.getD i PySem.Str.empty == x) = true) => hb9
      have e : i = k := by
        rcases Nat.lt_or_ge i k with h | h
        · exact absurd (eq_of_beq hb9) (hfirst i h)
        · omega
      subst e
      exact hret _ _ _ (by assumption) (cb_drop (by assumption) (fun p hp => List.mem_append_right _ hp))
    · unfold Stop
      rename ((ss.getD i PySem.Str.empty == x) = false) => hb9
      refine ⟨?_, _, _, _, rfl, F1, fun z h1 h2 => ?_, N1⟩
      · rcases Nat.lt_or_ge i k with h | h
        · exact h
        · have e : i = k := by omega
          subst e
          rw [hkx] at hb9
          rw [beq_self_eq_true] at hb9
          cases hb9
      · dsimp only
        rw [if_neg h2, if_neg h1]
end
end Mine
end
section
open PySem PySem.W PyProof.Rows
namespace Mine
section
set_option maxRecDepth 100000 in
set_option maxHeartbeats 8000000 in
theorem c_qname {w : World} {mean : ExcName → Option Value} {mg mb : Str → Option Value} {dp un : Nat} {gd : Option (List Code)} {cn : Str} {cs : Scope} {a : Addr} {ccd : Value} {cl : List (Str × Addr)} {outer : List Env} {A₀ : Around} {base h₀ : Heap} {L : Addr} {m : Str → Option Value} {news : List (Addr × Obj)} {s : Shared}
    {x : PySem.Str} {tx : Tok} {Q E : Value → Shared → Prop}
    (B : Below A₀ base outer h₀) (F : Fr h₀ L s.heap m) (X : (hd.heap_39 w.params).In h₀) (N : News h₀ L s.heap news) (T : Top hd.view_39 LO mean mg mb h₀) (hk : cs.kind = .function)
    (hd : dp + 3 < recursionLimit) (hu : un + 24 < cLine)
    (hret : ∀ y dy hs tk t n h' tk', Fr h₀ L h' m → News h₀ L h' ((y, instObj 136 dy) :: (dy, dictOf [⟨hs, .str (Str.ofString "text") tk, .str x t⟩] n) :: news) → (∀ p ∈ news, p.1 < dy) → dy < y → Q (.ref y) { s with heap := h', toks := tk' }) :
    wpAny (model PySem.Challenge.rw_wu0052_01.row.prog w) (ktrTop dp un gd cn cs L a ccd cl outer) (call (.ref 136) [.str x tx]) Q E s := by
  w_top off
  revert X
  k_fill
  intro X
  k_dflt (refine' call_cls ?k1 ?k2 ?k3 ?k4 ?k5 ?k6 ?_; (case k1 => k_asm); (case k2 => k_asm); (case k3 => k_asm); (case k4 => k_is); (case k5 => k_is); (case k6 => k_is); k_whole; intro x' d' h' F' N' l1 l2; (try k_lt2 l2))
  k_dflt (refine' code_def ?k1 ?k2 ?k3 ?k4 ?k5 ?kA ?kF ?kK ?k6 ?k7 ?k8 ?k9 ?kB ?_ ?c2 ?c3 ?c4 ?c5; (case kA => exact rfl); (case kF => exact rfl); (case kK => assumption); (case k1 => k_asm); (case k2 => k_asm); (case k3 => k_asm); (case k4 => k_asm); (case k5 => k_asm); (case k6 => k_is); (case k7 => k_is); (case k8 => ktr_room); (case k9 => first | exact BindsTo.of_eq rfl | exact binds_K (by k_in) rfl (by k_is) rfl rfl rfl | (refine' kp_binds ?kx ?ke; (case kx => k_in); (case ke => exact fun _ => rfl))); (case c5 => decide); (case kB => exact locs rfl); (case c2 => exact rfl); (case c3 => exact rfl); (case c4 => exact rfl); k_whole; intro g' L' h' FG' F' N' B' X' T'; (try dsimp only); (try k_lift B'); (try k_fold))
  k_steps
  exact hret _ _ _ _ _ _ _ _ (by assumption) (by assumption) (by assumption) (by assumption)
end
end Mine
end
section
open PySem PySem.W PyProof.Rows
namespace Mine
section
local macro_rules | `(tactic| walk_at "call ref") => `(tactic| refine Stop.out ?_)
set_option maxRecDepth 100000 in
set_option maxHeartbeats 8000000 in
theorem c_qlt {w : World} {mean : ExcName → Option Value} {mg mb : Str → Option Value} {dp un : Nat} {gd : Option (List Code)} {cn : Str} {cs : Scope} {a : Addr} {ccd : Value} {cl : List (Str × Addr)} {outer : List Env} {A₀ : Around} {base h₀ : Heap} {L : Addr} {m : Str → Option Value} {news : List (Addr × Obj)} {s : Shared}
    {x dx y dy : Addr} {hx hy : Int} {kx ky tx ty : Tok} {nx ny : Nat} {X Y : PySem.Str} {Q E : Value → Shared → Prop}
    (B : Below A₀ base outer h₀) (F : Fr h₀ L s.heap m) (K9 : (hd.heap_39 w.params).In h₀) (N : News h₀ L s.heap news) (T : Top hd.view_39 LO mean mg mb h₀) (hk : cs.kind = .function)
    (x1 : (x, instObj 136 dx) ∈ news) (x2 : (dx, dictOf [⟨hx, .str (Str.ofString "text") kx, .str X tx⟩] nx) ∈ news)
    (y1 : (y, instObj 136 dy) ∈ news) (y2 : (dy, dictOf [⟨hy, .str (Str.ofString "text") ky, .str Y ty⟩] ny) ∈ news)
    (hd : dp + 3 < recursionLimit) (hu : un + 24 < cLine)
    (hret : ∀ h' tk', Fr h₀ L h' m → News h₀ L h' news → Q (.bool (decide (X.cps.toList < Y.cps.toList))) { s with heap := h', toks := tk' }) :
    wpAny (model PySem.Challenge.rw_wu0052_01.row.prog w) (ktrTop dp un gd cn cs L a ccd cl outer) (compareOp .Lt (.ref x) (.ref y)) Q E s := by
  w_top off
  revert K9
  k_fill
  intro K9
  k_steps
  unfold Stop
  refine wpAny_call ?_
  k_dflt (refine' code_def ?k1 ?k2 ?k3 ?k4 ?k5 ?kA ?kF ?kK ?k6 ?k7 ?k8 ?k9 ?kB ?_ ?c2 ?c3 ?c4 ?c5; (case kA => exact rfl); (case kF => exact rfl); (case kK => first | exact rfl | assumption); (case k1 => k_asm); (case k2 => k_asm); (case k3 => k_asm); (case k4 => k_asm); (case k5 => k_asm); (case k6 => k_is); (case k7 => k_is); (case k8 => ktr_room); (case k9 => first | exact BindsTo.of_eq rfl | exact binds_K (by k_in) rfl (by k_is) rfl rfl rfl | (refine' kp_binds ?kx ?ke; (case kx => k_in); (case ke => exact fun _ => rfl))); (case c5 => decide); (case kB => exact locs rfl); (case c2 => exact rfl); (case c3 => exact rfl); (case c4 => exact rfl); k_whole; intro g' L' h' FG' F' N' B' X' T'; (try dsimp only); (try k_lift B'); (try k_fold))
  k_steps
  exact hret _ _ (by assumption) (by assumption)
end
end Mine
end
section
open PySem PySem.W PyProof.Rows
namespace Mine
/-- two lists side by side -/
inductive All2 {α β : Type} (R : α → β → Prop) : List α → List β → Prop
  | nil : All2 R [] []
  | cons {a b as bs} : R a b → All2 R as bs → All2 R (a :: as) (b :: bs)
namespace All2
variable {α β : Type} {R S : α → β → Prop}
theorem length {as : List α} {bs : List β} (h : All2 R as bs) : as.length = bs.length := by
  induction h with
  | nil => rfl
  | cons _ _ ih => simp [ih]
theorem get {as : List α} {bs : List β} (h : All2 R as bs) (d : β) : ∀ k, k < bs.length → ∃ a, as[k]? = some a ∧ R a (bs.getD k d) := by
  induction h with
  | nil => intro k hk; exact absurd hk (Nat.not_lt_zero _)
  | cons r _ ih =>
    intro k hk
    cases k with
    | zero => exact ⟨_, rfl, r⟩
    | succ k =>
      obtain ⟨a, e, q⟩ := ih k (by simpa using hk)
      exact ⟨a, by simpa using e, by simpa using q⟩
theorem at' {as : List α} {bs : List β} (h : All2 R as bs) : ∀ (k : Nat) (a : α), as[k]? = some a → ∃ b, bs[k]? = some b ∧ R a b := by
  induction h with
  | nil => intro k a e; simp at e
  | cons r _ ih =>
    intro k a e
    cases k with
    | zero => simp at e; subst e; exact ⟨_, rfl, r⟩
    | succ k =>
      obtain ⟨b, e', q⟩ := ih k a (by simpa using e)
      exact ⟨b, by simpa using e', q⟩
theorem mono {as : List α} {bs : List β} (h : All2 R as bs) (hs : ∀ a b, R a b → S a b) : All2 S as bs := by
  induction h with
  | nil => exact .nil
  | cons r _ ih => exact .cons (hs _ _ r) ih
theorem append {as as' : List α} {bs bs' : List β} (h : All2 R as bs) (h' : All2 R as' bs') : All2 R (as ++ as') (bs ++ bs') := by
  induction h with
  | nil => exact h'
  | cons r _ ih => exact .cons r ih
theorem take {as : List α} {bs : List β} (h : All2 R as bs) : ∀ k, All2 R (as.take k) (bs.take k) := by
  induction h with
  | nil => intro k; simp; exact .nil
  | cons r _ ih =>
    intro k
    cases k with
    | zero => exact .nil
    | succ k => exact .cons r (ih k)
theorem drop {as : List α} {bs : List β} (h : All2 R as bs) : ∀ k, All2 R (as.drop k) (bs.drop k) := by
  induction h with
  | nil => intro k; simp; exact .nil
  | cons r h ih =>
    intro k
    cases k with
    | zero => exact .cons r h
    | succ k => exact ih k
end All2
def insAt {α : Type} (l : List α) (k : Nat) (x : α) : List α := l.take k ++ x :: l.drop k
theorem insAt_length {α : Type} (l : List α) (k : Nat) (x : α) : (insAt l k x).length = l.length + 1 := by
  unfold insAt
  rw [List.length_append, List.length_cons, List.length_take, List.length_drop]
  omega
theorem insAt_map {α β : Type} (f : α → β) (l : List α) (k : Nat) (x : α) : (insAt l k x).map f = insAt (l.map f) k (f x) := by
  unfold insAt
  rw [List.map_append, List.map_cons, List.map_take, List.map_drop]
theorem All2.ins {α β : Type} {R : α → β → Prop} {as : List α} {bs : List β} (h : All2 R as bs) (k : Nat) {a : α} {b : β} (r : R a b) : All2 R (insAt as k a) (insAt bs k b) :=
  (h.take k).append (.cons r (h.drop k))
section
variable {prog : Program} {w : World} {A : Around} {E : Value → Shared → Prop} {s : Shared} {h₀ : Heap} {L l : Addr} {m : Str → Option Value} {news : List (Addr × Obj)} {vs : List Value} {nn : Nat}
theorem my_insert {r : Nat} {u : Tok} {y : Value} {Q : Value → Shared → Prop} (rest : List (Addr × Obj)) (F : Fr h₀ L s.heap m) (N : News h₀ L s.heap news) (hm : (l, listOf vs.toArray nn) ∈ news) (hs : ∀ p ∈ rest, p ∈ news) (hne : ∀ p ∈ rest, p.1 ≠ l)
    (hr : r ≤ vs.length) (hlen : vs.length < 2 ^ 20)
    (h : ∀ h', Fr h₀ L h' m → News h₀ L h' ((l, listOf (insAt vs r y).toArray (nn + 1)) :: rest) → Q .none { s with heap := h' }) :
    wpAny (model prog w) A (call (.builtin "list.insert") [.ref l, .int r u, y]) Q E s := by
  have N' : News h₀ L s.heap ((l, listOf vs.toArray nn) :: rest) := fun p hp => by
    rcases List.mem_cons.mp hp with rfl | hp
    · exact N _ hm
    · exact N _ (hs p hp)
  refine kl_insert (its := vs.toArray) (n := nn) (l := insAt vs r y) F N' ?_ ?_ (Upd.head hne) ?_ h
  · unfold Builtin.List.listFitsIndex
    simp
    omega
  · have e : ¬ ((r : Int) < 0) := by omega
    have e2 : min ((r : Int).toNat) vs.length = r := by omega
    unfold kl_ins insAt
    simp only [if_neg e, List.toList_toArray]
    rw [e2]
  · show vs.length ≤ sizeLine
    rw [show sizeLine = 16777216 from rfl]
    omega
end
end Mine
end
section
open PySem PySem.W PyProof.Rows
namespace Mine
def QIn (news : List (Addr × Obj)) (v : Value) (X : PySem.Str) : Prop :=
  ∃ x dx hx kx tx nx, v = .ref x ∧ (x, instObj 136 dx) ∈ news ∧ (dx, dictOf [⟨hx, .str (Str.ofString "text") kx, .str X tx⟩] nx) ∈ news
theorem QIn.mono {news news' : List (Addr × Obj)} {v : Value} {X : PySem.Str} (h : QIn news v X) (hs : ∀ p ∈ news, p ∈ news') : QIn news' v X := by
  obtain ⟨x, dx, hx, kx, tx, nx, e, a, b⟩ := h
  exact ⟨x, dx, hx, kx, tx, nx, e, hs _ a, hs _ b⟩
def BisL (Xs : List PySem.Str) (X : PySem.Str) (r : Nat) : Prop := r ≤ Xs.length ∧ (∀ i, i < r → (Xs.getD i PySem.Str.empty).cps.toList < X.cps.toList) ∧ (∀ i, r ≤ i → i < Xs.length → ¬ (Xs.getD i PySem.Str.empty).cps.toList < X.cps.toList)
def UpL (Xs : List PySem.Str) (X : PySem.Str) : Prop := ∀ i j, i ≤ j → j < Xs.length → (Xs.getD j PySem.Str.empty).cps.toList < X.cps.toList → (Xs.getD i PySem.Str.empty).cps.toList < X.cps.toList
section
local macro_rules | `(tactic| walk_at "call builtin:len") => `(tactic| refine Stop.out ?_)
local macro_rules | `(tactic| walk_at "subscriptTail Name Name ref int") => `(tactic| refine Stop.out ?_)
local macro_rules | `(tactic| walk_at "compareOp Lt ref") => `(tactic| refine Stop.out ?_)
local macro_rules | `(tactic| walk_at "KswEnd") => `(tactic| refine Stop.out ?_)
local macro_rules | `(tactic| walk_at "exec While Compare cons nil") => `(tactic| refine Stop.out ?_)
set_option maxRecDepth 100000 in
set_option maxHeartbeats 8000000 in
theorem c_bisl {w : World} {mean : ExcName → Option Value} {mg mb : Str → Option Value} {dp un : Nat} {gd : Option (List Code)} {cn : Str} {cs : Scope} {a : Addr} {ccd : Value} {cl : List (Str × Addr)} {outer : List Env} {A₀ : Around} {base h₀ : Heap} {L : Addr} {m : Str → Option Value} {news : List (Addr × Obj)} {s : Shared}
    {l : Addr} {vs : List Value} {Xs : List PySem.Str} {nn : Nat} {q dq : Addr} {hq : Int} {kq tq : Tok} {nq : Nat} {Xq : PySem.Str} {t0 : Tok} {Q E : Value → Shared → Prop}
    (B : Below A₀ base outer h₀) (F : Fr h₀ L s.heap m) (X : (hd.heap_39 w.params).In h₀) (N : News h₀ L s.heap news) (T : Top hd.view_39 LO mean mg mb h₀) (hk : cs.kind = .function)
    (hl : (l, listOf vs.toArray nn) ∈ news) (hi : All2 (QIn news) vs Xs) (hlen : Xs.length < 2 ^ 20) (hup : UpL Xs Xq)
    (q1 : (q, instObj 136 dq) ∈ news) (q2 : (dq, dictOf [⟨hq, .str (Str.ofString "text") kq, .str Xq tq⟩] nq) ∈ news)
    (hd : dp + 4 < recursionLimit) (hu : un + 32 < cLine)
    (hret : ∀ (r : Nat) t h' tk', BisL Xs Xq r → Fr h₀ L h' m → News h₀ L h' news → Q (.int r t) { s with heap := h', toks := tk' }) :
    wpAny (model PySem.Challenge.rw_wu0052_01.row.prog w) (ktrTop dp un gd cn cs L a ccd cl outer) (call (.ref 48) [.ref l, .ref q, .int 0 t0, .none]) Q E s := by
  w_top off
  revert X
  k_fill
  intro X
  have hvl : vs.length = Xs.length := hi.length
  refine wpAny_call ?_
  k_dflt (refine' code_def ?k1 ?k2 ?k3 ?k4 ?k5 ?kA ?kF ?kK ?k6 ?k7 ?k8 ?k9 ?kB ?_ ?c2 ?c3 ?c4 ?c5; (case kA => exact rfl); (case kF => exact rfl); (case kK => first | exact rfl | assumption); (case k1 => k_asm); (case k2 => k_asm); (case k3 => k_asm); (case k4 => k_asm); (case k5 => k_asm); (case k6 => k_is); (case k7 => k_is); (case k8 => ktr_room); (case k9 => first | exact BindsTo.of_eq rfl | exact binds_K (by k_in) rfl (by k_is) rfl rfl rfl | (refine' kp_binds ?kx ?ke; (case kx => k_in); (case ke => exact fun _ => rfl))); (case c5 => decide); (case kB => exact locs rfl); (case c2 => exact rfl); (case c3 => exact rfl); (case c4 => exact rfl); k_whole; intro g' L' h' FG' F' N' B' X' T'; (try dsimp only); (try k_lift B'); (try k_fold))
  k_steps
  unfold Stop
  k_dflt (refine' my_len ?N ?q ?o ?e ?z ?_; (case N => k_asm); (case q => ktr_member); (case o => exact SeqObj.list _); (case e => first | exact All2.length (by assumption) | exact rfl); (case z => omega); k_whole)
  intro t9 tk9
  k_steps
  unfold Stop
  rename Fr g' _ _ _ => F9
  rename News g' _ _ _ => N9
  with_unfolding_all refine' ksw_while (σ := Int × Tok × Int × Tok) (fun _ => news) (fun c => [(Str.ofString "lo", .int c.1 c.2.1), (Str.ofString "hi", .int c.2.2.1 c.2.2.2)]) (fun _ => True) [Str.ofString "mid"] (fun c => 0 ≤ c.1 ∧ c.1 ≤ c.2.2.1 ∧ c.2.2.1 ≤ (Xs.length : Int) ∧ (∀ i : Nat, (i : Int) < c.1 → (Xs.getD i PySem.Str.empty).cps.toList < Xq.cps.toList) ∧ (∀ i : Nat, c.2.2.1 ≤ (i : Int) → i < Xs.length → ¬ (Xs.getD i PySem.Str.empty).cps.toList < Xq.cps.toList)) (fun c => (c.2.2.1 - c.1).toNat) (0, _, (Xs.length : Int), _) F9 N9 trivial ?hk ?hp ?turn ?hE
  case hE => passes_own
  case hk => exact List.forall_mem_cons.mpr ⟨by with_unfolding_all rfl, List.forall_mem_cons.mpr ⟨by with_unfolding_all rfl, List.forall_mem_nil _⟩⟩
  case hp => exact ⟨by simp, by simp, by simp, fun i hi => by simp at hi; omega, fun i h1 h2 => by simp at h1; omega⟩
  case turn =>
    rintro ⟨lo, tlo, hi9, thi⟩ u h9 tk9 - ⟨i1, i2, i3, i4, i5⟩ F1 N1
    clear F9 N9
    dsimp only at i1 i2 i3 i4 i5 F1
    k_fold
    k_steps
    · unfold Stop
      have e2 : (lo + hi9).fdiv 2 = (lo + hi9) / 2 := Int.fdiv_eq_ediv_of_nonneg _ (by omega)
      rename Fr g' _ _ _ => F2
      rename News g' _ _ _ => N2
      have hlo : lo < hi9 := by assumption
      obtain ⟨v9, hv9, x9, dx9, hx9, kx9, tx9, nx9, e9, a9, b9⟩ := hi.get PySem.Str.empty ((lo + hi9) / 2).toNat (by omega)
      subst e9
      refine my_item0 N2 hl (SeqObj.list _) (by rw [e2]; omega) (by rw [e2]; omega) (by rw [e2]; exact hv9) ?_ (by with_unfolding_all rfl)
      k_steps
      unfold Stop
      k_dflt (refine' c_qlt ?k1 ?k2 ?k3 ?k4 ?k5 ?k6 a9 b9 q1 q2 ?kd ?ku ?_; (case k1 => k_asm); (case k2 => k_asm); (case k3 => k_asm); (case k4 => k_asm); (case k5 => k_asm); (case k6 => exact rfl); (case kd => ktr_room); (case ku => ktr_units))
      intro h9 tk9 F3 N3
      k_steps
      · unfold Stop
        rename Fr g' _ _ _ => F4
        rename News g' _ _ _ => N4
        rename ((Xs.getD _ PySem.Str.empty).cps.toList < Xq.cps.toList) => hx
        refine ksw_end ((lo + hi9).fdiv 2 + 1, _, hi9, thi) F4 N4 (fun p hp => hp) trivial (List.forall_mem_cons.mpr ⟨rfl, List.forall_mem_cons.mpr ⟨rfl, List.forall_mem_nil _⟩⟩) (by ksw_same) ?_ ?_
        · rw [e2]
          refine ⟨by show 0 ≤ (lo + hi9) / 2 + 1; omega, by show (lo + hi9) / 2 + 1 ≤ hi9; omega, i3, fun i h1 => ?_, i5⟩
          exact hup i ((lo + hi9) / 2).toNat (by simp only at h1; omega) (by omega) hx
        · show (hi9 - ((lo + hi9).fdiv 2 + 1)).toNat < (hi9 - lo).toNat
          rw [e2]
          omega
      · unfold Stop
        rename Fr g' _ _ _ => F4
        rename News g' _ _ _ => N4
        rename (¬ (Xs.getD _ PySem.Str.empty).cps.toList < Xq.cps.toList) => hx
        refine ksw_end (lo, tlo, (lo + hi9).fdiv 2, _) F4 N4 (fun p hp => hp) trivial (List.forall_mem_cons.mpr ⟨rfl, List.forall_mem_cons.mpr ⟨rfl, List.forall_mem_nil _⟩⟩) (by ksw_same) ?_ ?_
        · rw [e2]
          refine ⟨i1, by show lo ≤ (lo + hi9) / 2; omega, by show (lo + hi9) / 2 ≤ _; omega, i4, fun i h1 h2 h3 => hx ?_⟩
          exact hup ((lo + hi9) / 2).toNat i (by simp only at h1; omega) h2 h3
        · show ((lo + hi9).fdiv 2 - lo).toNat < (hi9 - lo).toNat
          rw [e2]
          omega
    · have e : lo = ((lo.toNat : Nat) : Int) := by omega
      rw [e]
      refine hret lo.toNat _ _ _ ⟨by omega, fun i h => i4 i (by omega), fun i h1 h2 => i5 i (by omega) h2⟩ (by assumption) (by assumption)
end
end Mine
end
section
open PySem PySem.W PyProof.Rows
namespace Mine
section
local macro_rules | `(tactic| walk_at "call ref") => `(tactic| refine Stop.out ?_)
local macro_rules | `(tactic| walk_at "call builtin:list.insert") => `(tactic| refine Stop.out ?_)
set_option maxRecDepth 100000 in
set_option maxHeartbeats 8000000 in
theorem c_insort {w : World} {mean : ExcName → Option Value} {mg mb : Str → Option Value} {dp un : Nat} {gd : Option (List Code)} {cn : Str} {cs : Scope} {a : Addr} {ccd : Value} {cl : List (Str × Addr)} {outer : List Env} {A₀ : Around} {base h₀ : Heap} {L : Addr} {m : Str → Option Value} {news : List (Addr × Obj)} {s : Shared}
    {l : Addr} {vs : List Value} {Xs : List PySem.Str} {nn : Nat} {q dq : Addr} {hq : Int} {kq tq : Tok} {nq : Nat} {Xq : PySem.Str} {Q E : Value → Shared → Prop}
    (B : Below A₀ base outer h₀) (F : Fr h₀ L s.heap m) (X : (hd.heap_39 w.params).In h₀) (N : News h₀ L s.heap ((l, listOf vs.toArray nn) :: news)) (T : Top hd.view_39 LO mean mg mb h₀) (hk : cs.kind = .function)
    (hne : ∀ p ∈ news, p.1 ≠ l) (hi : All2 (QIn news) vs Xs) (hlen : Xs.length < 2 ^ 20) (hup : UpL Xs Xq)
    (q1 : (q, instObj 136 dq) ∈ news) (q2 : (dq, dictOf [⟨hq, .str (Str.ofString "text") kq, .str Xq tq⟩] nq) ∈ news)
    (hd : dp + 5 < recursionLimit) (hu : un + 40 < cLine)
    (hret : ∀ (r : Nat) h' tk', BisL Xs Xq r → Fr h₀ L h' m → News h₀ L h' ((l, listOf (insAt vs r (.ref q)).toArray (nn + 1)) :: news) → Q .none { s with heap := h', toks := tk' }) :
    wpAny (model PySem.Challenge.rw_wu0052_01.row.prog w) (ktrTop dp un gd cn cs L a ccd cl outer) (call (.ref 39) [.ref l, .ref q]) Q E s := by
  w_top off
  revert X
  k_fill
  intro X
  have hvl : vs.length = Xs.length := hi.length
  refine wpAny_call ?_
  k_dflt (refine' code_def ?k1 ?k2 ?k3 ?k4 ?k5 ?kA ?kF ?kK ?k6 ?k7 ?k8 ?k9 ?kB ?_ ?c2 ?c3 ?c4 ?c5; (case kA => exact rfl); (case kF => exact rfl); (case kK => first | exact rfl | assumption); (case k1 => k_asm); (case k2 => k_asm); (case k3 => k_asm); (case k4 => k_asm); (case k5 => k_asm); (case k6 => k_is); (case k7 => k_is); (case k8 => ktr_room); (case k9 => first | exact BindsTo.of_eq rfl | exact binds_K (by k_in) rfl (by k_is) rfl rfl rfl | (refine' kp_binds ?kx ?ke; (case kx => k_in); (case ke => exact fun _ => rfl))); (case c5 => decide); (case kB => exact locs rfl); (case c2 => exact rfl); (case c3 => exact rfl); (case c4 => exact rfl); k_whole; intro g' L' h' FG' F' N' B' X' T'; (try dsimp only); (try k_lift B'); (try k_fold))
  k_steps
  unfold Stop
  k_dflt (refine' c_bisl (Xs := Xs) (Xq := Xq) ?k1 ?k2 ?k3 ?k4 ?k5 ?k6 ?q ?i ?n ?u ?x1 ?x2 ?kd ?ku ?_; (case k1 => k_asm); (case k2 => k_asm); (case k3 => k_asm); (case k4 => k_asm); (case k5 => k_asm); (case k6 => exact rfl); (case q => exact List.Mem.head _); (case i => exact hi.mono fun a b h => h.mono fun p hp => List.Mem.tail _ hp); (case n => assumption); (case u => assumption); (case x1 => exact List.Mem.tail _ q1); (case x2 => exact List.Mem.tail _ q2); (case kd => ktr_room); (case ku => ktr_units))
  intro r9 t9 h9 tk9 hB9 F9 N9
  dsimp only
  k_steps
  unfold Stop
  rename Fr g' _ _ _ => F9
  rename News g' _ _ _ => N9
  refine my_insert news F9 N9 (List.Mem.head _) (fun p hp => List.Mem.tail _ hp) hne (by rw [hvl]; exact hB9.1) (by omega) ?_
  intro h9 F9 N9
  k_steps
  exact hret _ _ _ hB9 (by assumption) (by assumption)
end
end Mine
end
section
open PySem PySem.W PyProof.Rows
namespace Mine
def LIn (news : List (Addr × Obj)) (v : Value) (xs : List Int) : Prop :=
  ∃ a vs n, v = .ref a ∧ (a, listOf vs.toArray n) ∈ news ∧ IntsAre vs xs
theorem LIn.mono {news news' : List (Addr × Obj)} {v : Value} {xs : List Int} (h : LIn news v xs) (hs : ∀ p ∈ news, p ∈ news') : LIn news' v xs := by
  obtain ⟨a, vs, n, e, h1, h2⟩ := h
  exact ⟨a, vs, n, e, hs _ h1, h2⟩
def ordAt (rec : List Int → List (List Int)) (l : List Int) (p : Nat) : List (List Int) :=
  if l.getD p 0 ∈ l.take p then [] else (rec (l.take p ++ l.drop (p + 1))).map (l.getD p 0 :: ·)
def ordF : Nat → List Int → List (List Int)
  | 0, _ => [[]]
  | n + 1, l => (List.range l.length).flatMap (ordAt (ordF n) l)
def LLs (own : List (Addr × Obj)) (r : Addr) (xss : List (List Int)) : Prop :=
  ∃ rs n, (r, listOf rs.toArray n) ∈ own ∧ All2 (LIn own) rs xss
theorem allLt_mem {d : Addr} : ∀ {l : List (Addr × Obj)}, AllLt d l → ∀ p ∈ l, p.1 < d
  | [], _ => fun _ h => nomatch h
  | _ :: _, ⟨a, b⟩ => fun p hp => by
    rcases List.mem_cons.mp hp with rfl | hp
    · exact a
    · exact allLt_mem b p hp
theorem news_drop3 {h₀ h : Heap} {L : Addr} {a b c : Addr × Obj} {r : List (Addr × Obj)} (N : News h₀ L h (a :: b :: c :: r)) : News h₀ L h ([a, b] ++ r) := cb_drop N fun p hp => by
  rcases List.mem_cons.mp hp with rfl | hp
  · exact List.Mem.head _
  · rcases List.mem_cons.mp hp with rfl | hp
    · exact List.Mem.tail _ (List.Mem.head _)
    · exact List.Mem.tail _ (List.Mem.tail _ (List.Mem.tail _ hp))
theorem news_drop2 {h₀ h : Heap} {L : Addr} {a b : Addr × Obj} {r : List (Addr × Obj)} (N : News h₀ L h (a :: b :: r)) : News h₀ L h (a :: r) := cb_drop N fun p hp => by
  rcases List.mem_cons.mp hp with rfl | hp
  · exact List.Mem.head _
  · exact List.Mem.tail _ (List.Mem.tail _ hp)
theorem news_regroup {h₀ h : Heap} {L : Addr} {a b c d I O : Addr × Obj} {o9 own r : List (Addr × Obj)} (N : News h₀ L h (o9 ++ (a :: b :: c :: d :: I :: O :: (own ++ r)))) : News h₀ L h (O :: I :: (own ++ (o9 ++ r))) := cb_drop N fun p hp => by
  simp only [List.mem_cons, List.mem_append] at hp ⊢
  rcases hp with h | h | h | h | h
  · exact .inr (.inr (.inr (.inr (.inr (.inr (.inl h))))))
  · exact .inr (.inr (.inr (.inr (.inr (.inl h)))))
  · exact .inr (.inr (.inr (.inr (.inr (.inr (.inr (.inl h)))))))
  · exact .inl h
  · exact .inr (.inr (.inr (.inr (.inr (.inr (.inr (.inr h)))))))
theorem ordF_mem_len : ∀ k l, l.length = k → ∀ w ∈ ordF k l, w.length = k := by
  intro k
  induction k with
  | zero => intro l _ w hw; simp [ordF] at hw; rw [hw]; rfl
  | succ k ih =>
    intro l hl w hw
    unfold ordF at hw
    obtain ⟨p, hp, hw⟩ := List.mem_flatMap.mp hw
    have hp := List.mem_range.mp hp
    unfold ordAt at hw
    split at hw
    · simp at hw
    · obtain ⟨w', hw', rfl⟩ := List.mem_map.mp hw
      rw [List.length_cons, ih _ (by rw [List.length_append, List.length_take, List.length_drop]; omega) w' hw']
abbrev adrOf {d : Addr} {l : List (Addr × Obj)} (_ : AllLt d l) : Addr := d
theorem ordAt_len {rec : List Int → List (List Int)} {B : Nat} {l : List Int} {p : Nat} (h : (rec (l.take p ++ l.drop (p + 1))).length ≤ B) : (ordAt rec l p).length ≤ B := by
  unfold ordAt
  split
  · exact Nat.zero_le _
  · rw [List.length_map]; exact h
theorem part_len {rec : List Int → List (List Int)} {B : Nat} {l : List Int} : ∀ i, (∀ p, p < i → (rec (l.take p ++ l.drop (p + 1))).length ≤ B) → ((List.range i).flatMap (ordAt rec l)).length ≤ i * B := by
  intro i
  induction i with
  | zero => intro _; simp
  | succ i ih =>
    intro h
    rw [List.range_succ, List.flatMap_append, List.length_append]
    have a := ih fun p hp => h p (by omega)
    have b : ((List.flatMap (ordAt rec l) [i])).length ≤ B := by
      simp only [List.flatMap_cons, List.flatMap_nil, List.append_nil]
      exact ordAt_len (h i (by omega))
    have e : (i + 1) * B = i * B + B := Nat.succ_mul i B
    omega
theorem cut_len {l : List Int} {p k : Nat} (hp : p < l.length) (hl : l.length = k + 1) : (l.take p ++ l.drop (p + 1)).length = k := by
  rw [List.length_append, List.length_take, List.length_drop]
  omega
theorem ordF_len : ∀ k l, l.length = k → k ≤ 4 → (ordF k l).length ≤ 4 ^ k := by
  intro k
  induction k with
  | zero => intro l _ _; simp [ordF]
  | succ k ih =>
    intro l hl hk
    unfold ordF
    have h := part_len (rec := ordF k) (B := 4 ^ k) (l := l) l.length fun p hp => ih _ (cut_len hp hl) (by omega)
    have e : 4 ^ (k + 1) = 4 ^ k * 4 := Nat.pow_succ _ _
    have e2 : l.length * 4 ^ k ≤ 4 * 4 ^ k := Nat.mul_le_mul_right _ (by omega)
    rw [e]
    omega
section
variable {prog : Program} {w : World} {A : Around} {E : Value → Shared → Prop} {s : Shared} {h₀ : Heap} {L l : Addr} {m : Str → Option Value} {news : List (Addr × Obj)} {vs : List Value} {nn : Nat}
theorem my_append {y : Value} {Q : Value → Shared → Prop} (rest : List (Addr × Obj)) (F : Fr h₀ L s.heap m) (N : News h₀ L s.heap news) (hm : (l, listOf vs.toArray nn) ∈ news) (hs : ∀ p ∈ rest, p ∈ news) (hne : ∀ p ∈ rest, p.1 ≠ l)
    (hlen : vs.length < 2 ^ 20)
    (h : ∀ h', Fr h₀ L h' m → News h₀ L h' ((l, listOf (vs ++ [y]).toArray (nn + 1)) :: rest) → Q .none { s with heap := h' }) :
    wpAny (model prog w) A (call (.builtin "list.append") [.ref l, y]) Q E s := by
  have N' : News h₀ L s.heap ((l, listOf vs.toArray nn) :: rest) := fun p hp => by
    rcases List.mem_cons.mp hp with rfl | hp
    · exact N _ hm
    · exact N _ (hs p hp)
  refine append_K (its := vs.toArray) (n := nn) F N' (Upd.head hne) (fun h' F' N'' => ?_) ?_
  · have e : vs.toArray.push y = (vs ++ [y]).toArray := by simp
    rw [e] at N''
    exact h h' F' N''
  · show vs.toArray.size ≤ sizeLine
    rw [List.size_toArray, show sizeLine = 16777216 from rfl]
    omega
theorem app_step {W D I2 I : Addr × Obj} {own r : List (Addr × Obj)} {y : Value} {Q : Value → Shared → Prop} (F : Fr h₀ L s.heap m) (N : News h₀ L s.heap (W :: D :: I2 :: (l, listOf vs.toArray nn) :: I :: (own ++ r)))
    (hW : W.1 ≠ l) (hI2 : I2.1 ≠ l) (hI : I.1 ≠ l) (ho : ∀ p ∈ own ++ r, p.1 ≠ l) (hlen : vs.length < 2 ^ 20)
    (h : ∀ h', Fr h₀ L h' m → News h₀ L h' (I2 :: (l, listOf (vs ++ [y]).toArray (nn + 1)) :: I :: ((W :: own) ++ r)) → Q .none { s with heap := h' }) :
    wpAny (model prog w) A (call (.builtin "list.append") [.ref l, y]) Q E s := by
  refine my_append (nn := nn) (I2 :: I :: ((W :: own) ++ r)) F N (by simp) (fun p hp => ?_) (fun p hp => ?_) hlen fun h' F' N' => h h' F' (cb_drop N' fun p hp => ?_)
  · simp only [List.mem_cons, List.cons_append] at hp ⊢
    rcases hp with h | h | h | h
    · exact .inr (.inr (.inl h))
    · exact .inr (.inr (.inr (.inr (.inl h))))
    · exact .inl h
    · exact .inr (.inr (.inr (.inr (.inr h))))
  · simp only [List.mem_cons, List.cons_append] at hp
    rcases hp with h | h | h | h
    · rw [h]; exact hI2
    · rw [h]; exact hI
    · rw [h]; exact hW
    · exact ho p h
  · simp only [List.mem_cons, List.cons_append] at hp ⊢
    rcases hp with h | h | h | h | h
    · exact .inr (.inl h)
    · exact .inl h
    · exact .inr (.inr (.inl h))
    · exact .inr (.inr (.inr (.inl h)))
    · exact .inr (.inr (.inr (.inr h)))
end
end Mine
end
section
open PySem PySem.W PyProof.Rows
namespace Mine
section
local macro_rules | `(tactic| walk_at "call ref") => `(tactic| refine Stop.out ?_)
local macro_rules | `(tactic| walk_at "pyIter ref") => `(tactic| refine Stop.out ?_)
local macro_rules | `(tactic| walk_at "call builtin:len") => `(tactic| refine Stop.out ?_)
local macro_rules | `(tactic| walk_at "compareOp Eq ref ref") => `(tactic| refine Stop.out ?_)
local macro_rules | `(tactic| walk_at "subscriptTail Name Slice ref ref") => `(tactic| refine Stop.out ?_)
local macro_rules | `(tactic| walk_at "call builtin:list.append") => `(tactic| refine Stop.out ?_)
local macro_rules | `(tactic| walk_at "binaryOp Add ref ref") => `(tactic| refine Stop.out ?_)
local macro_rules | `(tactic| walk_at "FPost") => `(tactic| refine Stop.out ?_)
local macro_rules | `(tactic| walk_at "call type:range") => `(tactic| (k_here; (rename Fr _ _ _ _ => F'); (rename News _ _ _ _ => N'); (with_unfolding_all refine range1_rows F' N' ?_); intro _ _ _ _ _ _ _ _ _))
set_option maxRecDepth 100000 in
set_option maxHeartbeats 8000000 in
theorem c_orders {w : World} {mean : ExcName → Option Value} {mg mb : Str → Option Value} : ∀ (k : Nat) {dp un : Nat} {gd : Option (List Code)} {cn : Str} {cs : Scope} {a : Addr} {ccd : Value} {cl : List (Str × Addr)} {outer : List Env} {A₀ : Around} {base h₀ : Heap} {L : Addr} {m : Str → Option Value} {news : List (Addr × Obj)} {s : Shared}
    {l : Addr} {vs : List Value} {ns : List Int} {nn : Nat} {Q E : Value → Shared → Prop}
    (B : Below A₀ base outer h₀) (F : Fr h₀ L s.heap m) (X : (hd.heap_39 w.params).In h₀) (N : News h₀ L s.heap news) (T : Top hd.view_39 LO mean mg mb h₀) (hk : cs.kind = .function)
    (hl : (l, listOf vs.toArray nn) ∈ news) (hi : IntsAre vs ns) (hlen : ns.length = k) (hk4 : k ≤ 4)
    (hd : dp + k + 2 < recursionLimit) (hu : un + 8 * k + 100 < cLine)
    (hret : ∀ r own h' tk', LLs own r (ordF k ns) → (∀ q ∈ own, ∀ p ∈ news, p.1 < q.1) → Fr h₀ L h' m → News h₀ L h' (own ++ news) → Q (.ref r) { s with heap := h', toks := tk' }),
    wpAny (model PySem.Challenge.rw_wu0052_01.row.prog w) (ktrTop dp un gd cn cs L a ccd cl outer) (call (.ref 147) [.ref l]) Q E s := by
  w_top off
  intro k
  induction k with
  | zero =>
    intro dp un gd cn cs a ccd cl outer A₀ base h₀ L m news s l vs ns nn Q E B F X N T hk hl hi hlen hk4 hd hu hret
    have e : ns = [] := List.eq_nil_of_length_eq_zero hlen
    subst e
    have e : vs = [] := by cases hi; rfl
    subst e
    revert X
    k_fill
    intro X
    refine wpAny_call ?_
    k_dflt (refine' code_def ?k1 ?k2 ?k3 ?k4 ?k5 ?kA ?kF ?kK ?k6 ?k7 ?k8 ?k9 ?kB ?_ ?c2 ?c3 ?c4 ?c5; (case kA => exact rfl); (case kF => exact rfl); (case kK => first | exact rfl | assumption); (case k1 => k_asm); (case k2 => k_asm); (case k3 => k_asm); (case k4 => k_asm); (case k5 => k_asm); (case k6 => k_is); (case k7 => k_is); (case k8 => ktr_room); (case k9 => first | exact BindsTo.of_eq rfl | exact binds_K (by k_in) rfl (by k_is) rfl rfl rfl | (refine' kp_binds ?kx ?ke; (case kx => k_in); (case ke => exact fun _ => rfl))); (case c5 => decide); (case kB => exact locs rfl); (case c2 => exact rfl); (case c3 => exact rfl); (case c4 => exact rfl); k_whole; intro g' L' h' FG' F' N' B' X' T'; (try dsimp only); (try k_lift B'); (try k_fold))
    k_steps
    unfold Stop
    k_dflt (refine' ke_eq_ints ?ha ?hb ?hi ?hj ?hu ?_; (case ha => (refine' News.isList ?xN ?xm; (case xN => k_asm); (case xm => k_mem))); (case hb => (refine' News.isList (items := (List.nil : List Value).toArray) ?xN ?xm; (case xN => k_asm); (case xm => exact List.Mem.head _))); (case hi => assumption); (case hj => exact IntsAre.nil); (case hu => ktr_units); k_whole)
    k_steps
    rename Fr h₀ L _ m => F8
    rename News h₀ L _ _ => N8
    rename (_ ∧ _ ∧ AllLt _ news) => l3
    rename (_ ∧ AllLt _ news) => l2
    refine hret _ _ _ _ ⟨[.ref _], 0, List.Mem.head _, .cons ⟨_, [], 0, rfl, List.Mem.tail _ (List.Mem.head _), IntsAre.nil⟩ .nil⟩ ?_ F8 (news_drop3 N8)
    intro q hq p hp
    rcases List.mem_cons.mp hq with rfl | hq
    · exact allLt_mem l3.2.2 p hp
    · rw [List.mem_singleton.mp hq]
      exact allLt_mem l2.2 p hp
  | succ k ih =>
    intro dp un gd cn cs a ccd cl outer A₀ base h₀ L m news s l vs ns nn Q E B F X N T hk hl hi hlen hk4 hd hu hret
    have hvl : vs.length = k + 1 := hi.length.trans hlen
    revert X
    k_fill
    intro X
    refine wpAny_call ?_
    k_dflt (refine' code_def ?k1 ?k2 ?k3 ?k4 ?k5 ?kA ?kF ?kK ?k6 ?k7 ?k8 ?k9 ?kB ?_ ?c2 ?c3 ?c4 ?c5; (case kA => exact rfl); (case kF => exact rfl); (case kK => first | exact rfl | assumption); (case k1 => k_asm); (case k2 => k_asm); (case k3 => k_asm); (case k4 => k_asm); (case k5 => k_asm); (case k6 => k_is); (case k7 => k_is); (case k8 => ktr_room); (case k9 => first | exact BindsTo.of_eq rfl | exact binds_K (by k_in) rfl (by k_is) rfl rfl rfl | (refine' kp_binds ?kx ?ke; (case kx => k_in); (case ke => exact fun _ => rfl))); (case c5 => decide); (case kB => exact locs rfl); (case c2 => exact rfl); (case c3 => exact rfl); (case c4 => exact rfl); k_whole; intro g' L' h' FG' F' N' B' X' T'; (try dsimp only); (try k_lift B'); (try k_fold))
    k_steps
    unfold Stop
    k_dflt (refine' ke_eq_ints ?ha ?hb ?hi ?hj ?hu ?_; (case ha => (refine' News.isList ?xN ?xm; (case xN => k_asm); (case xm => k_mem))); (case hb => (refine' News.isList (items := (List.nil : List Value).toArray) ?xN ?xm; (case xN => k_asm); (case xm => exact List.Mem.head _))); (case hi => assumption); (case hj => exact IntsAre.nil); (case hu => ktr_units); k_whole)
    k_steps
    · exfalso
      rename (decide (ns = []) = true) => hx
      have := of_decide_eq_true hx
      subst this
      simp at hlen
    · unfold Stop
      k_dflt (refine' my_len ?w1N ?w1q ?w1o ?w1e ?w1z ?_; (case w1N => k_asm); (case w1q => k_mem); (case w1o => exact SeqObj.list _); (case w1e => first | assumption | exact rfl); (case w1z => omega); k_whole)
      intro t9 tk9
      k_steps
      unfold Stop
      rename IsRange _ _ _ _ _ _ _ _ => R9
      rename Fr g' _ _ _ => F9
      rename News g' _ _ _ => N9
      rename (_ ∧ AllLt _ news) => l2
      have N8 := news_drop2 N9
      obtain ⟨O, hOe⟩ : ∃ O, O = adrOf l2.2 := ⟨_, rfl⟩
      dsimp only [adrOf] at hOe
      subst hOe
      with_unfolding_all refine' for_range (σ := List (Addr × Obj) × List Value × Nat) (n := k + 1) (fun c => (O, listOf c.2.1.toArray c.2.2) :: (c.1 ++ news)) (fun _ => []) [Str.ofString "rest"] (fun i c => All2 (LIn c.1) c.2.1 ((List.range i).flatMap (ordAt (ordF k) ns)) ∧ (∀ q ∈ c.1, ∀ p ∈ news, p.1 < q.1) ∧ (∀ q ∈ c.1 ++ news, q.1 ≠ O)) ([], [], 0) rfl R9 rfl (by omega) F9 N8 (fun p hp => nomatch hp) ?hp ?turn ?done
      case hp =>
        refine ⟨.nil, (fun q hq => nomatch hq), fun q hq => ?_⟩
        exact Nat.ne_of_lt (allLt_mem l2.2 q hq)
      case turn =>
        rintro ⟨own, rs, n9⟩ i t u h9 tk9 I oI hi9 ⟨P1, P2, P3⟩ hneI F1 N1
        clear F9 N9 N8 R9
        dsimp only at P1 P2 P3 hneI F1 N1
        have hl9 : (l, W.listOf vs.toArray nn) ∈ own ++ news := List.mem_append_right _ hl
        (show wpAny _ _ _ _ _ _)
        k_fold
        k_steps
        unfold Stop
        k_dflt (refine' kmk_slice_ints ?w2F ?w2N ?w2l ?w2p ?w2q ?w2i ?w2m ?w2c ?_ ?w2s ?w2t ?w2z; (case w2F => k_asm); (case w2N => k_asm); (case w2l => exact News.isList (by k_asm) (by k_mem)); (case w2p => kmk_part); (case w2q => kmk_part); (case w2i => assumption); (case w2m => first | exact kmk_upto (by assumption) (by omega) | exact kmk_from (by assumption) (by omega)); (case w2c => exact rfl); (case w2s => with_unfolding_all rfl); (case w2t => kmk_pure); (case w2z => exact kmk_sz (by assumption) (by rw [sizeLine_eq]; omega)))
        intro D' ws' h' F' N' l1 hI' hC' hL'
        clear hC' hL'
        (try k_lt l1)
        (try k_sweep)
        k_steps
        · unfold Stop
          rename Fr g' _ _ _ => F3
          rename News g' _ _ _ => N3
          rename ((List.any _ _) = true) => hx
          have e1 : (i : Int).toNat = i := Int.toNat_natCast i
          rw [e1] at hx
          refine FEnd.intro (own, rs, n9) F3 N3 (List.Mem.tail _ (List.Mem.head _)) (fun p hp => List.Mem.tail _ (List.Mem.tail _ hp)) (fun p hp => hneI p hp) (fun p hp => nomatch hp) ?_ ?_
          · intro z h1 h2 h3
            (simp only [List.contains_cons, List.contains_nil, Bool.or_false, beq_eq_false_iff_ne, ne_eq] at h3)
            simp [h1, h3, kstB]
          · refine ⟨?_, P2, P3⟩
            show All2 (LIn own) rs _
            rw [List.range_succ, List.flatMap_append, List.flatMap_cons, List.flatMap_nil, List.append_nil]
            have hin : ns.getD i 0 ∈ ns.take i := by
              obtain ⟨y, hy, he⟩ := List.any_eq_true.mp hx
              rw [← eq_of_beq he]
              exact hy
            have e : ordAt (ordF k) ns i = [] := by
              unfold ordAt
              rw [if_pos hin]
            rw [e, List.append_nil]
            exact P1
        · have P2' := P2
          unfold Stop
          k_dflt (refine' kmk_slice_ints ?w3F ?w3N ?w3l ?w3p ?w3q ?w3i ?w3m ?w3c ?_ ?w3s ?w3t ?w3z; (case w3F => k_asm); (case w3N => k_asm); (case w3l => exact News.isList (by k_asm) (by k_mem)); (case w3p => kmk_part); (case w3q => kmk_part); (case w3i => assumption); (case w3m => first | exact kmk_upto (by assumption) (by omega) | exact kmk_from (by assumption) (by omega)); (case w3c => exact rfl); (case w3s => with_unfolding_all rfl); (case w3t => kmk_pure); (case w3z => exact kmk_sz (by assumption) (by rw [sizeLine_eq]; omega)))
          intro D' ws' h' F' N' l1 hI' hC' hL'
          clear hC' hL'
          (try k_lt l1)
          (try k_sweep)
          k_steps
          unfold Stop
          k_dflt (refine' kmk_slice_ints ?w4F ?w4N ?w4l ?w4p ?w4q ?w4i ?w4m ?w4c ?_ ?w4s ?w4t ?w4z; (case w4F => k_asm); (case w4N => k_asm); (case w4l => exact News.isList (by k_asm) (by k_mem)); (case w4p => kmk_part); (case w4q => kmk_part); (case w4i => assumption); (case w4m => first | exact kmk_upto (by assumption) (by omega) | exact kmk_from (by assumption) (by omega)); (case w4c => exact rfl); (case w4s => with_unfolding_all rfl); (case w4t => kmk_pure); (case w4z => exact kmk_sz (by assumption) (by rw [sizeLine_eq]; omega)))
          intro D' ws' h' F' N' l1 hI' hC' hL'
          clear hC' hL'
          (try k_lt l1)
          (try k_sweep)
          k_steps
          unfold Stop
          k_dflt (refine' kmk_add_ints ?w5F ?w5N ?w5a ?w5b ?w5i ?w5j ?_ ?w5z; (case w5F => k_asm); (case w5N => k_asm); (case w5a => exact News.isList (by k_asm) (by k_mem)); (case w5b => exact News.isList (by k_asm) (by k_mem)); (case w5i => first | assumption | exact IntsAre.cons _ _ IntsAre.nil); (case w5j => assumption); (case w5z => (simp only [sizeLine_eq, List.length_take, List.length_drop, List.length_cons, List.length_nil]; omega)))
          intro D' ws' h' F' N' l1 hI'
          (try k_lt l1)
          (try k_sweep)
          k_steps
          unfold Stop
          k_dflt (refine' ih ?k1 ?k2 ?k3 ?k4 ?k5 ?k6 ?q ?i ?n ?b ?kd ?ku ?_; (case k1 => k_asm); (case k2 => k_asm); (case k3 => k_asm); (case k4 => k_asm); (case k5 => k_asm); (case k6 => exact rfl); (case q => exact List.Mem.head _); (case i => assumption); (case n => exact cut_len (by omega) hlen); (case b => omega); (case kd => ktr_room); (case ku => ktr_units))
          intro r9 own9 h9 tk9 hL9 hA9 F9 N9
          k_steps
          unfold Stop
          rename Fr g' _ _ _ => F9
          rename News g' _ _ _ => N9
          have e1 : (i : Int).toNat = i := Int.toNat_natCast i
          have e2 : ((i : Int) + 1).toNat = i + 1 := by omega
          rw [e1, e2] at hL9
          obtain ⟨rs9, m9, hr9, hA2⟩ := hL9
          have N10 := news_regroup N9
          have hnot : ¬ ns.getD i 0 ∈ ns.take i := by
            rename ((List.any _ _) = false) => hx
            rw [e1] at hx
            intro hm
            have := List.any_eq_false.mp hx _ hm
            simp at this
          have hOI : O ≠ I := hneI _ (List.Mem.head _)
          have hk64 : 4 ^ k ≤ 64 := Nat.pow_le_pow_right (by omega) (show k ≤ 3 by omega)
          have hlenA : ((List.range i).flatMap (ordAt (ordF k) ns)).length ≤ i * 4 ^ k := part_len i fun p hp => ordF_len k _ (cut_len (by omega) hlen) (by omega)
          have hlenA2 : i * 4 ^ k ≤ 4 * 64 := Nat.mul_le_mul (by omega) hk64
          have hlenB : (ordF k (ns.take i ++ ns.drop (i + 1))).length ≤ 4 ^ k := ordF_len k _ (cut_len (by omega) hlen) (by omega)
          have hO9 : ∀ q ∈ own9, q.1 ≠ O := fun q hq => Nat.ne_of_gt (hA9 q hq (O, listOf rs.toArray n9) (by simp))
          with_unfolding_all refine' for_list (σ := List (Addr × Obj) × List Value × Nat) (l := r9) (fun c => (O, listOf c.2.1.toArray c.2.2) :: (I, oI) :: (c.1 ++ (own9 ++ news))) (fun _ => []) [] (fun j c => All2 (LIn c.1) c.2.1 ((List.range i).flatMap (ordAt (ordF k) ns) ++ ((ordF k (ns.take i ++ ns.drop (i + 1))).take j).map (ns.getD i 0 :: ·)) ∧ (∀ q ∈ c.1, ∀ p ∈ news, p.1 < q.1) ∧ (∀ q ∈ c.1 ++ (own9 ++ news), q.1 ≠ O) ∧ (∀ q ∈ c.1 ++ news, q.1 ≠ I)) (own, rs, n9) rfl ?hm F9 N10 (fun p hp => nomatch hp) ?hp2 ?turn2 ?done2
          case hm => exact fun c => List.Mem.tail _ (List.Mem.tail _ (List.mem_append_right _ (List.mem_append_left _ hr9)))
          case hp2 =>
            refine ⟨by simpa using P1, P2, fun q hq => ?_, fun q hq => hneI q (List.Mem.tail _ hq)⟩
            rcases List.mem_append.mp hq with h | h
            · exact P3 q (List.mem_append_left _ h)
            · rcases List.mem_append.mp h with h | h
              · exact hO9 q h
              · exact P3 q (List.mem_append_right _ h)
          case turn2 =>
            clear P1 P2 P2' P3 hneI N9 N10 F9
            rintro ⟨own8, rs8, n8⟩ j v u8 h8 tk8 I2 oI2 hvj ⟨P1, P2, P3, P4⟩ hneI2 F1 N1
            dsimp only at P1 P2 P3 P4 hneI2 F1 N1
            obtain ⟨xs, hxs, a8, ws8, na8, rfl, ha8, hws8⟩ := hA2.at' j v hvj
            have hxl : xs.length = k := ordF_mem_len k _ (cut_len (by omega) hlen) xs (List.mem_of_getElem? hxs)
            have hl8 : (l, W.listOf vs.toArray nn) ∈ own8 ++ (own9 ++ news) := List.mem_append_right _ (List.mem_append_right _ hl)
            have ha8' : (a8, W.listOf ws8.toArray na8) ∈ own8 ++ (own9 ++ news) := List.mem_append_right _ (List.mem_append_left _ ha8)
            (show wpAny _ _ _ _ _ _)
            k_fold
            k_steps
            unfold Stop
            k_dflt (refine' kmk_add_ints ?w6F ?w6N ?w6a ?w6b ?w6i ?w6j ?_ ?w6z; (case w6F => k_asm); (case w6N => k_asm); (case w6a => exact News.isList (by k_asm) (by k_mem)); (case w6b => exact News.isList (by k_asm) (by k_mem)); (case w6i => first | assumption | exact IntsAre.cons _ _ IntsAre.nil); (case w6j => assumption); (case w6z => (simp only [sizeLine_eq, List.length_take, List.length_drop, List.length_cons, List.length_nil]; omega)))
            intro D' ws' h' F' N' l1 hI'
            (try k_lt l1)
            (try k_sweep)
            k_steps
            unfold Stop
            rename Fr g' _ _ _ => F3
            rename News g' _ _ _ => N3
            rename (IntsAre _ ([ns.getD _ 0] ++ xs)) => hW
            rename (_ ∧ _ ∧ _ ∧ _ ∧ AllLt _ (own8 ++ (own9 ++ news))) => lW
            rw [e1] at hW
            have hlen8 := P1.length
            rw [List.length_append, List.length_map, List.length_take] at hlen8
            have hlen7 : rs8.length ≤ 4 * 64 + 64 := by
              rw [hlen8]
              exact Nat.add_le_add (Nat.le_trans hlenA hlenA2) (Nat.le_trans (Nat.min_le_right _ _) (Nat.le_trans hlenB hk64))
            have hI2O := hneI2 _ (List.Mem.head _)
            refine app_step F3 N3 (Nat.ne_of_gt lW.2.2.1) (Ne.symm hI2O) (Ne.symm hOI) P3 (Nat.lt_of_le_of_lt hlen7 (by decide)) ?_
            intro h3 F3 N3
            k_steps
            unfold Stop
            refine FEnd.intro (_, _, _) F3 N3 (List.Mem.head _) (fun p hp => List.Mem.tail _ hp) ?_ (fun p hp => nomatch hp) ?_ ?_
            · intro p hp
              rcases List.mem_cons.mp hp with rfl | hp
              · exact hI2O
              · rcases List.mem_cons.mp hp with rfl | hp
                · exact hneI2 _ (List.Mem.tail _ (List.Mem.head _))
                · rcases List.mem_cons.mp hp with rfl | hp
                  · exact Nat.ne_of_gt lW.2.1
                  · exact hneI2 _ (List.Mem.tail _ (List.Mem.tail _ hp))
            · intro z h1 h2 h3
              show (if z = _ then _ else _) = _
              rw [if_neg h1]
              rfl
            · refine ⟨?_, ?_, ?_, ?_⟩
              · show All2 (LIn ((_, _) :: own8)) (rs8 ++ [_]) _
                rw [List.take_succ, hxs, List.map_append, ← List.append_assoc]
                exact (P1.mono fun a b h => h.mono fun p hp => List.Mem.tail _ hp).append (.cons ⟨_, _, _, rfl, List.Mem.head _, hW⟩ .nil)
              · intro q hq p hp
                rcases List.mem_cons.mp hq with rfl | hq
                · exact allLt_mem lW.2.2.2.2 p (List.mem_append_right _ (List.mem_append_right _ hp))
                · exact P2 q hq p hp
              · intro q hq
                rcases List.mem_cons.mp hq with rfl | hq
                · exact Nat.ne_of_gt lW.2.2.1
                · exact P3 q hq
              · intro q hq
                rcases List.mem_cons.mp hq with rfl | hq
                · exact Nat.ne_of_gt lW.2.2.2.1
                · exact P4 q hq
          case done2 =>
            clear P1 P2 P2' P3 hneI N9 N10 F9
            rintro ⟨own8, rs8, n8⟩ u8 h8 tk8 ⟨P1, P2, P3, P4⟩ F1 N1
            dsimp only at P1 P2 P3 P4 F1 N1
            rw [hA2.length, List.take_length] at P1
            k_steps
            unfold Stop
            refine FEnd.intro (own8, rs8, n8) F1 N1 (List.Mem.tail _ (List.Mem.head _)) ?_ ?_ (fun p hp => nomatch hp) ?_ ?_
            · intro p hp
              rcases List.mem_cons.mp hp with rfl | hp
              · exact List.Mem.head _
              · refine List.Mem.tail _ (List.Mem.tail _ ?_)
                rcases List.mem_append.mp hp with h | h
                · exact List.mem_append_left _ h
                · exact List.mem_append_right _ (List.mem_append_right _ h)
            · intro p hp
              rcases List.mem_cons.mp hp with rfl | hp
              · exact hOI
              · exact P4 p hp
            · intro z h1 h2 h3
              (simp only [List.contains_cons, List.contains_nil, Bool.or_false, beq_eq_false_iff_ne, ne_eq] at h3)
              simp [h1, h3, kstB]
            · refine ⟨?_, P2, ?_⟩
              · show All2 (LIn own8) rs8 _
                rw [List.range_succ, List.flatMap_append, List.flatMap_cons, List.flatMap_nil, List.append_nil]
                have e : ordAt (ordF k) ns i = (ordF k (ns.take i ++ ns.drop (i + 1))).map (ns.getD i 0 :: ·) := by
                  unfold ordAt
                  rw [if_neg hnot]
                rw [e]
                exact P1
              · intro q hq
                rcases List.mem_append.mp hq with h | h
                · exact P3 q (List.mem_append_left _ h)
                · exact P3 q (List.mem_append_right _ (List.mem_append_right _ h))
      case done =>
        rintro ⟨own, rs, n9⟩ u h9 tk9 ⟨P1, P2, P3⟩ F1 N1
        clear F9 N9 N8 R9
        dsimp only at P1 P2 P3 F1 N1
        k_steps
        refine hret O ((O, _) :: own) _ _ ⟨rs, n9, List.Mem.head _, ?_⟩ ?_ (by assumption) (by assumption)
        · unfold ordF
          rw [hlen]
          exact P1.mono fun a b h => h.mono fun p hp => List.Mem.tail _ hp
        · intro q hq p hp
          rcases List.mem_cons.mp hq with rfl | hq
          · exact allLt_mem l2.2 p hp
          · exact P2 q hq p hp
end
end Mine
end
section
open PySem PySem.W PyProof.Rows
namespace Mine
section
variable {prog : Program} {w : World} {A : Around} {E : Value → Shared → Prop} {s : Shared} {env : Env} {h₀ : Heap} {x : Str} {px : Pos} {body : List Stmt} {Q : Flow → Shared → Prop}
/-- a loop over a list of the ledger; T bounds the tokens from below -/
theorem for_listT {σ : Type} {l : Addr} {vs : List Value} {nn : Nat} {m₀ : Str → Option Value} (T : Nat) (Led : σ → List (Addr × Obj)) (ps : σ → List (Str × Value)) (stored : List Str) (P : Nat → σ → Prop) (c₀ : σ)
    (hh : A.handled = none) (hx : env.kindOf x = some .local)
    (hpl : (env.scope.kind == .class || (env.scope.kind == .module && env.locals != env.globals)) = false) (hT : T ≤ s.toks)
    (hl : ∀ c : σ, (l, listOf vs.toArray nn) ∈ Led c) (F : Fr h₀ env.locals s.heap m₀) (N : News h₀ env.locals s.heap (Led c₀)) (hk : ∀ p ∈ ps c₀, m₀ p.1 = some p.2) (hp : P 0 c₀)
    (turn : ∀ (c : σ) (i : Nat) (v : Value) (u : Str → Option Value) (h : Heap) (tk : Nat) (I : Addr) (oI : Obj), T ≤ tk → vs[i]? = some v → P i c → (∀ p ∈ Led c, p.1 ≠ I) →
      Fr h₀ env.locals h (fun y => if y = x then some v else kstB (fun z => if stored.contains z then u z else m₀ z) (ps c) y) → News h₀ env.locals h ((I, oI) :: Led c) →
      wpAny (model prog w) A (execs body env) (FPost h₀ env.locals Led ps x stored m₀ (P (i + 1)) I oI { s with heap := h, toks := tk } Q) E { s with heap := h, toks := tk })
    (done : ∀ (c : σ) (u : Str → Option Value) h tk, T ≤ tk → P vs.length c → Fr h₀ env.locals h (fun y => if y = x then u y else kstB (fun z => if stored.contains z then u z else m₀ z) (ps c) y) → News h₀ env.locals h (Led c) → Q .next { s with heap := h, toks := tk })
    (hE : PassesOwn (model prog w) A env E) :
    wpAny (model prog w) A (pyIter (.ref l)) (fun it s₂ => codeAny (model prog w) A (.forLoop (.Name x px) it body [] env) (fun r s' => match r with | .ok f => Q f s' | .error e => cameBackBy (model prog w) A env E e s') s₂) E s := by
  have hol : s.heap.get? l = some (listOf vs.toArray nn) := (N _ (hl c₀)).1
  have hls : s.heap.IsList l vs.toArray := ⟨_, hol, rfl, nn, rfl⟩
  have hne : l ≠ s.heap.objs.size := Nat.ne_of_lt (Heap.lt_size hol)
  have hlL : l ≠ env.locals := (N _ (hl c₀)).2.1
  have hLs : env.locals < s.heap.objs.size := F.ns.lt
  refine wpAny_pyIter_list hls ?_
  have W := Walks.list (prog := prog) (w := w) hh s.heap.objs.size l hne vs.toArray
  have hlen : vs.toArray.size = vs.length := by simp
  rw [hlen] at W
  generalize hIe : s.heap.objs.size = I at W
  have hI0 : h₀.get? I = none := hIe ▸ next_is_new F
  have hLI : env.locals ≠ I := by rw [← hIe]; exact Nat.ne_of_lt hLs
  have hfpn : env.locals ∉ [I, l] := by
    intro hm
    rcases List.mem_cons.mp hm with e | hm
    · exact hLI e
    · exact hlL (List.mem_singleton.mp hm).symm
  have h0 : (s.heap.push { cls := Value.type "list_iterator", data := Data.fields #[Value.ref l, Value.int 0 0] }).IsListIter I l 0 := by
    rw [← hIe]
    exact ⟨_, Heap.get?_push_size _ rfl, rfl, rfl⟩
  refine codeAny_forLoop
    (fun j s' => ∃ (h' : Heap) (tk i : Nat) (c : σ) (m' : Str → Option Value), s' = { s with heap := h', toks := tk } ∧ T ≤ tk ∧ (h'.IsListIter I l i ∧ h'.IsList l vs.toArray) ∧ Fr h₀ env.locals h' m' ∧ News h₀ env.locals h' (Led c) ∧ (∀ p ∈ Led c, p.1 ≠ I) ∧
      (∀ p ∈ ps c, m' p.1 = some p.2) ∧ (∀ z, z ≠ x → (∀ p ∈ ps c, z ≠ p.1) → stored.contains z = false → m' z = m₀ z) ∧ P i c ∧ i ≤ vs.length ∧ j = vs.length + 1 - i) ?_ (vs.length + 1) ?_
  · rintro j s' ⟨h', tk, i, c, m', rfl, hTk, hst, F', N', hnI, h1, h2, hP, hi, rfl⟩
    refine toks_up T hTk ?_
    have next : ∀ h₁ : Heap, (∀ b o, b ∉ [I] → h'.get? b = some o → h₁.get? b = some o) → Fr h₀ env.locals h₁ m' ∧ News h₀ env.locals h₁ (Led c) := fun h₁ hk₁ =>
      ⟨⟨F'.ns.at' fun o e => hk₁ _ o (by simpa using hLI) e, fun b o e => hk₁ b o (fun hb => by rw [List.mem_singleton.mp hb, hI0] at e; cases e) (F'.keep b o e), F'.above⟩,
        fun p hp => ⟨hk₁ _ _ (by simpa using hnI p hp) (N' p hp).1, (N' p hp).2⟩⟩
    by_cases hlt : i < vs.length
    · refine W.item i _ _ _ hlt hst fun v h₁ tk₁ hv hst₁ hk₁ hT₁ => ?_
      obtain ⟨F₁, N₁⟩ := next h₁ hk₁
      refine wpAny_assign_Name (wpAny_storeName_local hx F₁.ns (fun h₂ hn₂ hs₂ => ?_) hpl)
      have F₂ := F₁.set hn₂ hs₂
      have N₂ := N₁.set hs₂
      obtain ⟨⟨oI, hoI, hoIr⟩, hls₁⟩ := hst₁
      have hoI₂ : h₂.get? I = some oI := (hs₂.2 I (Ne.symm hLI)).trans hoI
      have N₃ : News h₀ env.locals h₂ ((I, oI) :: Led c) := fun p hp => by
        rcases List.mem_cons.mp hp with rfl | hp
        · exact ⟨hoI₂, Ne.symm hLI, hI0⟩
        · exact N₂ p hp
      refine toks_up T (Nat.le_succ_of_le hT₁) ?_
      have ht := turn c i v m' h₂ (tk₁ + 1) I oI (Nat.le_succ_of_le hT₁) (by simpa using hv) hP hnI (kst_fr h1 h2 F₂) N₃
      have fin : ∀ s₂, T ≤ s₂.toks → FEnd h₀ env.locals Led ps x stored m₀ (P (i + 1)) I oI { s with heap := h₂, toks := tk₁ + 1 } s₂ →
          ∃ m, m < vs.length + 1 - i ∧ ∃ (h' : Heap) (tk i : Nat) (c : σ) (m' : Str → Option Value), s₂ = { s with heap := h', toks := tk } ∧ T ≤ tk ∧ (h'.IsListIter I l i ∧ h'.IsList l vs.toArray) ∧ Fr h₀ env.locals h' m' ∧ News h₀ env.locals h' (Led c) ∧ (∀ p ∈ Led c, p.1 ≠ I) ∧
            (∀ p ∈ ps c, m' p.1 = some p.2) ∧ (∀ z, z ≠ x → (∀ p ∈ ps c, z ≠ p.1) → stored.contains z = false → m' z = m₀ z) ∧ P i c ∧ i ≤ vs.length ∧ m = vs.length + 1 - i := by
        rintro s₂ hT₂ ⟨c', h₃, tk₃, m₃, news₃, rfl, F₄, N₄, hI₄, hL₄, hn₄, hk₄, hr₄, hp₄⟩
        have g := (N₄ _ hI₄).1
        have gl := (N₄ _ (hL₄ _ (hl c'))).1
        exact ⟨vs.length + 1 - (i + 1), by omega, h₃, tk₃, i + 1, c', m₃, rfl, hT₂, ⟨⟨oI, g, hoIr⟩, ⟨_, gl, rfl, nn, rfl⟩⟩, F₄, fun p hp => N₄ p (hL₄ p hp), hn₄, hk₄, hr₄, hp₄, hlt, rfl⟩
      refine wpAny_mono (wpAny_passesOwn hE ht) (fun f s₃ q hT₃ => ?_) fun _ _ e => e
      cases f with
      | ret v => exact q
      | brk => exact q
      | next => exact fin _ hT₃ q
      | cont => exact fin _ hT₃ q
    · have hin : i = vs.length := by omega
      subst hin
      refine W.done _ _ _ hst fun h₁ tk₁ hk₁ hT₁ => wpAny_execs_nil ?_
      obtain ⟨F₁, N₁⟩ := next h₁ hk₁
      exact done c m' h₁ tk₁ hT₁ hP (kst_frOut h1 h2 F₁) N₁
  · refine ⟨_, s.toks, 0, c₀, m₀, rfl, hT, ⟨h0, hls.at fun o e => Heap.get?_push_of_some _ e⟩, F.push _, fun p hp => ⟨Heap.get?_push_of_some _ (N p hp).1, (N p hp).2⟩, fun p hp e => ?_, hk, fun _ _ _ _ => rfl, hp, Nat.zero_le _, rfl⟩
    have := Heap.lt_size (N p hp).1
    rw [e, ← hIe] at this
    exact absurd this (Nat.lt_irrefl _)
end
end Mine
end
section
open PySem PySem.W PyProof.Rows
namespace Mine
def stepS (c : Int × List Int × List Int) (g : Int) : Int × List Int × List Int :=
  (c.1 + g, insAt c.2.1 (rk c.2.1 ((c.1 + g) % 7)) ((c.1 + g) % 7), insAt c.2.2 (rk c.2.1 ((c.1 + g) % 7)) g)
def swSt (xs : List Int) : Int × List Int × List Int := xs.foldl stepS (0, [], [])
def sweep (xs : List Int) : List Int := (swSt xs).2.2.reverse
theorem swSt_snoc (xs : List Int) (g : Int) : swSt (xs ++ [g]) = stepS (swSt xs) g := by
  unfold swSt
  rw [List.foldl_append]
  rfl
theorem swSt_next {xs : List Int} {j : Nat} {g : Int} (h : xs[j]? = some g) : swSt (xs.take (j + 1)) = stepS (swSt (xs.take j)) g := by
  rw [List.take_succ, h]
  exact swSt_snoc _ _
theorem swSt_len (xs : List Int) : (swSt xs).2.1.length = xs.length ∧ (swSt xs).2.2.length = xs.length := by
  have : ∀ (ys : List Int) (c : Int × List Int × List Int), (ys.foldl stepS c).2.1.length = c.2.1.length + ys.length ∧ (ys.foldl stepS c).2.2.length = c.2.2.length + ys.length := by
    intro ys
    induction ys with
    | nil => intro c; exact ⟨rfl, rfl⟩
    | cons y ys ih =>
      intro c
      have := ih (stepS c y)
      rw [List.foldl_cons, List.length_cons, this.1, this.2]
      unfold stepS
      dsimp only
      rw [insAt_length, insAt_length]
      omega
  have h := this xs (0, [], [])
  exact ⟨by unfold swSt; rw [h.1]; simp, by unfold swSt; rw [h.2]; simp⟩
theorem swSt_day (xs : List Int) : (swSt xs).1 = xs.sum := by
  have : ∀ (ys : List Int) (c : Int × List Int × List Int), (ys.foldl stepS c).1 = c.1 + ys.sum := by
    intro ys
    induction ys with
    | nil => intro c; simp
    | cons y ys ih =>
      intro c
      rw [List.foldl_cons, ih, List.sum_cons]
      unfold stepS
      dsimp only
      omega
  have h := this xs (0, [], [])
  unfold swSt
  rw [h]
  simp
theorem insAt_getD (l : List Int) (r : Nat) (x : Int) (hr : r ≤ l.length) (i : Nat) : (insAt l r x).getD i 0 = if i < r then l.getD i 0 else if i = r then x else l.getD (i - 1) 0 := by
  unfold insAt
  rw [List.getD_eq_getElem?_getD, List.getElem?_append]
  have ht : (l.take r).length = r := by rw [List.length_take]; omega
  rw [ht]
  by_cases h1 : i < r
  · rw [if_pos h1, if_pos h1, List.getElem?_take_of_lt h1, List.getD_eq_getElem?_getD]
  · rw [if_neg h1, if_neg h1]
    by_cases h2 : i = r
    · rw [if_pos h2, h2, Nat.sub_self]
      rfl
    · rw [if_neg h2]
      have e : i - r = (i - r - 1) + 1 := by omega
      rw [e, List.getElem?_cons_succ, List.getElem?_drop, List.getD_eq_getElem?_getD]
      have e2 : r + (i - r - 1) = i - 1 := by omega
      rw [e2]
theorem up_ins {l : List Int} {x : Int} {r : Nat} (hu : Up l) (hB : BisR l x r) : Up (insAt l r x) := by
  obtain ⟨h1, h2, h3⟩ := hB
  intro i j hij hj
  rw [insAt_length] at hj
  rw [insAt_getD l r x h1, insAt_getD l r x h1]
  by_cases a1 : i < r
  · rw [if_pos a1]
    by_cases b1 : j < r
    · rw [if_pos b1]; exact hu i j hij (by omega)
    · rw [if_neg b1]
      by_cases b2 : j = r
      · rw [if_pos b2]; exact h2 i a1
      · rw [if_neg b2]; exact hu i (j - 1) (by omega) (by omega)
  · rw [if_neg a1, if_neg (show ¬ j < r by omega)]
    by_cases a2 : i = r
    · rw [if_pos a2]
      by_cases b2 : j = r
      · rw [if_pos b2]; exact Int.le_refl _
      · rw [if_neg b2]
        have := h3 (j - 1) (by omega) (by omega)
        omega
    · rw [if_neg a2, if_neg (show ¬ j = r by omega)]
      exact hu (i - 1) (j - 1) (by omega) (by omega)
end Mine
end
section
open PySem PySem.W PyProof.Rows
namespace Mine
def Vw (xs : List Int) : Int := xs.foldl (fun v g => v * 100 + g) 0
theorem gt_cps (a b c d : Int) : (gtext [a, b, c, d]).cps.toList = [48 + a.toNat / 10, 48 + a.toNat % 10, 32, 48 + b.toNat / 10, 48 + b.toNat % 10, 32, 48 + c.toNat / 10, 48 + c.toNat % 10, 32, 48 + d.toNat / 10, 48 + d.toNat % 10] := by rfl
theorem two (a b : Nat) (P : Prop) : (48 + a / 10 < 48 + b / 10 ∨ 48 + a / 10 = 48 + b / 10 ∧ (48 + a % 10 < 48 + b % 10 ∨ 48 + a % 10 = 48 + b % 10 ∧ P)) ↔ (a < b ∨ a = b ∧ P) := by
  by_cases hP : P <;> simp only [hP, and_true, and_false, or_false] <;> omega
theorem sp (P : Prop) : ((32 : Nat) < 32 ∨ 32 = 32 ∧ P) ↔ P := by simp
def Bnd (x : Int) : Prop := 0 ≤ x ∧ x < 91
theorem gt_lt4 {a b c d a' b' c' d' : Int} (h : Bnd a ∧ Bnd b ∧ Bnd c ∧ Bnd d) (h' : Bnd a' ∧ Bnd b' ∧ Bnd c' ∧ Bnd d') :
    (gtext [a, b, c, d]).cps.toList < (gtext [a', b', c', d']).cps.toList ↔ Vw [a, b, c, d] < Vw [a', b', c', d'] := by
  rw [gt_cps, gt_cps]
  simp only [List.cons_lt_cons_iff, two, Nat.lt_irrefl, false_or, true_and]
  have e : ¬ (([] : List Nat) < []) := by simp
  simp only [e, and_false, or_false]
  unfold Bnd at h h'
  have v : ∀ p q r s : Int, Vw [p, q, r, s] = p * 1000000 + q * 10000 + r * 100 + s := by
    intro p q r s
    show (((0 * 100 + p) * 100 + q) * 100 + r) * 100 + s = _
    omega
  rw [v, v]
  have l1 : ∀ {p q : Int}, 0 ≤ p → 0 ≤ q → (p.toNat < q.toNat ↔ p < q) := by intro p q _ _; omega
  have l2 : ∀ {p q : Int}, 0 ≤ p → 0 ≤ q → (p.toNat = q.toNat ↔ p = q) := by intro p q _ _; omega
  obtain ⟨⟨a0, a1⟩, ⟨b0, b1⟩, ⟨c0, c1⟩, d0, d1⟩ := h
  obtain ⟨⟨a0', a1'⟩, ⟨b0', b1'⟩, ⟨c0', c1'⟩, d0', d1'⟩ := h'
  rw [l1 a0 a0', l2 a0 a0', l1 b0 b0', l2 b0 b0', l1 c0 c0', l2 c0 c0', l1 d0 d0']
  constructor
  · rintro (h | ⟨rfl, h | ⟨rfl, h | ⟨rfl, h⟩⟩⟩) <;> omega
  · intro h
    by_cases x1 : a < a'
    · exact .inl x1
    · have e1 : a = a' := by omega
      refine .inr ⟨e1, ?_⟩
      by_cases x2 : b < b'
      · exact .inl x2
      · have e2 : b = b' := by omega
        refine .inr ⟨e2, ?_⟩
        by_cases x3 : c < c'
        · exact .inl x3
        · exact .inr ⟨by omega, by omega⟩
def Wd (w : List Int) : Prop := w.length = 4 ∧ ∀ x ∈ w, Bnd x
theorem wd4 {w : List Int} (h : Wd w) : ∃ a b c d, w = [a, b, c, d] ∧ Bnd a ∧ Bnd b ∧ Bnd c ∧ Bnd d := by
  obtain ⟨hl, hb⟩ := h
  match w, hl, hb with
  | [a, b, c, d], _, hb => exact ⟨a, b, c, d, rfl, hb a (by simp), hb b (by simp), hb c (by simp), hb d (by simp)⟩
theorem gt_lt {w w' : List Int} (h : Wd w) (h' : Wd w') : (gtext w).cps.toList < (gtext w').cps.toList ↔ Vw w < Vw w' := by
  obtain ⟨a, b, c, d, rfl, h1⟩ := wd4 h
  obtain ⟨a', b', c', d', rfl, h2⟩ := wd4 h'
  exact gt_lt4 h1 h2
theorem gt_ok {w : List Int} (h : Wd w) : PyData.strOk (gtext w) = true := by
  obtain ⟨a, b, c, d, rfl, h1⟩ := wd4 h
  have e : (gtext [a, b, c, d]).cps = (gtext [a, b, c, d]).cps.toList.toArray := by rw [Array.toArray_toList]
  unfold PyData.strOk
  rw [e, gt_cps]
  unfold Bnd at h1
  simp
  omega
theorem vw_inj {w w' : List Int} (h : Wd w) (h' : Wd w') (e : Vw w = Vw w') : w = w' := by
  obtain ⟨a, b, c, d, rfl, h1⟩ := wd4 h
  obtain ⟨a', b', c', d', rfl, h2⟩ := wd4 h'
  have v : ∀ p q r s : Int, Vw [p, q, r, s] = p * 1000000 + q * 10000 + r * 100 + s := by
    intro p q r s
    show (((0 * 100 + p) * 100 + q) * 100 + r) * 100 + s = _
    omega
  rw [v, v] at e
  unfold Bnd at h1 h2
  have : a = a' ∧ b = b' ∧ c = c' ∧ d = d' := by omega
  obtain ⟨rfl, rfl, rfl, rfl⟩ := this
  rfl
theorem Wd.perm {w w' : List Int} (h : Wd w) (p : w'.Perm w) : Wd w' := ⟨p.length_eq.trans h.1, fun x hx => h.2 x (p.mem_iff.mp hx)⟩
theorem insAt_perm {α : Type} (l : List α) (r : Nat) (x : α) : (insAt l r x).Perm (x :: l) := by
  unfold insAt
  refine List.perm_middle.trans ?_
  rw [List.take_append_drop]
theorem swSt_perm (xs : List Int) : (swSt xs).2.2.Perm xs := by
  have : ∀ (ys : List Int) (c : Int × List Int × List Int), (ys.foldl stepS c).2.2.Perm (c.2.2 ++ ys) := by
    intro ys
    induction ys with
    | nil => intro c; simp
    | cons y ys ih =>
      intro c
      rw [List.foldl_cons]
      refine (ih _).trans ?_
      unfold stepS
      dsimp only
      refine ((insAt_perm _ _ _).append_right ys).trans ?_
      exact (List.perm_middle (l₁ := c.2.2) (l₂ := ys) (a := y)).symm
  have h := this xs (0, [], [])
  simpa [swSt] using h
theorem sweep_perm (xs : List Int) : (sweep xs).Perm xs := (List.reverse_perm _).trans (swSt_perm xs)
theorem cut_perm {l : List Int} {p : Nat} (hp : p < l.length) : (l.getD p 0 :: (l.take p ++ l.drop (p + 1))).Perm l := by
  have e : l.getD p 0 = l[p] := by rw [List.getD_eq_getElem?_getD, List.getElem?_eq_getElem hp]; rfl
  rw [e]
  refine (List.perm_middle (l₁ := l.take p) (l₂ := l.drop (p + 1)) (a := l[p])).symm.trans ?_
  rw [List.getElem_cons_drop, List.take_append_drop]
theorem ordF_perm : ∀ k l, l.length = k → ∀ w ∈ ordF k l, w.Perm l := by
  intro k
  induction k with
  | zero => intro l hl w hw; simp [ordF] at hw; rw [hw, List.eq_nil_of_length_eq_zero hl]
  | succ k ih =>
    intro l hl w hw
    unfold ordF at hw
    obtain ⟨p, hp, hw⟩ := List.mem_flatMap.mp hw
    have hp := List.mem_range.mp hp
    unfold ordAt at hw
    split at hw
    · simp at hw
    · obtain ⟨w', hw', rfl⟩ := List.mem_map.mp hw
      exact ((ih _ (cut_len hp hl) w' hw').cons _).trans (cut_perm hp)
end Mine
end
section
open PySem PySem.W PyProof.Rows
namespace Mine
abbrev adrOfB {d : Addr} (_ : (d == sysModules) = false) : Addr := d
abbrev intsOf {vs : List Value} {ns : List Int} (_ : IntsAre vs ns) : List Int := ns
abbrev valsOf {vs : List Value} {ns : List Int} (_ : IntsAre vs ns) : List Value := vs
abbrev dObjOf {prog : Program} {w : World} {o : Obj} {kvs : List (Int × Value)} (_ : o.IsDictOf (intKind prog w) kvs) : Obj := o
abbrev ledOf {h₀ h : Heap} {L : Addr} {l : List (Addr × Obj)} (_ : News h₀ L h l) : List (Addr × Obj) := l
theorem mem_base0 {base o r : List (Addr × Obj)} {a : Addr × Obj} (h : base = o ++ a :: r) : a ∈ base := by rw [h]; simp
theorem mem_base1 {base o r : List (Addr × Obj)} {a b : Addr × Obj} (h : base = o ++ a :: b :: r) : b ∈ base := by rw [h]; simp
theorem sub_base {base o r : List (Addr × Obj)} (h : base = o ++ r) : ∀ p ∈ o, p ∈ base := by intro p hp; rw [h]; exact List.mem_append_left _ hp
def WeekOk (T : Nat) (vs : List Value) : Prop := PyProof.Rows.StrsAre vs wdays ∧ ∀ (i : Nat) (y : PySem.Str) (t : Nat), vs[i]? = some (.str y t) → 0 < t ∧ t < T
theorem weekOk {k T : Nat} (h1 : 0 < k) (h2 : k + 7 ≤ T) : WeekOk T [.str (Str.ofString "Mon") k, .str (Str.ofString "Tue") (k + 1), .str (Str.ofString "Wed") (k + 1 + 1), .str (Str.ofString "Thu") (k + 1 + 1 + 1), .str (Str.ofString "Fri") (k + 1 + 1 + 1 + 1), .str (Str.ofString "Sat") (k + 1 + 1 + 1 + 1 + 1), .str (Str.ofString "Sun") (k + 1 + 1 + 1 + 1 + 1 + 1)] := by
  refine ⟨.cons _ _ (.cons _ _ (.cons _ _ (.cons _ _ (.cons _ _ (.cons _ _ (.cons _ _ .nil)))))), fun i y t h => ?_⟩
  rcases Nat.lt_or_ge i 7 with h7 | h7
  · have : i = 0 ∨ i = 1 ∨ i = 2 ∨ i = 3 ∨ i = 4 ∨ i = 5 ∨ i = 6 := by omega
    rcases this with rfl | rfl | rfl | rfl | rfl | rfl | rfl <;> (replace h := Option.some.inj h; injection h with _ h; replace h : (_ : Nat) = t := h; omega)
  · rw [List.getElem?_eq_none (by simpa using h7)] at h
    cases h
theorem weekOk2 {base : List (Addr × Obj)} {a : Addr} {n k T : Nat} (h : (a, listOf #[.str (Str.ofString "Mon") k, .str (Str.ofString "Tue") (k + 1), .str (Str.ofString "Wed") (k + 1 + 1), .str (Str.ofString "Thu") (k + 1 + 1 + 1), .str (Str.ofString "Fri") (k + 1 + 1 + 1 + 1), .str (Str.ofString "Sat") (k + 1 + 1 + 1 + 1 + 1), .str (Str.ofString "Sun") (k + 1 + 1 + 1 + 1 + 1 + 1)] n) ∈ base) (h1 : 0 < k) (h2 : k + 7 ≤ T) :
    ∃ vs, (a, listOf vs.toArray n) ∈ base ∧ WeekOk T vs := ⟨_, h, weekOk h1 h2⟩
def WkOk (D : List (PyData × PyData)) : Prop := ∀ (d : Int) (dv : PyData), PySem.Spec.lookup (.int d) D = some dv → dv = .int (d % 7)
structure SO where
  own : List (Addr × Obj)
  bvs : List Value
  bn : Nat
  bw : List (List Int)
  oW : Obj
  kvs : List (Int × Value)
  D : List (PyData × PyData)
structure PO (prog : Program) (w : World) (base : List (Addr × Obj)) (BK WD : Addr) (os : List (List Int)) (i : Nat) (c : SO) : Prop where
  q : All2 (QIn c.own) c.bvs (c.bw.map gtext)
  perm : c.bw.Perm ((os.take i).map sweep)
  sort : (c.bw.map Vw).Pairwise (· ≤ ·)
  dict : c.oW.IsDictOf (intKind prog w) c.kvs
  flat : PyProof.V.FlatPairs PyData.int c.kvs c.D
  wk : WkOk c.D
  len : c.D.length ≤ 4 * i
  b1 : ∀ p ∈ c.own ++ base, p.1 ≠ BK
  b2 : ∀ p ∈ c.own ++ base, p.1 ≠ WD
structure SI where
  lv : List Value
  ln : Nat
  rv : List Value
  rn : Nat
  day : Int
  td : Tok
  oW : Obj
  kvs : List (Int × Value)
  D : List (PyData × PyData)
structure PI (prog : Program) (w : World) (i : Nat) (xs : List Int) (j : Nat) (c : SI) : Prop where
  l : IntsAre c.lv (swSt (xs.take j)).2.1
  r : IntsAre c.rv (swSt (xs.take j)).2.2
  d : c.day = (swSt (xs.take j)).1
  up : Up (swSt (xs.take j)).2.1
  dict : c.oW.IsDictOf (intKind prog w) c.kvs
  flat : PyProof.V.FlatPairs PyData.int c.kvs c.D
  wk : WkOk c.D
  len : c.D.length ≤ 4 * i + j
section
variable {a b c d e : Addr × Obj} {r : List (Addr × Obj)}
theorem subA : ∀ p ∈ a :: c :: r, p ∈ a :: b :: c :: r := by
  intro p hp
  simp only [List.mem_cons] at hp ⊢
  rcases hp with h | h | h <;> simp [h]
theorem subB : ∀ p ∈ b :: a :: r, p ∈ a :: b :: c :: r := by
  intro p hp
  simp only [List.mem_cons] at hp ⊢
  rcases hp with h | h | h <;> simp [h]
theorem subC : ∀ p ∈ c :: a :: r, p ∈ a :: b :: c :: r := by
  intro p hp
  simp only [List.mem_cons] at hp ⊢
  rcases hp with h | h | h <;> simp [h]
theorem subD : ∀ p ∈ b :: a :: e :: c :: d :: r, p ∈ a :: b :: c :: d :: e :: r := by
  intro p hp
  simp only [List.mem_cons] at hp ⊢
  rcases hp with h | h | h | h | h | h <;> simp [h]
theorem memB : c ∈ a :: b :: c :: r := by simp
end
theorem kst_back {u m₀ : Str → Option Value} {stored : List Str} {z : Str} : ∀ {ps : List (Str × Value)}, (∀ p ∈ ps, z ≠ p.1) → stored.contains z = false → kstB (fun z => if stored.contains z then u z else m₀ z) ps z = m₀ z
  | [], _, h3 => by
    show (if stored.contains z = true then u z else m₀ z) = m₀ z
    rw [h3]
    rfl
  | p :: ps, h2, h3 => by
    have ih := kst_back (u := u) (m₀ := m₀) (ps := ps) (fun q hq => h2 q (List.Mem.tail _ hq)) h3
    unfold kstB
    have h := h2 p (List.Mem.head _)
    first
      | (rw [if_neg h]; exact ih)
      | (simp only [h, if_false]; exact ih)
theorem not_in3 {z a b c : Str} (h1 : z ≠ a) (h2 : z ≠ b) (h3 : z ≠ c) : [a, b, c].contains z = false := by
  simp [h1, h2, h3]
theorem fm_b (a : Int) {k : Int} (h0 : 0 < k) (h1 : k ≤ 100) : 0 ≤ a.fmod k ∧ a.fmod k < 100 := by
  rw [Int.fmod_eq_emod_of_nonneg _ (by omega)]
  have := Int.emod_nonneg a (show k ≠ 0 by omega)
  have := Int.emod_lt_of_pos a h0
  omega
theorem not_in {stored : List Str} {z y : Str} (h : stored.contains z = false) (hy : y ∈ stored) : z ≠ y := by
  intro e
  subst e
  have : stored.contains z = true := by simpa using hy
  rw [this] at h
  cases h
theorem ints_ins {vs : List Value} {ns : List Int} (h : IntsAre vs ns) (r : Nat) (x : Int) (t : Tok) : IntsAre (insAt vs r (.int x t)) (insAt ns r x) :=
  (h.take r).append (.cons x t (h.drop r))
theorem wk_put {D : List (PyData × PyData)} (h : WkOk D) (d : Int) : WkOk (PyProof.V.putD (.int d) (.int (d % 7)) D) := by
  intro k dv hk
  by_cases e : k = d
  · subst e
    rw [PyProof.V.lookup_putK_same PyProof.V.keyEnc_int] at hk
    exact (Option.some.inj hk).symm
  · rw [PyProof.V.lookup_putK_other PyProof.V.keyEnc_int e] at hk
    exact h k dv hk
theorem pi_next {prog : Program} {w : World} {i j : Nat} {xs : List Int} {lv rv : List Value} {ln rn r : Nat} {day g : Int} {t1 t2 t3 : Tok} {oW : Obj} {kvs : List (Int × Value)} {D : List (PyData × PyData)}
    (hx : xs[j]? = some g) (pl : IntsAre lv (swSt (xs.take j)).2.1) (pr : IntsAre rv (swSt (xs.take j)).2.2) (pd : day = (swSt (xs.take j)).1) (pup : Up (swSt (xs.take j)).2.1) (hB : BisR (swSt (xs.take j)).2.1 ((day + g) % 7) r)
    (hd : oW.IsDictOf (intKind prog w) kvs) (hf : PyProof.V.FlatPairs PyData.int kvs D) (hw : WkOk D) (hl : D.length ≤ 4 * i + (j + 1)) :
    PI prog w i xs (j + 1) ⟨insAt lv r (.int ((day + g) % 7) t1), ln + 1, insAt rv r (.int g t2), rn + 1, day + g, t3, oW, kvs, D⟩ := by
  have e := swSt_next hx
  have er := rk_of hB
  subst pd
  have e1 : (swSt (xs.take (j + 1))).2.1 = insAt (swSt (xs.take j)).2.1 r (((swSt (xs.take j)).1 + g) % 7) := by rw [e]; unfold stepS; dsimp only; rw [er]
  have e2 : (swSt (xs.take (j + 1))).2.2 = insAt (swSt (xs.take j)).2.2 r g := by rw [e]; unfold stepS; dsimp only; rw [er]
  have e3 : (swSt (xs.take (j + 1))).1 = (swSt (xs.take j)).1 + g := by rw [e]; rfl
  exact ⟨by rw [e1]; exact ints_ins pl _ _ _, by rw [e2]; exact ints_ins pr _ _ _, e3.symm, by rw [e1]; exact up_ins pup hB, hd, hf, hw, hl⟩
theorem map_getD (bw : List (List Int)) (i : Nat) (hi : i < bw.length) : (bw.map gtext).getD i PySem.Str.empty = gtext bw[i] := by
  rw [List.getD_eq_getElem?_getD, List.getElem?_map, List.getElem?_eq_getElem hi]
  rfl
theorem upL_of {bw : List (List Int)} {w : List Int} (hb : ∀ x ∈ bw, Wd x) (hw : Wd w) (hs : (bw.map Vw).Pairwise (· ≤ ·)) : UpL (bw.map gtext) (gtext w) := by
  intro i j hij hj h
  rw [List.length_map] at hj
  rw [map_getD bw i (by omega), gt_lt (hb _ (List.getElem_mem _)) hw]
  rw [map_getD bw j hj, gt_lt (hb _ (List.getElem_mem _)) hw] at h
  rcases Nat.lt_or_ge i j with hlt | hge
  · have := List.pairwise_iff_getElem.mp hs i j (by simpa using (by omega : i < bw.length)) (by simpa using hj) hlt
    rw [List.getElem_map, List.getElem_map] at this
    omega
  · have e : i = j := by omega
    subst e
    exact h
theorem sort_ins {bw : List (List Int)} {w : List Int} {r : Nat} (hb : ∀ x ∈ bw, Wd x) (hw : Wd w) (hs : (bw.map Vw).Pairwise (· ≤ ·)) (hB : BisL (bw.map gtext) (gtext w) r) : ((insAt bw r w).map Vw).Pairwise (· ≤ ·) := by
  obtain ⟨h1, h2, h3⟩ := hB
  rw [List.length_map] at h1 h3
  have k2 : ∀ a ∈ (bw.map Vw).take r, a ≤ Vw w := by
    intro a ha
    obtain ⟨i, hi, rfl⟩ := List.mem_iff_getElem.mp ha
    rw [List.length_take, List.length_map] at hi
    rw [List.getElem_take, List.getElem_map]
    have := h2 i (by omega)
    rw [map_getD bw i (by omega), gt_lt (hb _ (List.getElem_mem _)) hw] at this
    omega
  have k3 : ∀ a ∈ (bw.map Vw).drop r, Vw w ≤ a := by
    intro a ha
    obtain ⟨i, hi, rfl⟩ := List.mem_iff_getElem.mp ha
    rw [List.length_drop, List.length_map] at hi
    rw [List.getElem_drop, List.getElem_map]
    have := h3 (r + i) (by omega) (by omega)
    rw [map_getD bw (r + i) (by omega), gt_lt (hb _ (List.getElem_mem _)) hw] at this
    omega
  rw [insAt_map]
  unfold insAt
  refine List.pairwise_append.mpr ⟨hs.sublist (List.take_sublist _ _), List.pairwise_cons.mpr ⟨k3, hs.sublist (List.drop_sublist _ _)⟩, ?_⟩
  intro a ha b hb'
  rcases List.mem_cons.mp hb' with rfl | hb'
  · exact k2 a ha
  · exact Int.le_trans (k2 a ha) (k3 b hb')
theorem ints4 {vs : List Value} {ns : List Int} (h : IntsAre vs ns) (hl : ns.length = 4) : ∃ x1 x2 x3 x4 t1 t2 t3 t4, vs = [.int x1 t1, .int x2 t2, .int x3 t3, .int x4 t4] ∧ ns = [x1, x2, x3, x4] := by
  cases h with
  | nil => simp at hl
  | cons a ta h =>
    cases h with
    | nil => simp at hl
    | cons b tb h =>
      cases h with
      | nil => simp at hl
      | cons c tc h =>
        cases h with
        | nil => simp at hl
        | cons d td h =>
          cases h with
          | nil => exact ⟨a, b, c, d, ta, tb, tc, td, rfl, rfl⟩
          | cons e te h => simp at hl
theorem po_next {prog : Program} {w : World} {base own : List (Addr × Obj)} {BK WD q dq : Addr} {hq : Int} {kq tq : Tok} {nq bn r i : Nat} {os bw : List (List Int)} {xs : List Int} {bvs : List Value} {oW : Obj} {kvs : List (Int × Value)} {D : List (PyData × PyData)}
    (hx : os[i]? = some xs) (hos : ∀ x ∈ os, Wd x) (pq : All2 (QIn own) bvs (bw.map gtext)) (pp : bw.Perm ((os.take i).map sweep)) (ps : (bw.map Vw).Pairwise (· ≤ ·)) (hB : BisL (bw.map gtext) (gtext (sweep xs)) r)
    (hd : oW.IsDictOf (intKind prog w) kvs) (hf : PyProof.V.FlatPairs PyData.int kvs D) (hw : WkOk D) (hl : D.length ≤ 4 * (i + 1)) (b1 : ∀ p ∈ own ++ base, p.1 ≠ BK) (b2 : ∀ p ∈ own ++ base, p.1 ≠ WD) (q1 : q ≠ BK) (q2 : dq ≠ BK) (q3 : q ≠ WD) (q4 : dq ≠ WD) :
    PO prog w base BK WD os (i + 1) ⟨(q, instObj 136 dq) :: (dq, dictOf [⟨hq, .str (Str.ofString "text") kq, .str (gtext (sweep xs)) tq⟩] nq) :: own, insAt bvs r (.ref q), bn + 1, insAt bw r (sweep xs), oW, kvs, D⟩ := by
  have hwx : Wd (sweep xs) := (hos _ (List.mem_of_getElem? hx)).perm (sweep_perm xs)
  have hbw : ∀ x ∈ bw, Wd x := by
    intro x hx'
    obtain ⟨y, hy, rfl⟩ := List.mem_map.mp (pp.mem_iff.mp hx')
    exact (hos _ (List.mem_of_mem_take hy)).perm (sweep_perm y)
  refine ⟨?_, ?_, sort_ins hbw hwx ps hB, hd, hf, hw, hl, ?_, ?_⟩
  · rw [insAt_map]
    refine All2.ins (pq.mono fun a b h => h.mono fun p hp => List.Mem.tail _ (List.Mem.tail _ hp)) _ ?_
    exact ⟨q, dq, hq, kq, tq, nq, rfl, List.Mem.head _, List.Mem.tail _ (List.Mem.head _)⟩
  · refine (insAt_perm _ _ _).trans ?_
    rw [List.take_succ, hx, List.map_append]
    refine (pp.cons _).trans ?_
    exact (List.perm_append_singleton _ _).symm
  · intro p hp
    rcases List.mem_cons.mp hp with rfl | hp
    · exact q1
    · rcases List.mem_cons.mp hp with rfl | hp
      · exact q2
      · exact b1 p hp
  · intro p hp
    rcases List.mem_cons.mp hp with rfl | hp
    · exact q3
    · rcases List.mem_cons.mp hp with rfl | hp
      · exact q4
      · exact b2 p hp
theorem fm91 (a : Int) : Bnd (a.fmod 91) := by
  rw [Int.fmod_eq_emod_of_nonneg _ (by omega)]
  exact ⟨Int.emod_nonneg a (by decide), Int.emod_lt_of_pos a (by decide)⟩
theorem sum_bnd : ∀ {l : List Int}, (∀ x ∈ l, Bnd x) → 0 ≤ l.sum ∧ l.sum ≤ 90 * l.length
  | [], _ => by simp
  | a :: l, h => by
    have ih := sum_bnd fun x hx => h x (List.Mem.tail _ hx)
    have ha := h a (List.Mem.head _)
    unfold Bnd at ha
    rw [List.sum_cons, List.length_cons]
    omega
theorem day_bnd {xs : List Int} {j : Nat} {x : Int} (h : ∀ x ∈ xs, Bnd x) (hx : xs[j]? = some x) (hj : j ≤ 3) : 0 ≤ (swSt (xs.take j)).1 + x ∧ (swSt (xs.take j)).1 + x < 365 := by
  rw [swSt_day]
  have a := sum_bnd (l := xs.take j) fun y hy => h y (List.mem_of_mem_take hy)
  have b := h x (List.mem_of_getElem? hx)
  have c : (xs.take j).length ≤ j := by rw [List.length_take]; omega
  unfold Bnd at b
  omega
theorem rev4 (a b c d : Value) : (slicePick [a, b, c, d].toArray none none (some (-1))).toList = [d, c, b, a] := by
  rw [krv_pick]
  rfl
theorem sub_ins {q dq a LV RW WD I BK : Addr × Obj} {r : List (Addr × Obj)} : ∀ p ∈ BK :: q :: dq :: WD :: I :: r, p ∈ q :: dq :: a :: LV :: RW :: WD :: I :: BK :: r := by
  intro p hp
  simp only [List.mem_cons] at hp ⊢
  rcases hp with h | h | h | h | h | h <;> simp [h]
theorem sub_end {q dq WD I BK : Addr × Obj} {own base : List (Addr × Obj)} : ∀ p ∈ BK :: WD :: ((q :: dq :: own) ++ base), p ∈ BK :: q :: dq :: WD :: I :: (own ++ base) := by
  intro p hp
  simp only [List.mem_cons, List.cons_append] at hp ⊢
  rcases hp with h | h | h | h | h <;> simp [h]
end Mine
end
section
open PySem PySem.W PyProof.Rows
namespace Mine
theorem picked3 {x : PySem.Str} {u : Tok} (h : 4 ≤ x.length) : slicePicked x none (some (3, u)) none = [0, 1, 2] := by
  unfold slicePicked
  show Builtin.Str.strSliceIndices none (some 3) 1 x.length = [0, 1, 2]
  unfold Builtin.Str.strSliceIndices
  have e : max 0 (min 3 (x.length : Int)) = 3 := by omega
  show sliceRange 0 (max 0 (min 3 (x.length : Int))) 1 = [0, 1, 2]
  rw [e]
  rfl
theorem pick_front {a r : PySem.Str} (ha : a.length = 3) (hr : 1 ≤ r.length) : ((⟨(([0, 1, 2] : List Nat).filterMap ((a ++ r).cps[·]?)).toArray⟩ : PySem.Str)) = a := by
  obtain ⟨⟨l⟩⟩ := a
  obtain ⟨⟨m⟩⟩ := r
  have hl : l.length = 3 := ha
  match l, hl with
  | [p, q, s], _ =>
    have e : (({ cps := { toList := [p, q, s] } } : PySem.Str) ++ ({ cps := { toList := m } } : PySem.Str)).cps = { toList := p :: q :: s :: m } := by
      rw [PySem.Str.cps_append]
      apply Array.toList_inj.mp
      simp
    rw [e]
    rfl
theorem my_slice3 {prog : Program} {w : World} {A : Around} {E : Value → Shared → Prop} {s : Shared} {h₀ : Heap} {L : Addr} {m : Str → Option Value} {news : List (Addr × Obj)} {value slice : Expr} {x a : PySem.Str} {t u : Tok} {Q : Value → Shared → Prop}
    (F0 : Fr h₀ L s.heap m) (N : News h₀ L s.heap news) (er : ∃ r, x = a ++ r ∧ 1 ≤ r.length) (ha : a.length = 3)
    (h : ∀ h', Fr h₀ L h' m → News h₀ L h' news → Q (.str a s.toks) { s with heap := h', toks := s.toks + 1 })
    (hs : subscripted slice false (.str x t) (.ref s.heap.objs.size) = operate [.ref s.heap.objs.size, .str x t] (getItem (.str x t) (.ref s.heap.objs.size)))
    (ht : ∀ r, letTemporaryGo value (.str x t) r = pure ()) :
    wpAny (model prog w) A (subscriptTail value slice (.str x t) (.ref s.heap.objs.size)) Q E { s with heap := s.heap.push { cls := .type "slice", data := .fields #[.none, .int 3 u, .none] } } := by
  obtain ⟨r, e, hr⟩ := er
  have hx : 4 ≤ x.length := by rw [e, PySem.Str.length_append]; omega
  refine tail_of_ItemOn ⟨"str", _, F.slot_str_getitem.lookup, typeIs_str _ _ _, wpAny_getItem_str_slice (l := none) (u := some (3, u)) (st := none) ⟨_, Heap.get?_push_size _ rfl, rfl, rfl⟩ rfl ?_⟩ hs ht
  unfold sliceMade
  rw [picked3 hx]
  have hc : ¬ ((Option.map Prod.fst (none : Option (Int × Tok))).getD 1 == 1 && ([0, 1, 2] : List Nat).length == x.length) = true := by
    intro hq
    have := (Bool.and_eq_true_iff.mp hq).2
    have h3 : 3 = x.length := eq_of_beq this
    omega
  rw [if_neg hc, e, pick_front ha hr]
  refine ⟨?_, h _ (F0.push _) fun p hp => ⟨Heap.get?_push_of_some _ (N p hp).1, (N p hp).2⟩⟩
  rw [ha]
  decide
theorem wd_len3 {k : Int} (h0 : 0 ≤ k) (h1 : k < 7) : (wdN k).length = 3 := by
  have := List.all_eq_true.mp wd_all k.toNat (List.mem_range.mpr (by omega))
  exact of_decide_eq_true this
theorem date_front (day h mi se : Int) : ∃ r : PySem.Str, dateOf day h mi se = wdN (day % 7) ++ r ∧ 1 ≤ r.length := by
  unfold dateOf dateText
  simp only [PySem.Str.append_assoc]
  refine ⟨_, rfl, ?_⟩
  rw [PySem.Str.length_append]
  have : (PySem.Str.ofString ", ").length = 2 := by decide +kernel
  omega
theorem wd_inj : ∀ k, k < 7 → ∀ i, i < k → wdays.getD i PySem.Str.empty ≠ wdays.getD k PySem.Str.empty := by decide +kernel
theorem c_index2 {w : World} {mean : ExcName → Option Value} {mg mb : Str → Option Value} {dp un : Nat} {gd : Option (List Code)} {cn : Str} {cs : Scope} {a : Addr} {ccd : Value} {cl : List (Str × Addr)} {outer : List Env} {A₀ : Around} {base h₀ : Heap} {L : Addr} {m : Str → Option Value} {news : List (Addr × Obj)} {s : Shared}
    {l : Addr} {vs : List Value} {ss : List PySem.Str} {n k : Nat} {x : PySem.Str} {z : Int} {tx : Tok} {Q E : Value → Shared → Prop}
    (B : Below A₀ base outer h₀) (F : Fr h₀ L s.heap m) (X : (hd.heap_39 w.params).In h₀) (N : News h₀ L s.heap news) (T : Top hd.view_39 LO mean mg mb h₀) (hk : cs.kind = .function)
    (hl : (l, listOf vs.toArray n) ∈ news) (hz : (k : Int) = z) (hi : PyProof.Rows.StrsAre vs ss) (htx : tx ≠ 0) (htv : ∀ (i : Nat) y t, vs[i]? = some (.str y t) → t ≠ 0 ∧ t ≠ tx) (hkl : k < ss.length) (hkx : ss.getD k PySem.Str.empty = x) (hfirst : ∀ i, i < k → ss.getD i PySem.Str.empty ≠ x)
    (hd : dp + 1 < recursionLimit) (hu : un + 8 < cLine)
    (hret : ∀ t h' tk', Fr h₀ L h' m → News h₀ L h' news → Q (.int z t) { s with heap := h', toks := tk' }) :
    wpAny (model PySem.Challenge.rw_wu0052_01.row.prog w) (ktrTop dp un gd cn cs L a ccd cl outer) (call (.ref 62) [.ref l, .str x tx]) Q E s := by
  subst hz
  exact c_index B F X N T hk hl hi htx htv hkl hkx hfirst hd hu hret
end Mine
end
section
open PySem PySem.W PyProof.Rows PyProof.V PySem.Spec PySem.Calls
namespace Mine
def ElemEnd (h₀ : Heap) (L : Addr) (m : Str → Option Value) (s : Shared) (led : List (Addr × Obj)) (R : Value → Prop) (y : Value) (s' : Shared) : Prop :=
  ∃ h' tk', s' = { s with heap := h', toks := tk' } ∧ R y ∧ Fr h₀ L h' m ∧ News h₀ L h' led
theorem comp_all {prog : Program} {w : World} {A : Around} {h₀ : Heap} {L : Addr} {m : Str → Option Value} {env : Env} {elt : PySem.Expr} {x : Str} {scope : Scope} {cl : List (Str × Addr)} {s : Shared} {S : List (Addr × Obj) → Prop} {P : Nat → Value → Prop} {Fin : List Value → List (Addr × Obj) → Prop}
    (led : List (Addr × Obj)) (R : Nat → Value → Prop) (hS : S led)
    (elem : ∀ i v I oI C oC D oD m₂ h tk (E' : Value → Shared → Prop), P i v → LCg.NsObj oC m₂ → m₂ x = some v → Fr h₀ L h m → News h₀ L h ((I, oI) :: (C, oC) :: (D, oD) :: led) →
      wpAny (model prog w) A (eval elt (compEnvC scope cl C env)) (ElemEnd h₀ L m { s with heap := h, toks := tk } ((I, oI) :: (C, oC) :: (D, oD) :: led) (R i)) E' { s with heap := h, toks := tk }) :
    ∀ n i ys, ys.length = i → (∀ (j : Nat) y, ys[j]? = some y → R j y) → (∀ ys' : List Value, ys'.length = i + n → (∀ (j : Nat) y, ys'[j]? = some y → R j y) → Fin ys' led) → LCg.CompRest prog w A h₀ L m env elt x scope cl s S P Fin n i ys led := by
  intro n
  induction n with
  | zero => intro i ys hl hr hf; exact LCg.CompRest.zero (hf ys (by omega) hr)
  | succ n ih =>
    intro i ys hl hr hf
    refine LCg.CompRest.succ ?_
    intro v I oI C oC D m₂ h tk E' hP hC hx F N off ne
    refine wpAny_mono (elem i v I oI C oC D _ m₂ h tk E' hP hC hx F N) (fun y s' hq => ?_) fun _ _ e => e
    obtain ⟨h', tk', rfl, hR, F', N'⟩ := hq
    refine ⟨h', tk', led, rfl, F', N', off, hS, ih (i + 1) (ys ++ [y]) (by simp [hl]) ?_ fun ys' h1 h2 => hf ys' (by omega) h2⟩
    intro j z hz
    rw [List.getElem?_append] at hz
    by_cases hj : j < ys.length
    · rw [if_pos hj] at hz
      exact hr j z hz
    · rw [if_neg hj] at hz
      have e : j = i := by
        rcases Nat.lt_or_ge (j - ys.length) 1 with h | h
        · omega
        · rw [List.getElem?_eq_none (by simpa using h)] at hz; cases hz
      subst e
      rw [show j - ys.length = 0 by omega] at hz
      obtain rfl := Option.some.inj hz
      exact hR
theorem strs_of : ∀ {ys : List Value} {Xs : List PySem.Str}, ys.length = Xs.length → (∀ (j : Nat) y, ys[j]? = some y → ∃ t, y = .str (Xs.getD j PySem.Str.empty) t) → PyProof.Rows.StrsAre ys Xs
  | [], [], _, _ => .nil
  | [], _ :: _, h, _ => by simp at h
  | _ :: _, [], h, _ => by simp at h
  | y :: ys, X :: Xs, h, hr => by
    obtain ⟨t, e⟩ := hr 0 y rfl
    have e' : y = .str X t := e
    subst e'
    exact .cons X t (strs_of (by simpa using h) fun j z hz => by
      obtain ⟨t', e'⟩ := hr (j + 1) z (by simpa using hz)
      exact ⟨t', by simpa using e'⟩)
theorem getD_of {α : Type} {l : List α} {i : Nat} {x d : α} (h : l[i]? = some x) : l.getD i d = x := by
  rw [List.getD_eq_getElem?_getD, h]
  rfl
theorem st_canLayAll0 : ∀ ns : List PySem.Str, (∀ x ∈ ns, PyData.strOk x = true) → PyData.canLayAll0 (ns.map PyData.str) = true
  | [], _ => rfl
  | a :: r, h => by simp [PyData.canLayAll0, PyData.canLay0, st_canLayAll0 r fun x hx => h x (List.Mem.tail _ hx), h a (List.Mem.head _)]
theorem st_depthAll : ∀ ns : List PySem.Str, PyData.depthAll (ns.map PyData.str) = 0
  | [] => rfl
  | _ :: r => by simp [PyData.depthAll, PyData.depth, st_depthAll r]
theorem st_shaped (ns : List PySem.Str) (h : ∀ x ∈ ns, PyData.strOk x = true) : SeqAt.shaped (.list (ns.map PyData.str)) = true := by
  simp [SeqAt.shaped, PyData.canLay0, PyData.depth, st_canLayAll0 ns h, st_depthAll]
theorem st_sameAll : ∀ ns : List PySem.Str, PySem.Spec.sameAll (ns.map PyData.str) (ns.map PyData.str) = true
  | [] => by simp [PySem.Spec.sameAll]
  | a :: r => by
    simp only [List.map_cons, PySem.Spec.sameAll, PySem.Spec.same, st_sameAll r]
    simp
theorem st_carried : ∀ {vs : List Value} {ns : List PySem.Str}, PyProof.Rows.StrsAre vs ns → CarriedAll vs (ns.map PyData.str)
  | _, _, .nil => .nil
  | _, _, .cons _ t r => .cons (.str _ t) (st_carried r)
theorem eq_strs {prog : Program} {w : World} {A : Around} {E : Value → Shared → Prop} {s : Shared} {a b : Addr} {xs ys : List Value} {ns : List PySem.Str} {Q : Value → Shared → Prop} (ha : s.heap.IsList a xs.toArray) (hb : s.heap.IsList b ys.toArray) (hi : PyProof.Rows.StrsAre xs ns) (hj : PyProof.Rows.StrsAre ys ns) (hok : ∀ x ∈ ns, PyData.strOk x = true)
    (hu : A.units + 64 < cLine) (h : Q (.bool true) s) : wpAny (model prog w) A (compareOp .Eq (.ref a) (.ref b)) Q E s :=
  eq_dataH_same (reads_newData ha (st_carried hi)) (reads_newData hb (st_carried hj)) (st_shaped _ hok) (st_shaped _ hok) hu (SeqAt.noMix_of_shape (.list .str) rfl _ _ (list_map_has fun _ => rfl) (list_map_has fun _ => rfl)) (by
    have e : PySem.Spec.same (.list (ns.map PyData.str)) (.list (ns.map PyData.str)) = true := by
      simp only [PySem.Spec.same]; exact st_sameAll ns
    rw [e]; exact h)
end Mine
end
section
open PySem PySem.W PyProof.Rows
namespace Mine
def insP {α : Type} (d : Nat) (g : α) : List (Nat × α) → List (Nat × α)
  | [] => [(d, g)]
  | q :: l => bif Nat.ble q.1 d then q :: insP d g l else (d, g) :: q :: l
def stP {α : Type} (r : α → Nat) (c : Nat × List (Nat × α)) (g : α) : Nat × List (Nat × α) := ((c.1 + r g) % 7, insP ((c.1 + r g) % 7) g c.2)
def swP {α : Type} (r : α → Nat) (os : List α) : List α := ((os.foldl (stP r) (0, [])).2.map (·.2)).reverse
def rl (a b c d : Nat) : Nat → Nat
  | 0 => a
  | 1 => b
  | 2 => c
  | _ => d
def p24 : List (List Nat) := [[0,1,2,3],[0,1,3,2],[0,2,1,3],[0,2,3,1],[0,3,1,2],[0,3,2,1],[1,0,2,3],[1,0,3,2],[1,2,0,3],[1,2,3,0],[1,3,0,2],[1,3,2,0],[2,0,1,3],[2,0,3,1],[2,1,0,3],[2,1,3,0],[2,3,0,1],[2,3,1,0],[3,0,1,2],[3,0,2,1],[3,1,0,2],[3,1,2,0],[3,2,0,1],[3,2,1,0]]
def codeL : List Nat → Nat
  | [] => 0
  | x :: l => x + 4 * codeL l
def memN (x : Nat) : List Nat → Bool
  | [] => false
  | y :: l => bif Nat.beq x y then true else memN x l
def chk (a b c d : Nat) : Bool :=
  let im := p24.map fun o => codeL (swP (rl a b c d) o)
  p24.all fun t => memN (codeL t) im
def chkAB (a b : Nat) : Bool := (List.range 7).all fun c => bif Nat.ble b c then ((List.range 7).all fun d => bif Nat.ble c d then chk a b c d else true) else true
theorem k00 : chkAB 0 0 = true := by decide +kernel
theorem k01 : chkAB 0 1 = true := by decide +kernel
theorem k02 : chkAB 0 2 = true := by decide +kernel
theorem k03 : chkAB 0 3 = true := by decide +kernel
theorem k04 : chkAB 0 4 = true := by decide +kernel
theorem k05 : chkAB 0 5 = true := by decide +kernel
theorem k06 : chkAB 0 6 = true := by decide +kernel
theorem k11 : chkAB 1 1 = true := by decide +kernel
theorem k12 : chkAB 1 2 = true := by decide +kernel
theorem k13 : chkAB 1 3 = true := by decide +kernel
theorem k14 : chkAB 1 4 = true := by decide +kernel
theorem k15 : chkAB 1 5 = true := by decide +kernel
theorem k16 : chkAB 1 6 = true := by decide +kernel
theorem k22 : chkAB 2 2 = true := by decide +kernel
theorem k23 : chkAB 2 3 = true := by decide +kernel
theorem k24 : chkAB 2 4 = true := by decide +kernel
theorem k25 : chkAB 2 5 = true := by decide +kernel
theorem k26 : chkAB 2 6 = true := by decide +kernel
theorem k33 : chkAB 3 3 = true := by decide +kernel
theorem k34 : chkAB 3 4 = true := by decide +kernel
theorem k35 : chkAB 3 5 = true := by decide +kernel
theorem k36 : chkAB 3 6 = true := by decide +kernel
theorem k44 : chkAB 4 4 = true := by decide +kernel
theorem k45 : chkAB 4 5 = true := by decide +kernel
theorem k46 : chkAB 4 6 = true := by decide +kernel
theorem k55 : chkAB 5 5 = true := by decide +kernel
theorem k56 : chkAB 5 6 = true := by decide +kernel
theorem k66 : chkAB 6 6 = true := by decide +kernel
theorem chkAB_all : ∀ a b, a ≤ b → b < 7 → chkAB a b = true
  | 0, 0, _, _ => k00
  | 0, 1, _, _ => k01
  | 0, 2, _, _ => k02
  | 0, 3, _, _ => k03
  | 0, 4, _, _ => k04
  | 0, 5, _, _ => k05
  | 0, 6, _, _ => k06
  | 1, 0, h, _ => absurd h (by decide)
  | 1, 1, _, _ => k11
  | 1, 2, _, _ => k12
  | 1, 3, _, _ => k13
  | 1, 4, _, _ => k14
  | 1, 5, _, _ => k15
  | 1, 6, _, _ => k16
  | 2, 0, h, _ => absurd h (by decide)
  | 2, 1, h, _ => absurd h (by decide)
  | 2, 2, _, _ => k22
  | 2, 3, _, _ => k23
  | 2, 4, _, _ => k24
  | 2, 5, _, _ => k25
  | 2, 6, _, _ => k26
  | 3, 0, h, _ => absurd h (by decide)
  | 3, 1, h, _ => absurd h (by decide)
  | 3, 2, h, _ => absurd h (by decide)
  | 3, 3, _, _ => k33
  | 3, 4, _, _ => k34
  | 3, 5, _, _ => k35
  | 3, 6, _, _ => k36
  | 4, 0, h, _ => absurd h (by decide)
  | 4, 1, h, _ => absurd h (by decide)
  | 4, 2, h, _ => absurd h (by decide)
  | 4, 3, h, _ => absurd h (by decide)
  | 4, 4, _, _ => k44
  | 4, 5, _, _ => k45
  | 4, 6, _, _ => k46
  | 5, 0, h, _ => absurd h (by decide)
  | 5, 1, h, _ => absurd h (by decide)
  | 5, 2, h, _ => absurd h (by decide)
  | 5, 3, h, _ => absurd h (by decide)
  | 5, 4, h, _ => absurd h (by decide)
  | 5, 5, _, _ => k55
  | 5, 6, _, _ => k56
  | 6, 0, h, _ => absurd h (by decide)
  | 6, 1, h, _ => absurd h (by decide)
  | 6, 2, h, _ => absurd h (by decide)
  | 6, 3, h, _ => absurd h (by decide)
  | 6, 4, h, _ => absurd h (by decide)
  | 6, 5, h, _ => absurd h (by decide)
  | 6, 6, _, _ => k66
  | _, b + 7, _, h => absurd h (by omega)
  | a + 7, b, h, h' => absurd h (by omega)
theorem chk_all {a b c d : Nat} (h1 : a ≤ b) (h2 : b ≤ c) (h3 : c ≤ d) (h4 : d < 7) : chk a b c d = true := by
  have h := chkAB_all a b h1 (by omega)
  unfold chkAB at h
  have hc := List.all_eq_true.mp h c (List.mem_range.mpr (by omega))
  have e1 : Nat.ble b c = true := Nat.ble_eq.mpr h2
  rw [e1, cond_true] at hc
  have hd := List.all_eq_true.mp hc d (List.mem_range.mpr h4)
  have e2 : Nat.ble c d = true := Nat.ble_eq.mpr h3
  rw [e2, cond_true] at hd
  exact hd
theorem memN_iff : ∀ {x : Nat} {l : List Nat}, memN x l = true → x ∈ l
  | _, [], h => by cases h
  | x, y :: l, h => by
    unfold memN at h
    cases e : Nat.beq x y with
    | true => rw [Nat.eq_of_beq_eq_true e]; exact List.Mem.head _
    | false => rw [e, cond_false] at h; exact List.Mem.tail _ (memN_iff h)
theorem p24_len : ∀ o ∈ p24, o.length = 4 ∧ ∀ x ∈ o, x < 4 := by decide
theorem code_inj : ∀ {l m : List Nat}, l.length = m.length → (∀ x ∈ l, x < 4) → (∀ x ∈ m, x < 4) → codeL l = codeL m → l = m
  | [], [], _, _, _, _ => rfl
  | [], _ :: _, h, _, _, _ => by simp at h
  | _ :: _, [], h, _, _, _ => by simp at h
  | x :: l, y :: m, h, h1, h2, e => by
    unfold codeL at e
    have a := h1 x (List.Mem.head _)
    have b := h2 y (List.Mem.head _)
    have e1 : x = y := by omega
    have e2 : codeL l = codeL m := by omega
    rw [e1, code_inj (by simpa using h) (fun z hz => h1 z (List.Mem.tail _ hz)) (fun z hz => h2 z (List.Mem.tail _ hz)) e2]
theorem insP_perm {α : Type} (d : Nat) (g : α) : ∀ l : List (Nat × α), (insP d g l).Perm ((d, g) :: l)
  | [] => List.Perm.refl _
  | q :: l => by
    unfold insP
    cases Nat.ble q.1 d with
    | false => exact List.Perm.refl _
    | true => exact ((insP_perm d g l).cons q).trans (List.Perm.swap _ _ _)
theorem swP_perm {α : Type} (r : α → Nat) (os : List α) : (swP r os).Perm os := by
  have : ∀ (ys : List α) (c : Nat × List (Nat × α)), ((ys.foldl (stP r) c).2.map (·.2)).Perm (c.2.map (·.2) ++ ys) := by
    intro ys
    induction ys with
    | nil => intro c; simp
    | cons y ys ih =>
      intro c
      rw [List.foldl_cons]
      refine (ih _).trans ?_
      unfold stP
      dsimp only
      have h := ((insP_perm ((c.1 + r y) % 7) y c.2).map (·.2)).append_right ys
      refine h.trans ?_
      rw [List.map_cons]
      exact (List.perm_middle (l₁ := c.2.map (·.2)) (l₂ := ys) (a := y)).symm
  have h := this os (0, [])
  exact (List.reverse_perm _).trans (by simpa using h)
theorem surj {a b c d : Nat} (h1 : a ≤ b) (h2 : b ≤ c) (h3 : c ≤ d) (h4 : d < 7) {t : List Nat} (ht : t ∈ p24) : ∃ o ∈ p24, swP (rl a b c d) o = t := by
  have h := List.all_eq_true.mp (chk_all h1 h2 h3 h4) t ht
  obtain ⟨o, ho, e⟩ := List.mem_map.mp (memN_iff h)
  refine ⟨o, ho, ?_⟩
  have pl := p24_len o ho
  have tl := p24_len t ht
  have sp := swP_perm (rl a b c d) o
  exact code_inj (by rw [sp.length_eq, pl.1, tl.1]) (fun x hx => pl.2 x (sp.mem_iff.mp hx)) tl.2 e
end Mine
end
section
open PySem PySem.W PyProof.Rows
namespace Mine
theorem p24_perm : ∀ o ∈ p24, o.Perm [0, 1, 2, 3] := by decide
def ok4 (a b c d : Nat) : Bool := a == b || a == c || a == d || b == c || b == d || c == d || p24.contains [a, b, c, d]
theorem ok4_all : ((List.range 4).all fun a => (List.range 4).all fun b => (List.range 4).all fun c => (List.range 4).all fun d => ok4 a b c d) = true := by decide +kernel
theorem p24_all {a b c d : Nat} (ha : a < 4) (hb : b < 4) (hc : c < 4) (hd : d < 4) (hn : a ≠ b ∧ a ≠ c ∧ a ≠ d ∧ b ≠ c ∧ b ≠ d ∧ c ≠ d) : [a, b, c, d] ∈ p24 := by
  have h := List.all_eq_true.mp (List.all_eq_true.mp (List.all_eq_true.mp (List.all_eq_true.mp ok4_all a (List.mem_range.mpr ha)) b (List.mem_range.mpr hb)) c (List.mem_range.mpr hc)) d (List.mem_range.mpr hd)
  unfold ok4 at h
  simpa [hn] using h
theorem perm_p24 {t : List Nat} (h : t.Perm [0, 1, 2, 3]) : t ∈ p24 := by
  have hl : t.length = 4 := h.length_eq
  have hn : t.Nodup := h.nodup_iff.mpr (by decide)
  have hm : ∀ x ∈ t, x < 4 := fun x hx => by
    have : x ∈ [0, 1, 2, 3] := h.mem_iff.mp hx
    simp at this
    omega
  match t, hl, hn, hm with
  | [a, b, c, d], _, hn, hm => exact p24_all (hm a (by simp)) (hm b (by simp)) (hm c (by simp)) (hm d (by simp)) (by simp at hn; omega)
section
variable {α : Type} (val : α → Int)
theorem ins_fst (d : Nat) (g : α) : ∀ P : List (Nat × α), (insP d g P).map (fun q => (q.1 : Int)) = insAt (P.map fun q => (q.1 : Int)) (rk (P.map fun q => (q.1 : Int)) d) (d : Int)
  | [] => rfl
  | q :: P => by
    unfold insP
    have ih := ins_fst d g P
    cases e : Nat.ble q.1 d with
    | true =>
      have h : q.1 ≤ d := Nat.ble_eq.mp e
      rw [cond_true, List.map_cons, ih, List.map_cons]
      unfold rk
      rw [List.takeWhile_cons_of_pos (by simp; exact h), List.length_cons]
      rfl
    | false =>
      have h : ¬ q.1 ≤ d := fun h => by rw [Nat.ble_eq.mpr h] at e; cases e
      rw [cond_false, List.map_cons, List.map_cons]
      unfold rk
      rw [List.takeWhile_cons_of_neg (by simp; omega)]
      rfl
theorem ins_snd (d : Nat) (g : α) : ∀ P : List (Nat × α), (insP d g P).map (fun q => val q.2) = insAt (P.map fun q => val q.2) (rk (P.map fun q => (q.1 : Int)) d) (val g)
  | [] => rfl
  | q :: P => by
    unfold insP
    have ih := ins_snd d g P
    cases e : Nat.ble q.1 d with
    | true =>
      have h : q.1 ≤ d := Nat.ble_eq.mp e
      rw [cond_true, List.map_cons, ih, List.map_cons, List.map_cons]
      unfold rk
      rw [List.takeWhile_cons_of_pos (by simp; exact h), List.length_cons]
      rfl
    | false =>
      have h : ¬ q.1 ≤ d := fun h => by rw [Nat.ble_eq.mpr h] at e; cases e
      rw [cond_false, List.map_cons, List.map_cons, List.map_cons]
      unfold rk
      rw [List.takeWhile_cons_of_neg (by simp; omega)]
      rfl
theorem sweep_map (os : List α) : sweep (os.map val) = (swP (fun a => (val a % 7).toNat) os).map val := by
  have key : ∀ (ys : List α) (c : Int × List Int × List Int) (p : Nat × List (Nat × α)), c.1 % 7 = (p.1 : Int) → c.2.1 = p.2.map (fun q => (q.1 : Int)) → c.2.2 = p.2.map (fun q => val q.2) →
      ((ys.map val).foldl stepS c).2.2 = (ys.foldl (stP fun a => (val a % 7).toNat) p).2.map fun q => val q.2 := by
    intro ys
    induction ys with
    | nil => intro c p _ _ h; exact h
    | cons y ys ih =>
      intro c p h1 h2 h3
      rw [List.map_cons, List.foldl_cons, List.foldl_cons]
      have e : (c.1 + val y) % 7 = (((p.1 + (val y % 7).toNat) % 7 : Nat) : Int) := by omega
      refine ih _ _ ?_ ?_ ?_
      · show (c.1 + val y) % 7 = _
        exact e
      · show insAt c.2.1 (rk c.2.1 ((c.1 + val y) % 7)) ((c.1 + val y) % 7) = _
        rw [e, h2]
        exact (ins_fst _ _ _).symm
      · show insAt c.2.2 (rk c.2.1 ((c.1 + val y) % 7)) (val y) = _
        rw [e, h2, h3]
        exact (ins_snd val _ _ _).symm
  have h := key os (0, [], []) (0, []) rfl rfl rfl
  unfold sweep swSt swP
  rw [h, List.map_reverse, List.map_map]
  rfl
end
theorem perm_map {α β : Type} [DecidableEq α] (f : α → β) : ∀ {l : List β} {m : List α}, l.Perm (m.map f) → ∃ t : List α, t.Perm m ∧ t.map f = l
  | [], m, h => by
    have : m.map f = [] := List.Perm.nil_eq h |>.symm
    have : m = [] := by simpa using this
    subst this
    exact ⟨[], List.Perm.refl _, rfl⟩
  | x :: l, m, h => by
    obtain ⟨a, ha, rfl⟩ := List.mem_map.mp (h.mem_iff.mp (List.Mem.head _))
    have hp := List.perm_cons_erase ha
    have h2 : (f a :: l).Perm (f a :: (m.erase a).map f) := h.trans (hp.map f)
    obtain ⟨t, ht, e⟩ := perm_map f h2.cons_inv
    exact ⟨a :: t, (ht.cons a).trans hp.symm, by rw [List.map_cons, e]⟩
def val4 (a b c d : Int) : Nat → Int
  | 0 => a
  | 1 => b
  | 2 => c
  | _ => d
theorem onto {w : List Int} (hl : w.length = 4) : ∃ o : List Int, o.Perm w ∧ sweep o = w := by
  have hp := List.mergeSort_perm w fun x y => decide (x % 7 ≤ y % 7)
  have hs := List.pairwise_mergeSort (le := fun x y : Int => decide (x % 7 ≤ y % 7)) (fun a b c h1 h2 => by simp at h1 h2 ⊢; omega) (fun a b => by simp; omega) w
  generalize w.mergeSort (fun x y => decide (x % 7 ≤ y % 7)) = w' at hp hs
  have hl' : w'.length = 4 := hp.length_eq.trans hl
  match w', hl', hp, hs with
  | [a, b, c, d], _, hp, hs =>
    have hm : [a, b, c, d] = [0, 1, 2, 3].map (val4 a b c d) := rfl
    have hp' := hp.symm
    rw [hm] at hp'
    obtain ⟨t, ht, et⟩ := perm_map (val4 a b c d) hp'
    have hs' : a % 7 ≤ b % 7 ∧ b % 7 ≤ c % 7 ∧ c % 7 ≤ d % 7 := by
      simp at hs
      omega
    obtain ⟨o, ho, eo⟩ := surj (a := (a % 7).toNat) (b := (b % 7).toNat) (c := (c % 7).toNat) (d := (d % 7).toNat) (by omega) (by omega) (by omega) (by omega) (perm_p24 ht)
    refine ⟨o.map (val4 a b c d), ?_, ?_⟩
    · exact ((p24_perm o ho).map _).trans (hm ▸ hp)
    · rw [sweep_map]
      have ef : (fun i => (val4 a b c d i % 7).toNat) = rl (a % 7).toNat (b % 7).toNat (c % 7).toNat (d % 7).toNat := by
        funext i
        match i with
        | 0 => rfl
        | 1 => rfl
        | 2 => rfl
        | n + 3 => rfl
      rw [ef, eo, et]
theorem first_at : ∀ {l : List Int} {x : Int}, x ∈ l → ∃ p, p < l.length ∧ l.getD p 0 = x ∧ ¬ x ∈ l.take p
  | y :: l, x, h => by
    by_cases e : x = y
    · subst e
      exact ⟨0, Nat.succ_pos _, rfl, by simp⟩
    · have h' : x ∈ l := by
        rcases List.mem_cons.mp h with h | h
        · exact absurd h e
        · exact h
      obtain ⟨p, h1, h2, h3⟩ := first_at h'
      refine ⟨p + 1, by simpa using h1, by simpa using h2, ?_⟩
      rw [List.take_succ_cons, List.mem_cons]
      rintro (h | h)
      · exact e h
      · exact h3 h
theorem ordF_full : ∀ k l, l.length = k → ∀ o : List Int, o.Perm l → o ∈ ordF k l := by
  intro k
  induction k with
  | zero =>
    intro l hl o ho
    rw [List.eq_nil_of_length_eq_zero hl] at ho
    rw [ho.eq_nil]
    simp [ordF]
  | succ k ih =>
    intro l hl o ho
    cases o with
    | nil => have := ho.length_eq; simp at this; omega
    | cons x o =>
      obtain ⟨p, h1, h2, h3⟩ := first_at (ho.mem_iff.mp (List.Mem.head _))
      unfold ordF
      refine List.mem_flatMap.mpr ⟨p, List.mem_range.mpr h1, ?_⟩
      unfold ordAt
      rw [if_neg (by rw [h2]; exact h3)]
      refine List.mem_map.mpr ⟨o, ih _ (cut_len h1 hl) o ?_, by rw [h2]⟩
      have hc := cut_perm h1
      rw [h2] at hc
      exact (ho.trans hc.symm).cons_inv
end Mine
end
section
open PySem PySem.W PyProof.Rows
namespace Mine
theorem vw_from : ∀ (w : List Int) (v : Int), w.foldl (fun v g => v * 100 + g) v = v * 100 ^ w.length + Vw w
  | [], v => by simp [Vw]
  | x :: w, v => by
    have h1 := vw_from w (v * 100 + x)
    have h2 := vw_from w (0 * 100 + x)
    show w.foldl (fun v g => v * 100 + g) (v * 100 + x) = v * 100 ^ (w.length + 1) + w.foldl (fun v g => v * 100 + g) (0 * 100 + x)
    rw [h1, h2, Int.pow_succ, Int.add_mul, Int.zero_mul, Int.zero_add, Int.mul_assoc, Int.mul_comm 100, Int.add_assoc]
theorem vw_cons (x : Int) (w : List Int) : Vw (x :: w) = x * 100 ^ w.length + Vw w := by
  have h := vw_from w (0 * 100 + x)
  show w.foldl (fun v g => v * 100 + g) (0 * 100 + x) = _
  rw [h, Int.zero_mul, Int.zero_add]
theorem pow_pos100 (n : Nat) : (0 : Int) < 100 ^ n := Int.pow_pos (by decide)
theorem vw_bnd : ∀ w : List Int, (∀ x ∈ w, Bnd x) → 0 ≤ Vw w ∧ Vw w < 100 ^ w.length
  | [], _ => by simp [Vw]
  | x :: w, h => by
    have ih := vw_bnd w fun y hy => h y (List.Mem.tail _ hy)
    have hx := h x (List.Mem.head _)
    unfold Bnd at hx
    have hp := pow_pos100 w.length
    rw [vw_cons, List.length_cons, Int.pow_succ]
    have h1 : 0 ≤ x * 100 ^ w.length := Int.mul_nonneg hx.1 (Int.le_of_lt hp)
    have h2 : x * 100 ^ w.length ≤ 90 * 100 ^ w.length := Int.mul_le_mul_of_nonneg_right (by omega) (Int.le_of_lt hp)
    omega
theorem vw_lt {x y : Int} {a b : List Int} (hxy : x < y) (he : a.length = b.length) (ha : ∀ z ∈ a, Bnd z) (hb : ∀ z ∈ b, Bnd z) : Vw (x :: a) < Vw (y :: b) := by
  rw [vw_cons, vw_cons, he]
  have h1 := vw_bnd a ha
  have h2 := vw_bnd b hb
  rw [he] at h1
  have hp := pow_pos100 b.length
  have h3 : (x + 1) * 100 ^ b.length ≤ y * 100 ^ b.length := Int.mul_le_mul_of_nonneg_right (by omega) (Int.le_of_lt hp)
  rw [Int.add_mul, Int.one_mul] at h3
  omega
theorem cut_sub (l : List Int) (p : Nat) : (l.take p ++ l.drop (p + 1)).Sublist l := by
  have h : (l.take p ++ l.drop (p + 1)).Sublist (l.take p ++ l.drop p) := by
    refine List.Sublist.append (List.Sublist.refl _) ?_
    rw [show l.drop (p + 1) = (l.drop p).drop 1 by rw [List.drop_drop]]
    exact List.drop_sublist _ _
  rwa [List.take_append_drop] at h
theorem rise : ∀ k l, l.length = k → l.Pairwise (· ≤ ·) → (∀ x ∈ l, Bnd x) → (ordF k l).Pairwise fun a b => Vw a < Vw b := by
  intro k
  induction k with
  | zero => intro l _ _ _; simp [ordF]
  | succ k ih =>
    intro l hl hs hb
    unfold ordF
    have hcut : ∀ p, p < l.length → ∀ w ∈ ordF k (l.take p ++ l.drop (p + 1)), w.length = k ∧ ∀ z ∈ w, Bnd z := by
      intro p hp w hw
      refine ⟨ordF_mem_len k _ (cut_len hp hl) w hw, fun z hz => ?_⟩
      exact hb z ((cut_sub l p).subset ((ordF_perm k _ (cut_len hp hl) w hw).mem_iff.mp hz))
    refine List.pairwise_flatMap.mpr ⟨?_, ?_⟩
    · intro p hp
      have hp := List.mem_range.mp hp
      unfold ordAt
      split
      · exact .nil
      · refine List.pairwise_map.mpr ?_
        have h := ih _ (cut_len hp hl) (hs.sublist (cut_sub l p)) fun x hx => hb x ((cut_sub l p).subset hx)
        refine h.imp_of_mem ?_
        intro a b ha hb' hab
        rw [vw_cons, vw_cons, (hcut p hp a ha).1, (hcut p hp b hb').1]
        omega
    · refine List.pairwise_iff_getElem.mpr ?_
      intro i j hi hj hij x hx y hy
      rw [List.getElem_range] at hx hy
      rw [List.length_range] at hi hj
      unfold ordAt at hx hy
      split at hx
      · cases hx
      · split at hy
        · cases hy
        · rename_i h1 h2
          obtain ⟨a, ha, rfl⟩ := List.mem_map.mp hx
          obtain ⟨b, hb', rfl⟩ := List.mem_map.mp hy
          have ca := hcut i hi a ha
          have cb := hcut j hj b hb'
          refine vw_lt ?_ (ca.1.trans cb.1.symm) ca.2 cb.2
          have e1 : l.getD i 0 = l[i] := by rw [List.getD_eq_getElem?_getD, List.getElem?_eq_getElem hi]; rfl
          have e2 : l.getD j 0 = l[j] := by rw [List.getD_eq_getElem?_getD, List.getElem?_eq_getElem hj]; rfl
          have hle : l[i] ≤ l[j] := List.pairwise_iff_getElem.mp hs i j hi hj hij
          have hne : l[i] ≠ l[j] := by
            intro e
            apply h2
            rw [e2, ← e]
            exact List.mem_take_iff_getElem.mpr ⟨i, by omega, rfl⟩
          rw [e1, e2]
          omega
theorem sub_perm {α : Type} [DecidableEq α] : ∀ {l m : List α}, l.Nodup → (∀ x ∈ l, x ∈ m) → m.length ≤ l.length → l.Perm m
  | [], m, _, _, h => by
    have : m = [] := List.eq_nil_of_length_eq_zero (by simpa using h)
    rw [this]
  | x :: l, m, hn, hs, h => by
    have hx := hs x (List.Mem.head _)
    have hp := List.perm_cons_erase hx
    have hn' := List.nodup_cons.mp hn
    refine (List.Perm.cons x (sub_perm hn'.2 (fun y hy => ?_) ?_)).trans hp.symm
    · have := hp.mem_iff.mp (hs y (List.Mem.tail _ hy))
      rcases List.mem_cons.mp this with e | h'
      · exact absurd (e ▸ hy) hn'.1
      · exact h'
    · have := hp.length_eq
      simp only [List.length_cons] at this h
      omega
theorem map_inj_on {α β : Type} {f : α → β} : ∀ {l m : List α}, (∀ x ∈ l, ∀ y ∈ m, f x = f y → x = y) → l.map f = m.map f → l = m
  | [], [], _, _ => rfl
  | [], _ :: _, _, h => by simp at h
  | _ :: _, [], _, h => by simp at h
  | x :: l, y :: m, hi, h => by
    rw [List.map_cons, List.map_cons] at h
    injection h with h1 h2
    rw [hi x (List.Mem.head _) y (List.Mem.head _) h1, map_inj_on (fun a ha b hb => hi a (List.Mem.tail _ ha) b (List.Mem.tail _ hb)) h2]
theorem bw_end {gs : List Int} {bw : List (List Int)} (hl : gs.length = 4) (hs : gs.Pairwise (· ≤ ·)) (hb : ∀ x ∈ gs, Bnd x) (hp : bw.Perm ((ordF 4 gs).map sweep)) (hv : (bw.map Vw).Pairwise (· ≤ ·)) : bw = ordF 4 gs := by
  have hr := rise 4 gs hl hs hb
  have hn : (ordF 4 gs).Nodup := hr.imp fun {a b} h e => by rw [e] at h; exact Int.lt_irrefl _ h
  have hsub : ∀ w ∈ ordF 4 gs, w ∈ (ordF 4 gs).map sweep := by
    intro w hw
    have hpw := ordF_perm 4 gs hl w hw
    obtain ⟨o, ho, e⟩ := onto (hpw.length_eq.trans hl)
    exact List.mem_map.mpr ⟨o, ordF_full 4 gs hl o (ho.trans hpw), e⟩
  have h1 := sub_perm hn hsub (by rw [List.length_map]; exact Nat.le_refl _)
  have h2 : bw.Perm (ordF 4 gs) := hp.trans h1.symm
  have h3 : ((ordF 4 gs).map Vw).Pairwise (· ≤ ·) := List.pairwise_map.mpr (hr.imp fun {a b} h => Int.le_of_lt h)
  have h4 := lks_uniq (h2.map Vw) hv h3
  have wd : ∀ w ∈ ordF 4 gs, Wd w := fun w hw => Wd.perm ⟨hl, hb⟩ (ordF_perm 4 gs hl w hw)
  exact map_inj_on (fun x hx y hy e => vw_inj (wd x (h2.mem_iff.mp hx)) (wd y hy) e) h4
end Mine
end
section
open PySem PySem.W PyProof.Rows
namespace Mine
section
theorem my_sum {prog : Program} {w : World} {A : Around} {E : Value → Shared → Prop} {s : Shared} {h₀ : Heap} {L : Addr} {m : Str → Option Value} {news : List (Addr × Obj)} {l : Addr} {vs : List Value} {ns : List Int} {lo up st : Option Int} {n : Nat} {Q : Value → Shared → Prop} (hh : A.handled = none) (F : Fr h₀ L s.heap m) (N : News h₀ L s.heap news)
    (hm : (l, listOf (slicePick vs.toArray lo up st) n) ∈ news) (hi : IntsAre vs ns)
    (h : ∀ h' tk t', Fr h₀ L h' m → News h₀ L h' news → Q (.int (pickNums ns lo up st).sum t') { s with heap := h', toks := tk }) :
    wpAny (model prog w) A (call (.builtin "sum") [.ref l]) Q E s := by
  have hl : s.heap.IsList l (slicePick vs.toArray lo up st).toList.toArray := by
    rw [Array.toArray_toList]
    exact News.isList N hm
  exact sumK hh F N hl (hi.pick _ _ _) h
theorem gen_toks {M : Model} {A : Around} {α : Type} {t : Sem α} {Q : α → Shared → Prop} {E : Value → Shared → Prop} {hp : Heap} {g : Array GenState} {d : Drawn} {T : Nat} {o : OsState} (h : ∀ tk, T < tk → wpAny M A t Q E ⟨hp, g, d, tk, o⟩) : wpAny M A t Q E ⟨hp, g, d, T + 1, o⟩ := h _ (Nat.lt_succ_self _)
theorem tk_len {xs : List Int} {j : Nat} (h : xs.length = 4) (hj : j < 4) : (xs.take j).length = j := by rw [List.length_take]; omega
theorem ge_eq {r j n : Nat} (h : r ≤ j) (e : n = j) : r ≤ n := e ▸ h
theorem lt_eq {j n : Nat} (h : j < 4) (e : n = j) : n < 2 ^ 20 := by
  have h4 : (4 : Nat) ≤ 2 ^ 20 := by decide
  exact Nat.lt_of_lt_of_le (e ▸ h) h4
local macro_rules | `(tactic| walk_at "execs cons") => `(tactic| (k_here; (with_reducible refine gen_toks ?_); intro tk9 hTok9; (try dsimp only at hTok9)))
local macro_rules | `(tactic| walk_at "call builtin:sum") => `(tactic| (k_here; (with_reducible show wpAny _ _ (call (Value.builtin "sum") [Value.ref _]) _ _ _); k_dflt (refine' my_sum ?k0 ?k1 ?k2 ?k3 ?k4 ?_; (case k0 => with_unfolding_all rfl); (case k1 => k_asm); (case k2 => k_asm); (case k3 => k_mem); (case k4 => assumption); k_whole); intro h' tk' t' F' N'))
local macro_rules | `(tactic| walk_at "call builtin:sorted") => `(tactic| refine Stop.out ?_)
local macro_rules | `(tactic| walk_at "call ref") => `(tactic| refine Stop.out ?_)
local macro_rules | `(tactic| walk_at "pyIter ref") => `(tactic| (k_here; (with_reducible show wpAny _ _ (pyIter (Value.ref _)) (fun _ _ => codeAny _ _ _ _ _) _ _); refine Stop.out ?_))
local macro_rules | `(tactic| walk_at "exec For Name Name cons nil") => `(tactic| ((with_unfolding_all refine' wpAny_For ?_); k_whole))
local macro_rules | `(tactic| walk_at "FPost") => `(tactic| refine Stop.out ?_)
local macro_rules | `(tactic| walk_at "setItem ref int") => `(tactic| refine Stop.out ?_)
local macro_rules | `(tactic| walk_at "subscriptTail Name Slice ref ref") => `(tactic| ((with_reducible show wpAny _ _ (subscriptTail _ (PySem.Expr.Slice none none (some _) _) (Value.ref _) (Value.ref _)) _ _ _); refine Stop.out ?_))
local macro_rules | `(tactic| walk_at "eval ListComp") => `(tactic| ((with_reducible show wpAny _ _ (eval (PySem.Expr.ListComp (PySem.Expr.Attribute _ _ _) _ _ _) _) _ _ _); refine Stop.out ?_))
local macro_rules | `(tactic| walk_at "eval ListComp") => `(tactic| ((with_reducible show wpAny _ _ (eval (PySem.Expr.ListComp (PySem.Expr.Call _ _ _ _) _ _ _) _) _ _ _); refine Stop.out ?_))
local macro_rules | `(tactic| walk_at "ElemEnd") => `(tactic| refine Stop.out ?_)
local macro_rules | `(tactic| walk_at "subscriptTail Name Slice str ref") => `(tactic| refine Stop.out ?_)
local macro_rules | `(tactic| walk_at "call builtin:list.insert") => `(tactic| refine Stop.out ?_)
local macro_rules | `(tactic| walk_at "subscriptTail Name Name ref int") => `(tactic| refine Stop.out ?_)
local macro_rules | `(tactic| walk_at "compareOp NotIn int ref") => `(tactic| (k_here; (with_reducible show wpAny _ _ (compareOp CmpOp.NotIn (Value.int _ _) (Value.ref _)) _ _ _); k_dflt (refine notin_intTab (TabAt.ofNews (by k_asm) (by k_mem) (by assumption) (by assumption) (by assumption)) ?_)))
local macro_rules | `(tactic| walk_at "TokUp") => `(tactic| (unfold TokUp; intro hTok9; (try dsimp only at hTok9)))
set_option maxRecDepth 100000 in
set_option maxHeartbeats 3000000 in
theorem l0 : PySem.Challenge.rw_wu0052_01.Holds := hd (by
  k_go0
  (all_goals try k_fold)
  k_steps
  unfold Stop
  (with_unfolding_all refine' kso_sorted ?k1 ?k2 ?k3 ?k4 ?k5 ?_; (case k1 => k_asm); (case k2 => k_asm); (case k3 => exact News.isList (by k_asm) (by k_mem)); (case k4 => assumption); (case k5 => (simp only [List.length_map, rangeKs_length]; decide)); k_whole)
  intro D' v' n' c' h' F' N' l1 i' e' p' o' b'
  clear b'
  (try k_lt l1)
  (try k_sweep)
  k_steps
  unfold Stop
  rename News _ _ _ _ => N9
  rename Fr _ _ _ _ => F9
  rename (List.Pairwise _ _) => gSort
  rename (List.Perm _ _) => gPerm
  rename (IntsAre _ _) => gInts
  rename (List.length _ = List.length _) => gLen
  have gLen4 : List.length _ = 4 := gLen.trans (by simp only [List.length_map, rangeKs_length]; rfl)
  clear gLen
  refine toks_up _ (Nat.le_refl _) ?_
  k_dflt (refine' c_orders 4 ?y1 ?y2 ?y3 ?y4 ?y5 ?y6 ?y7 gInts gLen4 (Nat.le_refl _) ?yd ?yu ?_; (case y1 => k_asm); (case y2 => k_asm); (case y3 => k_asm); (case y4 => k_asm); (case y5 => k_asm); (case y6 => exact rfl); (case y7 => k_mem); (case yd => ktr_room); (case yu => ktr_units))
  intro OR ownO hO tkO hLL hApO FO NO
  dsimp only
  clear F9 N9
  k_steps
  unfold Stop
  rename News _ _ _ ((_, W.listOf #[] 0) :: _) => N9
  rename Fr _ _ _ _ => F9
  rename (_ ∧ AllLt _ (ownO ++ _)) => lB
  rename ((_ == sysModules) = false) => lo9
  rename (Obj.IsDictOf (intKind _ _) _ []) => hD0
  rename (PyProof.V.FlatPairs PyData.int [] []) => hFl0
  obtain ⟨BK, hBK⟩ : ∃ x, x = adrOf lB.2 := ⟨_, rfl⟩
  dsimp only [adrOf] at hBK
  subst hBK
  obtain ⟨WD, hWD⟩ : ∃ x, x = adrOfB lo9 := ⟨_, rfl⟩
  dsimp only [adrOfB] at hWD
  subst hWD
  rename (∀ p, p ∈ ownO ++ _ → p.1 < WD) => lW
  obtain ⟨base, hbase⟩ : ∃ b, b = (ledOf N9).tail.tail := ⟨_, rfl⟩
  dsimp only [ledOf, List.tail_cons] at hbase
  rw [← hbase] at N9 lB lW
  have hwk := mem_base0 hbase
  have hcl := mem_base1 hbase
  have hoB := sub_base hbase
  obtain ⟨wvs, hwk2, hWeek⟩ := weekOk2 (T := tkO) hwk (by omega) (by omega)
  clear hwk
  obtain ⟨ors, orn, hOR, hAL⟩ := hLL
  obtain ⟨gs, hgs⟩ : ∃ g, g = intsOf gInts := ⟨_, rfl⟩
  dsimp only [intsOf] at hgs
  subst hgs
  obtain ⟨oW0, hoW0⟩ : ∃ g, g = dObjOf hD0 := ⟨_, rfl⟩
  dsimp only [dObjOf] at hoW0
  subst hoW0
  rename World => w9
  have hgB : ∀ x ∈ gs, Bnd x := by
    intro x hx
    obtain ⟨k9, _, rfl⟩ := List.mem_map.mp (gPerm.mem_iff.mp hx)
    exact fm91 _
  have hosWd : ∀ w ∈ ordF 4 gs, Wd w := fun w hw => Wd.perm ⟨gLen4, hgB⟩ (ordF_perm 4 gs gLen4 w hw)
  with_unfolding_all refine' for_listT (σ := SO) (l := OR) (vs := ors) (nn := orn) tkO (fun c => (BK, listOf c.bvs.toArray c.bn) :: (WD, c.oW) :: (c.own ++ base)) (fun _ => []) [Str.ofString "day", Str.ofString "levels", Str.ofString "row", Str.ofString "gap", Str.ofString "date", Str.ofString "level", Str.ofString "spot"] (PO PySem.Challenge.rw_wu0052_01.row.prog w9 base BK WD (ordF 4 gs)) ⟨[], [], 0, [], oW0, [], []⟩ rfl rfl rfl ?zT ?zl F9 N9 (fun p hp => nomatch hp) ?zp ?zturn ?zdone ?zE
  case zE => passes_own
  case zT => dsimp only; omega
  case zl => exact fun c => List.Mem.tail _ (List.Mem.tail _ (List.mem_append_right _ (hoB _ hOR)))
  case zp =>
    refine ⟨.nil, by simp, by simp, hD0, hFl0, ?_, Nat.zero_le _, ?_, ?_⟩
    · intro d dv h
      simp [PySem.Spec.lookup] at h
    · exact fun p hp => Nat.ne_of_lt (allLt_mem lB.2 p hp)
    · exact fun p hp => Nat.ne_of_lt (lW p hp)
  case zturn =>
    rintro c i v u h9 tk9 I oI hT9 hv hP hneI F1 N1
    clear F9 N9
    (try dsimp only at F1 N1 hneI)
    obtain ⟨xs, hxs, oa, ows, ona, rfl, hoa, hows⟩ := hAL.at' i v hv
    have hi256 : i < 256 := by
      have h1 := (List.getElem?_eq_some_iff.mp hv).1
      have h2 := hAL.length
      have h3 := ordF_len 4 gs gLen4 (Nat.le_refl _)
      have h4 : (4 : Nat) ^ 4 = 256 := rfl
      omega
    have hoa2 : (oa, W.listOf ows.toArray ona) ∈ c.own ++ base := List.mem_append_right _ (hoB _ hoa)
    have hcl2 := List.mem_append_right c.own hcl
    have hwk3 := List.mem_append_right c.own hwk2
    (show wpAny _ _ _ _ _ _)
    k_fold
    k_steps
    unfold Stop
    rename Fr _ _ _ _ => F2
    rename News _ _ _ _ => N2
    rename (_ ∧ _ ∧ _ ∧ _ ∧ AllLt _ (c.own ++ base)) => lR
    rename (_ ∧ _ ∧ _ ∧ AllLt _ (c.own ++ base)) => lL
    obtain ⟨RW, hRW⟩ : ∃ x, x = adrOf lR.2.2.2.2 := ⟨_, rfl⟩
    dsimp only [adrOf] at hRW
    subst hRW
    obtain ⟨LV, hLV⟩ : ∃ x, x = adrOf lL.2.2.2 := ⟨_, rfl⟩
    dsimp only [adrOf] at hLV
    subst hLV
    have N3 := cb_drop (news := (LV, W.listOf ([] : List Value).toArray 0) :: (RW, W.listOf ([] : List Value).toArray 0) :: (WD, c.oW) :: (I, oI) :: (BK, W.listOf c.bvs.toArray c.bn) :: (c.own ++ base)) N2 subD
    have hxlen : xs.length = 4 := ordF_mem_len 4 gs gLen4 xs (List.mem_of_getElem? hxs)
    have hbx : ∀ x ∈ xs, Bnd x := (hosWd xs (List.mem_of_getElem? hxs)).2
    with_unfolding_all refine' for_listT (σ := SI) (l := oa) (vs := ows) (nn := ona) tkO (fun d => (LV, W.listOf d.lv.toArray d.ln) :: (RW, W.listOf d.rv.toArray d.rn) :: (WD, d.oW) :: (I, oI) :: (BK, W.listOf c.bvs.toArray c.bn) :: (c.own ++ base)) (fun d => [(Str.ofString "day", .int d.day d.td)]) [Str.ofString "date", Str.ofString "level", Str.ofString "spot"] (PI PySem.Challenge.rw_wu0052_01.row.prog w9 i xs) ⟨[], 0, [], 0, 0, tk9, c.oW, c.kvs, c.D⟩ rfl rfl rfl ?zT2 ?zl2 F2 N3 ?zk2 ?zp2 ?zturn2 ?zdone2 ?zE2
    case zE2 => passes_own
    case zT2 => dsimp only; omega
    case zl2 => exact fun d => List.Mem.tail _ (List.Mem.tail _ (List.Mem.tail _ (List.Mem.tail _ (List.Mem.tail _ hoa2))))
    case zk2 => exact List.forall_mem_cons.mpr ⟨by with_unfolding_all rfl, List.forall_mem_nil _⟩
    case zp2 => exact ⟨.nil, .nil, rfl, (fun a b h1 h2 => absurd h2 (Nat.not_lt_zero _)), hP.dict, hP.flat, hP.wk, hP.len⟩
    case zturn2 =>
      rintro d j v u2 h2 tk2 I2 oI2 hT2 hv2 hp2 hne2 F3 N4
      clear F2 N2 N3
      (try dsimp only at F3 N4 hne2)
      have hj4 : j < 4 := by
        have := (List.getElem?_eq_some_iff.mp hv2).1
        have e := hows.length
        omega
      obtain ⟨x, hx⟩ : ∃ x, xs[j]? = some x := ⟨_, List.getElem?_eq_getElem (by rw [hxlen]; exact hj4)⟩
      obtain ⟨tx, htx⟩ := hows.get j x hx
      rw [hv2] at htx
      obtain rfl := Option.some.inj htx
      clear htx
      obtain ⟨pl, pr, pd, pup, pdict, pflat, pwk, plen⟩ := hp2
      have hdd := day_bnd (xs := xs) (j := j) hbx hx (Nat.le_of_lt_succ hj4)
      have hd0 : 0 ≤ d.day + x := by rw [pd]; exact hdd.1
      have hd1 : d.day + x < 365 := by rw [pd]; exact hdd.2
      have hneLV : ∀ (oR oW : Obj), ∀ p ∈ (I2, oI2) :: (RW, oR) :: (WD, oW) :: (I, oI) :: (BK, W.listOf c.bvs.toArray c.bn) :: (c.own ++ base), p.1 ≠ LV := by
        intro oR oW p hp
        simp only [List.mem_cons] at hp
        rcases hp with rfl | rfl | rfl | rfl | rfl | hp
        · exact Ne.symm (hne2 _ (List.Mem.head _))
        · exact Nat.ne_of_gt lR.1
        · exact Nat.ne_of_lt lL.2.2.1
        · exact Nat.ne_of_lt lL.1
        · exact Nat.ne_of_lt lL.2.1
        · exact Nat.ne_of_lt (allLt_mem lL.2.2.2 p hp)
      have hneRW : ∀ (oL oW : Obj), ∀ p ∈ (I2, oI2) :: (LV, oL) :: (WD, oW) :: (I, oI) :: (BK, W.listOf c.bvs.toArray c.bn) :: (c.own ++ base), p.1 ≠ RW := by
        intro oL oW p hp
        simp only [List.mem_cons] at hp
        rcases hp with rfl | rfl | rfl | rfl | rfl | hp
        · exact Ne.symm (hne2 _ (List.Mem.tail _ (List.Mem.head _)))
        · exact Nat.ne_of_lt lR.1
        · exact Nat.ne_of_lt lR.2.2.2.1
        · exact Nat.ne_of_lt lR.2.1
        · exact Nat.ne_of_lt lR.2.2.1
        · exact Nat.ne_of_lt (allLt_mem lR.2.2.2.2 p hp)
      (show wpAny _ _ _ _ _ _)
      k_fold
      k_steps
      · have hLook : PySem.Spec.lookup (.int (d.day + x)) d.D = some (.int ((d.day + x) % 7)) := by
          rename ((PySem.Spec.lookup (PyData.int (d.day + x)) d.D).isSome = true) => hx9
          obtain ⟨dv, hdv⟩ : ∃ dv, PySem.Spec.lookup (.int (d.day + x)) d.D = some dv := by
            cases hq : PySem.Spec.lookup (PyData.int (d.day + x)) d.D with
            | none => rw [hq] at hx9; simp at hx9
            | some dv => exact ⟨dv, rfl⟩
          rw [hdv, pwk _ _ hdv]
        have hDict := pdict
        have hFlat := pflat
        have hWk := pwk
        have hLen : d.D.length ≤ 4 * i + (j + 1) := Nat.le_succ_of_le plen
        unfold Stop
        rename Fr _ _ _ _ => F5
        rename News _ _ _ _ => N5
        refine item_intTab (TabAt.ofNews N5 (List.Mem.tail _ (List.Mem.tail _ (List.Mem.tail _ (List.Mem.head _)))) lo9 hDict hFlat) hLook (fun v9 hv9 => ?_)
        obtain ⟨tv9, rfl⟩ := PyProof.V.Flat.int_inv hv9
        k_steps
        unfold Stop
        k_dflt (refine' c_bisect (ns := (swSt (xs.take j)).2.1) ?y1 ?y2 ?y3 ?y4 ?y5 ?y6 (List.Mem.tail _ (List.Mem.head _)) (SeqObj.list _) pl ?yn pup ?yd ?yu ?_; (case y1 => k_asm); (case y2 => k_asm); (case y3 => k_asm); (case y4 => k_asm); (case y5 => k_asm); (case y6 => exact rfl); (case yn => exact lt_eq hj4 ((swSt_len _).1.trans (tk_len hxlen hj4))); (case yd => ktr_room); (case yu => ktr_units))
        intro r9 t9 h9 tk8 hB9 F6 N6
        dsimp only
        k_steps
        unfold Stop
        rename Fr _ _ _ _ => F7
        rename News _ _ _ _ => N7
        have hlvl : d.lv.length = j := pl.length.trans ((swSt_len _).1.trans (tk_len hxlen hj4))
        have hrvl : d.rv.length = j := pr.length.trans ((swSt_len _).2.trans (tk_len hxlen hj4))
        have hr9 : r9 ≤ j := Nat.le_trans hB9.1 (Nat.le_of_eq ((swSt_len _).1.trans (tk_len hxlen hj4)))
        refine my_insert ((I2, oI2) :: (RW, W.listOf d.rv.toArray d.rn) :: (WD, d.oW) :: (I, oI) :: (BK, W.listOf c.bvs.toArray c.bn) :: (c.own ++ base)) F7 N7 (List.Mem.tail _ (List.Mem.head _)) subA (hneLV _ _) (ge_eq hr9 hlvl) (lt_eq hj4 hlvl) ?_
        intro h9 F8 N8
        k_steps
        unfold Stop
        rename Fr _ _ _ _ => F9
        rename News _ _ _ _ => N9
        refine my_insert ((I2, oI2) :: (LV, W.listOf (insAt d.lv r9 _).toArray (d.ln + 1)) :: (WD, d.oW) :: (I, oI) :: (BK, W.listOf c.bvs.toArray c.bn) :: (c.own ++ base)) F9 N9 memB subB (hneRW _ _) (ge_eq hr9 hrvl) (lt_eq hj4 hrvl) ?_
        intro h9 F10 N10
        k_steps
        unfold Stop
        rename Fr _ _ _ _ => F11
        rename News _ _ _ _ => N11
        refine' FEnd.intro (SI.mk _ _ _ _ _ _ d.oW d.kvs d.D) F11 N11 (List.Mem.tail _ (List.Mem.head _)) subC ?g1 ?g2 ?g3 (pi_next hx pl pr pd pup hB9 hDict hFlat hWk hLen)
        case g2 => exact List.forall_mem_cons.mpr ⟨rfl, List.forall_mem_nil _⟩
        case g1 =>
          intro p hp
          rcases List.mem_cons.mp hp with rfl | hp
          · exact hne2 (LV, W.listOf d.lv.toArray d.ln) (List.Mem.head _)
          · rcases List.mem_cons.mp hp with rfl | hp
            · exact hne2 (RW, W.listOf d.rv.toArray d.rn) (List.Mem.tail _ (List.Mem.head _))
            · rcases List.mem_cons.mp hp with rfl | hp
              · exact hne2 (WD, d.oW) (List.Mem.tail _ (List.Mem.tail _ (List.Mem.head _)))
              · exact hne2 _ (List.Mem.tail _ (List.Mem.tail _ (List.Mem.tail _ hp)))
        case g3 =>
          intro z h1 h2 h3
          have n1 := not_in h3 (y := Str.ofString "date") (by simp)
          have n2 := not_in h3 (y := Str.ofString "level") (by simp)
          have n3 := not_in h3 (y := Str.ofString "spot") (by simp)
          have n4 : z ≠ Str.ofString "day" := h2 _ (List.Mem.head _)
          show (if z = _ then _ else if z = _ then _ else if z = _ then _ else if z = _ then _ else _) = _
          rw [if_neg n3, if_neg n2, if_neg n4, if_neg h1]
          exact kst_back (fun p hp => by rw [List.mem_singleton.mp hp]; exact n4) h3
      · rename ((PySem.Spec.lookup (PyData.int (d.day + x)) d.D).isSome = false) => hx9
        unfold Stop
        refine toks_up _ (Nat.le_refl _) ?_
        k_dflt (refine' c_date ?y1 ?y2 ?y3 ?y4 ?y5 ?y6 ?y7 hd0 hd1 ?yh ?ym ?ys ?yd ?yu ?_; (case y1 => k_asm); (case y2 => k_asm); (case y3 => k_asm); (case y4 => k_asm); (case y5 => k_asm); (case y6 => exact rfl); (case y7 => k_mem); (case yh => exact fm_b _ (by decide) (by decide)); (case ym => exact fm_b _ (by decide) (by decide)); (case ys => exact fm_b _ (by decide) (by decide)); (case yd => ktr_room); (case yu => ktr_units))
        intro t9 h9 tk8 F6 N6
        unfold TokUp
        intro hTk8
        dsimp only at hTk8 ⊢
        k_steps
        unfold Stop
        refine toks_up _ (Nat.le_refl _) ?_
        k_dflt (refine' c_due ?y1 ?y2 ?y3 ?y4 ?y5 ?y6 ?y7 hd0 hd1 ?yh ?ym ?ys ?yd ?yu ?_; (case y1 => k_asm); (case y2 => k_asm); (case y3 => k_asm); (case y4 => k_asm); (case y5 => k_asm); (case y6 => exact rfl); (case y7 => k_mem); (case yh => exact fm_b _ (by decide) (by decide)); (case ym => exact fm_b _ (by decide) (by decide)); (case ys => exact fm_b _ (by decide) (by decide)); (case yd => ktr_room); (case yu => ktr_units))
        intro t7 h7 tk7 F7 N7
        unfold TokUp
        intro hTk7
        dsimp only at hTk7 ⊢
        k_steps
        · exfalso
          (with_reducible rename ((dateOf _ _ _ _ != dateOf _ _ _ _) = true) => hq)
          rw [bne_self_eq_false] at hq
          cases hq
        · unfold Stop
          rename Fr _ _ _ _ => F8
          rename News _ _ _ _ => N8
          have hm0 : 0 ≤ (d.day + x) % 7 := Int.emod_nonneg _ (by decide)
          have hm1 : (d.day + x) % 7 < 7 := Int.emod_lt_of_pos _ (by decide)
          have e7 : ((((d.day + x) % 7).toNat : Nat) : Int) = (d.day + x) % 7 := Int.toNat_of_nonneg hm0
          refine my_slice3 (s := ⟨_, _, _, _, _⟩) F8 N8 (date_front _ _ _ _) (wd_len3 hm0 hm1) ?_ (by with_unfolding_all rfl) (by intro _; with_unfolding_all rfl)
          intro h8 F9 N9
          dsimp only
          k_steps
          unfold Stop
          k_dflt (refine' c_index2 (k := ((d.day + x) % 7).toNat) (ss := wdays) ?y1 ?y2 ?y3 ?y4 ?y5 ?y6 ?y7 e7 hWeek.1 ?ytx ?ytv ?ykl ?ykx ?yfi ?yd ?yu ?_; (case y1 => k_asm); (case y2 => k_asm); (case y3 => k_asm); (case y4 => k_asm); (case y5 => k_asm); (case y6 => exact rfl); (case y7 => k_mem); (case ykl => (show _ < 7); omega); (case ykx => rfl); (case yfi => exact wd_inj _ (by omega)); (case yd => ktr_room); (case yu => ktr_units))
          case ytx => (show (_ : Nat) ≠ 0); omega
          case ytv =>
            intro i9 y9 t9 hy9
            have hw9 := hWeek.2 i9 y9 t9 hy9
            exact ⟨Nat.ne_of_gt hw9.1, Nat.ne_of_lt (Nat.lt_of_lt_of_le hw9.2 (by omega))⟩
          intro t9 h9 tk9 F10 N10
          dsimp only
          k_steps
          unfold Stop
          rename Fr _ _ _ _ => F11
          rename News _ _ _ _ => N11
          refine setItem_K (knd := intKind _ _) (enc := PyData.int) PyProof.V.same_int (intKind_is _ _ _ _) (PyProof.V.Flat.int _ _) F11 N11 (UpdF.tail ?u1 (UpdF.tail ?u2 (UpdF.tail ?u3 (UpdF.head ?u4)))) pdict pflat ?_ ?u5
          case u1 => exact Ne.symm (hne2 (WD, d.oW) (List.Mem.tail _ (List.Mem.tail _ (List.Mem.head _))))
          case u2 => exact Nat.ne_of_gt lL.2.2.1
          case u3 => exact Nat.ne_of_gt lR.2.2.2.1
          case u4 =>
            intro p hp
            rcases List.mem_cons.mp hp with rfl | hp
            · exact Ne.symm (hneI (WD, c.oW) (List.Mem.tail _ (List.Mem.head _)))
            · rcases List.mem_cons.mp hp with rfl | hp
              · exact Nat.ne_of_gt lB.1
              · exact hP.b2 p hp
          case u5 => rw [sizeLine_eq]; omega
          intro h9 oW9 F12 N12 hDict hFlat
          have hLook : PySem.Spec.lookup (.int (d.day + x)) (PyProof.V.putD (.int (d.day + x)) (.int ((d.day + x) % 7)) d.D) = some (.int ((d.day + x) % 7)) := PyProof.V.lookup_putK_same PyProof.V.keyEnc_int _ _ _
          have hWk := wk_put pwk (d.day + x)
          have hLen : (PyProof.V.putD (.int (d.day + x)) (.int ((d.day + x) % 7)) d.D).length ≤ 4 * i + (j + 1) := Nat.le_trans (PyProof.V.putD_length_le _ _ _) (Nat.succ_le_succ plen)
          k_steps
          unfold Stop
          rename Fr _ _ _ _ => F5
          rename News _ _ _ _ => N5
          refine item_intTab (TabAt.ofNews N5 (List.Mem.tail _ (List.Mem.tail _ (List.Mem.tail _ (List.Mem.head _)))) lo9 hDict hFlat) hLook (fun v9 hv9 => ?_)
          obtain ⟨tv8, rfl⟩ := PyProof.V.Flat.int_inv hv9
          k_steps
          · exfalso
            (with_reducible rename ((d.day + x) % 7 ≠ (d.day + x).fmod 7) => hq)
            exact hq (Int.fmod_eq_emod_of_nonneg _ (by decide)).symm
          · unfold Stop
            rename Fr _ _ _ _ => F5
            rename News _ _ _ _ => N5
            refine item_intTab (TabAt.ofNews N5 (List.Mem.tail _ (List.Mem.tail _ (List.Mem.tail _ (List.Mem.head _)))) lo9 hDict hFlat) hLook (fun v9 hv9 => ?_)
            obtain ⟨tv9, rfl⟩ := PyProof.V.Flat.int_inv hv9
            k_steps
            unfold Stop
            k_dflt (refine' c_bisect (ns := (swSt (xs.take j)).2.1) ?y1 ?y2 ?y3 ?y4 ?y5 ?y6 (List.Mem.tail _ (List.Mem.head _)) (SeqObj.list _) pl ?yn pup ?yd ?yu ?_; (case y1 => k_asm); (case y2 => k_asm); (case y3 => k_asm); (case y4 => k_asm); (case y5 => k_asm); (case y6 => exact rfl); (case yn => exact lt_eq hj4 ((swSt_len _).1.trans (tk_len hxlen hj4))); (case yd => ktr_room); (case yu => ktr_units))
            intro r9 t9 h9 tk8 hB9 F6 N6
            dsimp only
            k_steps
            unfold Stop
            rename Fr _ _ _ _ => F7
            rename News _ _ _ _ => N7
            have hlvl : d.lv.length = j := pl.length.trans ((swSt_len _).1.trans (tk_len hxlen hj4))
            have hrvl : d.rv.length = j := pr.length.trans ((swSt_len _).2.trans (tk_len hxlen hj4))
            have hr9 : r9 ≤ j := Nat.le_trans hB9.1 (Nat.le_of_eq ((swSt_len _).1.trans (tk_len hxlen hj4)))
            refine my_insert ((I2, oI2) :: (RW, W.listOf d.rv.toArray d.rn) :: (WD, oW9) :: (I, oI) :: (BK, W.listOf c.bvs.toArray c.bn) :: (c.own ++ base)) F7 N7 (List.Mem.tail _ (List.Mem.head _)) subA (hneLV _ _) (ge_eq hr9 hlvl) (lt_eq hj4 hlvl) ?_
            intro h9 F8 N8
            k_steps
            unfold Stop
            rename Fr _ _ _ _ => F9
            rename News _ _ _ _ => N9
            refine my_insert ((I2, oI2) :: (LV, W.listOf (insAt d.lv r9 _).toArray (d.ln + 1)) :: (WD, oW9) :: (I, oI) :: (BK, W.listOf c.bvs.toArray c.bn) :: (c.own ++ base)) F9 N9 memB subB (hneRW _ _) (ge_eq hr9 hrvl) (lt_eq hj4 hrvl) ?_
            intro h9 F10 N10
            k_steps
            unfold Stop
            rename Fr _ _ _ _ => F11
            rename News _ _ _ _ => N11
            refine' FEnd.intro (SI.mk _ _ _ _ _ _ _ _ _) F11 N11 (List.Mem.tail _ (List.Mem.head _)) subC ?g1 ?g2 ?g3 (pi_next hx pl pr pd pup hB9 hDict hFlat hWk hLen)
            case g2 => exact List.forall_mem_cons.mpr ⟨rfl, List.forall_mem_nil _⟩
            case g1 =>
              intro p hp
              rcases List.mem_cons.mp hp with rfl | hp
              · exact hne2 (LV, W.listOf d.lv.toArray d.ln) (List.Mem.head _)
              · rcases List.mem_cons.mp hp with rfl | hp
                · exact hne2 (RW, W.listOf d.rv.toArray d.rn) (List.Mem.tail _ (List.Mem.head _))
                · rcases List.mem_cons.mp hp with rfl | hp
                  · exact hne2 (WD, d.oW) (List.Mem.tail _ (List.Mem.tail _ (List.Mem.head _)))
                  · exact hne2 _ (List.Mem.tail _ (List.Mem.tail _ (List.Mem.tail _ hp)))
            case g3 =>
              intro z h1 h2 h3
              have n1 := not_in h3 (y := Str.ofString "date") (by simp)
              have n2 := not_in h3 (y := Str.ofString "level") (by simp)
              have n3 := not_in h3 (y := Str.ofString "spot") (by simp)
              have n4 : z ≠ Str.ofString "day" := h2 _ (List.Mem.head _)
              show (if z = _ then _ else if z = _ then _ else if z = _ then _ else if z = _ then _ else if z = _ then _ else _) = _
              rw [if_neg n3, if_neg n2, if_neg n1, if_neg n4, if_neg h1]
              exact kst_back (fun p hp => by rw [List.mem_singleton.mp hp]; exact n4) h3
    case zdone2 =>
      rintro d u2 h2 tk2 hT2 hp2 F3 N4
      clear F2 N2 N3
      (try dsimp only at F3 N4)
      obtain ⟨pl, pr, pd, pup, pdict, pflat, pwk, plen⟩ := hp2
      have e4 : xs.take ows.length = xs := List.take_of_length_le (by rw [hows.length]; exact Nat.le_refl _)
      rw [e4] at pr
      have hol : ows.length = 4 := hows.length.trans hxlen
      rw [hol] at plen
      obtain ⟨x1, x2, x3, x4, t1, t2, t3, t4, ev, ew⟩ := ints4 pr (by rw [(swSt_len xs).2]; exact hxlen)
      rw [ev] at N4
      have hsw : sweep xs = [x4, x3, x2, x1] := by unfold sweep; rw [ew]; rfl
      have hwd : Wd [x4, x3, x2, x1] := hsw ▸ (hosWd xs (List.mem_of_getElem? hxs)).perm (sweep_perm xs)
      (show wpAny _ _ _ _ _ _)
      (try k_fold)
      k_steps
      unfold Stop
      rename Fr _ _ _ _ => F5
      rename News _ _ _ _ => N5
      refine kmk_slice3_lit (s := ⟨_, _, _, _, _⟩) (zs := [.int x4 t4, .int x3 t3, .int x2 t2, .int x1 t1]) F5 N5 (News.isList N5 (List.Mem.tail _ (List.Mem.head _))) IsPart.none IsPart.none (IsPart.int _ _) (by decide) (rev4 _ _ _ _) ?_ (by with_unfolding_all rfl) (by kmk_pure) (Nat.le_of_ble_eq_true rfl)
      intro RV h9 F6 N6 lRV
      dsimp only
      k_steps
      unfold Stop
      k_dflt (refine' c_text ?y1 ?y2 ?y3 ?y4 ?y5 ?y6 (List.Mem.head _) (hwd.2 x4 (by simp)) (hwd.2 x3 (by simp)) (hwd.2 x2 (by simp)) (hwd.2 x1 (by simp)) ?yd ?yu ?_; (case y1 => k_asm); (case y2 => k_asm); (case y3 => k_asm); (case y4 => k_asm); (case y5 => k_asm); (case y6 => exact rfl); (case yd => ktr_room); (case yu => ktr_units))
      intro t9 h9 tk9 F7 N7
      dsimp only
      k_steps
      unfold Stop
      k_dflt (refine' c_qname ?y1 ?y2 ?y3 ?y4 ?y5 ?y6 ?yd ?yu ?_; (case y1 => k_asm); (case y2 => k_asm); (case y3 => k_asm); (case y4 => k_asm); (case y5 => k_asm); (case y6 => exact rfl); (case yd => ktr_room); (case yu => ktr_units))
      intro q9 dq9 hq9 kq9 tq9 nq9 h9 tk9 F8 N8 lq1 lq2
      dsimp only
      k_steps
      unfold Stop
      rename Fr _ _ _ _ => F9
      rename News _ _ _ _ => N9
      have N10 := cb_drop N9 sub_ins
      rw [← hsw] at N10
      have hbw : ∀ x ∈ c.bw, Wd x := by
        intro x hx'
        obtain ⟨y, hy, rfl⟩ := List.mem_map.mp (hP.perm.mem_iff.mp hx')
        exact (hosWd _ (List.mem_of_mem_take hy)).perm (sweep_perm y)
      have hwx : Wd (sweep xs) := hsw ▸ hwd
      have hbl : c.bw.length ≤ 256 := by
        have h1 := hP.perm.length_eq
        rw [List.length_map, List.length_take] at h1
        omega
      have qBK : dq9 ≠ BK := Nat.ne_of_gt (lq1 (BK, W.listOf c.bvs.toArray c.bn) (by simp))
      have qWD : dq9 ≠ WD := Nat.ne_of_gt (lq1 (WD, d.oW) (by simp))
      have qI : dq9 ≠ I := Nat.ne_of_gt (lq1 (I, oI) (by simp))
      have rBK : q9 ≠ BK := Nat.ne_of_gt (Nat.lt_trans (lq1 (BK, W.listOf c.bvs.toArray c.bn) (by simp)) lq2)
      have rWD : q9 ≠ WD := Nat.ne_of_gt (Nat.lt_trans (lq1 (WD, d.oW) (by simp)) lq2)
      have rI : q9 ≠ I := Nat.ne_of_gt (Nat.lt_trans (lq1 (I, oI) (by simp)) lq2)
      k_dflt (refine' c_insort (Xs := c.bw.map gtext) (Xq := gtext (sweep xs)) ?y1 F9 ?y3 N10 ?y5 ?y6 ?yne ?yi ?yl (upL_of hbw hwx hP.sort) (List.Mem.head _) (List.Mem.tail _ (List.Mem.head _)) ?yd ?yu ?_; (case y1 => k_asm); (case y3 => k_asm); (case y5 => k_asm); (case y6 => exact rfl); (case yl => (rw [List.length_map]; omega)); (case yd => ktr_room); (case yu => ktr_units))
      case yne =>
        intro p hp
        rcases List.mem_cons.mp hp with rfl | hp
        · exact rBK
        · rcases List.mem_cons.mp hp with rfl | hp
          · exact qBK
          · rcases List.mem_cons.mp hp with rfl | hp
            · exact Nat.ne_of_lt lB.1
            · rcases List.mem_cons.mp hp with rfl | hp
              · exact Ne.symm (hneI _ (List.Mem.head _))
              · exact hP.b1 p hp
      case yi => exact hP.q.mono fun a b h => h.mono fun p hp => List.Mem.tail _ (List.Mem.tail _ (List.Mem.tail _ (List.Mem.tail _ (List.mem_append_left _ hp))))
      intro r9 h9 tk9 hB9 F10 N11
      dsimp only
      k_steps
      unfold Stop
      rename Fr _ _ _ _ => F11
      rename News _ _ _ _ => N12
      refine FEnd.intro (SO.mk ((q9, _) :: (dq9, _) :: c.own) _ _ _ d.oW d.kvs d.D) F11 N12 (by simp) sub_end ?_ (fun p hp => nomatch hp) ?_ (po_next hxs hosWd hP.q hP.perm hP.sort hB9 pdict pflat pwk (by omega) hP.b1 hP.b2 rBK qBK rWD qWD)
      · intro p hp
        rcases List.mem_cons.mp hp with rfl | hp
        · exact hneI (BK, W.listOf c.bvs.toArray c.bn) (List.Mem.head _)
        · rcases List.mem_cons.mp hp with rfl | hp
          · exact hneI (WD, c.oW) (List.Mem.tail _ (List.Mem.head _))
          · rcases List.mem_cons.mp hp with rfl | hp
            · exact rI
            · rcases List.mem_cons.mp hp with rfl | hp
              · exact qI
              · exact hneI _ (List.Mem.tail _ (List.Mem.tail _ hp))
      · intro z h1 h2 h3
        have n1 := not_in h3 (y := Str.ofString "day") (by simp)
        have n2 := not_in h3 (y := Str.ofString "levels") (by simp)
        have n3 := not_in h3 (y := Str.ofString "row") (by simp)
        have n4 := not_in h3 (y := Str.ofString "gap") (by simp)
        have n5 := not_in h3 (y := Str.ofString "date") (by simp)
        have n6 := not_in h3 (y := Str.ofString "level") (by simp)
        have n7 := not_in h3 (y := Str.ofString "spot") (by simp)
        show (if z = _ then _ else _) = _
        rw [if_neg n4]
        refine (kst_back (fun p hp => by rw [List.mem_singleton.mp hp]; exact n1) (not_in3 n5 n6 n7)).trans ?_
        show (if z = _ then _ else if z = _ then _ else if z = _ then _ else if z = _ then _ else _) = _
        rw [if_neg n3, if_neg n2, if_neg n1, if_neg h1]
        exact kst_back (fun p hp => nomatch hp) h3
  case zdone =>
    rintro c u h9 tk9 hT9 hP F1 N1
    clear F9 N9
    (try dsimp only at F1 N1)
    rw [hAL.length] at hP
    have hbw : c.bw = ordF 4 gs := bw_end gLen4 gSort hgB (by have h9 := hP.perm; rwa [List.take_length] at h9) hP.sort
    have hbl : c.bvs.length ≤ 256 := by
      have h1 := hP.q.length
      have h3 := ordF_len 4 gs gLen4 (Nat.le_refl _)
      have h4 : (4 : Nat) ^ 4 = 256 := rfl
      rw [hbw, List.length_map] at h1
      omega
    (try k_fold)
    k_steps
    unfold Stop
    refine LCg.ListComp_U (F₀ := F1) (by rfl) (by decide) (by rfl) (by decide) (by rfl) ?_
    walk1
    refine LCg.CompSrc.ledger (by rfl) F1 N1 (List.Mem.head _) (by rw [List.size_toArray, sizeLine_eq]; omega) ?_
    intro g9
    refine comp_all ((BK, W.listOf c.bvs.toArray c.bn) :: (WD, c.oW) :: (c.own ++ base)) (fun j y => ∃ t, y = .str ((c.bw.map gtext).getD j PySem.Str.empty) t) (.inr ⟨_, List.Mem.head _, rfl, _, rfl⟩) ?zel1 _ 0 [] rfl (fun j y h => by simp at h) ?zfin1
    case zel1 =>
      intro i v I oI C oC D oD m₂ h tk E' hv hC hx F2 N2
      have hv' : c.bvs[i]? = some v := by simpa using hv
      obtain ⟨X9, hX9, qa, qd, qh, qk, qt, qn, rfl, ha9, hb9⟩ := hP.q.at' i v hv'
      have ha9' : (qa, instObj 136 qd) ∈ c.own ++ base := List.mem_append_left _ ha9
      have hb9' : (qd, dictOf [⟨qh, .str (Str.ofString "text") qk, .str X9 qt⟩] qn) ∈ c.own ++ base := List.mem_append_left _ hb9
      clear hv
      (try k_fold)
      k_steps
      unfold Stop
      exact ⟨_, _, rfl, ⟨_, by rw [getD_of hX9]⟩, by assumption, by assumption⟩
    case zfin1 =>
      intro ys hyl hyr
      unfold LCg.FinE
      intro D1 h1 tk1 F2 N2 o1
      dsimp only
      rw [List.size_toArray] at hyl
      have hS1 : PyProof.Rows.StrsAre ys ((ordF 4 gs).map gtext) := by
        rw [← hbw]
        exact strs_of (by rw [← hP.q.length]; omega) hyr
      k_steps
      unfold Stop
      refine LCg.ListComp_U (F₀ := F2) (by rfl) (by decide) (by rfl) (by decide) (by rfl) ?_
      walk1
      refine LCg.CompSrc.ledger (by rfl) F2 N2 (List.Mem.tail _ (List.Mem.tail _ (List.Mem.tail _ (List.mem_append_right _ (hoB _ hOR))))) (by rw [List.size_toArray, sizeLine_eq, hAL.length]; have h3 := ordF_len 4 gs gLen4 (Nat.le_refl _); have h4 : (4 : Nat) ^ 4 = 256 := rfl; omega) ?_
      intro g8
      refine comp_all ((D1, LCg.lst ys) :: (BK, W.listOf c.bvs.toArray c.bn) :: (WD, c.oW) :: (c.own ++ base)) (fun j y => ∃ t, y = .str (((ordF 4 gs).map gtext).getD j PySem.Str.empty) t) (.inr ⟨_, (List.Mem.tail _ (List.Mem.tail _ (List.Mem.tail _ (List.mem_append_right _ (hoB _ hOR))))), rfl, _, rfl⟩) ?zel2 _ 0 [] rfl (fun j y h => by simp at h) ?zfin2
      case zel2 =>
        intro i v I oI C oC D oD m₂ h tk E' hv hC hx F3 N3
        have hv' : ors[i]? = some v := by simpa using hv
        obtain ⟨w8, hw8, oa, ows, ona, rfl, hoa, hows⟩ := hAL.at' i v hv'
        have hww := hosWd w8 (List.mem_of_getElem? hw8)
        obtain ⟨x1, x2, x3, x4, t1, t2, t3, t4, ev, ew⟩ := ints4 hows hww.1
        subst ev ew
        have hoa2 := List.mem_append_right c.own (hoB _ hoa)
        clear hv
        (try k_fold)
        k_steps
        unfold Stop
        k_dflt (refine' c_text ?y1 F3 ?y3 N3 ?y5 ?y6 (List.Mem.tail _ (List.Mem.tail _ (List.Mem.tail _ (List.Mem.tail _ (List.Mem.tail _ (List.Mem.tail _ hoa2)))))) (hww.2 x1 (by simp)) (hww.2 x2 (by simp)) (hww.2 x3 (by simp)) (hww.2 x4 (by simp)) ?yd ?yu ?_; (case y1 => k_asm); (case y3 => k_asm); (case y5 => k_asm); (case y6 => exact rfl); (case yd => ktr_room); (case yu => ktr_units))
        intro t9 h9 tk9 F4 N4
        dsimp only
        k_steps
        unfold Stop
        exact ⟨_, _, rfl, ⟨t9, by rw [getD_of (show ((ordF 4 gs).map gtext)[i]? = some (gtext [x1, x2, x3, x4]) by rw [List.getElem?_map, hw8]; rfl)]⟩, by assumption, by assumption⟩
      case zfin2 =>
        intro zs hzl hzr
        unfold LCg.FinE
        intro D2 h2 tk2 F3 N3 o2
        dsimp only
        rw [List.size_toArray] at hzl
        have hS2 : PyProof.Rows.StrsAre zs ((ordF 4 gs).map gtext) := strs_of (by rw [List.length_map, ← hAL.length]; omega) hzr
        refine eq_strs (News.isList N3 (List.Mem.tail _ (List.Mem.head _))) (News.isList N3 (List.Mem.head _)) hS1 hS2 (fun x hx => by obtain ⟨w7, hw7, rfl⟩ := List.mem_map.mp hx; exact gt_ok (hosWd w7 hw7)) (by ktr_units) ?_
        k_steps)
end
end Mine
end
end
theorem PySem.Challenge.cw_wu0052_01_holds : PySem.Challenge.rw_wu0052_01.Holds := by
  exact Mine.l0
